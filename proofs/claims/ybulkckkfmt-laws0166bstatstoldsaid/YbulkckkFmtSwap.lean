/-
  THE CONTRACTS of swapRangeCmpFunc (24) and rotateCmpFunc (22).
-/
import Derived.Test.YbulkckkFmtRow
namespace Go.Proofs.YbulkckkFmt.st
open Go.RowKit
set_option linter.unusedVariables false
set_option linter.unusedSimpArgs false

/-- After i rounds of swapRange. -/
def mixed (P X M Y Q : List Nat) (i : Nat) : List Nat := P ++ (Y.take i ++ X.drop i) ++ M ++ (X.take i ++ Y.drop i) ++ Q

theorem mixed_step (P X M Y Q : List Nat) (i : Nat) (hl : X.length = Y.length) (hi : i < X.length) (p q : Nat) (hp : p = P.length + i) (hq : q = P.length + X.length + M.length + i) :
    swp (mixed P X M Y Q i) p q = mixed P X M Y Q (i + 1) := by
  have hiY : i < Y.length := by omega
  have eX : X.drop i = X[i] :: X.drop (i + 1) := List.drop_eq_getElem_cons hi
  have eY : Y.drop i = Y[i] :: Y.drop (i + 1) := List.drop_eq_getElem_cons hiY
  have tX : X.take (i + 1) = X.take i ++ [X[i]] := List.take_succ_eq_append_getElem hi
  have tY : Y.take (i + 1) = Y.take i ++ [Y[i]] := List.take_succ_eq_append_getElem hiY
  have lX : (X.take i).length = i := by simp; omega
  have lY : (Y.take i).length = i := by simp; omega
  have h := swp_pieces P (Y.take i) (X.drop (i + 1)) M (X.take i) (Y.drop (i + 1)) Q X[i] Y[i] p q (by simp; omega) (by simp; omega)
  unfold mixed
  rw [tX, tY, eX, eY]
  have e1 : P ++ (Y.take i ++ X[i] :: X.drop (i + 1)) ++ M ++ (X.take i ++ Y[i] :: Y.drop (i + 1)) ++ Q = P ++ Y.take i ++ X[i] :: (X.drop (i + 1) ++ M ++ X.take i ++ Y[i] :: (Y.drop (i + 1) ++ Q)) := by simp only [List.append_assoc, List.cons_append, List.nil_append]
  rw [e1, h]
  simp only [List.append_assoc, List.cons_append, List.nil_append]

theorem mixed_end (P X M Y Q : List Nat) (hl : X.length = Y.length) : mixed P X M Y Q X.length = P ++ Y ++ M ++ X ++ Q := by
  unfold mixed
  rw [List.take_length, List.drop_length, hl, List.take_length, List.drop_length]
  simp

set_option maxHeartbeats 1000000 in
theorem swap24 (w0 w : World) (g n cap a b k : Nat) (fv : Value) (P X M Y Q : List Nat) (hn : n ≤ 1024) (hP : P.length = a) (hX : X.length = k) (hY : Y.length = k) (hb : b = a + k + M.length)
    (h : RowAt w0 w g n cap (P ++ X ++ M ++ Y ++ Q)) :
    Calls Ybaf.prog 24 #[.slice (some ⟨g, 0, none⟩) n cap, .int .i64 (a : Int), .int .i64 (b : Int), .int .i64 (k : Int), fv] w fun e w' => e = .returned (.tuple #[]) ∧ RowAt w0 w' g n cap (P ++ Y ++ M ++ X ++ Q) := by
  have hlen := h.len
  have hbk : b + k ≤ n := by simp at hlen; omega
  have hXY : X.length = Y.length := by omega
  have h0 : RowAt w0 w g n cap (mixed P X M Y Q 0) := by
    have e : mixed P X M Y Q 0 = P ++ X ++ M ++ Y ++ Q := by simp [mixed]
    rw [e]; exact h
  have HE : Hid _ := mixed_end P X M Y Q hXY
  rw [hX] at HE
  have HS : Hid (∀ i, i < k → swp (mixed P X M Y Q i) (a + i) (b + i) = mixed P X M Y Q (i + 1)) := fun i hi => mixed_step P X M Y Q i hXY (by omega) _ _ (by omega) (by omega)
  have hak : a + k ≤ b := by omega
  clear h hP hX hY hb hXY hlen
  go_enter Ybaf.func24, Ybaf.ntmps24
  go_wp2
  go_loopw [10] (fun i wr => ∃ j : Nat, j ≤ k ∧ i = .int .i64 j ∧ RowAt w0 wr g n cap (mixed P X M Y Q j)) (fun i _ => k - (intOf i).toNat)
  case atStart => exact ⟨0, Nat.zero_le _, rfl, h0⟩
  case round =>
    obtain ⟨j, hj, rfl, hrow⟩ := hrel
    by_cases hlt : j < k
    · have c1 := hrow.cell (a + j) (by omega)
      have c2 := hrow.cell (b + j) (by omega)
      have f1 := hrow.frozen (a + j)
      have f2 := hrow.frozen (b + j)
      have HW : Hid _ := hrow.swap (a + j) (b + j)
      obtain ⟨u, HU⟩ : ∃ u, Hid ((mixed P X M Y Q j).getD (a + j) 0 = u) := ⟨_, rfl⟩
      obtain ⟨v, HV⟩ : ∃ v, Hid ((mixed P X M Y Q j).getD (b + j) 0 = v) := ⟨_, rfl⟩
      rw [HU.out] at c1 HW
      rw [HV.out] at c2 HW
      have i1 : (0 : Int) ≤ (a : Int) + (j : Int) := by omega
      have i2 : (a : Int) + (j : Int) < (n : Int) := by omega
      have i3 : (0 : Int) ≤ (b : Int) + (j : Int) := by omega
      have i4 : (b : Int) + (j : Int) < (n : Int) := by omega
      have hne : a + j ≠ b + j := by omega
      clear hrow h0
      go_wp2
      go_region
      all_goals
        go_wp2
        go_roundw
        case rel => exact ⟨j + 1, by omega, by go_num, by rw [← HS.out j hlt]; exact RowAt.below HW.out (Below.refl _ _).drew⟩
        case measure => simp [intOf]; omega
    · have hjk : j = k := by omega
      subst hjk
      rw [HE.out] at hrow
      go_wp2
      go_end0
      exact ⟨rfl, hrow⟩

/-- What a rotation has still to do: L and R change places between U and V. -/
def Turn (w0 w : World) (g n cap m : Nat) (i j : Nat) (goal : List Nat) : Prop :=
  ∃ U L R V : List Nat, RowAt w0 w g n cap (U ++ L ++ R ++ V) ∧ U.length + L.length = m ∧ L.length = i ∧ R.length = j ∧ goal = U ++ R ++ L ++ V

theorem Turn.big {w0 w : World} {g n cap m i j : Nat} {goal : List Nat} (h : Turn w0 w g n cap m i j goal) (hij : j < i) :
    ∃ P X M Y Q : List Nat, RowAt w0 w g n cap (P ++ X ++ M ++ Y ++ Q) ∧ P.length = m - i ∧ X.length = j ∧ Y.length = j ∧ m = (m - i) + j + M.length ∧ i ≤ m ∧ m + j ≤ n ∧
      ∀ w', RowAt w0 w' g n cap (P ++ Y ++ M ++ X ++ Q) → Turn w0 w' g n cap m (i - j) j goal := by
  obtain ⟨U, L, R, V, hrow, hm, hL, hR, hg⟩ := h
  have hlen := hrow.len
  simp at hlen
  have hLs : L = L.take j ++ L.drop j := (List.take_append_drop j L).symm
  have h1 : (L.take j).length = j := by simp; omega
  have h2 : (L.drop j).length = i - j := by simp; omega
  refine ⟨U, L.take j, L.drop j, R, V, ?_, by omega, h1, hR, by omega, by omega, by omega, fun w' hw' => ⟨U ++ R, L.drop j, L.take j, V, ?_, ?_, h2, h1, ?_⟩⟩
  · have e : U ++ L.take j ++ L.drop j ++ R ++ V = U ++ L ++ R ++ V := by rw [List.append_assoc U, ← hLs]
    rw [e]; exact hrow
  · simpa using hw'
  · simp; omega
  · rw [hg]
    have e : U ++ R ++ L.take j ++ L.drop j ++ V = U ++ R ++ L ++ V := by rw [List.append_assoc (U ++ R), ← hLs]
    exact e.symm

theorem Turn.small {w0 w : World} {g n cap m i j : Nat} {goal : List Nat} (h : Turn w0 w g n cap m i j goal) (hij : i < j) :
    ∃ P X M Y Q : List Nat, RowAt w0 w g n cap (P ++ X ++ M ++ Y ++ Q) ∧ P.length = m - i ∧ X.length = i ∧ Y.length = i ∧ m + j - i = (m - i) + i + M.length ∧ i ≤ m ∧ m + j ≤ n ∧
      ∀ w', RowAt w0 w' g n cap (P ++ Y ++ M ++ X ++ Q) → Turn w0 w' g n cap m i (j - i) goal := by
  obtain ⟨U, L, R, V, hrow, hm, hL, hR, hg⟩ := h
  have hlen := hrow.len
  simp at hlen
  have hRs : R = R.take (j - i) ++ R.drop (j - i) := (List.take_append_drop (j - i) R).symm
  have h1 : (R.take (j - i)).length = j - i := by simp; omega
  have h2 : (R.drop (j - i)).length = i := by simp; omega
  refine ⟨U, L, R.take (j - i), R.drop (j - i), V, ?_, by omega, hL, h2, by omega, by omega, by omega, fun w' hw' => ⟨U, R.drop (j - i), R.take (j - i), L ++ V, ?_, ?_, h2, h1, ?_⟩⟩
  · have e : U ++ L ++ R.take (j - i) ++ R.drop (j - i) ++ V = U ++ L ++ R ++ V := by rw [List.append_assoc (U ++ L), ← hRs]
    rw [e]; exact hrow
  · simpa using hw'
  · omega
  · rw [hg]
    have e : U ++ R.take (j - i) ++ R.drop (j - i) ++ (L ++ V) = U ++ R ++ L ++ V := by rw [List.append_assoc U, ← hRs]; simp
    exact e.symm

set_option maxHeartbeats 1000000 in
theorem rotate22 (w0 w : World) (g n cap a m b : Nat) (fv : Value) (P A B Q : List Nat) (hn : n ≤ 1024) (hP : P.length = a) (hA : m = a + A.length) (hB : b = m + B.length) (hA1 : 1 ≤ A.length) (hB1 : 1 ≤ B.length)
    (h : RowAt w0 w g n cap (P ++ A ++ B ++ Q)) :
    Calls Ybaf.prog 22 #[.slice (some ⟨g, 0, none⟩) n cap, .int .i64 (a : Int), .int .i64 (m : Int), .int .i64 (b : Int), fv] w fun e w' => e = .returned (.tuple #[]) ∧ RowAt w0 w' g n cap (P ++ B ++ A ++ Q) := by
  have hlen := h.len
  have hbn : b ≤ n := by simp at hlen; omega
  have h0 : Turn w0 w g n cap m A.length B.length (P ++ B ++ A ++ Q) := ⟨P, A, B, Q, h, by omega, rfl, rfl, rfl⟩
  obtain ⟨goal, HG⟩ : ∃ goal, Hid (P ++ B ++ A ++ Q = goal) := ⟨_, rfl⟩
  rw [HG.out] at h0 ⊢
  obtain ⟨i0, hi0⟩ : ∃ i0, i0 = A.length := ⟨_, rfl⟩
  obtain ⟨j0, hj0⟩ : ∃ j0, j0 = B.length := ⟨_, rfl⟩
  rw [← hi0, ← hj0] at h0
  rw [← hi0] at hA hA1
  rw [← hj0] at hB hB1
  clear hi0 hj0 h hlen hP
  have ea : (m : Int) - (a : Int) = (i0 : Int) := by omega
  have eb : (b : Int) - (m : Int) = (j0 : Int) := by omega
  have EA : Hid _ := ea
  have EB : Hid _ := eb
  have ham : a ≤ m := by omega
  have hmb : m ≤ b := by omega
  have hA2 : i0 ≤ 1024 := by omega
  have hB2 : j0 ≤ 1024 := by omega
  clear ea eb hA hB
  go_enter Ybaf.func22, Ybaf.ntmps22
  go_wp2
  rw [EA.out, EB.out]
  go_loopw [10, 11] (fun x y wr => ∃ i j : Nat, 1 ≤ i ∧ 1 ≤ j ∧ i ≤ 1024 ∧ j ≤ 1024 ∧ x = .int .i64 i ∧ y = .int .i64 j ∧ Turn w0 wr g n cap m i j goal) (fun x y _ => (intOf x).toNat + (intOf y).toNat)
  case atStart => exact ⟨i0, j0, hA1, hB1, hA2, hB2, rfl, rfl, h0⟩
  case round =>
    obtain ⟨i, j, hi1, hj1, hi2, hj2, rfl, rfl, hT⟩ := hrel
    rcases Nat.lt_trichotomy i j with hij | hij | hij
    · obtain ⟨P', X, M, Y, Q', hrow, l1, l2, l3, l4, l5, l6, hnext⟩ := hT.small hij
      have hcall := swap24 w0 wr g n cap (m - i) (m + j - i) i fv P' X M Y Q' hn l1 l2 l3 l4 hrow
      have e1 : ((m - i : Nat) : Int) = (m : Int) - (i : Int) := by omega
      have e2 : ((m + j - i : Nat) : Int) = (m : Int) + (j : Int) - (i : Int) := by omega
      rw [e1, e2] at hcall
      have HN : Hid _ := hnext
      clear hT hrow hnext h0 e1 e2 l1 l2 l3 l4
      go_wp2_with (go_at_call 24; refine hcall.mono ?_; rintro e w1 ⟨rfl, hrow1⟩)
      go_roundw
      case rel => exact ⟨i, j - i, hi1, by omega, hi2, by omega, rfl, by go_num, HN.out w1 hrow1⟩
      case measure => simp [intOf]; omega
    · subst hij
      obtain ⟨U, L, R, V, hrow, hm, hL, hR, hg⟩ := hT
      have hrow' : RowAt w0 wr g n cap (U ++ L ++ [] ++ R ++ V) := by simpa using hrow
      have him : i ≤ m := by omega
      have hmi : m + i ≤ n := by have := hrow.len; simp at this; omega
      have hcall := swap24 w0 wr g n cap (m - i) m i fv U L [] R V hn (by omega) hL hR (by simp; omega) hrow'
      have e1 : ((m - i : Nat) : Int) = (m : Int) - (i : Int) := by omega
      have e2 : U ++ R ++ [] ++ L ++ V = goal := by rw [hg]; simp
      rw [e1, e2] at hcall
      clear hrow hrow' h0 e1 e2 hg HG hm
      go_wp2_with (go_at_call 24; refine hcall.mono ?_; rintro e w1 ⟨rfl, hrow1⟩)
      go_end0
      exact ⟨rfl, hrow1⟩
    · obtain ⟨P', X, M, Y, Q', hrow, l1, l2, l3, l4, l5, l6, hnext⟩ := hT.big hij
      have hcall := swap24 w0 wr g n cap (m - i) m j fv P' X M Y Q' hn l1 l2 l3 l4 hrow
      have e1 : ((m - i : Nat) : Int) = (m : Int) - (i : Int) := by omega
      rw [e1] at hcall
      have HN : Hid _ := hnext
      clear hT hrow hnext h0 e1 l1 l2 l3 l4
      go_wp2_with (go_at_call 24; refine hcall.mono ?_; rintro e w1 ⟨rfl, hrow1⟩)
      go_roundw
      case rel => exact ⟨i - j, j, by omega, hj1, by omega, hj2, by go_num, rfl, HN.out w1 hrow1⟩
      case measure => simp [intOf]; omega

end Go.Proofs.YbulkckkFmt.st
