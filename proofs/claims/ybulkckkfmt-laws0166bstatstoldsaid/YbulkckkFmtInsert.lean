/-
  THE CONTRACT of insertionSortCmpFunc (19): the comparator as a hypothesis.
-/
import Derived.Test.YbulkckkFmtSwap
import Derived.Test.YbulkckkFmtOrder
import Derived.Deep.RegionWith
import Derived.Deep.RegionHeld3
namespace Go.Proofs.YbulkckkFmt.st
open Go.RowKit
set_option linter.unusedVariables false
set_option linter.unusedSimpArgs false

/-- The comparator: closure 9 over two captured variables; it may make memory, it turns none. -/
def CmpOk (w0 : World) (g p1 p2 : Nat) (T : Nat → Int) (V : Nat → Prop) : Prop :=
  ∀ (w : World) (x y : Nat), w0.grownBy w (some g) → V x → V y →
    Calls Ybaf.prog 9 #[.int .i64 (x : Int), .int .i64 (y : Int), .pointer (some ⟨p1, 0, none⟩), .pointer (some ⟨p2, 0, none⟩)] w fun e w' => ∃ c : Int, e = .returned (.int .i64 c) ∧ Hid (c < 0 ↔ T x < T y) ∧ Below w.heap.size w w'

def cmpV (p1 p2 : Nat) : Value := .func (.func 9) #[] #[.pointer (some ⟨p1, 0, none⟩), .pointer (some ⟨p2, 0, none⟩)]

theorem snoc_cases (l : List Nat) : l = [] ∨ ∃ A z, l = A ++ [z] := by
  rcases List.eq_nil_or_concat l with h | ⟨A, z, h⟩
  · exact .inl h
  · exact .inr ⟨A, z, by simpa using h⟩

theorem grown_drew {a b : World} {r : Option Nat} (h : a.grownBy b r) : a.grownBy b.drew r := ⟨h.os, h.tape, h.output, h.size, h.block⟩

/-- The inner loop: y has come down past S2. -/
def Down (w0 w : World) (g n cap : Nat) (T : Nat → Int) (P S Z : List Nat) (y : Nat) (j : Nat) : Prop :=
  ∃ S1 S2 : List Nat, S = S1 ++ S2 ∧ j = P.length + S1.length ∧ RowAt w0 w g n cap (P ++ S1 ++ y :: (S2 ++ Z)) ∧ ∀ z A, S2 = z :: A → R T y z

set_option maxHeartbeats 2000000 in
theorem insert19 (w0 w : World) (g n cap a b p1 p2 : Nat) (T : Nat → Int) (V : Nat → Prop) (P L Q : List Nat) (hn : n ≤ 1024) (hP : P.length = a) (hb : b = a + L.length) (hinc : L.Pairwise (· < ·)) (hV : ∀ x ∈ L, V x)
    (hcmp : CmpOk w0 g p1 p2 T V) (h : RowAt w0 w g n cap (P ++ L ++ Q)) :
    Calls Ybaf.prog 19 #[.slice (some ⟨g, 0, none⟩) n cap, .int .i64 (a : Int), .int .i64 (b : Int), .func (.func 9) #[] #[.pointer (some ⟨p1, 0, none⟩), .pointer (some ⟨p2, 0, none⟩)]] w fun e w' => e = .returned (.tuple #[]) ∧ ∃ S, S.Perm L ∧ Sorted T S ∧ RowAt w0 w' g n cap (P ++ S ++ Q) := by
  have hlen := h.len
  have hbn : b ≤ n := by simp at hlen; omega
  have HC : Hid _ := hcmp
  have HI : Hid _ := hinc
  have HV : Hid _ := hV
  have HP : Hid _ := hP
  have HBL : Hid _ := hb
  have H0 : Hid (RowAt w0 w g n cap (P ++ L.take 1 ++ L.drop 1 ++ Q)) := by
    have e : P ++ L.take 1 ++ L.drop 1 ++ Q = P ++ L ++ Q := by rw [List.append_assoc P, List.take_append_drop]
    show RowAt w0 w g n cap _
    rw [e]; exact h
  have hab : a ≤ b := by omega
  clear hlen hcmp hinc hV h hP hb
  go_enter Ybaf.func19, Ybaf.ntmps19
  go_wp2
  go_loopw [8] (fun i wr => ∃ (t : Nat) (S : List Nat), i = .int .i64 ((a : Int) + 1 + (t : Int)) ∧ (t = 0 ∨ a + 1 + t ≤ b) ∧ S.Perm (L.take (t + 1)) ∧ Sorted T S ∧ RowAt w0 wr g n cap (P ++ S ++ L.drop (t + 1) ++ Q)) (fun i _ => b - (intOf i).toNat)
  case atStart =>
    refine ⟨0, L.take 1, by go_num, .inl rfl, List.Perm.refl _, ?_, H0.out⟩
    cases L with
    | nil => exact Sorted.nil T
    | cons x L => exact Sorted.one T x
  case round =>
    obtain ⟨t, S, rfl, ht, hS, hsort, hrow⟩ := hrel
    by_cases hlt : a + 1 + t < b
    · have hLt : t + 1 < L.length := by have := HBL.out; omega
      obtain ⟨y, Z, hyZ⟩ : ∃ y Z, L.drop (t + 1) = y :: Z := ⟨_, _, List.drop_eq_getElem_cons hLt⟩
      have hZ : Z = L.drop (t + 2) := by
        have := congrArg List.tail hyZ
        simpa using this.symm
      have htk : L.take (t + 2) = L.take (t + 1) ++ [y] := by
        rw [List.take_succ_eq_append_getElem hLt]
        have := congrArg List.head? hyZ
        rw [List.drop_eq_getElem_cons hLt] at this
        rw [List.head?_cons, List.head?_cons, Option.some.injEq] at this
        rw [this]
      have hlS : S.length = t + 1 := by rw [hS.length_eq]; simp; omega
      have hyS : ∀ z ∈ S, z < y := by
        intro z hz
        have h1 := HI.out
        rw [← List.take_append_drop (t + 1) L, hyZ] at h1
        exact (List.pairwise_append.1 h1).2.2 z (hS.mem_iff.1 hz) y (by simp)
      have hyL : y ∈ L := List.mem_of_mem_drop (i := t + 1) (by rw [hyZ]; simp)
      have hSL : ∀ z ∈ S, z ∈ L := fun z hz => List.mem_of_mem_take (hS.mem_iff.1 hz)
      have hvy : V y := HV.out y hyL
      have hvS : ∀ z ∈ S, V z := fun z hz => HV.out z (hSL z hz)
      have hD0 : Down w0 wr g n cap T P S (Z ++ Q) y (a + 1 + t) := by
        refine ⟨S, [], by simp, ?_, ?_, fun z A e => by cases e⟩
        · rw [HP.out, hlS]; omega
        · rw [hyZ] at hrow
          simpa using hrow
      have HEND : Hid (∀ w', ∀ j, Down w0 w' g n cap T P S (Z ++ Q) y j → (∀ S1 S2, S = S1 ++ S2 → j = P.length + S1.length → ∀ A z, S1 = A ++ [z] → R T z y) →
          ∃ S', S'.Perm (L.take (t + 2)) ∧ Sorted T S' ∧ RowAt w0 w' g n cap (P ++ S' ++ L.drop (t + 2) ++ Q)) := by
        intro w' j hD hlast
        obtain ⟨S1, S2, e, ej, hr, h2⟩ := hD
        refine ⟨S1 ++ y :: S2, ?_, insert_ok (by rw [← e]; exact hsort) (hlast S1 S2 e ej) h2, ?_⟩
        · rw [htk]
          refine List.perm_middle.trans ?_
          rw [← e]
          refine (List.perm_append_singleton y S).symm.trans ?_
          exact List.Perm.append_right _ hS
        · rw [← hZ]
          simpa using hr
      have HSORT : Hid _ := hsort
      clear hyZ hZ htk hS hSL hyL hrow hsort
      have hltI : (a : Int) + 1 + (t : Int) < (b : Int) := by omega
      go_wp2
      go_loopw [9] (fun x wi => ∃ j : Nat, x = .int .i64 (j : Int) ∧ j ≤ 1024 ∧ Down w0 wi g n cap T P S (Z ++ Q) y j) (fun x _ => (intOf x).toNat)
      case atStart => exact ⟨a + 1 + t, by go_num, by omega, hD0⟩
      case round =>
        obtain ⟨j, rfl, hj, hD⟩ := hrel
        have HD : Hid _ := hD
        obtain ⟨S1, S2, eS, ej, hr, h2⟩ := hD
        rcases snoc_cases S1 with rfl | ⟨A, z, rfl⟩
        · have eja : j = a := by rw [ej, HP.out]; simp
          have hd : decide ((a : Int) < (j : Int)) = false := decide_eq_false (by omega)
          have HX : Hid _ := HEND.out wr j HD.out (fun S1 S2 _ e2 A z e3 => by rw [e3] at e2; simp at e2; have := HP.out; omega)
          clear hr h2 eS ej HD hD0
          go_wp2
          go_quiet (fail)
          go_wp2
          obtain ⟨S', a1, a2, a3⟩ := HX.out
          go_roundw
          case rel => exact ⟨t + 1, S', by go_num, .inr (by omega), a1, a2, a3.drewN _⟩
          case measure => simp [intOf]; omega
        · obtain ⟨q, rfl⟩ : ∃ q, j = q + 1 := ⟨j - 1, by simp at ej; omega⟩
          have hzS : z ∈ S := by rw [eS]; simp
          have hvz : V z := hvS z hzS
          have hzy : z < y := hyS z hzS
          have hq : q = P.length + A.length := by simp at ej; omega
          have hqn : q + 1 < n := by have := hr.len; simp at this; omega
          have c1 : wr.cell? ⟨g, q + 1, none⟩ = some (.int .i64 (y : Int)) := by
            rw [hr.cell (q + 1) hqn]
            congr 3
            have : P ++ (A ++ [z]) ++ y :: (S2 ++ (Z ++ Q)) = (P ++ A ++ [z]) ++ y :: (S2 ++ (Z ++ Q)) := by simp
            rw [this]
            have e : q + 1 = (P ++ A ++ [z]).length := by simp; omega
            rw [e]
            simp [List.getD]
          have c2 : wr.cell? ⟨g, q, none⟩ = some (.int .i64 (z : Int)) := by
            rw [hr.cell q (by omega)]
            congr 3
            have : P ++ (A ++ [z]) ++ y :: (S2 ++ (Z ++ Q)) = (P ++ A) ++ z :: (y :: (S2 ++ (Z ++ Q))) := by simp
            rw [this]
            have e : q = (P ++ A).length := by simp; omega
            rw [e]
            simp [List.getD]
          have hcall := fun w' hg => HC.out w' y z hg hvy hvz
          have hgr := hr.2
          have hd : (a : Int) < (q : Int) + 1 := by have := HP.out; omega
          have hq0 : (q : Int) + 1 < (n : Int) := by omega
          have hq1 : (0 : Int) ≤ (q : Int) + 1 := by omega
          have hq2 : (0 : Int) ≤ (q : Int) := by omega
          have hq3 : (q : Int) < (n : Int) := by omega
          have hq4 : IntKind.i64.wrap ((q : Int) + 1 - 1) = (q : Int) := by rw [IntKind.wrap_i64]; omega
          have hq5 : IntKind.i64.wrap (q : Int) = (q : Int) := by rw [IntKind.wrap_i64]; omega
          have HR : Hid _ := hr
          have hgl := hr.lt
          have HQ : Hid _ := hq
          have ES : Hid _ := eS
          have H2 : Hid _ := h2
          clear hr h2 eS ej hD0 hq
          go_wp2
          go_region_held3 (fun w' => w'.cell? ⟨g, q + 1, none⟩ = some (.int .i64 (y : Int)) ∧ w'.cell? ⟨g, q, none⟩ = some (.int .i64 (z : Int))) (first | exact ⟨c1, c2⟩ | exact ⟨(hb1.cell (by exact hgl)).trans c1, (hb1.cell (by exact hgl)).trans c2⟩)
            (first | (go_at_call 9; refine (hcall _ (grown_drew hgr)).mono ?_; rintro e w1 ⟨c, rfl, hc, hb1⟩))
          have hr1 : RowAt w0 w1 g n cap (P ++ A ++ z :: y :: (S2 ++ (Z ++ Q))) := by
            have e : P ++ (A ++ [z]) ++ y :: (S2 ++ (Z ++ Q)) = P ++ A ++ z :: y :: (S2 ++ (Z ++ Q)) := by simp
            have hx := RowAt.below (RowAt.below HR.out (Below.refl _ _).drew) hb1
            rw [e] at hx
            exact hx
          have hU : q = (P ++ A).length := by simp; exact HQ.out
          by_cases hcl : c < 0
          · have hty : T y < T z := hc.out.1 hcl
            have hsw := hr1.swap (q + 1) q
            rw [swp_down (P ++ A) (S2 ++ (Z ++ Q)) z y q hU, getD_mid (P ++ A) _ z q hU, getD_mid2 (P ++ A) _ z y (q + 1) (by omega)] at hsw
            have HSW : Hid _ := hsw
            have k1 : w1.cell? ⟨g, q + 1, none⟩ = some (.int .i64 (y : Int)) := (hb1.cell (by exact hgl)).trans c1
            have k2 : w1.cell? ⟨g, q, none⟩ = some (.int .i64 (z : Int)) := (hb1.cell (by exact hgl)).trans c2
            have f1 := hr1.frozen (q + 1)
            have f2 := hr1.frozen q
            have HD2 : Hid (∀ w', RowAt w0 w' g n cap (P ++ A ++ y :: z :: (S2 ++ (Z ++ Q))) → Down w0 w' g n cap T P S (Z ++ Q) y q) := by
              intro w' hw'
              refine ⟨A, z :: S2, by rw [ES.out]; simp, HQ.out, hw', fun z' A' e => ?_⟩
              cases e
              exact .inl hty
            clear hr1 hU hsw c1 c2 hb1 hc hcall hty hgr
            go_wp2
            go_region
            all_goals
              go_wp2
              go_roundw
              case rel => exact ⟨q, by go_num, by omega, HD2.out _ (RowAt.below HSW.out (Below.refl _ _).drew)⟩
              case measure => simp [intOf]
          · have hcl' : 0 ≤ c := by omega
            have hX := HEND.out w1 (q + 1) ⟨A ++ [z], S2, ES.out, by simp; have := HQ.out; omega, by simpa using hr1, H2.out⟩ (fun S1 S2' e1 e2 A' z' e3 => by
              have e4 : A ++ [z] = S1 := by
                have h1 := ES.out
                rw [e1] at h1
                have hl : S1.length = (A ++ [z]).length := by have := HQ.out; simp; omega
                exact ((List.append_inj h1 hl).1).symm
              rw [← e4] at e3
              have e5 : z = z' := by
                have := congrArg List.getLast? e3
                simpa using this
              subst e5
              have : ¬ T y < T z := fun h => hcl (hc.out.2 h)
              unfold R
              omega)
            obtain ⟨S', a1, a2, a3⟩ := hX
            have HA1 : Hid _ := a1
            have HA2 : Hid _ := a2
            have HA3 : Hid _ := a3
            clear a1 a2 a3 hr1 hU c1 c2 hb1 hc hcall hgr hcl
            go_wp2
            go_roundw
            case rel => exact ⟨t + 1, S', by go_num, .inr (by omega), HA1.out, HA2.out, HA3.out⟩
            case measure => simp [intOf]; omega
    · go_wp2
      go_end0
      refine ⟨rfl, S, ?_, hsort, ?_⟩
      · have : L.take (t + 1) = L := List.take_of_length_le (by have := HBL.out; omega)
        rw [this] at hS
        exact hS
      · have : L.drop (t + 1) = [] := List.drop_of_length_le (by have := HBL.out; omega)
        rw [this] at hrow
        simpa using hrow

end Go.Proofs.YbulkckkFmt.st
