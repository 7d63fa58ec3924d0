/-
  symMergeCmpFunc (20), its first short way: one element on the left.
-/
import Derived.Test.YbulkckkFmtInsert
namespace Go.Proofs.YbulkckkFmt.st
open Go.RowKit
set_option linter.unusedVariables false
set_option linter.unusedSimpArgs false

/-- The search: below i all is told smaller than x at i's left neighbour; at j not. -/
def BinA (T : Nat → Int) (L0 : List Nat) (x m b i j : Nat) : Prop := m ≤ i ∧ i ≤ j ∧ j ≤ b ∧ (i = m ∨ T (L0.getD (i - 1) 0) < T x) ∧ (j = b ∨ T x ≤ T (L0.getD j 0))

set_option maxRecDepth 100000 in
set_option maxHeartbeats 4000000 in
theorem merge20a (w0 w : World) (g n cap a m b p1 p2 : Nat) (T : Nat → Int) (V : Nat → Prop) (P B Q : List Nat) (x : Nat) (hn : n ≤ 1024) (hP : P.length = a) (hm : m = a + 1) (hb : b = m + B.length) (hB1 : 1 ≤ B.length)
    (hB : Sorted T B) (hap : ∀ y ∈ B, x < y) (hvx : V x) (hvB : ∀ y ∈ B, V y) (hcmp : CmpOk w0 g p1 p2 T V) (h : RowAt w0 w g n cap (P ++ x :: (B ++ Q))) :
    Calls Ybaf.prog 20 #[.slice (some ⟨g, 0, none⟩) n cap, .int .i64 (a : Int), .int .i64 (m : Int), .int .i64 (b : Int), .func (.func 9) #[] #[.pointer (some ⟨p1, 0, none⟩), .pointer (some ⟨p2, 0, none⟩)]] w fun e w' => e = .returned (.tuple #[]) ∧ ∃ S, S.Perm (x :: B) ∧ Sorted T S ∧ RowAt w0 w' g n cap (P ++ S ++ Q) := by
  have hlen := h.len
  have hbn : b ≤ n := by simp at hlen; omega
  have HC : Hid _ := hcmp
  have HP : Hid _ := hP
  have HBL : Hid _ := hb
  have HM : Hid _ := hm
  have HSB : Hid _ := hB
  have ham : a ≤ m := by omega
  have ham1 : m ≤ a + 1 := by omega
  have ham2 : a + 1 ≤ m := by omega
  have hmb : m ≤ b := by omega
  obtain ⟨L0, HL0⟩ : ∃ L0, Hid (P ++ x :: (B ++ Q) = L0) := ⟨_, rfl⟩
  rw [HL0.out] at h
  have HXA : Hid (L0.getD a 0 = x) := by
    show L0.getD a 0 = x
    rw [← HL0.out]
    exact getD_mid P _ x a hP.symm
  have HVY : Hid (∀ q, m ≤ q → q < b → ∀ y, L0.getD q 0 = y → V y) := by
    intro q h1 h2 y hy
    rw [← HL0.out] at hy
    obtain ⟨v, rfl⟩ : ∃ v, q = P.length + 1 + v := ⟨q - (P.length + 1), by omega⟩
    have hv : v < B.length := by omega
    have e : (P ++ x :: (B ++ Q)).getD (P.length + 1 + v) 0 = B[v] := by
      have := getD_in (P ++ [x]) B Q v hv
      simpa using this
    rw [e] at hy
    rw [← hy]
    exact hvB _ (List.getElem_mem hv)
  have hmab : ((m : Int) - (a : Int) == 1) = true := beq_iff_eq.2 (by omega)
  clear hlen hcmp hP hb hm hB
  go_enter Ybaf.func20, Ybaf.ntmps20
  go_wp2
  go_loopw [10, 11] (fun s t wr => ∃ i j : Nat, s = .int .i64 (i : Int) ∧ t = .int .i64 (j : Int) ∧ BinA T L0 x m b i j ∧ RowAt w0 wr g n cap L0) (fun s t _ => (intOf t).toNat - (intOf s).toNat)
  case atStart => exact ⟨m, b, rfl, rfl, ⟨Nat.le_refl _, hmb, Nat.le_refl _, .inl rfl, .inl rfl⟩, h⟩
  case round =>
    obtain ⟨i, j, rfl, rfl, ⟨hi, hij, hj, hlo, hhi⟩, hrow⟩ := hrel
    by_cases hlt : i < j
    · have hltI : (i : Int) < (j : Int) := by omega
      have HLO : Hid _ := hlo
      have HHI : Hid _ := hhi
      clear hlo hhi
      go_wp2
      obtain ⟨q, hq⟩ : ∃ q : Nat, ((i : Int) + (j : Int)) / 2 = (q : Int) := ⟨(i + j) / 2, by omega⟩
      have hiq : i ≤ q := by omega
      have hqj : q < j := by omega
      rw [hq]
      clear hq
      obtain ⟨y, HY⟩ : ∃ y, Hid (L0.getD q 0 = y) := ⟨_, rfl⟩
      have c1 := hrow.cell q (by omega)
      have c2 := hrow.cell a (by omega)
      rw [HY.out] at c1
      rw [HXA.out] at c2
      have hvy : V y := HVY.out q (by omega) (by omega) y HY.out
      have hcall := fun w' hg => HC.out w' y x hg hvy hvx
      have hgr := hrow.2
      have hgl := hrow.lt
      have b1 : (0 : Int) ≤ (q : Int) := by omega
      have b2 : (q : Int) < (n : Int) := by omega
      have b3 : (0 : Int) ≤ (a : Int) := by omega
      have b4 : (a : Int) < (n : Int) := by omega
      have HR : Hid _ := hrow
      clear hrow h
      go_region_held3 (fun w' => w'.cell? ⟨g, q, none⟩ = some (.int .i64 (y : Int)) ∧ w'.cell? ⟨g, a, none⟩ = some (.int .i64 (x : Int))) (first | exact ⟨c1, c2⟩ | exact ⟨(hb1.cell (by exact hgl)).trans c1, (hb1.cell (by exact hgl)).trans c2⟩)
        (first | (go_at_call 9; refine (hcall _ (grown_drew hgr)).mono ?_; rintro e w1 ⟨c, rfl, hc, hb1⟩))
      have hr1 : RowAt w0 w1 g n cap L0 := RowAt.below (RowAt.below HR.out (Below.refl _ _).drew) hb1
      by_cases hcl : c < 0
      · have HT : Hid (T (L0.getD (q + 1 - 1) 0) < T x) := by
          show T (L0.getD (q + 1 - 1) 0) < T x
          rw [Nat.add_sub_cancel, HY.out]
          exact hc.out.1 hcl
        clear c1 c2 hb1 hcall hgr
        have HB2 : Hid (BinA T L0 x m b (q + 1) j) := ⟨by omega, by omega, hj, .inr HT.out, HHI.out⟩
        go_wp2
        go_roundw
        case rel => exact ⟨q + 1, j, by go_num, rfl, HB2.out, hr1⟩
        case measure => simp [intOf]; omega
      · have hcl' : 0 ≤ c := by omega
        have HT : Hid (T x ≤ T (L0.getD q 0)) := by
          show T x ≤ T (L0.getD q 0)
          rw [HY.out]
          have : ¬ T y < T x := fun h => hcl (hc.out.2 h)
          omega
        clear c1 c2 hb1 hcall hgr hcl
        have HB2 : Hid (BinA T L0 x m b i q) := ⟨hi, hiq, by omega, HLO.out, .inr HT.out⟩
        go_wp2
        go_roundw
        case rel => exact ⟨i, q, rfl, rfl, HB2.out, hr1⟩
        case measure => simp [intOf]; omega
    · have hijq : i = j := by omega
      subst hijq
      have HLO : Hid _ := hlo
      have HHI : Hid _ := hhi
      obtain ⟨u, rfl⟩ : ∃ u, i = m + u := ⟨i - m, by omega⟩
      have hub : m + u ≤ b := by omega
      have h0 : RowAt w0 wr g n cap (P ++ B.take 0 ++ x :: (B.drop 0 ++ Q)) := by
        have e : P ++ B.take 0 ++ x :: (B.drop 0 ++ Q) = L0 := by rw [← HL0.out]; simp
        rw [e]; exact hrow
      clear hlo hhi hrow h
      go_wp2
      go_loopw [13] (fun s wi => ∃ t : Nat, s = .int .i64 ((a + t : Nat) : Int) ∧ t ≤ u ∧ RowAt w0 wi g n cap (P ++ B.take t ++ x :: (B.drop t ++ Q))) (fun s _ => m + u - (intOf s).toNat)
      case atStart => exact ⟨0, by go_num, Nat.zero_le _, h0⟩
      case round =>
        obtain ⟨t, rfl, ht, hrow⟩ := hrel
        by_cases htu : t < u
        · have htB : t < B.length := by have := HBL.out; omega
          have eT : B.take (t + 1) = B.take t ++ [B[t]] := List.take_succ_eq_append_getElem htB
          have eD : B.drop t = B[t] :: B.drop (t + 1) := List.drop_eq_getElem_cons htB
          have hU : a + t = (P ++ B.take t).length := by have := HP.out; simp; omega
          obtain ⟨y, hy⟩ : ∃ y, B[t] = y := ⟨_, rfl⟩
          rw [hy] at eT eD
          rw [eD] at hrow
          have hr1 : RowAt w0 wr g n cap (P ++ B.take t ++ x :: y :: (B.drop (t + 1) ++ Q)) := by simpa using hrow
          have hsw := hr1.swap (a + t) (a + t + 1)
          rw [swp_up (P ++ B.take t) _ x y (a + t) hU, getD_mid (P ++ B.take t) _ x (a + t) hU, getD_mid2 (P ++ B.take t) _ x y (a + t + 1) (by omega)] at hsw
          have HSW : Hid (∀ w', RowAt w0 w' g n cap (P ++ B.take t ++ y :: x :: (B.drop (t + 1) ++ Q)) → RowAt w0 w' g n cap (P ++ B.take (t + 1) ++ x :: (B.drop (t + 1) ++ Q))) := by
            intro w' hw'
            rw [eT]
            simpa using hw'
          have HS : Hid _ := hsw
          have k1 : wr.cell? ⟨g, a + t, none⟩ = some (.int .i64 (x : Int)) := by
            rw [hr1.cell (a + t) (by omega), getD_mid (P ++ B.take t) _ x (a + t) hU]
          have k2 : wr.cell? ⟨g, a + t + 1, none⟩ = some (.int .i64 (y : Int)) := by
            rw [hr1.cell (a + t + 1) (by omega), getD_mid2 (P ++ B.take t) _ x y (a + t + 1) (by omega)]
          have f1 := hr1.frozen (a + t)
          have f2 := hr1.frozen (a + t + 1)
          have b1 : (a : Int) + (t : Int) + 1 < (n : Int) := by omega
          have b2 : (a : Int) + (t : Int) < (n : Int) := by omega
          clear eT eD hU hy hr1 hsw hrow
          go_wp2
          go_region
          all_goals
            go_wp2
            go_roundw
            case rel => exact ⟨t + 1, by go_num, by omega, HSW.out _ (RowAt.below HS.out (Below.refl _ _).drew)⟩
            case measure => simp [intOf]; omega
        · have htu' : t = u := by omega
          subst htu'
          go_wp2
          (try simp only [Exit.inBlock, Exit.then])
          refine bodyPost_ret (results_none rfl _ _ _) rfl ?_
          refine ⟨rfl, B.take t ++ x :: B.drop t, ?_, ?_, by simpa using hrow⟩
          · refine List.perm_middle.trans ?_
            rw [List.take_append_drop]
          · have hmA := HM.out
            have hbA := HBL.out
            have hpA := HP.out
            refine insert_ok (by rw [List.take_append_drop]; exact HSB.out) (fun A z e => ?_) (fun z A e => ?_)
            · have htpos : 0 < t := by
                have := congrArg List.length e
                simp at this
                omega
              have hz : L0.getD (m + t - 1) 0 = z := by
                rw [← HL0.out]
                have h1 := getD_in (P ++ [x]) B Q (t - 1) (by omega)
                have e1 : (P ++ [x]).length + (t - 1) = m + t - 1 := by simp; omega
                rw [e1] at h1
                have h2 : B[t - 1]'(by omega) = z := by
                  have := congrArg (fun l => l[t - 1]?) e
                  have hl : A.length = t - 1 := by
                    have := congrArg List.length e
                    simp at this
                    omega
                  simp [hl, List.getElem?_take, show t - 1 < t by omega, show t - 1 < B.length by omega] at this
                  exact this
                rw [h2] at h1
                simpa using h1
              rcases HLO.out with h1 | h1
              · omega
              · rw [hz] at h1
                exact .inl h1
            · have htB : t < B.length := by
                have := congrArg List.length e
                simp at this
                omega
              have hz0 : B[t] = z := by
                rw [List.drop_eq_getElem_cons htB] at e
                cases e
                rfl
              have hz : L0.getD (m + t) 0 = z := by
                rw [← HL0.out]
                have h1 := getD_in (P ++ [x]) B Q t htB
                have e1 : (P ++ [x]).length + t = m + t := by simp; omega
                rw [e1, hz0] at h1
                simpa using h1
              have hxz : x < z := hap z (by rw [← hz0]; exact List.getElem_mem htB)
              rcases HHI.out with h1 | h1
              · omega
              · rw [hz] at h1
                unfold R
                omega

end Go.Proofs.YbulkckkFmt.st
