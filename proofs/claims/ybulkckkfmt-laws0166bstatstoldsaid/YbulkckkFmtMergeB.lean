/-
  symMergeCmpFunc (20), its second short way: one element on the right.
-/
import Derived.Test.YbulkckkFmtInsert
namespace Go.Proofs.YbulkckkFmt.st
open Go.RowKit
set_option linter.unusedVariables false
set_option linter.unusedSimpArgs false

def BinB (T : Nat → Int) (L0 : List Nat) (y a m i j : Nat) : Prop := a ≤ i ∧ i ≤ j ∧ j ≤ m ∧ (i = a ∨ T (L0.getD (i - 1) 0) ≤ T y) ∧ (j = m ∨ T y < T (L0.getD j 0))

set_option maxRecDepth 100000 in
set_option maxHeartbeats 4000000 in
theorem merge20b (w0 w : World) (g n cap a m b p1 p2 : Nat) (T : Nat → Int) (V : Nat → Prop) (P A Q : List Nat) (y : Nat) (hn : n ≤ 1024) (hP : P.length = a) (hm : m = a + A.length) (hb : b = m + 1) (hA1 : 2 ≤ A.length)
    (hA : Sorted T A) (hap : ∀ x ∈ A, x < y) (hvy : V y) (hvA : ∀ x ∈ A, V x) (hcmp : CmpOk w0 g p1 p2 T V) (h : RowAt w0 w g n cap (P ++ (A ++ y :: Q))) :
    Calls Ybaf.prog 20 #[.slice (some ⟨g, 0, none⟩) n cap, .int .i64 (a : Int), .int .i64 (m : Int), .int .i64 (b : Int), .func (.func 9) #[] #[.pointer (some ⟨p1, 0, none⟩), .pointer (some ⟨p2, 0, none⟩)]] w fun e w' => e = .returned (.tuple #[]) ∧ ∃ S, S.Perm (A ++ [y]) ∧ Sorted T S ∧ RowAt w0 w' g n cap (P ++ S ++ Q) := by
  have hlen := h.len
  have hbn : b ≤ n := by simp at hlen; omega
  have HC : Hid _ := hcmp
  have HP : Hid _ := hP
  have HBL : Hid _ := hm
  have HM : Hid _ := hb
  have HSB : Hid _ := hA
  have ham : a + 2 ≤ m := by omega
  have hmb : m < b := by omega
  have hmb2 : b ≤ m + 1 := by omega
  obtain ⟨L0, HL0⟩ : ∃ L0, Hid (P ++ (A ++ y :: Q) = L0) := ⟨_, rfl⟩
  rw [HL0.out] at h
  have HXA : Hid (L0.getD m 0 = y) := by
    show L0.getD m 0 = y
    rw [← HL0.out, ← List.append_assoc]
    exact getD_mid (P ++ A) _ y m (by simp; omega)
  have HAT : Hid (∀ v (hv : v < A.length), L0.getD (a + v) 0 = A[v]) := by
    intro v hv
    rw [← HL0.out, ← hP]
    exact getD_in P A (y :: Q) v hv
  have HVX : Hid (∀ q, a ≤ q → q < m → ∀ x, L0.getD q 0 = x → V x) := by
    intro q h1 h2 x hx
    obtain ⟨v, rfl⟩ : ∃ v, q = a + v := ⟨q - a, by omega⟩
    have hv : v < A.length := by omega
    rw [HAT.out v hv] at hx
    rw [← hx]
    exact hvA _ (List.getElem_mem hv)
  have hmab : ((m : Int) - (a : Int) == 1) = false := beq_eq_false_iff_ne.2 (by omega)
  have hbmb : ((b : Int) - (m : Int) == 1) = true := beq_iff_eq.2 (by omega)
  clear hlen hcmp hP hb hm hA
  go_enter Ybaf.func20, Ybaf.ntmps20
  go_wp2
  go_loopw [14, 15] (fun s t wr => ∃ i j : Nat, s = .int .i64 (i : Int) ∧ t = .int .i64 (j : Int) ∧ BinB T L0 y a m i j ∧ RowAt w0 wr g n cap L0) (fun s t _ => (intOf t).toNat - (intOf s).toNat)
  case atStart => exact ⟨a, m, rfl, rfl, ⟨Nat.le_refl _, by omega, Nat.le_refl _, .inl rfl, .inl rfl⟩, h⟩
  case round =>
    obtain ⟨i, j, rfl, rfl, ⟨hi, hij, hj, hlo, hhi⟩, hrow⟩ := hrel
    by_cases hlt : i < j
    · have hltI : (i : Int) < (j : Int) := by omega
      have HLO : Hid _ := hlo
      have HHI : Hid _ := hhi
      clear hlo hhi
      go_wp2
      obtain ⟨q, hq⟩ : ∃ q : Nat, ((i : Int) + (j : Int)) / 2 = (q : Int) := ⟨(i + j) / 2, by omega⟩
      have hiq : i ≤ q := by omega
      have hqj : q < j := by omega
      rw [hq]
      clear hq
      obtain ⟨x, HY⟩ : ∃ x, Hid (L0.getD q 0 = x) := ⟨_, rfl⟩
      have c1 := hrow.cell q (by omega)
      have c2 := hrow.cell m (by omega)
      rw [HY.out] at c1
      rw [HXA.out] at c2
      have hvx : V x := HVX.out q (by omega) (by omega) x HY.out
      have hcall := fun w' hg => HC.out w' y x hg hvy hvx
      have hgr := hrow.2
      have hgl := hrow.lt
      have b1 : (0 : Int) ≤ (q : Int) := by omega
      have b2 : (q : Int) < (n : Int) := by omega
      have b3 : (0 : Int) ≤ (m : Int) := by omega
      have b4 : (m : Int) < (n : Int) := by omega
      have HR : Hid _ := hrow
      clear hrow h
      go_region_held3 (fun w' => w'.cell? ⟨g, q, none⟩ = some (.int .i64 (x : Int)) ∧ w'.cell? ⟨g, m, none⟩ = some (.int .i64 (y : Int))) (first | exact ⟨c1, c2⟩ | exact ⟨(hb1.cell (by exact hgl)).trans c1, (hb1.cell (by exact hgl)).trans c2⟩)
        (first | (go_at_call 9; refine (hcall _ (grown_drew hgr)).mono ?_; rintro e w1 ⟨c, rfl, hc, hb1⟩))
      have hr1 : RowAt w0 w1 g n cap L0 := RowAt.below (RowAt.below HR.out (Below.refl _ _).drew) hb1
      by_cases hcl : c < 0
      · have HT : Hid (T y < T (L0.getD q 0)) := by
          show T y < T (L0.getD q 0)
          rw [HY.out]
          exact hc.out.1 hcl
        clear c1 c2 hb1 hcall hgr
        have HB2 : Hid (BinB T L0 y a m i q) := ⟨hi, hiq, by omega, HLO.out, .inr HT.out⟩
        go_wp2
        · exfalso
          have hx : (!decide (c < 0)) = true := by assumption
          rw [decide_eq_true hcl] at hx
          cases hx
        · go_roundw
          case rel => exact ⟨i, q, rfl, rfl, HB2.out, hr1⟩
          case measure => simp [intOf]; omega
      · have hcl' : 0 ≤ c := by omega
        have HT : Hid (T (L0.getD (q + 1 - 1) 0) ≤ T y) := by
          show T (L0.getD (q + 1 - 1) 0) ≤ T y
          rw [Nat.add_sub_cancel, HY.out]
          have : ¬ T y < T x := fun h => hcl (hc.out.2 h)
          omega
        clear c1 c2 hb1 hcall hgr hcl
        have HB2 : Hid (BinB T L0 y a m (q + 1) j) := ⟨by omega, by omega, hj, .inr HT.out, HHI.out⟩
        go_wp2
        · go_roundw
          case rel => exact ⟨q + 1, j, by go_num, rfl, HB2.out, hr1⟩
          case measure => simp [intOf]; omega
        · exfalso
          have hx : (!decide (c < 0)) = false := by assumption
          rw [decide_eq_false (by omega)] at hx
          cases hx
    · have hijq : i = j := by omega
      subst hijq
      have HLO : Hid _ := hlo
      have HHI : Hid _ := hhi
      obtain ⟨u, rfl⟩ : ∃ u, i = a + u := ⟨i - a, by omega⟩
      have hub : a + u ≤ m := by omega
      have huA : u ≤ A.length := by have := HBL.out; omega
      have h0 : RowAt w0 wr g n cap (P ++ A.take A.length ++ y :: (A.drop A.length ++ Q)) := by
        have e : P ++ A.take A.length ++ y :: (A.drop A.length ++ Q) = L0 := by rw [← HL0.out]; simp
        rw [e]; exact hrow
      have ham3 : Hid (m = a + A.length) := HBL.out
      clear hlo hhi hrow h
      go_wp2
      go_loopw [17] (fun s wi => ∃ t : Nat, s = .int .i64 ((a + t : Nat) : Int) ∧ u ≤ t ∧ t ≤ A.length ∧ RowAt w0 wi g n cap (P ++ A.take t ++ y :: (A.drop t ++ Q))) (fun s _ => (intOf s).toNat)
      case atStart => exact ⟨A.length, by have := HBL.out; go_num, huA, Nat.le_refl _, h0⟩
      case round =>
        obtain ⟨t1, rfl, ht1, ht2, hrow⟩ := hrel
        by_cases htu : u < t1
        · obtain ⟨t, rfl⟩ : ∃ t, t1 = t + 1 := ⟨t1 - 1, by omega⟩
          have htB : t < A.length := by omega
          have eT : A.take (t + 1) = A.take t ++ [A[t]] := List.take_succ_eq_append_getElem htB
          have eD : A.drop t = A[t] :: A.drop (t + 1) := List.drop_eq_getElem_cons htB
          have hU : a + t = (P ++ A.take t).length := by have := HP.out; simp; omega
          obtain ⟨x, hx⟩ : ∃ x, A[t] = x := ⟨_, rfl⟩
          rw [hx] at eT eD
          rw [eT] at hrow
          have hr1 : RowAt w0 wr g n cap (P ++ A.take t ++ x :: y :: (A.drop (t + 1) ++ Q)) := by simpa using hrow
          have hsw := hr1.swap (a + t + 1) (a + t)
          rw [swp_down (P ++ A.take t) _ x y (a + t) hU, getD_mid (P ++ A.take t) _ x (a + t) hU, getD_mid2 (P ++ A.take t) _ x y (a + t + 1) (by omega)] at hsw
          have HSW : Hid (∀ w', RowAt w0 w' g n cap (P ++ A.take t ++ y :: x :: (A.drop (t + 1) ++ Q)) → RowAt w0 w' g n cap (P ++ A.take t ++ y :: (A.drop t ++ Q))) := by
            intro w' hw'
            rw [eD]
            simpa using hw'
          have HS : Hid _ := hsw
          have htn : a + t + 1 < n := by have := HBL.out; omega
          have k1 : wr.cell? ⟨g, a + t, none⟩ = some (.int .i64 (x : Int)) := by
            rw [hr1.cell (a + t) (by omega), getD_mid (P ++ A.take t) _ x (a + t) hU]
          have k2 : wr.cell? ⟨g, a + t + 1, none⟩ = some (.int .i64 (y : Int)) := by
            rw [hr1.cell (a + t + 1) (by omega), getD_mid2 (P ++ A.take t) _ x y (a + t + 1) (by omega)]
          have f1 := hr1.frozen (a + t)
          have f2 := hr1.frozen (a + t + 1)
          have b1 : (a : Int) + (t : Int) + 1 < (n : Int) := by omega
          have b2 : (a : Int) + (t : Int) < (n : Int) := by omega
          have e1 : ((a + (t + 1) : Nat) : Int) = (a : Int) + (t : Int) + 1 := by omega
          rw [e1]
          clear eT eD hU hx hr1 hsw hrow e1
          go_wp2
          go_region
          all_goals
            go_wp2
            go_roundw
            case rel => exact ⟨t, by go_num, by omega, by omega, HSW.out _ (RowAt.below HS.out (Below.refl _ _).drew)⟩
            case measure => simp [intOf]; omega
        · have htu' : t1 = u := by omega
          subst htu'
          go_wp2
          (try simp only [Exit.inBlock, Exit.then])
          refine bodyPost_ret (results_none rfl _ _ _) rfl ?_
          refine ⟨rfl, A.take t1 ++ y :: A.drop t1, ?_, ?_, by simpa using hrow⟩
          · refine List.perm_middle.trans ?_
            rw [List.take_append_drop]
            exact (List.perm_append_singleton y A).symm
          · have hbA := HBL.out
            refine insert_ok (by rw [List.take_append_drop]; exact HSB.out) (fun A' z e => ?_) (fun z A' e => ?_)
            · have hl : A'.length + 1 = t1 := by
                have := congrArg List.length e
                simp at this
                omega
              have hz1 : t1 - 1 < A.length := by omega
              have h2 : A[t1 - 1] = z := by
                have := congrArg (fun l => l[t1 - 1]?) e
                simp [show A'.length = t1 - 1 by omega, List.getElem?_take, show t1 - 1 < t1 by omega, hz1] at this
                exact this
              have hz : L0.getD (a + t1 - 1) 0 = z := by
                have := HAT.out (t1 - 1) hz1
                rw [h2, show a + (t1 - 1) = a + t1 - 1 by omega] at this
                exact this
              have hzy : z < y := hap z (by rw [← h2]; exact List.getElem_mem hz1)
              rcases HLO.out with h1 | h1
              · omega
              · rw [hz] at h1
                unfold R
                omega
            · have htB : t1 < A.length := by
                have := congrArg List.length e
                simp at this
                omega
              have hz0 : A[t1] = z := by
                rw [List.drop_eq_getElem_cons htB] at e
                cases e
                rfl
              rcases HHI.out with h1 | h1
              · omega
              · rw [HAT.out t1 htB, hz0] at h1
                exact .inl h1

end Go.Proofs.YbulkckkFmt.st
