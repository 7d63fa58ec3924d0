/-
  slices.IndexFunc (11), Side.String (13), zzs0166bname (5), slices.Equal (6).
-/
import Derived.Test.YbulkckkFmtRow
import Derived.Lib.SmallJoins
namespace Go.Proofs.YbulkckkFmt.st
open Go.RowKit Go.Joins
set_option linter.unusedVariables false
set_option linter.unusedSimpArgs false

set_option maxHeartbeats 2000000 in
theorem index11 (w : World) (g n cap p1 p2 p4 p5 : Nat) (S : List Nat) (T : Nat → Int) (t : Int) (hn : n ≤ 1024) (hl : S.length = n) (hrow : ∀ i, i < n → w.cell? ⟨g, i, none⟩ = some (.int .i64 ((S.getD i 0 : Nat) : Int)))
    (hex : ∃ i, i < n ∧ T (S.getD i 0) = t)
    (hcmp : ∀ w' x, Below w.heap.size w w' → x ∈ S → Calls Ybaf.prog 12 #[.int .i64 (x : Int), .pointer (some ⟨p1, 0, none⟩), .pointer (some ⟨p2, 0, none⟩), .pointer (some ⟨p4, 0, none⟩), .pointer (some ⟨p5, 0, none⟩)] w' fun e w'' => ∃ c : Bool, e = .returned (.bool c) ∧ Hid (c = true ↔ T x = t) ∧ Below w'.heap.size w' w'') :
    Calls Ybaf.prog 11 #[.slice (some ⟨g, 0, none⟩) n cap, .func (.func 12) #[] #[.pointer (some ⟨p1, 0, none⟩), .pointer (some ⟨p2, 0, none⟩), .pointer (some ⟨p4, 0, none⟩), .pointer (some ⟨p5, 0, none⟩)]] w fun e w' => ∃ k : Nat, e = .returned (.int .i64 (k : Int)) ∧ k < n ∧ Hid (T (S.getD k 0) = t ∧ ∀ i, i < k → T (S.getD i 0) ≠ t) ∧ Below w.heap.size w w' := by
  have HR : Hid _ := hrow
  have HE : Hid _ := hex
  have HC : Hid _ := hcmp
  have HL : Hid _ := hl
  have hg : ∀ i, i < n → g < w.heap.size := fun i hi => World.block_lt_of_cell? w _ (hrow i hi)
  have HG : Hid _ := hg
  clear hrow hex hcmp hl hg
  go_enter Ybaf.func11, Ybaf.ntmps11
  go_wp2
  go_loopw [8] (fun iv wr => ∃ i : Nat, iv = .int .i64 (i : Int) ∧ i ≤ n ∧ Hid (∀ j, j < i → T (S.getD j 0) ≠ t) ∧ Below w.heap.size w wr) (fun iv _ => n - (intOf iv).toNat)
  case atStart => exact ⟨0, rfl, Nat.zero_le _, fun j hj => absurd hj (Nat.not_lt_zero _), Below.refl _ _⟩
  case round =>
    obtain ⟨i, rfl, hin, hno, hb⟩ := hrel
    by_cases hlt : i < n
    · have hltI : (i : Int) < (n : Int) := by omega
      obtain ⟨x, HX⟩ : ∃ x, Hid (S.getD i 0 = x) := ⟨_, rfl⟩
      have hc : wr.cell? ⟨g, i, none⟩ = some (.int .i64 (x : Int)) := by
        rw [← HX.out]
        exact (hb.cell (by exact HG.out i hlt)).trans (HR.out i hlt)
      have hxS : x ∈ S := by
        rw [← HX.out, List.getD_eq_getElem?_getD, List.getElem?_eq_getElem (by have := HL.out; omega)]
        exact List.getElem_mem _
      have hcall := HC.out wr x hb hxS
      clear hxS
      go_wp2_with fail
      refine hcall.mono ?_
      rintro e w1 ⟨c, rfl, hcc, hb1⟩
      have hb2 : Below w.heap.size w w1 := hb.trans (hb1.mono hb.size)
      clear hcall
      cases c
      · have HNO : Hid (∀ j, j < i + 1 → T (S.getD j 0) ≠ t) := by
          intro j hj
          rcases Nat.lt_succ_iff_lt_or_eq.1 hj with h | h
          · exact hno.out j h
          · subst h
            rw [HX.out]
            intro h2
            exact absurd (hcc.out.2 h2) (by simp)
        clear hcc
        go_wp2
        go_roundw
        case rel => exact ⟨i + 1, by go_num, by omega, HNO, hb2⟩
        case measure => simp [intOf]; omega
      · have HY : Hid (T (S.getD i 0) = t ∧ ∀ j, j < i → T (S.getD j 0) ≠ t) := ⟨by rw [HX.out]; exact hcc.out.1 rfl, hno.out⟩
        clear hcc
        go_wp2
        go_ret
        exact ⟨i, rfl, hlt, HY, hb2⟩
    · exfalso
      obtain ⟨j, hj, hjt⟩ := HE.out
      exact hno.out j (by omega) hjt

def sideName (s : Int) : ByteArray := if s = 0 then ⟨#[115, 117, 115, 112, 101, 110, 100]⟩ else if s = 1 then ⟨#[109, 97, 99, 104, 105, 110, 101]⟩ else ⟨#[114, 101, 115, 117, 109, 101]⟩

theorem name13 (w : World) (s : Int) (h : s = 0 ∨ s = 1 ∨ s = 2) : Calls Ybaf.prog 13 #[.int .i64 s] w fun e w' => e = .returned (.string (sideName s)) ∧ w' = w := by
  rcases h with rfl | rfl | rfl
  · go_enter Ybaf.func13, Ybaf.ntmps13
    go_wp2
    go_ret
    exact ⟨rfl, rfl⟩
  · go_enter Ybaf.func13, Ybaf.ntmps13
    go_wp2
    go_ret
    exact ⟨rfl, rfl⟩
  · go_enter Ybaf.func13, Ybaf.ntmps13
    go_wp2
    go_ret
    exact ⟨rfl, rfl⟩

theorem name5 (w : World) (s : Int) (h : s = 0 ∨ s = 1 ∨ s = 2) : Calls Ybaf.prog 5 #[.int .i64 s] w fun e w' => e = .returned (.string (sideName s)) ∧ w' = w := by
  rcases h with rfl | rfl | rfl
  · go_enter Ybaf.func5, Ybaf.ntmps5
    go_wp2
    go_ret
    exact ⟨rfl, rfl⟩
  · go_enter Ybaf.func5, Ybaf.ntmps5
    go_wp2
    go_ret
    exact ⟨rfl, rfl⟩
  · go_enter Ybaf.func5, Ybaf.ntmps5
    go_wp2
    go_ret
    exact ⟨rfl, rfl⟩

end Go.Proofs.YbulkckkFmt.st
