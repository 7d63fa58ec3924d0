/-
  THE CONTRACT of (*sim).leader (4), where every node that is up is idle.
-/
import Derived.Test.YbulkcjwLeads
namespace Go.Proofs.Ybulkcjw.sim
open Go.RowKit
set_option linter.unusedVariables false
set_option linter.unusedSimpArgs false

def isE (s : ByteArray) : Bool := decide (s.size = 0)
theorem isE_eq (s : ByteArray) : s.toList.isEmpty = isE s := by
  rw [ByteArray.toList_eq]
  have e : s.data.toList.length = s.size := by rw [Array.length_toList]; rfl
  unfold isE
  cases h : s.data.toList with
  | nil => rw [h] at e; exact (decide_eq_true e.symm).symm
  | cons a l => rw [h] at e; simp only [List.length_cons] at e; exact (decide_eq_false (by omega)).symm

set_option maxHeartbeats 2000000 in
theorem leader4 (sb R N c n cb bm : Nat) (l : Int) (ok fin : Bool) (w : World) (hN : N ≤ 1025) (hN0 : 1 ≤ N) (hs : w.cell? ⟨sb, 20, none⟩ = some (.slice (some ⟨R, 0, none⟩) N c))
    (hv : ∀ j, j < N → ∃ v, w.cell? ⟨R, j, none⟩ = some v ∧ NodeOk w R v) (hlast : ∃ v, w.cell? ⟨R, N - 1, none⟩ = some v ∧ UpOk w v)
    (hs18 : w.cell? ⟨sb, 18, none⟩ = some (.slice (some ⟨cb, 0, none⟩) n n)) (hs21 : w.cell? ⟨sb, 21, none⟩ = some (.map (some bm)))
    (hlk : ∀ w', Below w.heap.size w w' → ∀ nq, (Instr.lookup 68 (.map (some bm)) (.string ⟨#[]⟩) true).run Yba.prog (w'.drewN nq) = .ok (.tuple #[.int .i64 l, .bool ok]) (w'.drewN nq))
    (hid : ok = true → ∃ s : ByteArray, 0 ≤ l ∧ l < n ∧ w.cell? ⟨cb, l.toNat, none⟩ = some (.string s) ∧ fin = isE s) (hno : ok = false → fin = false) :
    Calls Yba.prog 4 #[.pointer (some ⟨sb, 0, none⟩)] w fun e w' => e = .returned (.tuple #[.int .i64 l, .bool fin]) ∧ Below w.heap.size w w' := by
  have hup := up6 sb R N c w hN hN0 hs hv hlast
  clear hv hlast
  go_enter Yba.func4, Yba.ntmps4
  go_wp2_with fail
  refine hup.mono ?_
  rintro e w1 ⟨g, m, cm, is, rfl, hm1, hm2, hown, hall, hb⟩
  have hlk1 := hlk w1 hb
  have hlen : is.length = m := by simpa [nats] using hown.1
  have hcell : ∀ j, j < m → ∃ i : Nat, w1.cell? ⟨g, j, none⟩ = some (.int .i64 (i : Int)) ∧ i < N ∧ ∃ gn h, w1.cell? ⟨R, i, none⟩ = some (.pointer (some ⟨gn, 0, none⟩)) ∧ w1.cell? ⟨gn, 15, none⟩ = some (.pointer (some ⟨h, 0, none⟩)) ∧ Idle w1 h := by
    intro j hj
    have hmem : is[j]'(by omega) ∈ is := List.getElem_mem _
    obtain ⟨hi, v, hc, hu⟩ := hall _ hmem
    refine ⟨is[j]'(by omega), ?_, hi, ?_⟩
    · rw [hown.cellAt j (by omega)]
      simp [nats, show j < is.length by omega]
    · obtain ⟨gn, h, rfl, h1, h2⟩ := hu.below hb
      exact ⟨gn, h, (hb.cell (by exact cell_lt hc)).trans hc, h1, h2⟩
  have hs' := (hb.cell (by exact cell_lt hs)).trans hs
  have hs18' := (hb.cell (by exact cell_lt hs18)).trans hs18
  have hs21' := (hb.cell (by exact cell_lt hs21)).trans hs21
  have HB : Hid _ := hb
  have HID : Hid (ok = true → ∃ s : ByteArray, 0 ≤ l ∧ l < n ∧ w1.cell? ⟨cb, l.toNat, none⟩ = some (.string s) ∧ fin = isE s) := by
    intro h
    obtain ⟨s, a, b, hc, f⟩ := hid h
    exact ⟨s, a, b, (hb.cell (by exact cell_lt hc)).trans hc, f⟩
  have HNO : Hid _ := hno
  obtain ⟨i, c1, c2, gn, h, c3, c4, c5⟩ := hcell 0 (by omega)
  have c2' : (i : Int) < (N : Int) := by omega
  have hm0 : (0 : Int) < (m : Int) := by omega
  have hcall := fun nq => leader7 h (w1.drewN nq) c5
  clear hup hlk hown hall hb hid hno hlen hs hs18 hs21 c5
  go_wp2
  go_quiet ((go_at_call 7; exact Calls.quiet_of_same (hcall _)))
  clear c1 c2 c3 c4 c2' hcall hlk1
  go_wp2
  go_loopw [6, 34] (fun t i wr => ∃ j nq : Nat, j ≤ m ∧ i = .int .i64 j ∧ t = .bool (if j = 0 then ok else fin) ∧ wr = w1.drewN nq) (fun _ i _ => m - (intOf i).toNat)
  case atStart => exact ⟨0, _, Nat.zero_le _, rfl, rfl, rfl⟩
  case round =>
    obtain ⟨j, nq2, hj, rfl, rfl, hwr⟩ := hrel
    have HW : Hid _ := hwr
    have fc : ∀ a, wr.cell? a = w1.cell? a := fun a => by rw [hwr]; rfl
    clear hwr
    by_cases hlt : j < m
    · obtain ⟨i, c1, c2, gn, h, c3, c4, c5⟩ := hcell j hlt
      have hs' : wr.cell? ⟨sb, 20, none⟩ = some (.slice (some ⟨R, 0, none⟩) N c) := (fc _).trans hs'
      have hs18' := (fc _).trans hs18'
      have hs21' := (fc _).trans hs21'
      have c1 := (fc _).trans c1
      have c3 := (fc _).trans c3
      have c4 := (fc _).trans c4
      have c5 : Idle wr h := ⟨(fc _).trans c5.1, (fc _).trans c5.2⟩
      have c2' : (i : Int) < (N : Int) := by omega
      have hcall := fun nq => leader7 h (wr.drewN nq) c5
      obtain ⟨gv, HG⟩ : ∃ gv, Hid ((if j = 0 then ok else fin) = gv) := ⟨_, rfl⟩
      rw [HG.out]
      cases gv
      · have HF : Hid (fin = false) := by
          have h1 := HG.out
          by_cases hj0 : j = 0
          · rw [if_pos hj0] at h1; exact HNO.out h1
          · rw [if_neg hj0] at h1; exact h1
        clear hcell c5 fc
        go_wp2
        go_quiet ((go_at_call 7; exact Calls.quiet_of_same (hcall _)))
        go_wp2
        go_roundw
        case rel => exact ⟨j + 1, nq2 + nq, by omega, by go_num, by rw [if_neg (by omega), HF.out], by rw [HW.out, World.drewN_drewN]⟩
        case measure => simp [intOf]; omega
      · have hok : ok = true := by
          have h1 := HG.out
          by_cases hj0 : j = 0
          · rw [if_pos hj0] at h1; exact h1
          · rw [if_neg hj0] at h1
            cases hok : ok
            · have := HNO.out hok; rw [this] at h1; cases h1
            · rfl
        obtain ⟨s, hl0, hln, hcs, hfin⟩ := HID.out hok
        have HF : Hid _ := hfin
        obtain ⟨q, hq⟩ : ∃ q : Nat, l = (q : Int) := ⟨l.toNat, by omega⟩
        subst hq
        simp only [Int.toNat_natCast] at hcs
        have hcs := (fc _).trans hcs
        clear hcell c5 hok hfin hl0 fc
        go_wp2
        go_quiet ((go_at_call 7; exact Calls.quiet_of_same (hcall _)))
        go_wp2
        go_roundw
        case rel =>
          refine ⟨j + 1, nq2 + nq, by omega, by go_num, ?_, by rw [HW.out, World.drewN_drewN]⟩
          rw [if_neg (by omega), HF.out]
          rw [isE_eq]
        case measure => simp [intOf]; omega
    · have hjm : j ≠ 0 := by omega
      rw [if_neg hjm]
      clear hcell fc
      go_wp2
      go_ret2
      exact ⟨rfl, by rw [HW.out]; exact below_drewN HB.out _⟩

end Go.Proofs.Ybulkcjw.sim
