/-
  THE WALK of LawS0164BBuilt.
-/
import Derived.Test.YbulkcjiTable
import Derived.OpenShut
namespace Go.Proofs.Ybulkcji.zone
open Go.RowKit
set_option linter.unusedVariables false
set_option linter.unusedSimpArgs false

theorem info5 : (Yba.prog.info? 5).map (fun i => (i.zero, i.size, i.bytes)) = some (some (.int .u8 0), 1, 1) := by kernel_rfl

/-- What the walk is told of the argument. -/
def Fed (w : World) (a : Option Addr) (n : Nat) (zs : List Int) : Prop :=
  n ≤ zs.length ∧ (∀ i, 0 ≤ zs.getD i 0 ∧ zs.getD i 0 ≤ 255) ∧ (n = 0 ∨ ∃ b off, a = some ⟨b, off, none⟩ ∧ b < w.heap.size ∧ ∀ i, i < n → w.cell? ⟨b, off + i, none⟩ = some (.int .u8 (zs.getD i 0)))

theorem pick_memI (z : Int) : ((pickB z).toNat : Int) = 65 ∨ ((pickB z).toNat : Int) = 90 ∨ ((pickB z).toNat : Int) = 97 ∨ ((pickB z).toNat : Int) = 122 ∨ ((pickB z).toNat : Int) = 48 ∨ ((pickB z).toNat : Int) = 57 ∨ ((pickB z).toNat : Int) = 95 ∨ ((pickB z).toNat : Int) = 45 ∨ ((pickB z).toNat : Int) = 43 ∨ ((pickB z).toNat : Int) = 77 ∨ ((pickB z).toNat : Int) = 120 ∨ ((pickB z).toNat : Int) = 47 ∨ ((pickB z).toNat : Int) = 32 ∨ ((pickB z).toNat : Int) = 46 := by
  rcases pick_mem z with h | h | h | h | h | h | h | h | h | h | h | h | h | h <;> rw [h] <;> simp

set_option maxRecDepth 100000 in
set_option maxHeartbeats 4000000 in
theorem built_any (a0 : Option Addr) (n cap : Nat) (zs : List Int) (w : World) (hm : n ≤ maxLen) (hfed : Fed w a0 n zs) :
    Calls Yba.prog 4 #[.slice a0 n cap] w fun e w' => e = .returned (.bool true) ∧ Below w.heap.size w w' := by
  unfold maxLen at hm
  by_cases hbig : 1024 < n
  · clear hfed
    go_enter Yba.func4, Yba.ntmps4
    go_wp2
    go_ret
    exact ⟨rfl, Below.refl _ _⟩
  · have hle : n ≤ 1024 := by omega
    obtain ⟨hzn, hbd, hfed⟩ := hfed
    obtain ⟨i0, hi, hz0, hz1, hz2⟩ := info_parts info5
    go_enter Yba.func4, Yba.ntmps4
    go_wp2_with (at_make; refine wpList_make_full _ rfl _ _ 23 rfl w.heap.size 5 i0 (.int .u8 0) 1 Yba.underlying23 hi hz0 hz1 _ _ _ _ n rfl rfl rfl rfl (by rw [hz2]; omega) (by unfold maxLen; omega) (Nat.le_refl _) ?_)
    intro w1 hown hgrow
    have hown' : w1.ownsRow w.heap.size 5 1 (.slice (some ⟨w.heap.size, 0, none⟩) n n) n (cellsL ([].take 0) ++ List.replicate (n - 0) (Value.int .u8 0)) := by
      rw [← fill_start, List.take_of_length_le (by rw [Array.length_toList, size_madeCells]; exact Nat.le_refl _)]
      simpa using hown
    have hb1 : Below w.heap.size w w1 := (Below.refl _ _).grown hgrow (Nat.le_refl _) (fun k h => by cases h)
    clear hgrow hi hz0 hz1 hz2 i0 hown
    go_wp2
    go_loopw [4] (fun i wr => ∃ k : Nat, k ≤ n ∧ i = .int .i64 k ∧ wr.ownsRow w.heap.size 5 1 (.slice (some ⟨w.heap.size, 0, none⟩) n n) n (cellsL (zs.take k) ++ List.replicate (n - k) (Value.int .u8 0)) ∧ Below w.heap.size w wr) (fun i _ => n - (intOf i).toNat)
    case atStart => exact ⟨0, Nat.zero_le _, rfl, hown', hb1⟩
    case round =>
      obtain ⟨k, hk, rfl, hownr, hbr⟩ := hrel
      by_cases hlt : k < n
      · rcases hfed with h0 | ⟨b, off, rfl, hbl, hcell⟩
        · omega
        · have hcx : wr.cell? ⟨b, off + k, none⟩ = some (.int .u8 (zs.getD k 0)) := (hbr.cell (by exact hbl)).trans (hcell k hlt)
          have hnf := hownr.frozenAt k
          obtain ⟨u, hcc⟩ : ∃ u, wr.cell? ⟨w.heap.size, k, none⟩ = some u := by
            rw [hownr.cellAt k (by omega)]
            exact ⟨_, List.getElem?_eq_getElem (by rw [hownr.1]; omega)⟩
          have hst := (hownr.stored k (.int .u8 ((pickB (zs.getD k 0)).toNat : Int))).1
          rw [fill_set zs k n hlt hzn] at hst
          have HS : Hid _ := hst
          have HB : Hid _ := hbr
          have hbz := hbd k
          obtain ⟨z, HZ⟩ : ∃ z, Hid (zs.getD k 0 = z) := ⟨_, rfl⟩
          rw [HZ.out] at HS hbz hcx
          clear hst hbr hownr hb1 hown' hcell hbd
          go_wp2
          go_roundw
          case rel => exact ⟨k + 1, by omega, by go_num, by rw [pick_eq]; exact HS.out, HB.out.setCell (Nat.le_refl _) _⟩
          case measure => simp [intOf]; omega
      · have hkn : k = n := by omega
        subst hkn
        have hlen : (zs.take k).length = k := by simp; omega
        have hsize := built_size (zs.take k)
        rw [hlen] at hsize
        have hcells : ∀ j, j < k → wr.cell? ⟨w.heap.size, j, none⟩ = some (.int .u8 (bt (built (zs.take k)) j)) := by
          intro j hj
          rw [hownr.cellAt j (by omega), List.getElem?_append_left (by rw [cellsL_len, hlen]; exact hj), cellsL_at _ j (by omega)]
        have hconv : (convert 23 9 (.slice (some ⟨w.heap.size, 0, none⟩) k k)).run Yba.prog wr = .ok (.string (built (zs.take k))) wr := by
          have hl : (bytesL (zs.take k)).length = k := by simpa [bytesL] using hlen
          have := run_convert_bytes_back (P := Yba.prog) wr 23 9 5 ⟨w.heap.size, 0, none⟩ k (bytesL (zs.take k)) Yba.underlying23 Yba.underlying5 Yba.underlying9 (fun j hj => by
            have hj' : j < k := by omega
            rw [Addr.add_lit, Nat.zero_add, hcells j hj', bt_built _ j (by omega)]
            simp [bytesL, List.getD, hlen, hj'])
          rw [hl] at this
          exact this
        have hmem : ∀ j, j < k → ∃ z, bt (built (zs.take k)) j = ((pickB z).toNat : Int) := fun j hj => ⟨_, bt_built _ j (by omega)⟩
        have hp5 := fun w' : World => part5 (built (zs.take k)) w' (by omega)
        obtain ⟨S, HS⟩ : ∃ S, Hid (built (zs.take k) = S) := ⟨_, rfl⟩
        rw [HS.out] at hcells hconv hmem hp5 hsize
        clear hownr hb1 hown' hbd hfed
        have HB : Hid _ := hbr
        clear hbr
        by_cases hpos : 0 < k
        · obtain ⟨r, HR⟩ : ∃ r, Hid (partB S = r) := ⟨_, rfl⟩
          rw [HR.out] at hp5
          have HZ : Hid _ := hsize
          clear hsize
          go_wp2
          go_loop [6, 7] (fun t i => ∃ j : Nat, j ≤ k ∧ i = .int .i64 j ∧ t = .bool (allOk S j)) (fun _ i => k - (intOf i).toNat)
          case atStart => exact ⟨0, Nat.zero_le _, rfl, rfl⟩
          case round =>
            obtain ⟨j, hj, rfl, rfl⟩ := hrel
            by_cases hjk : j < k
            · have hc := hcells j hjk
              obtain ⟨z, hz⟩ := hmem j hjk
              have HA : Hid (allOk S (j + 1) = (allOk S j && okB (bt S j) ((j : Int) == 0))) := rfl
              rw [hz] at hc HA
              have hpm := pick_memI z
              obtain ⟨q, HQ⟩ : ∃ q, Hid (((pickB z).toNat : Int) = q) := ⟨_, rfl⟩
              rw [HQ.out] at hc HA hpm
              obtain ⟨v, HV⟩ : ∃ v, Hid (allOk S j = v) := ⟨_, rfl⟩
              rw [HV.out] at HA ⊢
              clear hz hcells hconv hmem hp5
              by_cases hj0 : j = 0
              · subst hj0
                rcases hpm with rfl | rfl | rfl | rfl | rfl | rfl | rfl | rfl | rfl | rfl | rfl | rfl | rfl | rfl
                all_goals
                  go_wp2
                  go_round
                  case rel => exact ⟨1, by omega, by go_num, by rw [HA.out]; simp [okB]⟩
                  case measure => simp [intOf]; omega
              · have hjp : 0 < j := by omega
                have hjb : ((j : Int) == 0) = false := beq_eq_false_iff_ne.2 (by omega)
                rw [hjb] at HA
                clear hj0
                rcases hpm with rfl | rfl | rfl | rfl | rfl | rfl | rfl | rfl | rfl | rfl | rfl | rfl | rfl | rfl
                all_goals
                  go_wp2
                  go_round
                  case rel => exact ⟨j + 1, by omega, by go_num, by rw [HA.out]; simp [okB]⟩
                  case measure => simp [intOf]; omega
            · have hjk' : j = k := by omega
              subst hjk'
              have hr : allOk S j = r := by
                have := HR.out
                unfold partB at this
                rw [HZ.out] at this
                simpa [hpos] using this
              rw [hr]
              clear hr hcells hconv hmem
              go_wp2_with (go_at_call 5; refine (hp5 _).mono ?_; rintro e w' ⟨rfl, rfl⟩)
              go_ret
              exact ⟨ret_bool (by simp), HB.out⟩
        · have hk0 : k = 0 := by omega
          subst hk0
          have hr : partB S = false := by simp [partB, hsize]
          rw [hr] at hp5
          clear hr hcells hmem hsize
          go_wp2
          refine wp_loop_rounds 1 ?_
          rw [rounds_succ]
          go_wp2_with (go_at_call 5; refine (hp5 _).mono ?_; rintro e w' ⟨rfl, rfl⟩)
          go_ret
          exact ⟨rfl, HB.out⟩

end Go.Proofs.Ybulkcji.zone
