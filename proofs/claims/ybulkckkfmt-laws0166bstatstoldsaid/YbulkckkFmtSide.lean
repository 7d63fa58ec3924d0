/-
  sideStats (4): the walk.
-/
import Derived.Test.YbulkckkFmtSideR
import Derived.Test.YbulkckkFmtHeld
namespace Go.Proofs.YbulkckkFmt.st
open Go.RowKit Go.Joins Go.Extern.Stop Go.Stop Go.Extern
set_option linter.unusedVariables false
set_option linter.unusedSimpArgs false

theorem L1.toFr {w wr : World} {h N cap : Nat} {s : Int} {pass has : Nat → Bool} {k : Nat} {v : Value} (l : L1 w h N cap s pass has k wr v) : Fr (fun _ => False) w wr :=
  Fr.split (W1.fr w h N cap s) (l.2.2.mono (fun i hi => .inr (by omega)))

theorem empty_post {w wr : World} {h N cap : Nat} {s : Int} {pass has : Nat → Bool} {v : Value} {T : Nat → Int} {d : Nat → Nat} {dir : Nat → ByteArray} (l : L1 w h N cap s pass has N wr v) (hR : RowsOk w h N s pass has T d dir (fun _ => .slice Option.none 0 0)) (h0 : (rk pass has N).length = 0) (u1 u2 : Value) :
    SidePost w h N s pass has T dir (.returned (.tuple #[.agg #[.int .i64 0, .slice Option.none 0 0], .bool false])) ((wr.setCell ⟨w.heap.size + 1 + 1, 0, none⟩ u1).setCell ⟨w.heap.size + 1 + 1, 1, none⟩ u2) := by
  have f : Fr (fun _ => False) w ((wr.setCell ⟨w.heap.size + 1 + 1, 0, none⟩ u1).setCell ⟨w.heap.size + 1 + 1, 1, none⟩ u2) := Fr.setCell (Fr.setCell l.toFr _ _ (.inr (by show w.heap.size ≤ w.heap.size + 1 + 1; omega))) _ _ (.inr (by show w.heap.size ≤ w.heap.size + 1 + 1; omega))
  refine ⟨f.mono (by simp), .inl ⟨List.eq_nil_of_length_eq_zero h0, rfl, fun x hx => ?_⟩⟩
  obtain ⟨q7, q8, hr, _⟩ := hR.row x hx
  exact f.cell (hr 12 (by omega)) (by simp)

set_option maxHeartbeats 4000000 in
set_option maxRecDepth 100000 in
theorem side4 (F : Interp) (w : World) (h N cap : Nat) (s : Int) (pass has : Nat → Bool) (T : Nat → Int) (d : Nat → Nat) (dir : Nat → ByteArray) (hF : F.answers w.tape) (hN : N ≤ 1024) (hs : s = 0 ∨ s = 1 ∨ s = 2)
    (hR : RowsOk w h N s pass has T d dir (fun _ => .slice Option.none 0 0)) :
    Calls Ybaf.prog 4 #[.slice (some ⟨h, 0, none⟩) N cap, .int .i64 s] w (SidePost w h N s pass has T dir) := by
  obtain ⟨i0, hi, hz0, hz1, hz2⟩ := info_parts sinfo3
  have HR : Hid _ := hR
  have HF : Hid _ := hF
  have HS : Hid _ := hs
  clear hR hF hs
  go_enter Ybaf.func4, Ybaf.ntmps4
  go_wp2
  go_loopw [20] (fun iv wr => ∃ (k : Nat) (v : Value), iv = .int .i64 (k : Int) ∧ k ≤ N ∧ Hid (L1 w h N cap s pass has k wr v)) (fun iv _ => N - (intOf iv).toNat)
  case atStart => exact ⟨0, _, rfl, Nat.zero_le _, L1.start⟩
  case round =>
    obtain ⟨k, v, rfl, hkN, hL⟩ := hrel
    by_cases hlt : k < N
    · have hltI : (k : Int) < (N : Int) := by omega
      obtain ⟨q7, q8, hrow, hq⟩ := HR.out.row k hlt
      have hfr := (W1.fr w h N cap s)
      have hrow1 : RowIn wr h k _ := hL.out.2.2.row (hfr.row hrow (by simp)) (by have := HR.out.lt; show ¬ h = _; omega)
      have c0 : wr.cell? ⟨h, k * 13, none⟩ = some (.string (dir k)) := hrow1 0 (by omega)
      have c1 : wr.cell? ⟨h, k * 13 + 1, none⟩ = some (.string ⟨#[]⟩) := hrow1 1 (by omega)
      have c2 : wr.cell? ⟨h, k * 13 + 2, none⟩ = some (.string ⟨#[]⟩) := hrow1 2 (by omega)
      have c3 : wr.cell? ⟨h, k * 13 + 3, none⟩ = some (.pointer Option.none) := hrow1 3 (by omega)
      have c4 : wr.cell? ⟨h, k * 13 + 4, none⟩ = some (.string (resOf (pass k))) := hrow1 4 (by omega)
      have c5 : wr.cell? ⟨h, k * 13 + 5, none⟩ = some (.string ⟨#[]⟩) := hrow1 5 (by omega)
      have c6 : wr.cell? ⟨h, k * 13 + 6, none⟩ = some (.bool false) := hrow1 6 (by omega)
      have c7 : wr.cell? ⟨h, k * 13 + 7, none⟩ = some (.pointer q7) := hrow1 7 (by omega)
      have c8 : wr.cell? ⟨h, k * 13 + 8, none⟩ = some (.pointer q8) := hrow1 8 (by omega)
      have c9 : wr.cell? ⟨h, k * 13 + 9, none⟩ = some (.int .i64 ((k + 1 : Nat) : Int)) := hrow1 9 (by omega)
      have c10 : wr.cell? ⟨h, k * 13 + 10, none⟩ = some (.string ⟨#[]⟩) := hrow1 10 (by omega)
      have c11 : wr.cell? ⟨h, k * 13 + 11, none⟩ = some (.string ⟨#[]⟩) := hrow1 11 (by omega)
      have c12 : wr.cell? ⟨h, k * 13 + 12, none⟩ = some (.slice Option.none 0 0) := hrow1 12 (by omega)
      have e9 : ((k + 1 : Nat) : Int) = (k : Int) + 1 := by omega
      rw [e9] at c9
      have HQ : Hid _ := hq
      have HROW : Hid _ := hrow1
      clear hrow hrow1 hq e9 hfr
      cases hp : pass k
      · rw [hp] at c4
        have c4' : wr.cell? ⟨h, k * 13 + 4, none⟩ = some (.string ⟨#[102, 97, 105, 108]⟩) := c4
        clear c4
        have HP : Hid _ := hp
        clear hp
        go_wp2
        go_roundw
        case rel => exact ⟨k + 1, v, by go_num, by omega, hL.out.drop (by rw [HP.out]; rfl) (below_alloc1 _ _)⟩
        case measure => simp [intOf]; omega
      · rw [hp] at c4
        have c4' : wr.cell? ⟨h, k * 13 + 4, none⟩ = some (.string ⟨#[112, 97, 115, 115]⟩) := c4
        clear c4
        have HP : Hid _ := hp
        clear hp
        have hsz := hL.out.lt
        have hsz3 : w.heap.size + 1 + 1 + 1 < wr.heap.size := by omega
        have cf : wr.cell? ⟨w.heap.size + 1 + 1 + 1, 0, none⟩ = some (.func (.func 7) #[] #[.pointer (some ⟨w.heap.size + 1, 0, none⟩)]) := hL.out.2.2.cell (cell_of_one (W1.b3 w h N cap s)) (by show ¬ w.heap.size + 1 + 1 + 1 = w.heap.size + 4; omega)
        have HSD : Hid (wr.cell? ⟨w.heap.size + 1, 0, none⟩ = some (.int .i64 s)) := hL.out.2.2.cell (cell_of_one (W1.b1 w h N cap s)) (by show ¬ w.heap.size + 1 = w.heap.size + 4; omega)
        have hcall := fun o => total7 (wr.alloc o) #[.string (dir k), .string ⟨#[]⟩, .string ⟨#[]⟩, .pointer Option.none, .string ⟨#[112, 97, 115, 115]⟩, .string ⟨#[]⟩, .bool false, .pointer q7, .pointer q8, .int .i64 ((k : Int) + 1), .string ⟨#[]⟩, .string ⟨#[]⟩, .slice Option.none 0 0] (w.heap.size + 1) s q7 q8 ((World.grownBy_alloc wr o Option.none).cell HSD.out (by simp)) rfl rfl rfl
        have HCALL : Hid _ := hcall
        clear hcall
        go_wp2_with fail
        refine (HCALL.out _).mono ?_
        rw [HQ.out]
        rintro e w1 ⟨rfl, hb1⟩
        have hb2 : Below wr.heap.size wr w1 := (below_alloc1 wr _).trans (hb1.mono (by simp))
        have HB2 : Hid _ := hb2
        have hsz1 := Nat.le_trans hsz hb2.size
        clear c0 c1 c2 c3 c4' c5 c6 c7 c8 c9 c10 c11 c12 HCALL
        cases hh : has k
        · have HH : Hid _ := hh
          clear hh hb1 hb2
          simp only [Bool.false_eq_true, if_false]
          go_wp2
          go_roundw
          case rel => exact ⟨k + 1, v, by go_num, by omega, hL.out.drop (by rw [HH.out]; simp) HB2.out⟩
          case measure => simp [intOf]; omega
        · have HH : Hid _ := hh
          have cv : w1.cell? ⟨w.heap.size + 1 + 1 + 1 + 1, 0, none⟩ = some v := (hb2.cell (by show w.heap.size + 1 + 1 + 1 + 1 < _; omega)).trans (cell_of_one hL.out.1)
          have hown1 : w1.ownsRow (w.heap.size + 5) 3 1 v (rk pass has k).length (nats (rk pass has k)) := hL.out.2.1.kept (row := Option.none) ⟨hb2.os, hb2.tape, hb2.output, hb2.size, fun i hi _ => hb2.block i hi⟩ (by cases h : v.ownBlock <;> simp)
          have hlen := rk_len pass has k
          have hsz4 : w.heap.size + 1 + 1 + 1 + 1 < w1.heap.size := by omega
          have HBLK : Hid (w1.heap[w.heap.size + 4]? = some (.cells #[v] 48 (0, 0))) := (hb2.block _ (by omega)).trans hL.out.1
          clear hh hb1 hb2
          simp only [if_true]
          go_wp2_with (at_builtin; refine wpList_append_lies _ rfl (.tmp 35) (.tmp 37) 48 rfl (w.heap.size + 5) 3 i0 (.int .i64 0) 1 8 Ybaf.underlying48 hi hz0 hz1 hz2 rfl (by decide) v _ _ rfl (hown1.alloc _) ⟨w1.heap.size, 0, none⟩ 1 1 [.int .i64 (k : Int)] rfl rfl (one_cell _ _ _) (by simp [Value.oneCell']) (by decide) (by unfold maxLen; omega) (by omega) (by simp; omega) _ rfl ?_)
          intro g c w2 hown2 hgrow2 hat hglt
          have hg5 : w.heap.size + 5 ≤ g := (hown2.lt g rfl).1
          have hvb : some (w.heap.size + 4) ≠ v.ownBlock := by
            intro e
            have := (hL.out.2.1.lt _ e.symm).1
            omega
          have hb5 : w2.heap[w.heap.size + 4]? = some (.cells #[v] 48 (0, 0)) := by
            rw [hgrow2.block _ (by simp; omega) hvb, Below.heap_alloc _ _ _ (by omega)]
            exact HBLK.out
          have ck : w2.cell? ⟨w.heap.size + 1 + 1 + 1 + 1, 0, none⟩ = some v := cell_of_one hb5
          have fk : w2.frozen? ⟨w.heap.size + 1 + 1 + 1 + 1, 0, none⟩ = false := free_of_one hb5
          have HL2 : Hid _ := hL.out.keep (by rw [HP.out, HH.out]; rfl) (HB2.out.trans ((below_alloc1 w1 (.cells #[.int .i64 (k : Int)] 3)).mono HB2.out.size)) hown2 hgrow2 hg5
          clear hown2 hgrow2 hown1 hb5 hvb hat hg5 cv
          go_wp2
          go_roundw
          case rel => exact ⟨k + 1, _, by go_num, by omega, HL2⟩
          case measure => simp [intOf]; omega
    · have hk : k = N := by omega
      subst hk
      have hltI : (k : Int) ≤ (k : Int) := by omega
      have cv : wr.cell? ⟨w.heap.size + 1 + 1 + 1 + 1, 0, none⟩ = some v := cell_of_one hL.out.1
      have hb2 : wr.heap[w.heap.size + 2]? = some (.cells #[.int .i64 0, .slice Option.none 0 0] 37 (0, 0)) := (hL.out.2.2.block _ (by rw [W1.size]; omega) (by show ¬ w.heap.size + 2 = w.heap.size + 4; omega)).trans (W1.b2 w h k cap s)
      have hlen := rk_len pass has k
      obtain ⟨n, HN⟩ : ∃ n, Hid ((rk pass has k).length = n) := ⟨_, rfl⟩
      have hown := hL.out.2.1
      rw [HN.out] at hown hlen
      rcases Nat.eq_zero_or_pos n with hn0 | hn0
      · subst hn0
        have r0 : wr.cell? ⟨w.heap.size + 1 + 1, 0, none⟩ = some (.int .i64 0) := by
          show wr.cell? ⟨w.heap.size + 2, 0, none⟩ = _
          simp [World.cell?, hb2]
        have r1 : wr.cell? ⟨w.heap.size + 1 + 1, 1, none⟩ = some (.slice Option.none 0 0) := by
          show wr.cell? ⟨w.heap.size + 2, 1, none⟩ = _
          simp [World.cell?, hb2]
        have f0 : wr.frozen? ⟨w.heap.size + 1 + 1, 0, none⟩ = false := by
          show wr.frozen? ⟨w.heap.size + 2, 0, none⟩ = _
          simp [World.frozen?, hb2]
        have f1 : wr.frozen? ⟨w.heap.size + 1 + 1, 1, none⟩ = false := by
          show wr.frozen? ⟨w.heap.size + 2, 1, none⟩ = _
          simp [World.frozen?, hb2]
        have hv : ∃ a c, v = .slice a 0 c := by
          rcases hown.2 with ⟨rfl, _⟩ | ⟨g, c, cur, rfl, _⟩
          · exact ⟨_, _, rfl⟩
          · exact ⟨_, _, rfl⟩
        obtain ⟨a, c, rfl⟩ := hv
        clear hown hb2
        go_wp2
        have m1 : (wr.setCell ⟨w.heap.size + 1 + 1, 0, none⟩ (.int .i64 0)).cell? ⟨w.heap.size + 1 + 1, 1, none⟩ = some (.slice Option.none 0 0) := (World.cell?_setCell_other _ _ _ _ (by simp)).trans r1
        refine bodyPost_ret (ret4 _ rfl rfl ((World.cell?_setCell_other _ _ _ _ (by simp)).trans (World.cell?_setCell_same _ _ _ r0)) (World.cell?_setCell_same _ _ _ m1)) rfl ?_
        exact empty_post hL.out HR.out HN.out _ _
      · obtain ⟨g, c, rfl, hg5, hgl⟩ := hown.form hn0
        have hmem : ∀ x ∈ rk pass has k, x < k ∧ has x = true := fun x hx => ⟨(rk_mem hx).1, (rk_mem hx).2.2⟩
        have hrow : RowAt wr wr g n c (rk pass has k) := ⟨own_zero hown, ⟨rfl, rfl, rfl, Nat.le_refl _, fun _ _ _ => rfl⟩⟩
        have hsort := sort8 wr wr g n c _ _ T _ (rk pass has k) (by omega) (rk_inc pass has k) HN.out hmem (cmp_ok hL.out.2.2 HR.out hg5) hrow
        have HMEM : Hid _ := hmem
        have hnz : ((n : Int) == 0) = false := by simp; omega
        clear hb2 hmem hrow
        go_wp2_with fail
        refine hsort.mono ?_
        rintro e w3 ⟨rfl, S, hperm, hsorted, hrow⟩
        clear hsort
        have hfr3 : Fr (fun i => i = w.heap.size + 4) (W1 w h k cap s) w3 := hL.out.2.2.grown hrow.2 (fun i e => by
          simp at e
          subst e
          right
          rw [W1.size]
          exact hg5)
        have HENV : Hid (Env4 w3 w.heap.size h k cap s pass has T d dir (fun _ => .slice Option.none 0 0)) := env_of hfr3 HR.out
        have cv3 : w3.cell? ⟨w.heap.size + 1 + 1 + 1 + 1, 0, none⟩ = some (.slice (some ⟨g, 0, none⟩) n c) := by
          refine (World.cell?_of_block (w := wr) ?_).trans cv
          exact hrow.2.block _ (by show w.heap.size + 1 + 1 + 1 + 1 < _; have := hL.out.lt; omega) (by intro e; simp at e; omega)
        have hlt3 : w.heap.size + 1 + 1 + 1 + 1 < w3.heap.size := by have := hfr3.size; rw [W1.size] at this; omega
        have hSl := hrow.len
        obtain ⟨m, hm⟩ : ∃ m, n = m + 1 := ⟨n - 1, by omega⟩
        obtain ⟨z, HZ⟩ : ∃ z, Hid (S.getD m 0 = z) := ⟨_, rfl⟩
        have hSm : ∀ i, i < n → S.getD i 0 ∈ S := fun i hi => by
          rw [List.getD_eq_getElem?_getD, List.getElem?_eq_getElem (by omega)]
          exact List.getElem_mem _
        have hmem : ∀ x ∈ S, x < k ∧ has x = true := fun x hx => HMEM.out x (hperm.mem_iff.1 hx)
        have hzz := hmem z (by rw [← HZ.out]; exact hSm m (by omega))
        have HIDX : Hid (∀ o, o = Obj.cells #[.int .i64 (n : Int)] 3 → Calls Ybaf.prog 11 #[.slice (some ⟨g, 0, none⟩) n c, .func (.func 12) #[] #[.pointer (some ⟨w.heap.size + 1 + 1 + 1, 0, none⟩), .pointer (some ⟨w.heap.size, 0, none⟩), .pointer (some ⟨w.heap.size + 1 + 1 + 1 + 1, 0, none⟩), .pointer (some ⟨w3.heap.size, 0, none⟩)]] (w3.alloc o) fun e w' => ∃ k : Nat, e = .returned (.int .i64 (k : Int)) ∧ k < n ∧ Hid (T (S.getD k 0) = T z ∧ ∀ i, i < k → T (S.getD i 0) ≠ T z) ∧ Below (w3.alloc o).heap.size (w3.alloc o) w') := by
          intro o ho
          subst ho
          have ha := World.grownBy_alloc w3 (.cells #[.int .i64 (n : Int)] 3) Option.none
          have hb := below_alloc1 w3 (.cells #[.int .i64 (n : Int)] 3)
          refine index11 _ g n c _ _ _ _ S T (T z) (by omega) hSl (fun i hi => ha.cell (hrow.cell i hi) (by simp)) ⟨m, by omega, by rw [HZ.out]⟩ ?_
          intro w' x b hx
          refine same_ok (HENV.out.below hb) (m := m) (ha.cell cv3 (by simp)) ?_ (ha.cell (by have := hrow.cell m (by omega); rw [HZ.out] at this; exact this) (by simp)) hm (by omega) hzz.1 hzz.2 w' x b (hmem x hx)
          simp
        have HM : Hid _ := hm
        have HFR : Hid _ := hfr3
        have HL1 : Hid _ := hL
        clear hL hfr3 hown hm hzz
        go_wp2_with fail
        with_reducible refine (HIDX.out _ rfl).mono ?_
        rintro e w5 ⟨k0, rfl, hk0, hfst, hb5⟩
        have hb35 : Below w3.heap.size w3 w5 := (below_alloc1 w3 _).trans (hb5.mono (by simp))
        have HENV5 : Hid (Env4 w5 w.heap.size h k cap s pass has T d dir (fun _ => .slice Option.none 0 0)) := HENV.out.below hb35
        have HROW5 : Hid (RowAt wr w5 g n c S) := hrow.below hb35
        have cs5 : w5.cell? ⟨w.heap.size + 1, 0, none⟩ = some (.int .i64 s) := HENV5.out.c1
        have hlt5 : w3.heap.size < w5.heap.size := by have := hb5.size; simp at this; omega
        have HB35 : Hid _ := hb35
        have c10 : w5.cell? ⟨w3.heap.size, 0, none⟩ = some (.int .i64 (n : Int)) := (hb5.cell (by simp)).trans (by simp)
        have c7 : w5.cell? ⟨w.heap.size + 1 + 1 + 1 + 1, 0, none⟩ = some (.slice (some ⟨g, 0, none⟩) n c) := (hb35.cell (by exact hlt3)).trans cv3
        have hlt6 : w.heap.size + 1 + 1 + 1 + 1 < w5.heap.size := by omega
        have hlt7 : w.heap.size + 1 < w5.heap.size := by omega
        clear hb35 hb5 hrow cv3 cv HIDX
        go_wp2
        obtain ⟨w6, hw6⟩ : ∃ w6, w6 = w5.alloc (.cells #[.int .i64 s, .slice Option.none 0 0] 37) := ⟨_, rfl⟩
        rw [← hw6]
        have hb56 : Below w5.heap.size w5 w6 := by rw [hw6]; exact below_alloc1 _ _
        have hsz6 : w6.heap.size = w5.heap.size + 1 := by rw [hw6]; simp
        have HP12 : Hid (w6.heap[w5.heap.size]? = some (.cells #[.int .i64 s, .slice Option.none 0 0] 37 (0, 0))) := by rw [hw6]; exact heap_alloc_new _ _
        have HB56 : Hid _ := hb56
        have HSZ6 : Hid _ := hsz6
        obtain ⟨mid, hmid⟩ : ∃ mid : Nat, mid = (n - 1) / 2 := ⟨_, rfl⟩
        have HMID : Hid _ := hmid
        obtain ⟨r0, HR0⟩ : ∃ r0, Hid (S.getD 0 0 = r0) := ⟨_, rfl⟩
        obtain ⟨r1, HR1⟩ : ∃ r1, Hid (S.getD mid 0 = r1) := ⟨_, rfl⟩
        obtain ⟨r2, HR2⟩ : ∃ r2, Hid (S.getD k0 0 = r2) := ⟨_, rfl⟩
        have hgl6 : ∀ i, i < n → w6.cell? ⟨g, i, none⟩ = some (.int .i64 ((S.getD i 0 : Nat) : Int)) := fun i hi => (hb56.cell (World.block_lt_of_cell? w5 _ (HROW5.out.cell i hi))).trans (HROW5.out.cell i hi)
        have d0 : w6.cell? ⟨g, 0, none⟩ = some (.int .i64 (r0 : Int)) := by rw [← HR0.out]; exact hgl6 0 hn0
        have d1 : w6.cell? ⟨g, mid, none⟩ = some (.int .i64 (r1 : Int)) := by rw [← HR1.out]; exact hgl6 mid (by omega)
        have d2 : w6.cell? ⟨g, k0, none⟩ = some (.int .i64 (r2 : Int)) := by rw [← HR2.out]; exact hgl6 k0 hk0
        have e7 : w6.cell? ⟨w.heap.size + 1 + 1 + 1 + 1, 0, none⟩ = some (.slice (some ⟨g, 0, none⟩) n c) := (hb56.cell (by exact hlt6)).trans c7
        have e10 : w6.cell? ⟨w3.heap.size, 0, none⟩ = some (.int .i64 (n : Int)) := (hb56.cell (by exact hlt5)).trans c10
        have k1 : ∀ w', Below w6.heap.size w6 w' → w'.cell? ⟨g, 0, none⟩ = some (.int .i64 (r0 : Int)) := fun w' k => (k.cell (World.block_lt_of_cell? _ _ d0)).trans d0
        have k2 : ∀ w', Below w6.heap.size w6 w' → w'.cell? ⟨g, mid, none⟩ = some (.int .i64 (r1 : Int)) := fun w' k => (k.cell (World.block_lt_of_cell? _ _ d1)).trans d1
        have k3 : ∀ w', Below w6.heap.size w6 w' → w'.cell? ⟨g, k0, none⟩ = some (.int .i64 (r2 : Int)) := fun w' k => (k.cell (World.block_lt_of_cell? _ _ d2)).trans d2
        have k4 : ∀ w', Below w6.heap.size w6 w' → w'.cell? ⟨w.heap.size + 1 + 1 + 1 + 1, 0, none⟩ = some (.slice (some ⟨g, 0, none⟩) n c) := fun w' k => (k.cell (World.block_lt_of_cell? _ _ e7)).trans e7
        have k5 : ∀ w', Below w6.heap.size w6 w' → w'.cell? ⟨w3.heap.size, 0, none⟩ = some (.int .i64 (n : Int)) := fun w' k => (k.cell (World.block_lt_of_cell? _ _ e10)).trans e10
        have hm := HM.out
        have b1 : IntKind.i64.wrap ((n : Int) - 1) = (m : Int) := by rw [IntKind.wrap_i64]; omega
        have b2 : (m : Int) / 2 = (mid : Int) := by omega
        have b3 : (m : Int).tdiv 2 = (mid : Int) := by rw [Int.tdiv_eq_ediv_of_nonneg (by omega)]; omega
        have b4 : (0 : Int) ≤ (mid : Int) := by omega
        have b5 : (mid : Int) < (n : Int) := by omega
        have b6 : (0 : Int) ≤ (k0 : Int) := by omega
        have b7 : (k0 : Int) < (n : Int) := by omega
        have b8 : (0 : Int) < (n : Int) := by omega
        have b9 : (0 : Int) ≤ (m : Int) := by omega
        have b10 : IntKind.i64.wrap (mid : Int) = (mid : Int) := by rw [IntKind.wrap_i64]; omega
        have b11 : ((n : Int) - 1) / 2 = (mid : Int) := by omega
        have b12 : ((n : Int) - 1).tdiv 2 = (mid : Int) := by rw [Int.tdiv_eq_ediv_of_nonneg (by omega)]; omega
        clear d0 d1 d2 e7 e10 hgl6 hmid hm hw6 hb56 hsz6 c7 c10
        go_region_held3 (fun w' => Below w6.heap.size w6 w') (first | assumption | exact Below.refl _ _ | exact (Below.refl _ _).drew | exact Below.alloc ‹_› (Below.size ‹_›) _) (fail)
        obtain ⟨W2, hW2⟩ : ∃ W2, W2 = (w6.alloc (.cells (tab r0 r1 r2) 54)).drew := ⟨_, rfl⟩
        have hb62 : Below w6.heap.size w6 W2 := by rw [hW2]; exact (below_alloc1 _ _).drew
        have hT2 : W2.heap[w6.heap.size]? = some (.cells (tab r0 r1 r2) 54 (0, 0)) := by rw [hW2]; exact heap_alloc_new w6 _
        have HL2 : Hid (L2 W2 W2 h k w5.heap.size s pass has T d dir (fun _ => .slice Option.none 0 0) (labs s (pick r0 r1 r2) 0) (.slice Option.none 0 0) [] 0) := L2.begin HR.out HENV5.out (by omega) HB56.out HP12.out hb62
        have HENV2 : Hid (Env4 W2 w.heap.size h k cap s pass has T d dir (fun _ => .slice Option.none 0 0)) := (HENV5.out.below HB56.out).below hb62
        have HT2 : Hid _ := hT2
        have hszA : w.heap.size + 5 ≤ w5.heap.size := by omega
        have hszB : w5.heap.size < w6.heap.size := by have := HSZ6.out; omega
        have hszC : w6.heap.size < W2.heap.size := lt_of_block hT2
        have HFR2 : Hid (Fr (fun _ => False) w W2) := by
          have f1 : Fr (fun _ => False) w w3 := Fr.split (W1.fr w h k cap s) (HFR.out.mono (fun i hi => .inr (by omega)))
          exact ((f1.below HB35.out).below HB56.out).below hb62
        have HBK2 : Hid (W2.heap[w.heap.size + 2]? = some (.cells #[.int .i64 0, .slice Option.none 0 0] 37 (0, 0))) := by
          have e1 : w3.heap[w.heap.size + 2]? = some (.cells #[.int .i64 0, .slice Option.none 0 0] 37 (0, 0)) := (HFR.out.block _ (by rw [W1.size]; omega) (by show ¬ w.heap.size + 2 = w.heap.size + 4; omega)).trans (W1.b2 w h k cap s)
          have b32 : Below w3.heap.size w3 W2 := HB35.out.trans ((HB56.out.trans (hb62.mono HB56.out.size)).mono HB35.out.size)
          exact (b32.block _ (lt_of_block e1)).trans e1
        have HW2 : Hid _ := hW2
        have hW2' : (w6.alloc (.cells #[.string ⟨#[109, 105, 110]⟩, .string ⟨#[109, 105, 110, 105, 109, 117, 109]⟩, .int .i64 (r0 : Int), .string ⟨#[109, 101, 100, 105, 97, 110]⟩, .string ⟨#[109, 101, 100, 105, 97, 110]⟩, .int .i64 (r1 : Int), .string ⟨#[109, 97, 120]⟩, .string ⟨#[109, 97, 120, 105, 109, 117, 109]⟩, .int .i64 (r2 : Int)] 54)).drew = W2 := hW2.symm
        rw [hW2']
        clear hW2 hW2' hT2 hb62 k1 k2 k3 k4 k5 b1 b2 b3 b4 b5 b6 b7 b8 b9 b10 b11 b12 hnz
        go_wp2
        have HPK : Hid (∀ j, pick r0 r1 r2 j < k ∧ has (pick r0 r1 r2 j) = true) := by
          intro j
          unfold pick
          split
          · rw [← HR0.out]; exact hmem _ (hSm 0 hn0)
          · split
            · rw [← HR1.out]; exact hmem _ (hSm mid (by have := HMID.out; omega))
            · rw [← HR2.out]; exact hmem _ (hSm k0 hk0)
        have HMEM2 : Hid _ := hmem
        have HSM2 : Hid _ := hSm
        clear hmem hSm
        generalize w5.heap.size = p12 at *
        generalize w6.heap.size = p9 at *
        obtain ⟨i9, hi9, hz90, hz91, hz92⟩ := info_parts sinfo9
        obtain ⟨i44, hi44, hz440, hz441, hz442⟩ := info_parts sinfo44z
        clear hlt6 hlt7 hlt5 hlt3 cs5
        go_loopw [72] (fun jv wr => ∃ (j : Nat) (st : Nat → Value) (v : Value) (cs : List Value), jv = .int .i64 (j : Int) ∧ j ≤ 3 ∧ Hid (L2 W2 wr h k p12 s pass has T d dir st (labs s (pick r0 r1 r2) j) v cs j) ∧ Hid (StatL s dir (pick r0 r1 r2) cs j)) (fun jv _ => 3 - (intOf jv).toNat)
        case atStart => exact ⟨0, _, _, _, rfl, by omega, HL2, StatL.zero _ _ _⟩
        case round =>
          obtain ⟨j, st, v, cs, rfl, hj3, hl, hst⟩ := hrel
          by_cases hjlt : j < 3
          · have hjI : (j : Int) < 3 := by omega
            obtain ⟨x, hx⟩ : ∃ x, x = pick r0 r1 r2 j := ⟨_, rfl⟩
            have hT9 : wr.heap[p9]? = some (.cells (tab r0 r1 r2) 54 (0, 0)) := (hl.out.fr.block _ hszC (by show ¬ (p9 = h ∨ p9 = p12); have := HR.out.lt; omega)).trans HT2.out
            obtain ⟨t0, t1, t2⟩ := tab_at hT9 j hjlt
            rw [← hx] at t2
            have HX : Hid _ := hx
            have hfw : Fr (fun i => i = h ∨ i = p12) W2 wr := hl.out.fr
            have cH0 : wr.cell? ⟨w.heap.size, 0, none⟩ = some (.slice (some ⟨h, 0, none⟩) k cap) := hfw.cell HENV2.out.c0 (by show ¬ (w.heap.size = h ∨ w.heap.size = p12); have := HR.out.lt; omega)
            have cH1 : wr.cell? ⟨w.heap.size + 1, 0, none⟩ = some (.int .i64 s) := hfw.cell HENV2.out.c1 (by show ¬ (w.heap.size + 1 = h ∨ w.heap.size + 1 = p12); have := HR.out.lt; omega)
            have cH3 : wr.cell? ⟨w.heap.size + 1 + 1 + 1, 0, none⟩ = some (.func (.func 7) #[] #[.pointer (some ⟨w.heap.size + 1, 0, none⟩)]) := hfw.cell HENV2.out.c3 (by show ¬ (w.heap.size + 1 + 1 + 1 = h ∨ w.heap.size + 1 + 1 + 1 = p12); have := HR.out.lt; omega)
            obtain ⟨wa, hwa⟩ : ∃ wa, wa = wr.alloc (.cells #[.string (nm j), .string (lb j), .int .i64 (x : Int)] 54) := ⟨_, rfl⟩
            have hba : Below wr.heap.size wr wa := by rw [hwa]; exact below_alloc1 _ _
            have hA14 : wa.heap[wr.heap.size]? = some (.cells #[.string (nm j), .string (lb j), .int .i64 (x : Int)] 54 (0, 0)) := by rw [hwa]; exact heap_alloc_new wr _
            clear hx hfw hT9
            go_wp2
            rw [← hwa]
            have k1 : ∀ w', Below wa.heap.size wa w' → w'.cell? ⟨w.heap.size + 1, 0, none⟩ = some (.int .i64 s) := by
              have e : wa.cell? ⟨w.heap.size + 1, 0, none⟩ = some (.int .i64 s) := (hba.cell (World.block_lt_of_cell? _ _ cH1)).trans cH1
              exact fun w' k => (k.cell (World.block_lt_of_cell? _ _ e)).trans e
            have k2 : ∀ w', Below wa.heap.size wa w' → w'.cell? ⟨wr.heap.size, 0, none⟩ = some (.string (nm j)) := by
              have e : wa.cell? ⟨wr.heap.size, 0, none⟩ = some (.string (nm j)) := cell_of_row wa _ 0 _ 54 (0, 0) hA14
              exact fun w' k => (k.cell (World.block_lt_of_cell? _ _ e)).trans e
            have hn1 : (sideName s).size ≤ 7 := by unfold sideName; split; · decide
                                                   split <;> decide
            have hn2 : (nm j).size ≤ 6 := by unfold nm; split; · decide
                                             split <;> decide
            have a1 : (9223372036854775807 < (sideName s).size + 1) = False := eq_false (by omega)
            have a2 : (9223372036854775806 < (sideName s).size) = False := eq_false (by omega)
            have a3 : (9223372036854775807 < (sideName s).size + 1 + (nm j).size) = False := eq_false (by omega)
            have a4 : (9223372036854775807 ≤ (sideName s).size) = False := eq_false (by omega)
            clear hwa
            go_region_held3 (fun w' => Below wa.heap.size wa w') (first | assumption | exact Below.refl _ _ | exact (Below.refl _ _).drew) (first | (go_at_call 13; with_reducible refine (name13 _ s HS.out).mono ?_; rintro e w1 ⟨rfl, rfl⟩))
            clear k1 k2 a1 a2 a3 a4
            obtain ⟨wb, hwb⟩ : ∃ wb, wb = wa.drew := ⟨_, rfl⟩
            rw [← hwb]
            have hbb : Below wr.heap.size wr wb := by rw [hwb]; exact hba.drew
            have hB14 : wb.heap[wr.heap.size]? = some (.cells #[.string (nm j), .string (lb j), .int .i64 (x : Int)] 54 (0, 0)) := by rw [hwb]; exact hA14
            clear hwb hba hA14 t0 t1 t2
            have HLB : Hid (L2 W2 wb h k p12 s pass has T d dir st (labs s (pick r0 r1 r2) j) v cs j) := hl.out.below hbb
            have hxk := HPK.out j
            rw [← HX.out] at hxk
            have HXK : Hid _ := hxk
            have hxlt : x < k := hxk.1
            have hst12 : wb.cell? ⟨h, x * 13 + 12, none⟩ = some (st x) := by
              obtain ⟨q7, q8, hr, _⟩ := HLB.out.rows.row x hxk.1
              exact hr 12 (by omega)
            have hhl : h < wb.heap.size := HLB.out.rows.lt
            have cB0 : wb.cell? ⟨w.heap.size, 0, none⟩ = some (.slice (some ⟨h, 0, none⟩) k cap) := (hbb.cell (World.block_lt_of_cell? _ _ cH0)).trans cH0
            have cB2 : wb.cell? ⟨wr.heap.size, 2, none⟩ = some (.int .i64 (x : Int)) := cell_of_row wb _ 2 _ 54 (0, 0) hB14
            have hnb : ∀ i, i < W2.heap.size ∨ wr.heap.size ≤ i → (st x).ownBlock ≠ some i := by
              intro i hi e
              have := (hl.out.own x hxk.1).lt i e
              omega
            have hwrh : wr.heap.size ≠ h := by have := hl.out.rows.lt; omega
            have k1 : ∀ w', Fr (fun i => (st x).ownBlock = some i) wb w' → w'.cell? ⟨w.heap.size, 0, none⟩ = some (.slice (some ⟨h, 0, none⟩) k cap) := fun w' f => f.cell cB0 (hnb _ (.inl (by show w.heap.size < _; omega)))
            have k2 : ∀ w', Fr (fun i => (st x).ownBlock = some i) wb w' → w'.cell? ⟨wr.heap.size, 2, none⟩ = some (.int .i64 (x : Int)) := fun w' f => f.cell cB2 (hnb _ (.inr (Nat.le_refl _)))
            have k3 : ∀ w', Fr (fun i => (st x).ownBlock = some i) wb w' → w'.cell? ⟨h, x * 13 + 12, none⟩ = some (st x) := fun w' f => f.cell hst12 (hnb _ (.inl hl.out.hlt))
            have hownb := HLB.out.own x hxk.1
            have hll := labs_len s (pick r0 r1 r2) j x
            have hszb : W2.heap.size ≤ wb.heap.size := HLB.out.fr.size
            have b1 : (0 : Int) ≤ (x : Int) := by omega
            have b2 : (x : Int) < (k : Int) := by omega
            clear cB0 cB2
            have HNB : Hid _ := hnb
            go_wp2
            refine region_z (fun w' => Fr (fun i => (st x).ownBlock = some i) wb w') 14 (by kernel_rfl) (Fr.refl _ _).drew (fun hS0 => ?_)
            refine take_z (i := 0) (v := .slice (some ⟨h, 0, none⟩) k cap) rfl (by kernel_rfl) (by kernel_rfl) (by kernel_rfl) (by kernel_rfl) (fun _ _ _ h => h) (by rfl) hS0 (fun w' hSw => by go_simp) ?_
            simp only [Act.put, List.setIfInBounds_toArray, List.set_cons_zero, List.set_cons_succ]
            refine take_z (i := 1) (v := .pointer (some ⟨wr.heap.size, 2, none⟩)) rfl (by kernel_rfl) (by kernel_rfl) (by kernel_rfl) (by kernel_rfl) (fun _ _ _ h => h) (by rfl) hS0 (fun w' hSw => by go_simp) ?_
            simp only [Act.put, List.setIfInBounds_toArray, List.set_cons_zero, List.set_cons_succ]
            refine take_z (i := 2) (v := .int .i64 (x : Int)) rfl (by kernel_rfl) (by kernel_rfl) (by kernel_rfl) (by kernel_rfl) (fun _ _ _ h => h) (by rfl) hS0 (fun w' hSw => by go_simp) ?_
            simp only [Act.put, List.setIfInBounds_toArray, List.set_cons_zero, List.set_cons_succ]
            refine take_z (i := 3) (v := .slice (some ⟨h, 0, none⟩) k cap) rfl (by kernel_rfl) (by kernel_rfl) (by kernel_rfl) (by kernel_rfl) (fun _ _ _ h => h) (by rfl) hS0 (fun w' hSw => by go_simp) ?_
            simp only [Act.put, List.setIfInBounds_toArray, List.set_cons_zero, List.set_cons_succ]
            refine take_z (i := 4) (v := .pointer (some ⟨wr.heap.size, 2, none⟩)) rfl (by kernel_rfl) (by kernel_rfl) (by kernel_rfl) (by kernel_rfl) (fun _ _ _ h => h) (by rfl) hS0 (fun w' hSw => by go_simp) ?_
            simp only [Act.put, List.setIfInBounds_toArray, List.set_cons_zero, List.set_cons_succ]
            refine take_z (i := 5) (v := .int .i64 (x : Int)) rfl (by kernel_rfl) (by kernel_rfl) (by kernel_rfl) (by kernel_rfl) (fun _ _ _ h => h) (by rfl) hS0 (fun w' hSw => by go_simp) ?_
            simp only [Act.put, List.setIfInBounds_toArray, List.set_cons_zero, List.set_cons_succ]
            refine take_z (i := 6) (v := .pointer (some ⟨h, x * 13, none⟩)) rfl (by kernel_rfl) (by kernel_rfl) (by kernel_rfl) (by kernel_rfl) (fun _ _ _ h => h) (by rfl) hS0 (fun w' hSw => by go_simp) ?_
            simp only [Act.put, List.setIfInBounds_toArray, List.set_cons_zero, List.set_cons_succ]
            refine take_z (i := 7) (v := .pointer (some ⟨h, x * 13 + 12, none⟩)) rfl (by kernel_rfl) (by kernel_rfl) (by kernel_rfl) (by kernel_rfl) (fun _ _ _ h => h) (by rfl) hS0 (fun w' hSw => by go_simp) ?_
            simp only [Act.put, List.setIfInBounds_toArray, List.set_cons_zero, List.set_cons_succ]
            refine take_z (i := 8) (v := st x) rfl (by kernel_rfl) (by kernel_rfl) (by kernel_rfl) (by kernel_rfl) (fun _ _ _ h => h) (by rfl) hS0 (fun w' hSw => by go_simp) ?_
            simp only [Act.put, List.setIfInBounds_toArray, List.set_cons_zero, List.set_cons_succ]
            refine take_z (i := 9) (v := .string (sideName s ++ ⟨#[45]⟩ ++ nm j)) rfl (by kernel_rfl) (by kernel_rfl) (by kernel_rfl) (by kernel_rfl) (fun _ _ _ h => h) (by rfl) hS0 (fun w' hSw => by go_simp) ?_
            simp only [Act.put, List.setIfInBounds_toArray, List.set_cons_zero, List.set_cons_succ]
            refine step_z (i := 10) rfl (by kernel_rfl) (by decide) (by rfl) (fun K hK => ?_)
            go_simp
            refine hK _ _ (hS0.alloc _) ?_
            clear hK K
            refine step_z (i := 11) rfl (by kernel_rfl) (by decide) (by rfl) (fun K hK => ?_)
            refine wp_append_lies _ (.tmp 90) (.tmp 92) 32 rfl W2.heap.size 9 i9 (.string ⟨#[]⟩) 1 16 Ybaf.underlying32 hi9 hz90 hz91 hz92 rfl (by decide) (st x) _ _ rfl (hownb.alloc _) ⟨wb.heap.size, 0, none⟩ 1 1 [.string (sideName s ++ ⟨#[45]⟩ ++ nm j)] rfl rfl (fun i u hu => by have := one_cell (.string (sideName s ++ ⟨#[45]⟩ ++ nm j)) wb 9 i u hu; simpa using this) (by simp [Value.oneCell']) (by decide) (by unfold maxLen; omega) (by omega) (by simp; omega) _ rfl ?_
            intro g2 c2 w1 hown1 hgrow1 hat hglt
            have hff := far_facts HLB.out hxlt (below_alloc1 wb (.cells #[.string (sideName s ++ ⟨#[45]⟩ ++ nm j)] 9)).drew hgrow1
            have hff1 := hff.1
            have hff2 := hff.2
            clear hff
            simp only [Act.put, List.setIfInBounds_toArray, List.set_cons_zero, List.set_cons_succ]
            refine hK _ _ ((hS0.alloc _).grown hgrow1 (fun i e => .inl e)) ?_
            clear hK K
            refine step_z (i := 12) rfl (by kernel_rfl) (by decide) (by rfl) (fun K hK => ?_)
            go_simp
            refine hK _ _ ((hS0.alloc _).grown hgrow1 (fun i e => .inl e)) ?_
            clear hK K
            refine step_z (i := 13) rfl (by kernel_rfl) (by decide) (by rfl) (fun K hK => ?_)
            go_simp
            refine hK _ _ ((hS0.alloc _).grown hgrow1 (fun i e => .inl e)) ?_
            clear hK K
            refine last_z (z := 14) rfl (by kernel_rfl) (by kernel_rfl) (by rfl) (fun K hK => ?_)
            go_simp
            refine hK _ _ ?_
            clear hK K
            have hlx : labs s (pick r0 r1 r2) (j + 1) = upd (labs s (pick r0 r1 r2) j) x (labs s (pick r0 r1 r2) j x ++ [sideName s ++ ⟨#[45]⟩ ++ nm j]) := by
              rw [labs_succ, ← HX.out]
              rfl
            obtain ⟨wc, hwc⟩ : ∃ wc, wc = w1.setCell ⟨h, x * 13 + 12, none⟩ (.slice (some ⟨g2, 0, none⟩) ((labs s (pick r0 r1 r2) j x).length + 1) c2) := ⟨_, rfl⟩
            obtain ⟨st', hst'⟩ : ∃ st', st' = upd st x (.slice (some ⟨g2, 0, none⟩) ((labs s (pick r0 r1 r2) j x).length + 1) c2) := ⟨_, rfl⟩
            have HLC : Hid (L2 W2 wc h k p12 s pass has T d dir st' (labs s (pick r0 r1 r2) (j + 1)) v cs j) := by
              rw [hlx, hwc, hst']
              exact HLB.out.label hxlt (below_alloc1 wb (.cells #[.string (sideName s ++ ⟨#[45]⟩ ++ nm j)] 9)).drew hown1 hgrow1 hat
            have hB14c : wc.heap[wr.heap.size]? = some (.cells #[.string (nm j), .string (lb j), .int .i64 (x : Int)] 54 (0, 0)) := by
              rw [hwc, Below.heap_setCell _ _ _ _ (by show wr.heap.size ≠ h; exact hwrh), hgrow1.block _ (by have := lt_of_block hB14; simp; omega) (fun e => hnb _ (.inr (Nat.le_refl _)) e.symm)]
              exact (Below.heap_alloc wb _ _ (lt_of_block hB14)).trans hB14
            have hstx : st' x = .slice (some ⟨g2, 0, none⟩) ((labs s (pick r0 r1 r2) j x).length + 1) c2 := by rw [hst', upd_same]
            rw [← hwc]
            generalize hln : (labs s (pick r0 r1 r2) j x).length + 1 = ln at hstx
            clear hwc hst' hlx hown1 hgrow1 hat hglt hff1 hff2 hS0 k1 k2 k3 hownb hst12 hhl hB14 hbb hln hszb hll
            obtain ⟨q7, q8, hrow, hq⟩ := HLC.out.rows.row x hxlt
            rw [hstx] at hrow
            rw [hxk.2, if_pos rfl] at hq
            have cr0 : wc.cell? ⟨h, x * 13, none⟩ = some (.string (dir x)) := hrow 0 (by omega)
            have cr1 : wc.cell? ⟨h, x * 13 + 1, none⟩ = some (.string ⟨#[]⟩) := hrow 1 (by omega)
            have cr2 : wc.cell? ⟨h, x * 13 + 2, none⟩ = some (.string ⟨#[]⟩) := hrow 2 (by omega)
            have cr3 : wc.cell? ⟨h, x * 13 + 3, none⟩ = some (.pointer Option.none) := hrow 3 (by omega)
            have cr4 : wc.cell? ⟨h, x * 13 + 4, none⟩ = some (.string (resOf (pass x))) := hrow 4 (by omega)
            have cr5 : wc.cell? ⟨h, x * 13 + 5, none⟩ = some (.string ⟨#[]⟩) := hrow 5 (by omega)
            have cr6 : wc.cell? ⟨h, x * 13 + 6, none⟩ = some (.bool false) := hrow 6 (by omega)
            have cr7 : wc.cell? ⟨h, x * 13 + 7, none⟩ = some (.pointer q7) := hrow 7 (by omega)
            have cr8 : wc.cell? ⟨h, x * 13 + 8, none⟩ = some (.pointer q8) := hrow 8 (by omega)
            have cr9 : wc.cell? ⟨h, x * 13 + 9, none⟩ = some (.int .i64 ((x : Int) + 1)) := hrow 9 (by omega)
            have cr10 : wc.cell? ⟨h, x * 13 + 10, none⟩ = some (.string ⟨#[]⟩) := hrow 10 (by omega)
            have cr11 : wc.cell? ⟨h, x * 13 + 11, none⟩ = some (.string ⟨#[]⟩) := hrow 11 (by omega)
            have cr12 : wc.cell? ⟨h, x * 13 + 12, none⟩ = some (.slice (some ⟨g2, 0, none⟩) ln c2) := hrow 12 (by omega)
            have HQ : Hid _ := hq
            have hfw : Fr (fun i => i = h ∨ i = p12) W2 wc := HLC.out.fr
            have cC0 : wc.cell? ⟨w.heap.size, 0, none⟩ = some (.slice (some ⟨h, 0, none⟩) k cap) := hfw.cell HENV2.out.c0 (by show ¬ (w.heap.size = h ∨ w.heap.size = p12); have := HR.out.lt; omega)
            have cC1 : wc.cell? ⟨w.heap.size + 1, 0, none⟩ = some (.int .i64 s) := hfw.cell HENV2.out.c1 (by show ¬ (w.heap.size + 1 = h ∨ w.heap.size + 1 = p12); have := HR.out.lt; omega)
            have cC3 : wc.cell? ⟨w.heap.size + 1 + 1 + 1, 0, none⟩ = some (.func (.func 7) #[] #[.pointer (some ⟨w.heap.size + 1, 0, none⟩)]) := hfw.cell HENV2.out.c3 (by show ¬ (w.heap.size + 1 + 1 + 1 = h ∨ w.heap.size + 1 + 1 + 1 = p12); have := HR.out.lt; omega)
            have cC14 : wc.cell? ⟨wr.heap.size, 2, none⟩ = some (.int .i64 (x : Int)) := cell_of_row wc _ 2 _ 54 (0, 0) hB14c
            have HF2 : Hid _ := hfw
            clear hrow hq hfw hstx cH0 cH1 cH3
            go_wp2
            obtain ⟨wd, hwd⟩ : ∃ wd, wd = wc.alloc (.cells #[.string (dir x), .string ⟨#[]⟩, .string ⟨#[]⟩, .pointer Option.none, .string (resOf (pass x)), .string ⟨#[]⟩, .bool false, .pointer q7, .pointer q8, .int .i64 ((x : Int) + 1), .string ⟨#[]⟩, .string ⟨#[]⟩, .slice (some ⟨g2, 0, none⟩) ln c2] 34) := ⟨_, rfl⟩
            rw [← hwd]
            have hbd : Below wc.heap.size wc wd := by rw [hwd]; exact below_alloc1 _ _
            have hD16 : wd.heap[wc.heap.size]? = some (.cells #[.string (dir x), .string ⟨#[]⟩, .string ⟨#[]⟩, .pointer Option.none, .string (resOf (pass x)), .string ⟨#[]⟩, .bool false, .pointer q7, .pointer q8, .int .i64 ((x : Int) + 1), .string ⟨#[]⟩, .string ⟨#[]⟩, .slice (some ⟨g2, 0, none⟩) ln c2] 34 (0, 0)) := by rw [hwd]; exact heap_alloc_new wc _
            have HLD : Hid (L2 W2 wd h k p12 s pass has T d dir st' (labs s (pick r0 r1 r2) (j + 1)) v cs j) := HLC.out.below hbd
            have hnv : ∀ i, i < W2.heap.size ∨ i = wr.heap.size ∨ i = wc.heap.size → v.ownBlock ≠ some i := by
              intro i hi e
              have h1 := hl.out.stats.lt i e
              have h2 := HLC.out.stats.lt i e
              omega
            have dC1 : wd.cell? ⟨w.heap.size + 1, 0, none⟩ = some (.int .i64 s) := (hbd.cell (World.block_lt_of_cell? _ _ cC1)).trans cC1
            have dC3 : wd.cell? ⟨w.heap.size + 1 + 1 + 1, 0, none⟩ = some (.func (.func 7) #[] #[.pointer (some ⟨w.heap.size + 1, 0, none⟩)]) := (hbd.cell (World.block_lt_of_cell? _ _ cC3)).trans cC3
            have dv : wd.cell? ⟨p12, 1, none⟩ = some v := cell_of_row wd _ 1 _ 37 (0, 0) HLD.out.view
            have d14 : wd.cell? ⟨wr.heap.size, 1, none⟩ = some (.string (lb j)) := by
              have e : wc.cell? ⟨wr.heap.size, 1, none⟩ = some (.string (lb j)) := cell_of_row wc _ 1 _ 54 (0, 0) hB14c
              exact (hbd.cell (World.block_lt_of_cell? _ _ e)).trans e
            have dd : wd.cell? ⟨d x, 0, none⟩ = some (.int .i64 (T x)) := HLD.out.rows.dur x hxlt HXK.out.2
            have hdx : d x < W2.heap.size := HLD.out.dlt x hxlt HXK.out.2
            have k1 : ∀ w', Fr (fun i => v.ownBlock = some i) wd w' → w'.cell? ⟨p12, 1, none⟩ = some v := fun w' f => f.cell dv (hnv _ (.inl HLD.out.plt))
            have k2 : ∀ w', Fr (fun i => v.ownBlock = some i) wd w' → w'.cell? ⟨wr.heap.size, 1, none⟩ = some (.string (lb j)) := fun w' f => f.cell d14 (hnv _ (.inr (.inl rfl)))
            have k3 : ∀ w', Fr (fun i => v.ownBlock = some i) wd w' → w'.cell? ⟨w.heap.size + 1 + 1 + 1, 0, none⟩ = some (.func (.func 7) #[] #[.pointer (some ⟨w.heap.size + 1, 0, none⟩)]) := fun w' f => f.cell dC3 (hnv _ (.inl (by show w.heap.size + 1 + 1 + 1 < _; omega)))
            have k4 : ∀ w', Fr (fun i => v.ownBlock = some i) wd w' → w'.cell? ⟨d x, 0, none⟩ = some (.int .i64 (T x)) := fun w' f => f.cell dd (hnv _ (.inl hdx))
            have n0 : ∀ w', Fr (fun i => v.ownBlock = some i) wd w' → w'.cell? ⟨wc.heap.size, 0, none⟩ = some (.string (dir x)) := fun w' f => f.cell (cell_of_row wd _ 0 _ 34 (0, 0) hD16) (hnv _ (.inr (.inr rfl)))
            have n1 : ∀ w', Fr (fun i => v.ownBlock = some i) wd w' → w'.cell? ⟨wc.heap.size, 1, none⟩ = some (.string ⟨#[]⟩) := fun w' f => f.cell (cell_of_row wd _ 1 _ 34 (0, 0) hD16) (hnv _ (.inr (.inr rfl)))
            have n2 : ∀ w', Fr (fun i => v.ownBlock = some i) wd w' → w'.cell? ⟨wc.heap.size, 2, none⟩ = some (.string ⟨#[]⟩) := fun w' f => f.cell (cell_of_row wd _ 2 _ 34 (0, 0) hD16) (hnv _ (.inr (.inr rfl)))
            have n3 : ∀ w', Fr (fun i => v.ownBlock = some i) wd w' → w'.cell? ⟨wc.heap.size, 3, none⟩ = some (.pointer Option.none) := fun w' f => f.cell (cell_of_row wd _ 3 _ 34 (0, 0) hD16) (hnv _ (.inr (.inr rfl)))
            have n4 : ∀ w', Fr (fun i => v.ownBlock = some i) wd w' → w'.cell? ⟨wc.heap.size, 4, none⟩ = some (.string (resOf (pass x))) := fun w' f => f.cell (cell_of_row wd _ 4 _ 34 (0, 0) hD16) (hnv _ (.inr (.inr rfl)))
            have n5 : ∀ w', Fr (fun i => v.ownBlock = some i) wd w' → w'.cell? ⟨wc.heap.size, 5, none⟩ = some (.string ⟨#[]⟩) := fun w' f => f.cell (cell_of_row wd _ 5 _ 34 (0, 0) hD16) (hnv _ (.inr (.inr rfl)))
            have n6 : ∀ w', Fr (fun i => v.ownBlock = some i) wd w' → w'.cell? ⟨wc.heap.size, 6, none⟩ = some (.bool false) := fun w' f => f.cell (cell_of_row wd _ 6 _ 34 (0, 0) hD16) (hnv _ (.inr (.inr rfl)))
            have n7 : ∀ w', Fr (fun i => v.ownBlock = some i) wd w' → w'.cell? ⟨wc.heap.size, 7, none⟩ = some (.pointer q7) := fun w' f => f.cell (cell_of_row wd _ 7 _ 34 (0, 0) hD16) (hnv _ (.inr (.inr rfl)))
            have n8 : ∀ w', Fr (fun i => v.ownBlock = some i) wd w' → w'.cell? ⟨wc.heap.size, 8, none⟩ = some (.pointer q8) := fun w' f => f.cell (cell_of_row wd _ 8 _ 34 (0, 0) hD16) (hnv _ (.inr (.inr rfl)))
            have n9 : ∀ w', Fr (fun i => v.ownBlock = some i) wd w' → w'.cell? ⟨wc.heap.size, 9, none⟩ = some (.int .i64 ((x : Int) + 1)) := fun w' f => f.cell (cell_of_row wd _ 9 _ 34 (0, 0) hD16) (hnv _ (.inr (.inr rfl)))
            have n10 : ∀ w', Fr (fun i => v.ownBlock = some i) wd w' → w'.cell? ⟨wc.heap.size, 10, none⟩ = some (.string ⟨#[]⟩) := fun w' f => f.cell (cell_of_row wd _ 10 _ 34 (0, 0) hD16) (hnv _ (.inr (.inr rfl)))
            have n11 : ∀ w', Fr (fun i => v.ownBlock = some i) wd w' → w'.cell? ⟨wc.heap.size, 11, none⟩ = some (.string ⟨#[]⟩) := fun w' f => f.cell (cell_of_row wd _ 11 _ 34 (0, 0) hD16) (hnv _ (.inr (.inr rfl)))
            have n12 : ∀ w', Fr (fun i => v.ownBlock = some i) wd w' → w'.cell? ⟨wc.heap.size, 12, none⟩ = some (.slice (some ⟨g2, 0, none⟩) ln c2) := fun w' f => f.cell (cell_of_row wd _ 12 _ 34 (0, 0) hD16) (hnv _ (.inr (.inr rfl)))
            have HK5 : Hid (∀ w', Fr (fun i => v.ownBlock = some i) wd w' → Calls Ybaf.prog 7 #[.agg #[.string (dir x), .string ⟨#[]⟩, .string ⟨#[]⟩, .pointer Option.none, .string (resOf (pass x)), .string ⟨#[]⟩, .bool false, .pointer q7, .pointer q8, .int .i64 ((x : Int) + 1), .string ⟨#[]⟩, .string ⟨#[]⟩, .slice (some ⟨g2, 0, none⟩) ln c2], .pointer (some ⟨w.heap.size + 1, 0, none⟩)] w' fun e w'' => e = .returned (.pointer (some ⟨d x, 0, none⟩)) ∧ Below w'.heap.size w' w'') := by
              intro w' f
              have := total7 w' #[.string (dir x), .string ⟨#[]⟩, .string ⟨#[]⟩, .pointer Option.none, .string (resOf (pass x)), .string ⟨#[]⟩, .bool false, .pointer q7, .pointer q8, .int .i64 ((x : Int) + 1), .string ⟨#[]⟩, .string ⟨#[]⟩, .slice (some ⟨g2, 0, none⟩) ln c2] (w.heap.size + 1) s q7 q8 (f.cell dC1 (hnv _ (.inl (by show w.heap.size + 1 < _; omega)))) rfl rfl rfl
              rw [HQ.out] at this
              exact this
            have HK6 : Hid (∀ w', Fr (fun i => v.ownBlock = some i) wd w' → Calls Ybaf.prog 14 #[.int .i64 (T x)] w' fun e w'' => (∃ t : ByteArray, e = .returned (.string t)) ∧ Below w'.heap.size w' w'') := by
              intro w' f
              refine millis14 F (T x) w' ?_
              rw [f.tape, hbd.tape, HLC.out.fr.tape, HFR2.out.tape]
              exact HF.out
            have hownd := HLD.out.stats
            have hszd : W2.heap.size ≤ wd.heap.size := HLD.out.fr.size
            clear hwd dC1 dC3 dv d14 dd hD16 cr0 cr1 cr2 cr3 cr4 cr5 cr6 cr7 cr8 cr9 cr10 cr11 cr12 cC0 cC1 cC3 cC14 hB14c
            refine region_z (fun w' => Fr (fun i => v.ownBlock = some i) wd w') 20 (by kernel_rfl) (Fr.refl _ _).drew (fun hS0 => ?_)
            refine take_z (i := 0) (v := .pointer (some ⟨p12, 1, none⟩)) rfl (by kernel_rfl) (by kernel_rfl) (by kernel_rfl) (by kernel_rfl) (fun _ _ _ h => h) (by rfl) hS0 (fun w' hSw => by go_simp) ?_
            simp only [Act.put, List.setIfInBounds_toArray, List.set_cons_zero, List.set_cons_succ]
            refine take_z (i := 1) (v := v) rfl (by kernel_rfl) (by kernel_rfl) (by kernel_rfl) (by kernel_rfl) (fun _ _ _ h => h) (by rfl) hS0 (fun w' hSw => by go_simp) ?_
            simp only [Act.put, List.setIfInBounds_toArray, List.set_cons_zero, List.set_cons_succ]
            refine take_z (i := 2) (v := .string (sideName s ++ ⟨#[45]⟩ ++ nm j)) rfl (by kernel_rfl) (by kernel_rfl) (by kernel_rfl) (by kernel_rfl) (fun _ _ _ h => h) (by rfl) hS0 (fun w' hSw => by go_simp) ?_
            simp only [Act.put, List.setIfInBounds_toArray, List.set_cons_zero, List.set_cons_succ]
            refine take_z (i := 3) (v := .pointer (some ⟨wr.heap.size, 1, none⟩)) rfl (by kernel_rfl) (by kernel_rfl) (by kernel_rfl) (by kernel_rfl) (fun _ _ _ h => h) (by rfl) hS0 (fun w' hSw => by go_simp) ?_
            simp only [Act.put, List.setIfInBounds_toArray, List.set_cons_zero, List.set_cons_succ]
            refine take_z (i := 4) (v := .string (lb j)) rfl (by kernel_rfl) (by kernel_rfl) (by kernel_rfl) (by kernel_rfl) (fun _ _ _ h => h) (by rfl) hS0 (fun w' hSw => by go_simp) ?_
            simp only [Act.put, List.setIfInBounds_toArray, List.set_cons_zero, List.set_cons_succ]
            refine take_z (i := 5) (v := .func (.func 7) #[] #[.pointer (some ⟨w.heap.size + 1, 0, none⟩)]) rfl (by kernel_rfl) (by kernel_rfl) (by kernel_rfl) (by kernel_rfl) (fun _ _ _ h => h) (by rfl) hS0 (fun w' hSw => by go_simp) ?_
            simp only [Act.put, List.setIfInBounds_toArray, List.set_cons_zero, List.set_cons_succ]
            refine take_z (i := 6) (v := .agg #[.string (dir x), .string ⟨#[]⟩, .string ⟨#[]⟩, .pointer Option.none, .string (resOf (pass x)), .string ⟨#[]⟩, .bool false, .pointer q7, .pointer q8, .int .i64 ((x : Int) + 1), .string ⟨#[]⟩, .string ⟨#[]⟩, .slice (some ⟨g2, 0, none⟩) ln c2]) rfl (by kernel_rfl) (by kernel_rfl) (by kernel_rfl) (by kernel_rfl) (fun _ _ _ h => h) (by rfl) hS0 (fun w' hSw => by go_simp) ?_
            simp only [Act.put, List.setIfInBounds_toArray, List.set_cons_zero, List.set_cons_succ]
            refine take_z (i := 11) (v := .pointer (some ⟨wc.heap.size, 0, none⟩)) rfl (by kernel_rfl) (by kernel_rfl) (by kernel_rfl) (by kernel_rfl) (fun _ _ _ h => h) (by rfl) hS0 (fun w' hSw => by go_simp) ?_
            simp only [Act.put, List.setIfInBounds_toArray, List.set_cons_zero, List.set_cons_succ]
            refine take_z (i := 12) (v := .pointer (some ⟨wc.heap.size, 0, none⟩)) rfl (by kernel_rfl) (by kernel_rfl) (by kernel_rfl) (by kernel_rfl) (fun _ _ _ h => h) (by rfl) hS0 (fun w' hSw => by go_simp) ?_
            simp only [Act.put, List.setIfInBounds_toArray, List.set_cons_zero, List.set_cons_succ]
            refine take_z (i := 13) (v := .string (dir x)) rfl (by kernel_rfl) (by kernel_rfl) (by kernel_rfl) (by kernel_rfl) (fun _ _ _ h => h) (by rfl) hS0 (fun w' hSw => by go_simp) ?_
            simp only [Act.put, List.setIfInBounds_toArray, List.set_cons_zero, List.set_cons_succ]
            refine take_z (i := 14) (v := .pointer (some ⟨wc.heap.size, 9, none⟩)) rfl (by kernel_rfl) (by kernel_rfl) (by kernel_rfl) (by kernel_rfl) (fun _ _ _ h => h) (by rfl) hS0 (fun w' hSw => by go_simp) ?_
            simp only [Act.put, List.setIfInBounds_toArray, List.set_cons_zero, List.set_cons_succ]
            refine take_z (i := 15) (v := .int .i64 ((x : Int) + 1)) rfl (by kernel_rfl) (by kernel_rfl) (by kernel_rfl) (by kernel_rfl) (fun _ _ _ h => h) (by rfl) hS0 (fun w' hSw => by go_simp) ?_
            simp only [Act.put, List.setIfInBounds_toArray, List.set_cons_zero, List.set_cons_succ]
            refine step_z (i := 7) rfl (by kernel_rfl) (by decide) (by rfl) (fun K hK => ?_)
            go_simp
            with_reducible refine (HK5.out _ hS0).mono ?_
            rintro e w8 ⟨rfl, hb8⟩
            have hS1 : Fr (fun i => v.ownBlock = some i) wd w8 := hS0.below hb8
            refine hK _ _ hS1 ?_
            clear hK K
            refine take_z (i := 8) (v := .pointer (some ⟨d x, 0, none⟩)) rfl (by kernel_rfl) (by kernel_rfl) (by kernel_rfl) (by kernel_rfl) (fun _ _ _ h => h) (by rfl) hS1 (fun w' hSw => by go_simp) ?_
            simp only [Act.put, List.setIfInBounds_toArray, List.set_cons_zero, List.set_cons_succ]
            refine take_z (i := 9) (v := .int .i64 (T x)) rfl (by kernel_rfl) (by kernel_rfl) (by kernel_rfl) (by kernel_rfl) (fun _ _ _ h => h) (by rfl) hS1 (fun w' hSw => by go_simp) ?_
            simp only [Act.put, List.setIfInBounds_toArray, List.set_cons_zero, List.set_cons_succ]
            refine step_z (i := 10) rfl (by kernel_rfl) (by decide) (by rfl) (fun K hK => ?_)
            go_simp
            with_reducible refine (HK6.out _ hS1).mono ?_
            rintro e w9 ⟨⟨tt, rfl⟩, hb9⟩
            have hS2 : Fr (fun i => v.ownBlock = some i) wd w9 := hS1.below hb9
            refine hK _ _ hS2 ?_
            clear hK K
            refine take_z (i := 16) (v := .agg #[.string (sideName s ++ ⟨#[45]⟩ ++ nm j), .string (lb j), .string tt, .string (dir x), .int .i64 ((x : Int) + 1)]) rfl (by kernel_rfl) (by kernel_rfl) (by kernel_rfl) (by kernel_rfl) (fun _ _ _ h => h) (by rfl) hS2 (fun w' hSw => by go_simp) ?_
            simp only [Act.put, List.setIfInBounds_toArray, List.set_cons_zero, List.set_cons_succ]
            refine step_z (i := 17) rfl (by kernel_rfl) (by decide) (by rfl) (fun K hK => ?_)
            go_simp
            refine hK _ _ (hS2.alloc _) ?_
            clear hK K
            have hbA : Below wd.heap.size wd (w9.alloc (.cells #[.string (sideName s ++ ⟨#[45]⟩ ++ nm j), .string (lb j), .string tt, .string (dir x), .int .i64 ((x : Int) + 1)] 44)) := by
              have hb0 : Below wd.heap.size wd w8 := (Below.refl _ wd).drew.trans hb8
              have hb1 : Below wd.heap.size wd w9 := hb0.trans (hb9.mono hb0.size)
              exact hb1.trans ((below_alloc1 w9 _).mono hb1.size)
            refine step_z (i := 18) rfl (by kernel_rfl) (by decide) (by rfl) (fun K hK => ?_)
            refine wp_append_lies _ (.tmp 102) (.tmp 118) 35 rfl W2.heap.size 44 i44 (.agg #[.string ⟨#[]⟩, .string ⟨#[]⟩, .string ⟨#[]⟩, .string ⟨#[]⟩, .int .i64 0]) 5 72 Ybaf.underlying35 hi44 hz440 hz441 hz442 rfl (by decide) v _ _ rfl (kept_below hownd hbA) ⟨w9.heap.size, 0, none⟩ 1 1 [.string (sideName s ++ ⟨#[45]⟩ ++ nm j), .string (lb j), .string tt, .string (dir x), .int .i64 ((x : Int) + 1)] rfl rfl (new_cells w9 #[.string (sideName s ++ ⟨#[45]⟩ ++ nm j), .string (lb j), .string tt, .string (dir x), .int .i64 ((x : Int) + 1)] 44) (by simp [Value.oneCell']) (by decide) (by unfold maxLen; omega) (by omega) (Nat.le_trans hszd hbA.size) _ rfl ?_
            intro g3 c3 w1 hown2 hgrow2 hat2 hglt2
            simp only [Act.put, List.setIfInBounds_toArray, List.set_cons_zero, List.set_cons_succ]
            have hvw : w1.heap[p12]? = some (.cells #[.int .i64 s, v] 37 (0, 0)) := (hgrow2.block _ (Nat.lt_of_lt_of_le HLD.out.plt (Nat.le_trans hszd hbA.size)) (fun e => hnv _ (.inl HLD.out.plt) e.symm)).trans (HLD.out.below hbA).view
            have hvc : w1.cell? ⟨p12, 1, none⟩ = some v := cell_of_row w1 _ 1 _ 37 (0, 0) hvw
            have hvf : w1.frozen? ⟨p12, 1, none⟩ = false := by simp [World.frozen?, hvw]
            refine hK _ _ ((hS2.alloc _).grown hgrow2 (fun i e => .inl e)) ?_
            clear hK K
            refine step_z (i := 19) rfl (by kernel_rfl) (by decide) (by rfl) (fun K hK => ?_)
            go_simp
            refine hK _ _ ((hS2.alloc _).grown hgrow2 (fun i e => .inl e)) ?_
            clear hK K
            refine last_z (z := 20) rfl (by kernel_rfl) (by kernel_rfl) (by rfl) (fun K hK => ?_)
            go_simp
            refine hK _ _ ?_
            clear hK K
            have HLE : Hid _ := HLD.out.stat hbA hown2 hgrow2
            have HSE : Hid (StatL s dir (pick r0 r1 r2) (cs ++ [.string (sideName s ++ ⟨#[45]⟩ ++ nm j), .string (lb j), .string tt, .string (dir x), .int .i64 ((x : Int) + 1)]) (j + 1)) := by
              rw [HX.out]
              exact hst.out.succ tt
            obtain ⟨we, hwe⟩ : ∃ we, we = w1.setCell ⟨p12, 1, none⟩ (.slice (some ⟨g3, 0, none⟩) (j + 1) c3) := ⟨_, rfl⟩
            rw [← hwe]
            rw [← hwe] at HLE
            clear hwe hown2 hgrow2 hat2 hglt2 hvw hvc hvf hS2 hS1 hS0 hbA hb8 hb9
            go_wp2
            go_roundw
            case rel => exact ⟨j + 1, _, _, _, by go_num, by omega, HLE, HSE⟩
            case measure => simp [intOf]; omega
          · have hj : j = 3 := by omega
            subst hj
            obtain ⟨g4, c4, rfl, hg4, hgl4⟩ := hl.out.stats.form (by decide)
            have hfw : Fr (fun i => i = h ∨ i = p12) W2 wr := hl.out.fr
            have hb2 : wr.heap[w.heap.size + 2]? = some (.cells #[.int .i64 0, .slice Option.none 0 0] 37 (0, 0)) := (hfw.block _ (by omega) (by show ¬ (w.heap.size + 2 = h ∨ w.heap.size + 2 = p12); have := HR.out.lt; omega)).trans HBK2.out
            have v0 : wr.cell? ⟨p12, 0, none⟩ = some (.int .i64 s) := cell_of_row wr _ 0 _ 37 (0, 0) hl.out.view
            have v1 : wr.cell? ⟨p12, 1, none⟩ = some (.slice (some ⟨g4, 0, none⟩) 3 c4) := cell_of_row wr _ 1 _ 37 (0, 0) hl.out.view
            have q0 : wr.cell? ⟨w.heap.size + 1 + 1, 0, none⟩ = some (.int .i64 0) := cell_of_row wr (w.heap.size + 2) 0 _ 37 (0, 0) hb2
            have q1 : wr.cell? ⟨w.heap.size + 1 + 1, 1, none⟩ = some (.slice Option.none 0 0) := cell_of_row wr (w.heap.size + 2) 1 _ 37 (0, 0) hb2
            have f0 : wr.frozen? ⟨w.heap.size + 1 + 1, 0, none⟩ = false := by
              show wr.frozen? ⟨w.heap.size + 2, 0, none⟩ = _
              simp [World.frozen?, hb2]
            have f1 : wr.frozen? ⟨w.heap.size + 1 + 1, 1, none⟩ = false := by
              show wr.frozen? ⟨w.heap.size + 2, 1, none⟩ = _
              simp [World.frozen?, hb2]
            clear hb2 hfw
            go_wp2
            have m1 : (wr.setCell ⟨w.heap.size + 1 + 1, 0, none⟩ (.int .i64 s)).cell? ⟨w.heap.size + 1 + 1, 1, none⟩ = some (.slice Option.none 0 0) := (World.cell?_setCell_other _ _ _ _ (by simp)).trans q1
            refine bodyPost_ret (ret4 _ rfl rfl ((World.cell?_setCell_other _ _ _ _ (by simp)).trans (World.cell?_setCell_same _ _ _ q0)) (World.cell?_setCell_same _ _ _ m1)) rfl ?_
            have hPK : Picks T S n k0 (pick r0 r1 r2) := by
              have hz : S.getD (n - 1) 0 = z := by rw [← HZ.out, HM.out]; rfl
              refine ⟨hSl, hn0, HR0.out.symm, ?_, HR2.out.symm, hk0, ?_, ?_⟩
              · rw [← HMID.out]; exact HR1.out.symm
              · rw [hz]; exact hfst.out.1
              · rw [hz]; exact hfst.out.2
            exact full_post hl.out hst.out HFR2.out HR.out.lt (by omega) (by omega) (by omega) hPK hperm hsorted _ _

end Go.Proofs.YbulkckkFmt.st
