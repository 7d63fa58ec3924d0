/-
  The law (3): the walk.
-/
import Derived.Test.YbulkckkFmtLawD
import Derived.Test.YbulkckkFmtEqual
import Derived.Test.YbulkckkFmtHeld
import Derived.OwnWalk
import Derived.WalkSpells
namespace Go.Proofs.YbulkckkFmt.st
open Go.RowKit Go.Joins Go.Extern.Stop Go.Stop Go.Extern
set_option linter.unusedVariables false
set_option linter.unusedSimpArgs false

theorem side_of (kk : Int) (h0 : 0 ≤ kk) (h1 : kk ≤ 255) : ∃ s : Int, kk.tmod 3 = s ∧ kk % 3 = s ∧ (s = 0 ∨ s = 1 ∨ s = 2) := by
  refine ⟨kk % 3, ?_, rfl, by omega⟩
  rw [Int.tmod_eq_emod_of_nonneg h0]

set_option maxHeartbeats 40000000 in
set_option maxRecDepth 100000 in
theorem law3 (F : Interp) (w : World) (a0 : Option Addr) (N c0 : Nat) (kk : Int) (pass has : Nat → Bool) (T O : Nat → Int) (dir : Nat → ByteArray) (hF : F.answers w.tape) (hk0 : 0 ≤ kk) (hk1 : kk ≤ 255) (hN : N ≤ maxLen) (hfed : FedA w a0 N pass has T O dir)
    (hside : ∀ (wr : World) (h cap : Nat) (s : Int) (d : Nat → Nat), F.answers wr.tape → (s = 0 ∨ s = 1 ∨ s = 2) → RowsOk wr h N s pass has T d dir (fun _ => .slice Option.none 0 0) → Calls Ybaf.prog 4 #[.slice (some ⟨h, 0, none⟩) N cap, .int .i64 s] wr (SidePost wr h N s pass has T dir)) :
    Calls Ybaf.prog 3 #[.slice a0 N c0, .int .u8 kk] w fun e w' => e = .returned (.bool true) ∧ Below w.heap.size w w' := by
  obtain ⟨s, hs1, hs2, hs⟩ := side_of kk hk0 hk1
  obtain ⟨i34, z34, hi34, hz34, hs34, hb34⟩ := info34
  by_cases hbig : 1024 < N
  · have hbI : (1024 : Int) < (N : Int) := by omega
    clear hside hfed
    go_enter Ybaf.func3, Ybaf.ntmps3
    go_wp2
    go_ret
    exact ⟨rfl, Below.refl _ _⟩
  · have hbI : (N : Int) ≤ 1024 := by omega
    have hNI : ¬ ((1024 : Int) < (N : Int)) := by omega
    have HF : Hid _ := hF
    have HFED : Hid (FedA w a0 N pass has T O dir) := hfed
    have HSIDE : Hid (∀ (wr : World) (h cap : Nat) (s : Int) (d : Nat → Nat), F.answers wr.tape → (s = 0 ∨ s = 1 ∨ s = 2) → RowsOk wr h N s pass has T d dir (fun _ => .slice Option.none 0 0) → Calls Ybaf.prog 4 #[.slice (some ⟨h, 0, none⟩) N cap, .int .i64 s] wr (SidePost wr h N s pass has T dir)) := hside
    have HS : Hid _ := hs
    clear hF hfed hside hs
    obtain ⟨w1, hmk, hown, hgrow⟩ := run_make_full (P := Ybaf.prog) w w.heap.size 24 34 i34 z34 13 Ybaf.underlying24 hi34 hz34 hs34 .i64 .i64 N (Nat.le_trans (Nat.mul_le_mul hb34 (Nat.le_of_not_lt hbig)) (by decide)) hN (Nat.le_refl _)
    have HL0 : Hid (LR w w1 w.heap.size N s pass has T (fun _ => 0) dir 0) := LR.start hown hgrow
    have hNn : N ≤ 1024 := by omega
    clear hown hgrow hi34 hz34 hs34 hb34 hbig
    go_enter Ybaf.func3, Ybaf.ntmps3
    go_wp2
    clear hmk
    generalize w.heap.size = h at *
    go_loopw [50] (fun iv wr => ∃ (k : Nat) (d : Nat → Nat), iv = .int .i64 (k : Int) ∧ k ≤ N ∧ Hid (LR w wr h N s pass has T d dir k)) (fun iv _ => N - (intOf iv).toNat)
    case atStart => exact ⟨0, _, rfl, Nat.zero_le _, HL0⟩
    case round =>
      obtain ⟨k, d, rfl, hkN, hL⟩ := hrel
      by_cases hlt : k < N
      · have hltI : (k : Int) < (N : Int) := by omega
        have hfedr : FedA wr a0 N pass has T O dir := HFED.out.fr hL.out.fr (by simp)
        rcases hfedr with hz | ⟨b, off, rfl, hbl, hc⟩
        · omega
        obtain ⟨e0, e1, e2, e3, e4⟩ := hc k hlt
        clear hc
        have hhl : h < wr.heap.size := hL.out.lt
        obtain ⟨X, hX⟩ : ∃ X, X = ((wr.alloc (.cells #[.bool (pass k), .bool (has k), .int .i64 (T k), .int .i64 (O k), .string (dir k)] 26)).alloc (.cells #[.int .i64 (T k)] 27)).alloc (.cells #[.int .i64 (O k)] 27) := ⟨_, rfl⟩
        have hbX : Below wr.heap.size wr X := by
          rw [hX]
          exact alloc3_below _ _ _ _
        have hTX : X.cell? ⟨wr.heap.size + 1, 0, none⟩ = some (.int .i64 (T k)) := by rw [hX]; exact alloc3_mid _ _ _ _ _
        obtain ⟨W9, hW9⟩ : ∃ W9, W9 = X.setCells h (k * 13) (lit13 (dir k) (resOf (pass k)) ((k + 1 : Nat) : Int)).toList := ⟨_, rfl⟩
        obtain ⟨hth, hrow9, hfz9, _, _, hfr9, _⟩ := hL.out.laid hlt hbX hW9
        have c7 : W9.cell? ⟨h, k * 13 + 7, none⟩ = some (.pointer Option.none) := hrow9 7 (by omega)
        have c8 : W9.cell? ⟨h, k * 13 + 8, none⟩ = some (.pointer Option.none) := hrow9 8 (by omega)
        have z7 := hfz9 (k * 13 + 7)
        have z8 := hfz9 (k * 13 + 8)
        have hl9 : h < W9.heap.size := Nat.lt_of_lt_of_le hhl hfr9.size
        have HW9 : Hid (W9 = X.setCells h (k * 13) (lit13 (dir k) (resOf (pass k)) ((k + 1 : Nat) : Int)).toList) := hW9
        have HX : Hid (X = ((wr.alloc (.cells #[.bool (pass k), .bool (has k), .int .i64 (T k), .int .i64 (O k), .string (dir k)] 26)).alloc (.cells #[.int .i64 (T k)] 27)).alloc (.cells #[.int .i64 (O k)] 27)) := hX
        have HTH : Hid _ := hth
        have HBX : Hid _ := hbX
        have HTX : Hid _ := hTX
        clear hW9 hX hth hrow9 hfz9 hfr9 hbX hTX
        cases hp : pass k <;> cases hh : has k <;> rw [hp] at e0 HX HW9 <;> rw [hh] at e1 HX
        · by_cases hs0 : s = 0
          · subst hs0
            go_wp2_with (refine wpList_store_to rfl 34 (.tmp 72) (.tmp 71) rfl h (k * 13) (lit13 (dir k) (resOf false) ((k + 1 : Nat) : Int)) rfl rfl (by rw [← HX.out]; exact HTH.out) size34 (lit13_one _ _ _) W9 (by rw [← HX.out]; exact HW9.out) ?_)
            exact ⟨⟨k + 1, _, by go_num, by omega, hL.out.round hlt HBX.out (by rw [hp]; exact HW9.out) (dk := wr.heap.size + 1) (by omega) HTX.out (by simp [hh]) (.inl rfl)⟩, by simp [intOf]; omega⟩
          · have hsb : (s == 0) = false := by simp [hs0]
            go_wp2_with (refine wpList_store_to rfl 34 (.tmp 72) (.tmp 71) rfl h (k * 13) (lit13 (dir k) (resOf false) ((k + 1 : Nat) : Int)) rfl rfl (by rw [← HX.out]; exact HTH.out) size34 (lit13_one _ _ _) W9 (by rw [← HX.out]; exact HW9.out) ?_)
            exact ⟨⟨k + 1, _, by go_num, by omega, hL.out.round hlt HBX.out (by rw [hp]; exact HW9.out) (dk := wr.heap.size + 1) (by omega) HTX.out (by simp [hh, hs0]) (.inr rfl)⟩, by simp [intOf]; omega⟩
        · by_cases hs0 : s = 0
          · subst hs0
            go_wp2_with (refine wpList_store_to rfl 34 (.tmp 72) (.tmp 71) rfl h (k * 13) (lit13 (dir k) (resOf false) ((k + 1 : Nat) : Int)) rfl rfl (by rw [← HX.out]; exact HTH.out) size34 (lit13_one _ _ _) W9 (by rw [← HX.out]; exact HW9.out) ?_)
            exact ⟨⟨k + 1, _, by go_num, by omega, hL.out.round hlt HBX.out (by rw [hp]; exact HW9.out) (dk := wr.heap.size + 1) (by omega) HTX.out (by simp [hh]) (.inl rfl)⟩, by simp [intOf]; omega⟩
          · have hsb : (s == 0) = false := by simp [hs0]
            go_wp2_with (refine wpList_store_to rfl 34 (.tmp 72) (.tmp 71) rfl h (k * 13) (lit13 (dir k) (resOf false) ((k + 1 : Nat) : Int)) rfl rfl (by rw [← HX.out]; exact HTH.out) size34 (lit13_one _ _ _) W9 (by rw [← HX.out]; exact HW9.out) ?_)
            exact ⟨⟨k + 1, _, by go_num, by omega, hL.out.round hlt HBX.out (by rw [hp]; exact HW9.out) (dk := wr.heap.size + 1) (by omega) HTX.out (by simp [hh, hs0]) (.inr rfl)⟩, by simp [intOf]; omega⟩
        · by_cases hs0 : s = 0
          · subst hs0
            go_wp2_with (refine wpList_store_to rfl 34 (.tmp 72) (.tmp 71) rfl h (k * 13) (lit13 (dir k) (resOf true) ((k + 1 : Nat) : Int)) rfl rfl (by rw [← HX.out]; exact HTH.out) size34 (lit13_one _ _ _) W9 (by rw [← HX.out]; exact HW9.out) ?_)
            exact ⟨⟨k + 1, _, by go_num, by omega, hL.out.round hlt HBX.out (by rw [hp]; exact HW9.out) (dk := wr.heap.size + 1) (by omega) HTX.out (by simp [hh]) (.inl rfl)⟩, by simp [intOf]; omega⟩
          · have hsb : (s == 0) = false := by simp [hs0]
            go_wp2_with (refine wpList_store_to rfl 34 (.tmp 72) (.tmp 71) rfl h (k * 13) (lit13 (dir k) (resOf true) ((k + 1 : Nat) : Int)) rfl rfl (by rw [← HX.out]; exact HTH.out) size34 (lit13_one _ _ _) W9 (by rw [← HX.out]; exact HW9.out) ?_)
            exact ⟨⟨k + 1, _, by go_num, by omega, hL.out.round hlt HBX.out (by rw [hp]; exact HW9.out) (dk := wr.heap.size + 1) (by omega) HTX.out (by simp [hh, hs0]) (.inr rfl)⟩, by simp [intOf]; omega⟩
        · by_cases hs0 : s = 0
          · subst hs0
            go_wp2_with (refine wpList_store_to rfl 34 (.tmp 72) (.tmp 71) rfl h (k * 13) (lit13 (dir k) (resOf true) ((k + 1 : Nat) : Int)) rfl rfl (by rw [← HX.out]; exact HTH.out) size34 (lit13_one _ _ _) W9 (by rw [← HX.out]; exact HW9.out) ?_)
            exact ⟨⟨k + 1, _, by go_num, by omega, hL.out.round hlt HBX.out (by rw [hp]; exact HW9.out) (dk := wr.heap.size + 1) (by omega) HTX.out (by simp [hh]) (.inl rfl)⟩, by simp [intOf]; omega⟩
          · have hsb : (s == 0) = false := by simp [hs0]
            go_wp2_with (refine wpList_store_to rfl 34 (.tmp 72) (.tmp 71) rfl h (k * 13) (lit13 (dir k) (resOf true) ((k + 1 : Nat) : Int)) rfl rfl (by rw [← HX.out]; exact HTH.out) size34 (lit13_one _ _ _) W9 (by rw [← HX.out]; exact HW9.out) ?_)
            exact ⟨⟨k + 1, _, by go_num, by omega, hL.out.round hlt HBX.out (by rw [hp]; exact HW9.out) (dk := wr.heap.size + 1) (by omega) HTX.out (by simp [hh, hs0]) (.inr rfl)⟩, by simp [intOf]; omega⟩
      · have hk : N = k := by omega
        subst hk
        have HC : Hid (Calls Ybaf.prog 4 #[.slice (some ⟨h, 0, none⟩) N N, .int .i64 s] wr (SidePost wr h N s pass has T dir)) := HSIDE.out wr h N s d (by rw [hL.out.fr.tape]; exact HF.out) HS.out hL.out.rows
        go_wp2_with fail
        with_reducible refine HC.out.mono ?_
        rintro e w2 hpost
        have HFR2 : Hid (Fr (fun _ => False) w w2) := Fr.split hL.out.fr (hpost.1.mono (fun i hi => .inr (by rw [hi]; exact hL.out.hh)))
        have hhl2 : h < w2.heap.size := Nat.lt_of_lt_of_le hL.out.lt hpost.1.size
        obtain ⟨s', vs, okb, rfl, ⟨av, nv, cv, rfl⟩, hsaid⟩ := hpost.said
        have HP2 : Hid (Said w2 h N s pass has T dir s' (.slice av nv cv) okb) := hsaid
        clear hpost HC hsaid hL
        go_wp2
        obtain ⟨w3, hw3⟩ : ∃ w3, w3 = w2.alloc (.cells #[.int .i64 s', .slice av nv cv] 37) := ⟨_, rfl⟩
        rw [← hw3]
        have hb23 : Below w2.heap.size w2 w3 := by rw [hw3]; exact below_alloc1 _ _
        have HP14 : Hid (w3.heap[w2.heap.size]? = some (.cells #[.int .i64 s', .slice av nv cv] 37 (0, 0))) := by rw [hw3]; exact heap_alloc_new _ _
        have HFR3 : Hid (Fr (fun _ => False) w w3) := HFR2.out.below hb23
        have hl14 : w2.heap.size < w3.heap.size := lt_of_block HP14.out
        have HP : Hid (Said w3 h N s pass has T dir s' (.slice av nv cv) okb) := HP2.out.below hb23
        clear hw3 hb23 HP2 hhl2
        generalize w2.heap.size = p14 at *
        go_loopw [16, 17, 18, 106] (fun cv lv mv iv wr => ∃ (k C : Nat) (L M : Int), iv = .int .i64 (k : Int) ∧ cv = .int .i64 (C : Int) ∧ lv = .int .i64 L ∧ mv = .int .i64 M ∧ k ≤ N ∧ Hid (Cnt pass has T k C L M) ∧ Hid (Below w3.heap.size w3 wr)) (fun _ _ _ iv _ => N - (intOf iv).toNat)
        case atStart => exact ⟨0, 0, -1, -1, rfl, rfl, rfl, rfl, Nat.zero_le _, Cnt.zero, Below.refl _ _⟩
        case round =>
          obtain ⟨k, C, L, M, rfl, rfl, rfl, rfl, hkN, hC, hB⟩ := hrel
          by_cases hlt : k < N
          · have hltI : (k : Int) < (N : Int) := by omega
            have hfedr : FedA wr a0 N pass has T O dir := HFED.out.fr (HFR3.out.below hB.out) (by simp)
            rcases hfedr with hz | ⟨b, off, rfl, hbl, hc⟩
            · omega
            obtain ⟨e0, e1, e2, e3, e4⟩ := hc k hlt
            obtain ⟨X, hX⟩ : ∃ X, X = wr.alloc (.cells #[.bool (pass k), .bool (has k), .int .i64 (T k), .int .i64 (O k), .string (dir k)] 26) := ⟨_, rfl⟩
            have hbX : Below wr.heap.size wr X := by rw [hX]; exact below_alloc1 _ _
            have HBX : Hid (Below w3.heap.size w3 X) := hB.out.trans (hbX.mono hB.out.size)
            have hXb : X.heap[wr.heap.size]? = some (.cells #[.bool (pass k), .bool (has k), .int .i64 (T k), .int .i64 (O k), .string (dir k)] 26 (0, 0)) := by rw [hX]; exact heap_alloc_new _ _
            have x2 : X.cell? ⟨wr.heap.size, 2, none⟩ = some (.int .i64 (T k)) := cell_of_row X _ 2 _ 26 (0, 0) hXb
            have hcX : ∀ i, i < N → X.cell? ⟨b, off + i * 5 + 2, none⟩ = some (.int .i64 (T i)) := fun i hi => (hbX.cell (by exact hbl)).trans (hc i hi).2.2.1
            have HCX : Hid _ := hcX
            have HX : Hid (X = wr.alloc (.cells #[.bool (pass k), .bool (has k), .int .i64 (T k), .int .i64 (O k), .string (dir k)] 26)) := hX
            have hCk := hC.out.le
            clear hc hX hbX hXb hcX
            cases hp : pass k <;> rw [hp] at e0 HX
            · clear x2
              go_wp2
              exact ⟨⟨k + 1, C, L, M, by go_num, rfl, rfl, rfl, by omega, hC.out.drop (by simp [hp]), by rw [← HX.out]; exact HBX.out⟩, by simp [intOf]; omega⟩
            · cases hh : has k <;> rw [hh] at e1 HX
              · clear x2
                go_wp2
                exact ⟨⟨k + 1, C, L, M, by go_num, rfl, rfl, rfl, by omega, hC.out.drop (by simp [hp, hh]), by rw [← HX.out]; exact HBX.out⟩, by simp [intOf]; omega⟩
              · rcases hC.out.cases with ⟨rfl, rfl⟩ | ⟨x, y, rfl, rfl, hx, hy⟩
                · clear x2
                  go_wp2
                  rw [← HX.out]
                  go_quiet (fail)
                  go_wp2
                  go_quiet (fail)
                  go_wp2
                  exact ⟨⟨k + 1, C + 1, _, _, by go_num, by go_num, rfl, rfl, by omega, hC.out.keep (by rw [hp, hh]; rfl) (by simp) (by simp), below_drewN HBX.out _⟩, by simp [intOf]; omega⟩
                · have cx := HCX.out x (by omega)
                  have cy := HCX.out y (by omega)
                  have hxI : (x : Int) < (N : Int) := by omega
                  have hyI : (y : Int) < (N : Int) := by omega
                  by_cases h1 : T k < T x
                  · by_cases h2 : T y < T k
                    · go_wp2
                      rw [← HX.out]
                      go_quiet (fail)
                      go_wp2
                      go_quiet (fail)
                      go_wp2
                      exact ⟨⟨k + 1, C + 1, _, _, by go_num, by go_num, rfl, rfl, by omega, hC.out.keep (by rw [hp, hh]; rfl) (by rw [if_pos (.inr (by simpa using h1))]) (by rw [if_pos (.inr (by simpa using h2))]), below_drewN HBX.out _⟩, by simp [intOf]; omega⟩
                    · go_wp2
                      rw [← HX.out]
                      go_quiet (fail)
                      go_wp2
                      go_quiet (fail)
                      go_wp2
                      exact ⟨⟨k + 1, C + 1, _, _, by go_num, by go_num, rfl, rfl, by omega, hC.out.keep (by rw [hp, hh]; rfl) (by rw [if_pos (.inr (by simpa using h1))]) (by rw [if_neg (by simp; omega)]), below_drewN HBX.out _⟩, by simp [intOf]; omega⟩
                  · by_cases h2 : T y < T k
                    · go_wp2
                      rw [← HX.out]
                      go_quiet (fail)
                      go_wp2
                      go_quiet (fail)
                      go_wp2
                      exact ⟨⟨k + 1, C + 1, _, _, by go_num, by go_num, rfl, rfl, by omega, hC.out.keep (by rw [hp, hh]; rfl) (by rw [if_neg (by simp; omega)]) (by rw [if_pos (.inr (by simpa using h2))]), below_drewN HBX.out _⟩, by simp [intOf]; omega⟩
                    · go_wp2
                      rw [← HX.out]
                      go_quiet (fail)
                      go_wp2
                      go_quiet (fail)
                      go_wp2
                      exact ⟨⟨k + 1, C + 1, _, _, by go_num, by go_num, rfl, rfl, by omega, hC.out.keep (by rw [hp, hh]; rfl) (by rw [if_neg (by simp; omega)]) (by rw [if_neg (by simp; omega)]), below_drewN HBX.out _⟩, by simp [intOf]; omega⟩
          · have hk : N = k := by omega
            subst hk
            by_cases hr : rk pass has N = []
            · have hC0 : C = 0 := by rw [hC.out.c, hr]; rfl
              obtain ⟨-, rfl, hvs, rfl, hlab⟩ : rk pass has N = [] ∧ s' = 0 ∧ Value.slice av nv cv = .slice Option.none 0 0 ∧ okb = false ∧ ∀ x, x < N → w3.cell? ⟨h, x * 13 + 12, none⟩ = some (.slice Option.none 0 0) := by
                rcases HP.out with hq | ⟨S, n, k0, g, c, r, hP, hp, hso, _⟩
                · exact hq
                · exact absurd hr (fun e => by have := (picks_law hP hp hso).2.2.2; rw [e] at this; simp at this; omega)
              subst hC0
              injection hvs with hv1 hv2 hv3
              subst hv1 hv2 hv3
              have v0 : wr.cell? ⟨p14, 0, none⟩ = some (.int .i64 0) := (hB.out.cell (by exact hl14)).trans (cell_of_row w3 _ 0 _ 37 (0, 0) HP14.out)
              have v1 : wr.cell? ⟨p14, 1, none⟩ = some (.slice Option.none 0 0) := (hB.out.cell (by exact hl14)).trans (cell_of_row w3 _ 1 _ 37 (0, 0) HP14.out)
              have HLAB : Hid (∀ x, x < N → wr.cell? ⟨h, x * 13 + 12, none⟩ = some (.slice Option.none 0 0)) := fun x hx => by
                have e2 := hlab x hx
                exact (hB.out.cell (World.block_lt_of_cell? _ _ e2)).trans e2
              have HEND : Hid (Below w.heap.size w wr) := below_of_fr (HFR3.out.below hB.out)
              have nq35 : ∀ w', (binOp .neq 35 (.slice Option.none 0 0) (.slice Option.none 0 0)).run Ybaf.prog w' = .ok (.bool false) w' := fun w' => run_neq_slice_nil_any w' 35 44 Option.none 0 0 0 0 Ybaf.underlying35
              have nq32 : ∀ w', (binOp .neq 32 (.slice Option.none 0 0) (.slice Option.none 0 0)).run Ybaf.prog w' = .ok (.bool false) w' := fun w' => run_neq_slice_nil_any w' 32 9 Option.none 0 0 0 0 Ybaf.underlying32
              clear hlab hr hB
              go_wp2
              go_loopw [162] (fun iv wq => ∃ (k : Nat), iv = .int .i64 (k : Int) ∧ k ≤ N ∧ wq = wr) (fun iv _ => N - (intOf iv).toNat)
              case atStart => exact ⟨0, rfl, Nat.zero_le _, rfl⟩
              case round =>
                obtain ⟨k, rfl, hkN, rfl⟩ := hrel
                by_cases hlt : k < N
                · have hltI : (k : Int) < (N : Int) := by omega
                  have ck := HLAB.out k hlt
                  go_wp2
                  exact ⟨⟨k + 1, by go_num, by omega, trivial⟩, by simp [intOf]; omega⟩
                · have hk : N = k := by omega
                  subst hk
                  go_wp2
                  go_ret
                  exact ⟨rfl, HEND.out⟩
            · obtain ⟨S, n, k0, g, c, r, hP, hp, hso, rfl, hvs, rfl, hst, hlab⟩ : ∃ (S : List Nat) (n k0 g c : Nat) (r : Nat → Nat), Picks T S n k0 r ∧ S.Perm (rk pass has N) ∧ Sorted T S ∧ s' = s ∧ Value.slice av nv cv = .slice (some ⟨g, 0, none⟩) 3 c ∧ okb = true ∧ (∀ j, j < 3 → StatAt w3 g s dir r j) ∧ ∀ x, x < N → ∃ v, w3.cell? ⟨h, x * 13 + 12, none⟩ = some v ∧ StrsAt w3 v (labs s r 3 x) := HP.out.resolve_left (fun hq => hr hq.1)
              injection hvs with hv1 hv2 hv3
              subst hv1 hv2 hv3
              obtain ⟨eL, eD, eM, eN, hn0, hmem⟩ := picks_law hP hp hso
              obtain rfl : C = n := hC.out.c.trans eN
              obtain ⟨r0, HR0⟩ : ∃ r0, Hid (r 0 = r0) := ⟨_, rfl⟩
              obtain ⟨r1, HR1⟩ : ∃ r1, Hid (r 1 = r1) := ⟨_, rfl⟩
              obtain ⟨r2, HR2⟩ : ∃ r2, Hid (r 2 = r2) := ⟨_, rfl⟩
              obtain rfl : L = (r0 : Int) := by rw [← HR0.out]; exact hC.out.l.trans eL
              obtain rfl : M = (r2 : Int) := by rw [← HR2.out]; exact hC.out.m.trans eM
              rw [HR1.out] at eD
              obtain ⟨mid, hmid⟩ : ∃ mid : Nat, mid = (C - 1) / 2 := ⟨_, rfl⟩
              rw [← hmid] at eD
              have HED : Hid (med pass has T N mid N = (r1 : Int)) := eD
              have HPK : Hid (∀ j, j < 3 → r j < N) := fun j hj => rk_lt ((hmem j).resolve_right (by omega))
              have hCN : C ≤ N := hC.out.le
              have HST : Hid (∀ j, j < 3 → StatAt w3 g s' dir r j) := hst
              have HLAB : Hid (∀ x, x < N → ∃ v, w3.cell? ⟨h, x * 13 + 12, none⟩ = some v ∧ StrsAt w3 v (labs s' r 3 x)) := hlab
              have b1 : IntKind.i64.wrap ((C : Int) - 1) = (C : Int) - 1 := by rw [IntKind.wrap_i64]; omega
              have b3 : ((C : Int) - 1).tdiv 2 = (mid : Int) := by rw [Int.tdiv_eq_ediv_of_nonneg (by omega)]; omega
              have b4 : ((C : Int) - 1) / 2 = (mid : Int) := by omega
              have b5 : ¬ ((C : Int) = 0) := by omega
              have b6 : ((C : Int) == 0) = false := by simp; omega
              have HMID : Hid _ := hmid
              have HN0 : Hid _ := hn0
              clear hP hp hso hst hlab eL eD eM eN hmem hmid hn0 hr HP hC
              go_wp2
              clear b1 b3 b4 b5 b6
              go_loopw [23, 177] (fun dv iv wq => ∃ (k : Nat) (D : Int), iv = .int .i64 (k : Int) ∧ dv = .int .i64 D ∧ k ≤ N ∧ Hid (D = med pass has T N mid k) ∧ Hid (Below w3.heap.size w3 wq)) (fun _ iv _ => N - (intOf iv).toNat)
              case atStart => exact ⟨0, -1, rfl, rfl, Nat.zero_le _, rfl, hB⟩
              case round =>
                obtain ⟨k, D, rfl, rfl, hkN, hD, hB⟩ := hrel
                by_cases hlt : k < N
                · have hltI : (k : Int) < (N : Int) := by omega
                  have hfedr : FedA wr a0 N pass has T O dir := HFED.out.fr (HFR3.out.below hB.out) (by simp)
                  rcases hfedr with hz | ⟨b, off, rfl, hbl, hc⟩
                  · omega
                  obtain ⟨e0, e1, e2, e3, e4⟩ := hc k hlt
                  obtain ⟨X, hX⟩ : ∃ X, X = wr.alloc (.cells #[.bool (pass k), .bool (has k), .int .i64 (T k), .int .i64 (O k), .string (dir k)] 26) := ⟨_, rfl⟩
                  have hbX : Below wr.heap.size wr X := by rw [hX]; exact below_alloc1 _ _
                  have HBX : Hid (Below w3.heap.size w3 X) := hB.out.trans (hbX.mono hB.out.size)
                  have hXb : X.heap[wr.heap.size]? = some (.cells #[.bool (pass k), .bool (has k), .int .i64 (T k), .int .i64 (O k), .string (dir k)] 26 (0, 0)) := by rw [hX]; exact heap_alloc_new _ _
                  have x2 : X.cell? ⟨wr.heap.size, 2, none⟩ = some (.int .i64 (T k)) := cell_of_row X _ 2 _ 26 (0, 0) hXb
                  have HX2 : Hid _ := x2
                  have hlX : wr.heap.size < X.heap.size := lt_of_block hXb
                  have HX : Hid (X = wr.alloc (.cells #[.bool (pass k), .bool (has k), .int .i64 (T k), .int .i64 (O k), .string (dir k)] 26)) := hX
                  clear hc hX hbX hXb x2
                  cases hp : pass k <;> rw [hp] at e0 HX
                  · go_wp2
                    exact ⟨⟨k + 1, D, by go_num, rfl, by omega, hD.out.trans (med_drop (.inl (by simp [hp]))).symm, by rw [← HX.out]; exact HBX.out⟩, by simp [intOf]; omega⟩
                  · cases hh : has k <;> rw [hh] at e1 HX
                    · go_wp2
                      exact ⟨⟨k + 1, D, by go_num, rfl, by omega, hD.out.trans (med_drop (.inl (by simp [hp, hh]))).symm, by rw [← HX.out]; exact HBX.out⟩, by simp [intOf]; omega⟩
                    · go_wp2
                      rw [← HX.out]
                      clear e0 e1 e2 e3 e4 HX
                      generalize wr.heap.size = p25 at *
                      go_loopw [26, 191] (fun rv jv wq => ∃ (j R : Nat), jv = .int .i64 (j : Int) ∧ rv = .int .i64 (R : Int) ∧ j ≤ N ∧ Hid (R = rank pass has T k j) ∧ Hid (Below X.heap.size X wq)) (fun _ jv _ => N - (intOf jv).toNat)
                      case atStart => exact ⟨0, 0, rfl, rfl, Nat.zero_le _, rfl, Below.refl _ _⟩
                      case round =>
                        obtain ⟨j, R, rfl, rfl, hjN, hR, hBX⟩ := hrel
                        by_cases hjlt : j < N
                        · have hjI : (j : Int) < (N : Int) := by omega
                          have hfedq : FedA wr (some ⟨b, off, none⟩) N pass has T O dir := HFED.out.fr (HFR3.out.below (HBX.out.trans (hBX.out.mono HBX.out.size))) (by simp)
                          have cq : wr.cell? ⟨p25, 2, none⟩ = some (.int .i64 (T k)) := (hBX.out.cell (by exact hlX)).trans HX2.out
                          have hl25 : p25 < wr.heap.size := Nat.lt_of_lt_of_le hlX hBX.out.size
                          rcases hfedq with hz | ⟨b', off', heq, hbl', hc⟩
                          · omega
                          obtain ⟨rfl, rfl⟩ : b = b' ∧ off = off' := by simpa using heq
                          obtain ⟨e0, e1, e2, e3, e4⟩ := hc j hjlt
                          have hRj : R ≤ j := by rw [hR.out]; exact rank_le _ _ _ _ _
                          have hbY : ∀ o, Hid (Below X.heap.size X (wr.alloc o)) := fun o => hBX.out.trans ((below_alloc1 wr o).mono hBX.out.size)
                          clear hc heq hbl'
                          cases hpj : pass j <;> rw [hpj] at e0
                          · go_wp2
                            exact ⟨⟨j + 1, R, by go_num, rfl, by omega, (hR.out.trans (rank_stay (.inl hpj)).symm), hbY _⟩, by simp [intOf]; omega⟩
                          · cases hhj : has j <;> rw [hhj] at e1
                            · go_wp2
                              exact ⟨⟨j + 1, R, by go_num, rfl, by omega, (hR.out.trans (rank_stay (.inr (.inl hhj))).symm), hbY _⟩, by simp [intOf]; omega⟩
                            · by_cases h1 : T j < T k
                              · go_wp2
                                exact ⟨⟨j + 1, R + 1, by go_num, by go_num, by omega, (by rw [hR.out]; exact (rank_up hpj hhj (.inl h1)).symm), hbY _⟩, by simp [intOf]; omega⟩
                              · by_cases h2 : T j = T k
                                · have h2b : (T j == T k) = true := by simp [h2]
                                  by_cases h3 : j < k
                                  · have h3I : (j : Int) < (k : Int) := by omega
                                    have H2 : Hid _ := h2
                                    clear h2
                                    go_wp2
                                    exact ⟨⟨j + 1, R + 1, by go_num, by go_num, by omega, (by rw [hR.out]; exact (rank_up hpj hhj (.inr ⟨H2.out, h3⟩)).symm), hbY _⟩, by simp [intOf]; omega⟩
                                  · have h3I : ¬ ((j : Int) < (k : Int)) := by omega
                                    have H2 : Hid _ := h2
                                    clear h2
                                    go_wp2
                                    exact ⟨⟨j + 1, R, by go_num, rfl, by omega, (hR.out.trans (rank_stay (.inr (.inr (by omega)))).symm), hbY _⟩, by simp [intOf]; omega⟩
                                · have h2b : (T j == T k) = false := by simp [h2]
                                  go_wp2
                                  exact ⟨⟨j + 1, R, by go_num, rfl, by omega, (hR.out.trans (rank_stay (.inr (.inr (by omega)))).symm), hbY _⟩, by simp [intOf]; omega⟩
                        · have hj : N = j := by omega
                          subst hj
                          by_cases hm : R = mid
                          · have hmI : (R : Int) = (mid : Int) := by rw [hm]
                            have HM : Hid (rank pass has T k N = mid) := hR.out.symm.trans hm
                            subst hm
                            clear hmI
                            go_wp2
                            exact ⟨⟨k + 1, _, by go_num, rfl, by omega, (med_hit (by rw [hp, hh]; rfl) HM.out).symm, HBX.out.trans (hBX.out.mono HBX.out.size)⟩, by simp [intOf]; omega⟩
                          · have hmI : ¬ ((R : Int) = (mid : Int)) := by omega
                            have hmB : ((R : Int) == (mid : Int)) = false := by simp; omega
                            have HM : Hid (rank pass has T k N ≠ mid) := fun e => hm (hR.out.trans e)
                            go_wp2
                            exact ⟨⟨k + 1, _, by go_num, rfl, by omega, hD.out.trans (med_drop (.inr HM.out)).symm, HBX.out.trans (hBX.out.mono HBX.out.size)⟩, by simp [intOf]; omega⟩
                · have hk : N = k := by omega
                  subst hk
                  obtain rfl : D = (r1 : Int) := hD.out.trans HED.out
                  have v0 : wr.cell? ⟨p14, 0, none⟩ = some (.int .i64 s') := (hB.out.cell (by exact hl14)).trans (cell_of_row w3 _ 0 _ 37 (0, 0) HP14.out)
                  have v1 : wr.cell? ⟨p14, 1, none⟩ = some (.slice (some ⟨g, 0, none⟩) 3 cv) := (hB.out.cell (by exact hl14)).trans (cell_of_row w3 _ 1 _ 37 (0, 0) HP14.out)
                  have HV1 : Hid _ := v1
                  go_wp2_with (go_at_call 5; with_reducible refine (name5 _ s' HS.out).mono ?_; rintro e w1 ⟨rfl, rfl⟩)
                  clear v0 v1
                  obtain ⟨w6, hw6⟩ : ∃ w6, w6 = W6 wr r0 r1 r2 := ⟨_, rfl⟩
                  have hw6' : ((wr.alloc (.cells #[.int .i64 (r0 : Int), .int .i64 (r1 : Int), .int .i64 (r2 : Int)] 40)).alloc (.cells #[.string ⟨#[109, 105, 110]⟩, .string ⟨#[109, 101, 100, 105, 97, 110]⟩, .string ⟨#[109, 97, 120]⟩] 41)).alloc (.cells #[.string ⟨#[109, 105, 110, 105, 109, 117, 109]⟩, .string ⟨#[109, 101, 100, 105, 97, 110]⟩, .string ⟨#[109, 97, 120, 105, 109, 117, 109]⟩] 41) = w6 := hw6.symm
                  rw [hw6']
                  have hb36 : Below w3.heap.size w3 w6 := by rw [hw6]; exact hB.out.trans ((W6.below _ _ _ _).mono hB.out.size)
                  have HB36 : Hid (Below w3.heap.size w3 w6) := hb36
                  have HFR6 : Hid (Fr (fun _ => False) w w6) := HFR3.out.below hb36
                  have HTAB : Hid (∀ j, j < 3 → w6.cell? ⟨wr.heap.size, j, none⟩ = some (.int .i64 (r j : Int)) ∧ w6.cell? ⟨wr.heap.size + 1, j, none⟩ = some (.string (nm j)) ∧ w6.cell? ⟨wr.heap.size + 1 + 1, j, none⟩ = some (.string (lb j))) := fun j hj => by
                    rw [hw6, ← pick_eq HR0.out HR1.out HR2.out j hj]
                    exact W6.cells _ _ _ _ j hj
                  have HSZ6 : Hid (wr.heap.size + 3 ≤ w6.heap.size) := by rw [hw6, W6.size]; exact Nat.le_refl _
                  have HST6 : Hid (∀ j, j < 3 → StatAt w6 g s' dir r j) := fun j hj => (HST.out j hj).below hb36
                  have HLAB6 : Hid (∀ x, x < N → ∃ v, w6.cell? ⟨h, x * 13 + 12, none⟩ = some v ∧ StrsAt w6 v (labs s' r 3 x)) := fun x hx => by
                    obtain ⟨v, hv1, hv2⟩ := HLAB.out x hx
                    have e3 := (hb36.cell (World.block_lt_of_cell? _ _ hv1)).trans hv1
                    exact ⟨v, e3, hv2.below hb36⟩
                  have HV6 : Hid (w6.cell? ⟨p14, 1, none⟩ = some (.slice (some ⟨g, 0, none⟩) 3 cv)) := (hb36.cell (by exact hl14)).trans (cell_of_row w3 _ 1 _ 37 (0, 0) HP14.out)
                  have hl36 := hb36.size
                  clear hw6 hw6' hb36 HV1 HST HLAB hB
                  generalize wr.heap.size = p29 at *
                  have hn1 : (sideName s').size ≤ 7 := by unfold sideName; split; · decide
                                                          split <;> decide
                  have HN1 : Hid _ := hn1
                  go_loopw [33] (fun jv wq => ∃ j : Nat, jv = .int .i64 (j : Int) ∧ j ≤ 3 ∧ Hid (Below w6.heap.size w6 wq)) (fun jv _ => 3 - (intOf jv).toNat)
                  case atStart => exact ⟨0, rfl, by omega, Below.refl _ _⟩
                  case round =>
                    obtain ⟨j, rfl, hj3, hB⟩ := hrel
                    by_cases hjlt : j < 3
                    · have hjI : (j : Int) < 3 := by omega
                      obtain ⟨x, hx⟩ : ∃ x, r j = x := ⟨_, rfl⟩
                      have hxN : x < N := by rw [← hx]; exact HPK.out j hjlt
                      obtain ⟨t0, t1, t2⟩ := HTAB.out j hjlt
                      obtain ⟨q0, q1, ⟨tt, q2⟩, q3, q4⟩ := (HST6.out j hjlt).below hB.out
                      have v1 : wr.cell? ⟨p14, 1, none⟩ = some (.slice (some ⟨g, 0, none⟩) 3 cv) := (hB.out.cell (World.block_lt_of_cell? _ _ HV6.out)).trans HV6.out
                      have u0 := (hB.out.cell (World.block_lt_of_cell? _ _ t0)).trans t0
                      have u1 := (hB.out.cell (World.block_lt_of_cell? _ _ t1)).trans t1
                      have u2 := (hB.out.cell (World.block_lt_of_cell? _ _ t2)).trans t2
                      rw [hx] at u0 q3 q4
                      have hfedr : FedA wr a0 N pass has T O dir := HFED.out.fr (HFR6.out.below hB.out) (by simp)
                      rcases hfedr with hz | ⟨b, off, rfl, hbl, hc⟩
                      · omega
                      have ed := (hc x hxN).2.2.2.2
                      have hxI : (x : Int) < (N : Int) := by omega
                      have hx0 : ¬ ((x : Int) < 0) := by omega
                      have hn1 := HN1.out
                      have hn2 : (nm j).size ≤ 6 := by unfold nm; split; · decide
                                                       split <;> decide
                      have a1 : (9223372036854775807 < (sideName s').size + 1) = False := eq_false (by omega)
                      have a2 : (9223372036854775806 < (sideName s').size) = False := eq_false (by omega)
                      have a3 : (9223372036854775807 < (sideName s').size + 1 + (nm j).size) = False := eq_false (by omega)
                      have a4 : (9223372036854775807 ≤ (sideName s').size) = False := eq_false (by omega)
                      have hbY : ∀ o, Hid (Below w6.heap.size w6 (wr.alloc o)) := fun o => hB.out.trans ((below_alloc1 wr o).mono hB.out.size)
                      have hsz : w6.heap.size ≤ wr.heap.size := hB.out.size
                      have hsz6 := HSZ6.out
                      have hp29 : p29 < wr.heap.size := by omega
                      have hp30 : p29 + 1 < wr.heap.size := by omega
                      have hp31 : p29 + 1 + 1 < wr.heap.size := by omega
                      clear hc hx t0 t1 t2 hB
                      have z0 : wr.cell? ⟨g, j * 5, none⟩ = some (.string (sideName s' ++ ⟨#[45]⟩ ++ nm j)) := q0
                      clear q0
                      obtain ⟨Y, hY⟩ : ∃ Y, Y = wr.alloc (.cells #[.string (sideName s' ++ ⟨#[45]⟩ ++ nm j), .string (lb j), .string tt, .string (dir x), .int .i64 ((x : Int) + 1)] 44) := ⟨_, rfl⟩
                      have hYb : Y.heap[wr.heap.size]? = some (.cells #[.string (sideName s' ++ ⟨#[45]⟩ ++ nm j), .string (lb j), .string tt, .string (dir x), .int .i64 ((x : Int) + 1)] 44 (0, 0)) := by rw [hY]; exact heap_alloc_new _ _
                      have hbY1 : Below wr.heap.size wr Y := by rw [hY]; exact below_alloc1 _ _
                      have HY : Hid (Y = wr.alloc (.cells #[.string (sideName s' ++ ⟨#[45]⟩ ++ nm j), .string (lb j), .string tt, .string (dir x), .int .i64 ((x : Int) + 1)] 44)) := hY
                      have y0 : Y.cell? ⟨wr.heap.size, 0, none⟩ = some (.string (sideName s' ++ ⟨#[45]⟩ ++ nm j)) := cell_of_row Y _ 0 _ 44 (0, 0) hYb
                      have y1 : Y.cell? ⟨wr.heap.size, 1, none⟩ = some (.string (lb j)) := cell_of_row Y _ 1 _ 44 (0, 0) hYb
                      have y3 : Y.cell? ⟨wr.heap.size, 3, none⟩ = some (.string (dir x)) := cell_of_row Y _ 3 _ 44 (0, 0) hYb
                      have y4 : Y.cell? ⟨wr.heap.size, 4, none⟩ = some (.int .i64 ((x : Int) + 1)) := cell_of_row Y _ 4 _ 44 (0, 0) hYb
                      have Y0 : Y.cell? ⟨p29, j, none⟩ = some (.int .i64 (x : Int)) := (hbY1.cell (by exact hp29)).trans u0
                      have Y1 : Y.cell? ⟨p29 + 1, j, none⟩ = some (.string (nm j)) := (hbY1.cell (by exact hp30)).trans u1
                      have Y2 : Y.cell? ⟨p29 + 1 + 1, j, none⟩ = some (.string (lb j)) := (hbY1.cell (by exact hp31)).trans u2
                      have Y4 : Y.cell? ⟨b, off + x * 5 + 4, none⟩ = some (.string (dir x)) := (hbY1.cell (by exact hbl)).trans ed
                      have HEY : Hid (Below w6.heap.size w6 Y) := by rw [hY]; exact (hbY _).out
                      clear hY hYb hbY1 hbY
                      go_wp2
                      rw [← HY.out]
                      clear u0 u1 u2 ed q1 q2 q3 q4 z0 v1 HY
                      go_quiet (fail)
                      go_wp2
                      exact ⟨⟨j + 1, by go_num, by omega, below_drewN HEY.out _⟩, by simp [intOf]; omega⟩
                    · have hj : ¬ ((j : Int) < 3) := by omega
                      have HF6 : Hid (Fr (fun _ => False) w6 wr) := (Fr.refl _ _).below hB.out
                      obtain ⟨i9, hi9, hz90, hz91, hz92⟩ := info_parts sinfo9
                      clear hB hj3 hjlt
                      generalize (j : Int) = J at *
                      go_wp2
                      clear hj
                      go_loopw [304] (fun iv wq => ∃ k : Nat, iv = .int .i64 (k : Int) ∧ k ≤ N ∧ Hid (Fr (fun _ => False) w6 wq)) (fun iv _ => N - (intOf iv).toNat)
                      case atStart => exact ⟨0, rfl, Nat.zero_le _, HF6⟩
                      case round =>
                        obtain ⟨k, rfl, hkN, hf⟩ := hrel
                        by_cases hlt : k < N
                        · have hltI : (k : Int) < (N : Int) := by omega
                          obtain ⟨vk, hvk, hsk⟩ := HLAB6.out k hlt
                          have HVK : Hid (w6.cell? ⟨h, k * 13 + 12, none⟩ = some vk) := hvk
                          have HSK : Hid (StrsAt w6 vk (labs s' r 3 k)) := hsk
                          clear hvk hsk
                          go_wp2
                          go_loopw [36, 37] (fun v jv wq => ∃ j : Nat, jv = .int .i64 (j : Int) ∧ j ≤ 3 ∧ Hid (Fr (fun _ => False) w6 wq) ∧ Hid (wq.ownsRow w6.heap.size 9 1 v (labs s' r j k).length ((labs s' r j k).map Value.string))) (fun _ jv _ => 3 - (intOf jv).toNat)
                          case atStart => exact ⟨0, rfl, by omega, hf, World.ownsRow_nil _ _ _ _⟩
                          case round =>
                            obtain ⟨j, rfl, hj3, hf, hown⟩ := hrel
                            by_cases hjlt : j < 3
                            · have hjI : (j : Int) < 3 := by omega
                              obtain ⟨t0, t1, _⟩ := HTAB.out j hjlt
                              obtain ⟨x, HXR⟩ : ∃ x, Hid (r j = x) := ⟨_, rfl⟩
                              rw [HXR.out] at t0
                              have hsz : w6.heap.size ≤ wr.heap.size := hf.out.size
                              have hsz6 := HSZ6.out
                              have hp29 : p29 < wr.heap.size := by omega
                              have hp30 : p29 + 1 < wr.heap.size := by omega
                              have u0 : wr.cell? ⟨p29, j, none⟩ = some (.int .i64 (x : Int)) := hf.out.cell t0 (by simp)
                              have u1 : wr.cell? ⟨p29 + 1, j, none⟩ = some (.string (nm j)) := hf.out.cell t1 (by simp)
                              by_cases hxk : x = k
                              · subst hxk
                                have hown1 := hown.out
                                have hn1 := HN1.out
                                have hn2 : (nm j).size ≤ 6 := by unfold nm; split; · decide
                                                                 split <;> decide
                                have a1 : (9223372036854775807 < (sideName s').size + 1) = False := eq_false (by omega)
                                have a2 : (9223372036854775806 < (sideName s').size) = False := eq_false (by omega)
                                have a3 : (9223372036854775807 < (sideName s').size + 1 + (nm j).size) = False := eq_false (by omega)
                                have a4 : (9223372036854775807 ≤ (sideName s').size) = False := eq_false (by omega)
                                have hll := labs_len s' r j x
                                clear t0 t1
                                go_wp2_with (at_builtin; refine wpList_append_lies _ rfl (.tmp 316) (.tmp 323) 32 rfl w6.heap.size 9 i9 (.string ⟨#[]⟩) 1 16 Ybaf.underlying32 hi9 hz90 hz91 hz92 rfl (by decide) _ _ _ rfl (hown1.alloc _) ⟨wr.heap.size, 0, none⟩ 1 1 [.string (sideName s' ++ ⟨#[45]⟩ ++ nm j)] rfl rfl (fun i u hu => by have := one_cell (.string (sideName s' ++ ⟨#[45]⟩ ++ nm j)) wr 9 i u hu; simpa using this) (by simp [Value.oneCell']) (by decide) (by unfold maxLen; omega) (by omega) (by simp; omega) _ rfl ?_)
                                intro g3 c3 w1 hown2 hgrow2 hat2 hglt2
                                have HF9 : Hid (Fr (fun _ => False) w6 w1) := (hf.out.alloc _).grown hgrow2 (fun i e => .inr (hown1.lt i e).1)
                                have HO9 : Hid (w1.ownsRow w6.heap.size 9 1 (.slice (some ⟨g3, 0, none⟩) ((labs s' r j x).length + 1) c3) (labs s' r (j + 1) x).length ((labs s' r (j + 1) x).map Value.string)) := by
                                  rw [labs_hit HXR.out]
                                  simp only [List.length_append, List.length_cons, List.length_nil, List.map_append, List.map_cons, List.map_nil]
                                  exact hown2
                                clear hown2 hgrow2 hat2 hglt2 hown1
                                go_wp2
                                exact ⟨⟨j + 1, by go_num, by omega, HF9, HO9⟩, by simp [intOf]; omega⟩
                              · have hxI : ¬ ((x : Int) = (k : Int)) := by omega
                                have hxB : ((x : Int) == (k : Int)) = false := by simp; omega
                                clear t0 t1
                                go_wp2
                                exact ⟨⟨j + 1, by go_num, by omega, hf, by rw [labs_miss (by rw [HXR.out]; exact hxk)]; exact hown⟩, by simp [intOf]; omega⟩
                            · have hj : j = 3 := by omega
                              subst hj
                              have hlh : h < wr.heap.size := Nat.lt_of_lt_of_le (World.block_lt_of_cell? _ _ HVK.out) hf.out.size
                              have cvk : wr.cell? ⟨h, k * 13 + 12, none⟩ = some vk := hf.out.cell HVK.out (by simp)
                              have HEQ : Hid (Calls Ybaf.prog 6 #[vk, u36] wr fun e w' => e = .returned (.bool true) ∧ Below wr.heap.size wr w') := equal6 wr vk u36 (labs s' r 3 k) (Nat.le_trans (labs_len _ _ _ _) (by omega)) (HSK.out.fr hf.out) (strs_of hown.out)
                              go_wp2_with (go_at_call 6; with_reducible refine HEQ.out.mono ?_; rintro e wz ⟨rfl, hbz⟩)
                              exact ⟨⟨k + 1, by go_num, by omega, hf.out.below hbz⟩, by simp [intOf]; omega⟩
                        · have hk : N = k := by omega
                          subst hk
                          go_wp2
                          go_ret
                          exact ⟨rfl, below_of_fr (Fr.split HFR6.out (hf.out.mono (by simp)))⟩
end Go.Proofs.YbulkckkFmt.st
