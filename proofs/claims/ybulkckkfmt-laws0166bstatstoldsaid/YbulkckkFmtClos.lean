/-
  isNaN (16), cmp.Compare (10), sideStats$1 (7).
-/
import Derived.Test.YbulkckkFmtRow
import Derived.Deep.MidRow
import Derived.Deep.RegionHeld3
import Derived.Lib.SmallJoins
namespace Go.Proofs.YbulkckkFmt.st
open Go.RowKit Go.Joins
set_option linter.unusedVariables false
set_option linter.unusedSimpArgs false

theorem nan16 (w : World) (x : Int) : Calls Ybaf.prog 16 #[.int .i64 x] w fun e w' => e = .returned (.bool false) ∧ w' = w := by
  go_enter Ybaf.func16, Ybaf.ntmps16
  go_wp2
  go_ret
  exact ⟨rfl, rfl⟩

theorem cmp10 (w : World) (x y : Int) : Calls Ybaf.prog 10 #[.int .i64 x, .int .i64 y] w fun e w' => (∃ c : Int, e = .returned (.int .i64 c) ∧ Hid (c < 0 ↔ x < y)) ∧ w' = w := by
  have h1 := nan16 w x
  have h2 := nan16 w y
  rcases Int.lt_trichotomy x y with h | h | h
  · go_enter Ybaf.func10, Ybaf.ntmps10
    go_wp2_with fail
    refine h1.mono ?_
    rintro e w1 ⟨rfl, rfl⟩
    go_wp2_with fail
    refine h2.mono ?_
    rintro e w1 ⟨rfl, rfl⟩
    go_wp2
    go_ret
    exact ⟨⟨-1, rfl, by constructor <;> intro <;> omega⟩, rfl⟩
  · subst h
    go_enter Ybaf.func10, Ybaf.ntmps10
    go_wp2_with fail
    refine h1.mono ?_
    rintro e w1 ⟨rfl, rfl⟩
    go_wp2_with fail
    refine h2.mono ?_
    rintro e w1 ⟨rfl, rfl⟩
    go_wp2
    go_ret
    exact ⟨⟨0, rfl, by constructor <;> intro <;> omega⟩, rfl⟩
  · have h' : ¬ x < y := by omega
    go_enter Ybaf.func10, Ybaf.ntmps10
    go_wp2_with fail
    refine h1.mono ?_
    rintro e w1 ⟨rfl, rfl⟩
    go_wp2_with fail
    refine h2.mono ?_
    rintro e w1 ⟨rfl, rfl⟩
    go_wp2
    go_ret
    exact ⟨⟨1, rfl, by constructor <;> intro <;> omega⟩, rfl⟩

theorem total7 (w : World) (A : Array Value) (p : Nat) (s : Int) (q7 q8 : Option Addr) (hs : w.cell? ⟨p, 0, none⟩ = some (.int .i64 s)) (hA : A.size = 13) (h7 : A[7]? = some (.pointer q7)) (h8 : A[8]? = some (.pointer q8)) :
    Calls Ybaf.prog 7 #[.agg A, .pointer (some ⟨p, 0, none⟩)] w fun e w' => e = .returned (.pointer (if s = 0 then q7 else q8)) ∧ Below w.heap.size w w' := by
  have hs' : (w.alloc (.cells A 34)).cell? ⟨p, 0, none⟩ = some (.int .i64 s) := (World.grownBy_alloc w _ Option.none).cell hs (by simp)
  have h7' : (w.alloc (.cells A 34)).cell? ⟨w.heap.size, 7, none⟩ = some (.pointer q7) := (cell_of_row (w.alloc (.cells A 34)) w.heap.size 7 A 34 (0, 0) (heap_alloc_new w _)).trans h7
  have h8' : (w.alloc (.cells A 34)).cell? ⟨w.heap.size, 8, none⟩ = some (.pointer q8) := (cell_of_row (w.alloc (.cells A 34)) w.heap.size 8 A 34 (0, 0) (heap_alloc_new w _)).trans h8
  by_cases h0 : s = 0
  · subst h0
    go_enter Ybaf.func7, Ybaf.ntmps7
    go_wp2
    go_ret
    exact ⟨by simp, below_alloc1 _ _⟩
  · go_enter Ybaf.func7, Ybaf.ntmps7
    go_wp2
    go_ret
    exact ⟨by simp [h0], below_alloc1 _ _⟩

/-- A row's cells. -/
def rowA (A : Nat → Value) : Array Value := #[A 0, A 1, A 2, A 3, A 4, A 5, A 6, A 7, A 8, A 9, A 10, A 11, A 12]
def RowIn (w : World) (h x : Nat) (A : Nat → Value) : Prop := ∀ j, j < 13 → w.cell? ⟨h, x * 13 + j, none⟩ = some (A j)
/-- The pointer that side s reads in them. -/
def Tot (A : Nat → Value) (s : Int) (q : Option Addr) : Prop :=
  ∃ q7 q8 : Option Addr, A 7 = .pointer q7 ∧ A 8 = .pointer q8 ∧ (if s = 0 then q7 else q8) = q

theorem tot7 (w : World) (A : Nat → Value) (p : Nat) (s : Int) (q : Option Addr) (hs : w.cell? ⟨p, 0, none⟩ = some (.int .i64 s)) (hA : Tot A s q) :
    Calls Ybaf.prog 7 #[.agg (rowA A), .pointer (some ⟨p, 0, none⟩)] w fun e w' => e = .returned (.pointer q) ∧ Below w.heap.size w w' := by
  obtain ⟨q7, q8, h7, h8, hq⟩ := hA
  have := total7 w (rowA A) p s q7 q8 hs rfl (by simp [rowA, h7]) (by simp [rowA, h8])
  rw [hq] at this
  exact this

theorem RowIn.lt {w : World} {h x : Nat} {A : Nat → Value} (k : RowIn w h x A) : h < w.heap.size := World.block_lt_of_cell? w _ (k 0 (by omega))
theorem RowIn.below {w w' : World} {h x : Nat} {A : Nat → Value} (k : RowIn w h x A) (b : Below w.heap.size w w') : RowIn w' h x A :=
  fun j hj => (b.cell (by exact k.lt)).trans (k j hj)

set_option maxHeartbeats 4000000 in
theorem cmp9 (w : World) (x y p1 p2 p3 h N cap d e : Nat) (s tx ty : Int) (A B : Nat → Value) (hx : x < N) (hy : y < N)
    (c1 : w.cell? ⟨p1, 0, none⟩ = some (.func (.func 7) #[] #[.pointer (some ⟨p3, 0, none⟩)])) (c2 : w.cell? ⟨p2, 0, none⟩ = some (.slice (some ⟨h, 0, none⟩) N cap)) (c3 : w.cell? ⟨p3, 0, none⟩ = some (.int .i64 s))
    (hA : Tot A s (some ⟨d, 0, none⟩)) (hB : Tot B s (some ⟨e, 0, none⟩)) (rA : RowIn w h x A) (rB : RowIn w h y B) (cx : w.cell? ⟨d, 0, none⟩ = some (.int .i64 tx)) (cy : w.cell? ⟨e, 0, none⟩ = some (.int .i64 ty)) :
    Calls Ybaf.prog 9 #[.int .i64 (x : Int), .int .i64 (y : Int), .pointer (some ⟨p1, 0, none⟩), .pointer (some ⟨p2, 0, none⟩)] w fun e w' => ∃ c : Int, e = .returned (.int .i64 c) ∧ Hid (c < 0 ↔ tx < ty) ∧ Below w.heap.size w w' := by
  have k1 : ∀ w', Below w.heap.size w w' → w'.cell? ⟨p1, 0, none⟩ = some (.func (.func 7) #[] #[.pointer (some ⟨p3, 0, none⟩)]) := fun w' k => (k.cell (World.block_lt_of_cell? w _ c1)).trans c1
  have k2 : ∀ w', Below w.heap.size w w' → w'.cell? ⟨p2, 0, none⟩ = some (.slice (some ⟨h, 0, none⟩) N cap) := fun w' k => (k.cell (World.block_lt_of_cell? w _ c2)).trans c2
  have k3 : ∀ w', Below w.heap.size w w' → w'.cell? ⟨d, 0, none⟩ = some (.int .i64 tx) := fun w' k => (k.cell (World.block_lt_of_cell? w _ cx)).trans cx
  have k4 : ∀ w', Below w.heap.size w w' → w'.cell? ⟨e, 0, none⟩ = some (.int .i64 ty) := fun w' k => (k.cell (World.block_lt_of_cell? w _ cy)).trans cy
  have k5 : ∀ w', Below w.heap.size w w' → w'.cell? ⟨h, x * 13, none⟩ = some (A 0) := fun w' k => (rA.below k) 0 (by omega)
  have k6 : ∀ w' j, Below w.heap.size w w' → j < 13 → w'.cell? ⟨h, x * 13 + j, none⟩ = some (A j) := fun w' j k hj => (rA.below k) j hj
  have k7 : ∀ w', Below w.heap.size w w' → w'.cell? ⟨h, y * 13, none⟩ = some (B 0) := fun w' k => (rB.below k) 0 (by omega)
  have k8 : ∀ w' j, Below w.heap.size w w' → j < 13 → w'.cell? ⟨h, y * 13 + j, none⟩ = some (B j) := fun w' j k hj => (rB.below k) j hj
  have HX : Hid (∀ w', Below w.heap.size w w' → Calls Ybaf.prog 7 #[.agg #[A 0, A 1, A 2, A 3, A 4, A 5, A 6, A 7, A 8, A 9, A 10, A 11, A 12], .pointer (some ⟨p3, 0, none⟩)] w' fun e w'' => e = .returned (.pointer (some ⟨d, 0, none⟩)) ∧ Below w'.heap.size w' w'') := fun w' k => tot7 w' A p3 s _ ((k.cell (World.block_lt_of_cell? w _ c3)).trans c3) hA
  have HY : Hid (∀ w', Below w.heap.size w w' → Calls Ybaf.prog 7 #[.agg #[B 0, B 1, B 2, B 3, B 4, B 5, B 6, B 7, B 8, B 9, B 10, B 11, B 12], .pointer (some ⟨p3, 0, none⟩)] w' fun e' w'' => e' = .returned (.pointer (some ⟨e, 0, none⟩)) ∧ Below w'.heap.size w' w'') := fun w' k => tot7 w' B p3 s _ ((k.cell (World.block_lt_of_cell? w _ c3)).trans c3) hB
  have b1 : (0 : Int) ≤ (x : Int) := by omega
  have b2 : (x : Int) < (N : Int) := by omega
  have b3 : (0 : Int) ≤ (y : Int) := by omega
  have b4 : (y : Int) < (N : Int) := by omega
  clear c1 c2 c3 cx cy rA rB hA hB
  go_enter Ybaf.func9, Ybaf.ntmps9
  go_wp2
  go_region_held3 (fun w' => Below w.heap.size w w') (first | assumption | exact Below.refl _ _ | exact (Below.refl _ _).drew | exact Below.trans ‹Below w.heap.size w _› (Below.mono ‹Below _ _ _› (Below.size ‹Below w.heap.size w _›)))
    (first | (go_at_call 7; with_reducible refine (HX.out _ (by assumption)).mono ?_; rintro e w1 ⟨rfl, hb1⟩) | (go_at_call 7; with_reducible refine (HY.out _ (by assumption)).mono ?_; rintro e w1 ⟨rfl, hb1⟩) | (go_at_call 10; with_reducible refine (cmp10 _ tx ty).mono ?_; rintro e w1 ⟨⟨c, rfl, hc⟩, rfl⟩))
  have hfin : Below w.heap.size w w1 := by assumption
  go_wp2
  go_ret
  exact ⟨c, rfl, hc, hfin⟩

set_option maxHeartbeats 4000000 in
theorem same12 (w : World) (x z n m p1 p2 p3 p4 p5 g gcap h N cap d e : Nat) (s tx ty : Int) (A B : Nat → Value) (hx : x < N) (hz : z < N) (hn : n = m + 1) (hn2 : n ≤ 1024)
    (c1 : w.cell? ⟨p1, 0, none⟩ = some (.func (.func 7) #[] #[.pointer (some ⟨p3, 0, none⟩)])) (c2 : w.cell? ⟨p2, 0, none⟩ = some (.slice (some ⟨h, 0, none⟩) N cap)) (c3 : w.cell? ⟨p3, 0, none⟩ = some (.int .i64 s))
    (c4 : w.cell? ⟨p4, 0, none⟩ = some (.slice (some ⟨g, 0, none⟩) n gcap)) (c5 : w.cell? ⟨p5, 0, none⟩ = some (.int .i64 (n : Int))) (c6 : w.cell? ⟨g, m, none⟩ = some (.int .i64 (z : Int)))
    (hA : Tot A s (some ⟨d, 0, none⟩)) (hB : Tot B s (some ⟨e, 0, none⟩)) (rA : RowIn w h x A) (rB : RowIn w h z B) (cx : w.cell? ⟨d, 0, none⟩ = some (.int .i64 tx)) (cy : w.cell? ⟨e, 0, none⟩ = some (.int .i64 ty)) :
    Calls Ybaf.prog 12 #[.int .i64 (x : Int), .pointer (some ⟨p1, 0, none⟩), .pointer (some ⟨p2, 0, none⟩), .pointer (some ⟨p4, 0, none⟩), .pointer (some ⟨p5, 0, none⟩)] w fun e w' => ∃ c : Bool, e = .returned (.bool c) ∧ Hid (c = true ↔ tx = ty) ∧ Below w.heap.size w w' := by
  have k1 : ∀ w', Below w.heap.size w w' → w'.cell? ⟨p1, 0, none⟩ = some (.func (.func 7) #[] #[.pointer (some ⟨p3, 0, none⟩)]) := fun w' k => (k.cell (World.block_lt_of_cell? w _ c1)).trans c1
  have k2 : ∀ w', Below w.heap.size w w' → w'.cell? ⟨p2, 0, none⟩ = some (.slice (some ⟨h, 0, none⟩) N cap) := fun w' k => (k.cell (World.block_lt_of_cell? w _ c2)).trans c2
  have k3 : ∀ w', Below w.heap.size w w' → w'.cell? ⟨d, 0, none⟩ = some (.int .i64 tx) := fun w' k => (k.cell (World.block_lt_of_cell? w _ cx)).trans cx
  have k4 : ∀ w', Below w.heap.size w w' → w'.cell? ⟨e, 0, none⟩ = some (.int .i64 ty) := fun w' k => (k.cell (World.block_lt_of_cell? w _ cy)).trans cy
  have k5 : ∀ w', Below w.heap.size w w' → w'.cell? ⟨h, x * 13, none⟩ = some (A 0) := fun w' k => (rA.below k) 0 (by omega)
  have k6 : ∀ w' j, Below w.heap.size w w' → j < 13 → w'.cell? ⟨h, x * 13 + j, none⟩ = some (A j) := fun w' j k hj => (rA.below k) j hj
  have k7 : ∀ w', Below w.heap.size w w' → w'.cell? ⟨h, z * 13, none⟩ = some (B 0) := fun w' k => (rB.below k) 0 (by omega)
  have k8 : ∀ w' j, Below w.heap.size w w' → j < 13 → w'.cell? ⟨h, z * 13 + j, none⟩ = some (B j) := fun w' j k hj => (rB.below k) j hj
  have k9 : ∀ w', Below w.heap.size w w' → w'.cell? ⟨p4, 0, none⟩ = some (.slice (some ⟨g, 0, none⟩) n gcap) := fun w' k => (k.cell (World.block_lt_of_cell? w _ c4)).trans c4
  have k10 : ∀ w', Below w.heap.size w w' → w'.cell? ⟨p5, 0, none⟩ = some (.int .i64 (n : Int)) := fun w' k => (k.cell (World.block_lt_of_cell? w _ c5)).trans c5
  have k11 : ∀ w', Below w.heap.size w w' → w'.cell? ⟨g, m, none⟩ = some (.int .i64 (z : Int)) := fun w' k => (k.cell (World.block_lt_of_cell? w _ c6)).trans c6
  have HX : Hid (∀ w', Below w.heap.size w w' → Calls Ybaf.prog 7 #[.agg #[A 0, A 1, A 2, A 3, A 4, A 5, A 6, A 7, A 8, A 9, A 10, A 11, A 12], .pointer (some ⟨p3, 0, none⟩)] w' fun e w'' => e = .returned (.pointer (some ⟨d, 0, none⟩)) ∧ Below w'.heap.size w' w'') := fun w' k => tot7 w' A p3 s _ ((k.cell (World.block_lt_of_cell? w _ c3)).trans c3) hA
  have HY : Hid (∀ w', Below w.heap.size w w' → Calls Ybaf.prog 7 #[.agg #[B 0, B 1, B 2, B 3, B 4, B 5, B 6, B 7, B 8, B 9, B 10, B 11, B 12], .pointer (some ⟨p3, 0, none⟩)] w' fun e' w'' => e' = .returned (.pointer (some ⟨e, 0, none⟩)) ∧ Below w'.heap.size w' w'') := fun w' k => tot7 w' B p3 s _ ((k.cell (World.block_lt_of_cell? w _ c3)).trans c3) hB
  have b1 : (0 : Int) ≤ (x : Int) := by omega
  have b2 : (x : Int) < (N : Int) := by omega
  have b3 : (0 : Int) ≤ (z : Int) := by omega
  have b4 : (z : Int) < (N : Int) := by omega
  have b5 : (0 : Int) ≤ (m : Int) := by omega
  have b6 : (m : Int) < (n : Int) := by omega
  have b7 : IntKind.i64.wrap ((n : Int) - 1) = (m : Int) := by rw [IntKind.wrap_i64]; omega
  clear c1 c2 c3 c4 c5 c6 cx cy rA rB hA hB hn
  go_enter Ybaf.func12, Ybaf.ntmps12
  go_wp2
  go_region_held3 (fun w' => Below w.heap.size w w') (first | assumption | exact Below.refl _ _ | exact (Below.refl _ _).drew | exact Below.trans ‹Below w.heap.size w _› (Below.mono ‹Below _ _ _› (Below.size ‹Below w.heap.size w _›)))
    (first | (go_at_call 7; with_reducible refine (HX.out _ (by assumption)).mono ?_; rintro e w1 ⟨rfl, hb1⟩) | (go_at_call 7; with_reducible refine (HY.out _ (by assumption)).mono ?_; rintro e w1 ⟨rfl, hb1⟩))
  have hfin : Below w.heap.size w w1 := by assumption
  go_wp2
  go_ret
  exact ⟨_, rfl, by simp [Hid], hfin⟩

end Go.Proofs.YbulkckkFmt.st
