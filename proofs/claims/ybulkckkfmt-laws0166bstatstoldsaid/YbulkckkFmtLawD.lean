/-
  The law (3): its tables.
-/
import Derived.Test.YbulkckkFmtLawC
import Derived.Test.YbulkckkFmtSideR
namespace Go.Proofs.YbulkckkFmt.st
open Go.RowKit Go.Joins
set_option linter.unusedVariables false
set_option linter.unusedSimpArgs false

/-- The three tables that the law lays. -/
def W6 (w : World) (r0 r1 r2 : Nat) : World :=
  ((w.alloc (.cells #[.int .i64 (r0 : Int), .int .i64 (r1 : Int), .int .i64 (r2 : Int)] 40)).alloc (.cells #[.string ⟨#[109, 105, 110]⟩, .string ⟨#[109, 101, 100, 105, 97, 110]⟩, .string ⟨#[109, 97, 120]⟩] 41)).alloc (.cells #[.string ⟨#[109, 105, 110, 105, 109, 117, 109]⟩, .string ⟨#[109, 101, 100, 105, 97, 110]⟩, .string ⟨#[109, 97, 120, 105, 109, 117, 109]⟩] 41)

theorem W6.below (w : World) (r0 r1 r2 : Nat) : Below w.heap.size w (W6 w r0 r1 r2) := alloc3_below _ _ _ _
theorem W6.size (w : World) (r0 r1 r2 : Nat) : (W6 w r0 r1 r2).heap.size = w.heap.size + 3 := by simp [W6]
theorem W6.cells (w : World) (r0 r1 r2 : Nat) (j : Nat) (hj : j < 3) : (W6 w r0 r1 r2).cell? ⟨w.heap.size, j, none⟩ = some (.int .i64 (pick r0 r1 r2 j : Int)) ∧ (W6 w r0 r1 r2).cell? ⟨w.heap.size + 1, j, none⟩ = some (.string (nm j)) ∧ (W6 w r0 r1 r2).cell? ⟨w.heap.size + 1 + 1, j, none⟩ = some (.string (lb j)) := by
  have h0 : (W6 w r0 r1 r2).heap[w.heap.size]? = some (.cells #[.int .i64 (r0 : Int), .int .i64 (r1 : Int), .int .i64 (r2 : Int)] 40 (0, 0)) := by
    unfold W6
    rw [Below.heap_alloc _ _ _ (by simp only [World.size_alloc]; omega), Below.heap_alloc _ _ _ (by simp)]
    exact heap_alloc_new _ _
  have h1 : (W6 w r0 r1 r2).heap[w.heap.size + 1]? = some (.cells #[.string ⟨#[109, 105, 110]⟩, .string ⟨#[109, 101, 100, 105, 97, 110]⟩, .string ⟨#[109, 97, 120]⟩] 41 (0, 0)) := by
    unfold W6
    rw [Below.heap_alloc _ _ _ (by simp)]
    have := heap_alloc_new (w.alloc (.cells #[.int .i64 (r0 : Int), .int .i64 (r1 : Int), .int .i64 (r2 : Int)] 40)) (.cells #[.string ⟨#[109, 105, 110]⟩, .string ⟨#[109, 101, 100, 105, 97, 110]⟩, .string ⟨#[109, 97, 120]⟩] 41)
    rw [World.size_alloc] at this
    exact this
  have h2 : (W6 w r0 r1 r2).heap[w.heap.size + 1 + 1]? = some (.cells #[.string ⟨#[109, 105, 110, 105, 109, 117, 109]⟩, .string ⟨#[109, 101, 100, 105, 97, 110]⟩, .string ⟨#[109, 97, 120, 105, 109, 117, 109]⟩] 41 (0, 0)) := by
    unfold W6
    have := heap_alloc_new ((w.alloc (.cells #[.int .i64 (r0 : Int), .int .i64 (r1 : Int), .int .i64 (r2 : Int)] 40)).alloc (.cells #[.string ⟨#[109, 105, 110]⟩, .string ⟨#[109, 101, 100, 105, 97, 110]⟩, .string ⟨#[109, 97, 120]⟩] 41)) (.cells #[.string ⟨#[109, 105, 110, 105, 109, 117, 109]⟩, .string ⟨#[109, 101, 100, 105, 97, 110]⟩, .string ⟨#[109, 97, 120, 105, 109, 117, 109]⟩] 41)
    rw [World.size_alloc, World.size_alloc] at this
    exact this
  rw [cell_of_row _ _ _ _ 40 (0, 0) h0, cell_of_row _ _ _ _ 41 (0, 0) h1, cell_of_row _ _ _ _ 41 (0, 0) h2]
  match j, hj with
  | 0, _ => exact ⟨rfl, rfl, rfl⟩
  | 1, _ => exact ⟨rfl, rfl, rfl⟩
  | 2, _ => exact ⟨rfl, rfl, rfl⟩

theorem StatAt.below {w w' : World} {g : Nat} {s : Int} {dir : Nat → ByteArray} {r : Nat → Nat} {j : Nat} (h : StatAt w g s dir r j) (b : Below w.heap.size w w') : StatAt w' g s dir r j := by
  obtain ⟨h0, h1, ⟨t, h2⟩, h3, h4⟩ := h
  have hl := World.block_lt_of_cell? _ _ h0
  exact ⟨(b.cell (by exact hl)).trans h0, (b.cell (by exact hl)).trans h1, ⟨t, (b.cell (by exact hl)).trans h2⟩, (b.cell (by exact hl)).trans h3, (b.cell (by exact hl)).trans h4⟩

theorem Said.below {w w' : World} {h N : Nat} {s : Int} {pass has : Nat → Bool} {T : Nat → Int} {dir : Nat → ByteArray} {s' : Int} {vs : Value} {okb : Bool} (q : Said w h N s pass has T dir s' vs okb) (b : Below w.heap.size w w') : Said w' h N s pass has T dir s' vs okb := by
  rcases q with ⟨h0, h1, h2, h3, h4⟩ | ⟨S, n, k0, g, c, r, hP, hp, hs, h1, h2, h3, h4, h5⟩
  · exact .inl ⟨h0, h1, h2, h3, fun x hx => (b.cell (World.block_lt_of_cell? _ _ (h4 x hx))).trans (h4 x hx)⟩
  · refine .inr ⟨S, n, k0, g, c, r, hP, hp, hs, h1, h2, h3, fun j hj => (h4 j hj).below b, fun x hx => ?_⟩
    obtain ⟨v, hv, hv2⟩ := h5 x hx
    exact ⟨v, (b.cell (World.block_lt_of_cell? _ _ hv)).trans hv, hv2.below b⟩

theorem labs_hit {s : Int} {r : Nat → Nat} {j x : Nat} (h : r j = x) : labs s r (j + 1) x = labs s r j x ++ [full s j] := by rw [labs_succ, h, upd_same]
theorem labs_miss {s : Int} {r : Nat → Nat} {j x : Nat} (h : r j ≠ x) : labs s r (j + 1) x = labs s r j x := by rw [labs_succ, upd_other _ _ (fun e => h e.symm)]
theorem labs_zero (s : Int) (r : Nat → Nat) (x : Nat) : labs s r 0 x = [] := rfl

theorem StrsAt.fr {w w' : World} {v : Value} {xs : List ByteArray} (h : StrsAt w v xs) (f : Fr (fun _ => False) w w') : StrsAt w' v xs := h.below (below_of_fr f)

theorem pick_eq {r : Nat → Nat} {r0 r1 r2 : Nat} (h0 : r 0 = r0) (h1 : r 1 = r1) (h2 : r 2 = r2) (j : Nat) (hj : j < 3) : pick r0 r1 r2 j = r j := by
  match j, hj with
  | 0, _ => exact h0.symm
  | 1, _ => exact h1.symm
  | 2, _ => exact h2.symm

end Go.Proofs.YbulkckkFmt.st
