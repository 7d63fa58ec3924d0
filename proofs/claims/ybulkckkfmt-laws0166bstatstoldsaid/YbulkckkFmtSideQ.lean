/-
  sideStats (4): the last loop begins; its cells.
-/
import Derived.Test.YbulkckkFmtSideP
namespace Go.Proofs.YbulkckkFmt.st
open Go.RowKit Go.Joins
set_option linter.unusedVariables false
set_option linter.unusedSimpArgs false

def pick (r0 r1 r2 : Nat) : Nat → Nat := fun j => if j = 0 then r0 else if j = 1 then r1 else r2

/-- The cells of the stats so far. -/
def StatL (s : Int) (dir : Nat → ByteArray) (r : Nat → Nat) (cs : List Value) (j : Nat) : Prop :=
  ∃ ms : Nat → ByteArray, cs = ((List.range j).map (fun i => [Value.string (full s i), .string (lb i), .string (ms i), .string (dir (r i)), .int .i64 ((r i : Int) + 1)])).flatten

theorem StatL.zero (s : Int) (dir : Nat → ByteArray) (r : Nat → Nat) : StatL s dir r [] 0 := ⟨fun _ => ⟨#[]⟩, by simp⟩
theorem StatL.succ {s : Int} {dir : Nat → ByteArray} {r : Nat → Nat} {cs : List Value} {j : Nat} (h : StatL s dir r cs j) (t : ByteArray) : StatL s dir r (cs ++ [Value.string (full s j), .string (lb j), .string t, .string (dir (r j)), .int .i64 ((r j : Int) + 1)]) (j + 1) := by
  obtain ⟨ms, rfl⟩ := h
  refine ⟨fun i => if i = j then t else ms i, ?_⟩
  rw [List.range_succ, List.map_append, List.flatten_append]
  congr 1
  · congr 1
    apply List.map_congr_left
    intro i hi
    have : i ≠ j := by have := List.mem_range.1 hi; omega
    simp [this]
  · simp

/-- The nine cells of the table of stats. -/
def tab (r0 r1 r2 : Nat) : Array Value := #[.string ⟨#[109, 105, 110]⟩, .string ⟨#[109, 105, 110, 105, 109, 117, 109]⟩, .int .i64 (r0 : Int), .string ⟨#[109, 101, 100, 105, 97, 110]⟩, .string ⟨#[109, 101, 100, 105, 97, 110]⟩, .int .i64 (r1 : Int), .string ⟨#[109, 97, 120]⟩, .string ⟨#[109, 97, 120, 105, 109, 117, 109]⟩, .int .i64 (r2 : Int)]

theorem tab_at {w : World} {b r0 r1 r2 : Nat} (h : w.heap[b]? = some (.cells (tab r0 r1 r2) 54 (0, 0))) (j : Nat) (hj : j < 3) :
    w.cell? ⟨b, j * 3, none⟩ = some (.string (nm j)) ∧ w.cell? ⟨b, j * 3 + 1, none⟩ = some (.string (lb j)) ∧ w.cell? ⟨b, j * 3 + 2, none⟩ = some (.int .i64 (pick r0 r1 r2 j : Int)) := by
  rw [cell_of_row w b _ _ 54 (0, 0) h, cell_of_row w b _ _ 54 (0, 0) h, cell_of_row w b _ _ 54 (0, 0) h]
  match j, hj with
  | 0, _ => exact ⟨rfl, rfl, rfl⟩
  | 1, _ => exact ⟨rfl, rfl, rfl⟩
  | 2, _ => exact ⟨rfl, rfl, rfl⟩

theorem L2.begin {w w5 w6 W2 : World} {h N cap : Nat} {s : Int} {pass has : Nat → Bool} {T : Nat → Int} {d : Nat → Nat} {dir : Nat → ByteArray} {r : Nat → Nat} (hR : RowsOk w h N s pass has T d dir (fun _ => .slice Option.none 0 0)) (e : Env4 w5 w.heap.size h N cap s pass has T d dir (fun _ => .slice Option.none 0 0))
    (h5 : w.heap.size ≤ w5.heap.size) (b56 : Below w5.heap.size w5 w6) (hp : w6.heap[w5.heap.size]? = some (.cells #[.int .i64 s, .slice Option.none 0 0] 37 (0, 0))) (b62 : Below w6.heap.size w6 W2) :
    L2 W2 W2 h N w5.heap.size s pass has T d dir (fun _ => .slice Option.none 0 0) (labs s r 0) (.slice Option.none 0 0) [] 0 := by
  have hl := lt_of_block hp
  have h26 := b62.size
  have b52 : Below w5.heap.size w5 W2 := b56.trans (b62.mono b56.size)
  have e2 := e.below b52
  have hdl : ∀ x, x < N → has x = true → d x < w.heap.size := fun x hx hh => World.block_lt_of_cell? _ _ (hR.dur x hx hh)
  refine ⟨e2.rows, fun x hx => World.ownsRow_nil _ _ _ _, ?_, ?_, World.ownsRow_nil _ _ _ _, Fr.refl _ _, e2.rows.lt, by omega, ?_, ?_, ?_⟩
  · intro x y _ _ _ g h1
    cases h1
  · rw [b62.block _ hl]; exact hp
  · have := hR.lt; omega
  · intro x hx hh
    have := hdl x hx hh
    omega
  · intro x hx hh
    have := hdl x hx hh
    omega

theorem far_facts {W2 wb wc w1 : World} {h N p12 : Nat} {s : Int} {pass has : Nat → Bool} {T : Nat → Int} {d : Nat → Nat} {dir : Nat → ByteArray} {st : Nat → Value} {L : Nat → List ByteArray} {v : Value} {cs : List Value} {n x : Nat}
    (l : L2 W2 wb h N p12 s pass has T d dir st L v cs n) (hx : x < N) (b : Below wb.heap.size wb wc) (hg : wc.grownBy w1 (st x).ownBlock) : w1.cell? ⟨h, x * 13 + 12, none⟩ = some (st x) ∧ w1.frozen? ⟨h, x * 13 + 12, none⟩ = false := by
  have l' := l.below b
  have hfar : some h ≠ (st x).ownBlock := fun e => by
    have := ((l.own x hx).lt h e.symm).1
    have := l.hlt
    omega
  have hlt : h < wc.heap.size := l'.rows.lt
  obtain ⟨q7, q8, hr, _⟩ := l'.rows.row x hx
  exact ⟨(hg.cell_far _ hlt hfar).trans (hr 12 (by omega)), (hg.frozen_far _ hlt hfar).trans (l'.rows.frz _)⟩

theorem sinfo9 : (Ybaf.prog.info? 9).map (fun i => (i.zero, i.size, i.bytes)) = some (some (.string ⟨#[]⟩), 1, 16) := by kernel_rfl
theorem sinfo44 : (Ybaf.prog.info? 44).map (fun i => (i.size, i.bytes)) = some (5, 72) := by kernel_rfl

end Go.Proofs.YbulkckkFmt.st
