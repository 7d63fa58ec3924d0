/-
  sideStats (4): the first part.
-/
import Derived.Test.YbulkckkFmtFrame
import Derived.Test.YbulkckkFmtStable
import Derived.Test.YbulkckkFmtIndex
import Derived.Test.YbulkckkFmtMillis
import Derived.Laws.EntriesVeiled
namespace Go.Proofs.YbulkckkFmt.st
open Go.RowKit Go.Joins Go.Extern.Stop Go.Stop Go.Extern
set_option linter.unusedVariables false
set_option linter.unusedSimpArgs false

/-- The world behind the five variables. -/
def W1 (w : World) (h N cap : Nat) (s : Int) : World :=
  ((((w.alloc (.cells #[.slice (some ⟨h, 0, none⟩) N cap] 24)).alloc (.cells #[.int .i64 s] 23)).alloc (.cells #[.int .i64 0, .slice Option.none 0 0] 37)).alloc (.cells #[.func (.func 7) #[] #[.pointer (some ⟨w.heap.size + 1, 0, none⟩)]] 47)).alloc (.cells #[.slice Option.none 0 0] 48)

theorem W1.size (w : World) (h N cap : Nat) (s : Int) : (W1 w h N cap s).heap.size = w.heap.size + 5 := by simp [W1]
theorem W1.fr (w : World) (h N cap : Nat) (s : Int) : Fr (fun _ => False) w (W1 w h N cap s) := (((((Fr.refl _ w).alloc _).alloc _).alloc _).alloc _).alloc _
theorem W1.b0 (w : World) (h N cap : Nat) (s : Int) : (W1 w h N cap s).heap[w.heap.size]? = some (.cells #[.slice (some ⟨h, 0, none⟩) N cap] 24 (0, 0)) := by
  unfold W1
  rw [Below.heap_alloc _ _ _ (by simp <;> omega), Below.heap_alloc _ _ _ (by simp <;> omega), Below.heap_alloc _ _ _ (by simp <;> omega), Below.heap_alloc _ _ _ (by simp)]
  exact heap_alloc_new w _
theorem W1.b1 (w : World) (h N cap : Nat) (s : Int) : (W1 w h N cap s).heap[w.heap.size + 1]? = some (.cells #[.int .i64 s] 23 (0, 0)) := by
  unfold W1
  rw [Below.heap_alloc _ _ _ (by simp <;> omega), Below.heap_alloc _ _ _ (by simp <;> omega), Below.heap_alloc _ _ _ (by simp)]
  have := heap_alloc_new (w.alloc (.cells #[.slice (some ⟨h, 0, none⟩) N cap] 24)) (.cells #[.int .i64 s] 23)
  simpa using this
theorem W1.b2 (w : World) (h N cap : Nat) (s : Int) : (W1 w h N cap s).heap[w.heap.size + 2]? = some (.cells #[.int .i64 0, .slice Option.none 0 0] 37 (0, 0)) := by
  unfold W1
  rw [Below.heap_alloc _ _ _ (by simp <;> omega), Below.heap_alloc _ _ _ (by simp)]
  have := heap_alloc_new ((w.alloc (.cells #[.slice (some ⟨h, 0, none⟩) N cap] 24)).alloc (.cells #[.int .i64 s] 23)) (.cells #[.int .i64 0, .slice Option.none 0 0] 37)
  simpa using this
theorem W1.b3 (w : World) (h N cap : Nat) (s : Int) : (W1 w h N cap s).heap[w.heap.size + 3]? = some (.cells #[.func (.func 7) #[] #[.pointer (some ⟨w.heap.size + 1, 0, none⟩)]] 47 (0, 0)) := by
  unfold W1
  rw [Below.heap_alloc _ _ _ (by simp)]
  have := heap_alloc_new (((w.alloc (.cells #[.slice (some ⟨h, 0, none⟩) N cap] 24)).alloc (.cells #[.int .i64 s] 23)).alloc (.cells #[.int .i64 0, .slice Option.none 0 0] 37)) (.cells #[.func (.func 7) #[] #[.pointer (some ⟨w.heap.size + 1, 0, none⟩)]] 47)
  simpa using this
theorem W1.b4 (w : World) (h N cap : Nat) (s : Int) : (W1 w h N cap s).heap[w.heap.size + 4]? = some (.cells #[.slice Option.none 0 0] 48 (0, 0)) := by
  unfold W1
  have := heap_alloc_new ((((w.alloc (.cells #[.slice (some ⟨h, 0, none⟩) N cap] 24)).alloc (.cells #[.int .i64 s] 23)).alloc (.cells #[.int .i64 0, .slice Option.none 0 0] 37)).alloc (.cells #[.func (.func 7) #[] #[.pointer (some ⟨w.heap.size + 1, 0, none⟩)]] 47)) (.cells #[.slice Option.none 0 0] 48)
  simpa using this

/-- The rows that count, of the first k. -/
def rk (pass has : Nat → Bool) (k : Nat) : List Nat := (List.range k).filter (fun x => pass x && has x)
theorem rk_succ (pass has : Nat → Bool) (k : Nat) : rk pass has (k + 1) = rk pass has k ++ (if pass k && has k then [k] else []) := by
  unfold rk
  rw [List.range_succ, List.filter_append]
  cases hb : (pass k && has k) <;> simp [hb]
theorem rk_len (pass has : Nat → Bool) (k : Nat) : (rk pass has k).length ≤ k := by
  unfold rk
  exact Nat.le_trans (List.length_filter_le _ _) (by simp)

/-- The first loop: what has been gathered. -/
def L1 (w : World) (h N cap : Nat) (s : Int) (pass has : Nat → Bool) (k : Nat) (wr : World) (v : Value) : Prop :=
  wr.heap[w.heap.size + 4]? = some (.cells #[v] 48 (0, 0)) ∧ wr.ownsRow (w.heap.size + 5) 3 1 v (rk pass has k).length (nats (rk pass has k)) ∧ Fr (fun i => i = w.heap.size + 4) (W1 w h N cap s) wr

section
variable {w wr : World} {h N cap : Nat} {s : Int} {pass has : Nat → Bool} {k : Nat} {v : Value}
theorem L1.start : L1 w h N cap s pass has 0 (W1 w h N cap s) (.slice Option.none 0 0) := ⟨W1.b4 .., World.ownsRow_nil _ _ _ _, Fr.refl _ _⟩
theorem L1.lt (l : L1 w h N cap s pass has k wr v) : w.heap.size + 5 ≤ wr.heap.size := by have := l.2.2.size; rw [W1.size] at this; exact this
theorem L1.drop (l : L1 w h N cap s pass has k wr v) (hk : (pass k && has k) = false) {w' : World} (hb : Below wr.heap.size wr w') : L1 w h N cap s pass has (k + 1) w' v := by
  refine ⟨(hb.block _ (by have := l.lt; omega)).trans l.1, ?_, l.2.2.below hb⟩
  rw [rk_succ, hk]
  simp only [Bool.false_eq_true, if_false, List.append_nil]
  exact l.2.1.kept (row := Option.none) ⟨hb.os, hb.tape, hb.output, hb.size, fun i hi _ => hb.block i hi⟩ (by cases h : v.ownBlock <;> simp)
theorem L1.keep (l : L1 w h N cap s pass has k wr v) (hk : (pass k && has k) = true) {w' w1 : World} (hb : Below wr.heap.size wr w') {g c : Nat}
    (hown : w1.ownsRow (w.heap.size + 5) 3 1 (.slice (some ⟨g, 0, none⟩) ((rk pass has k).length + 1) c) ((rk pass has k).length + 1) (nats (rk pass has k) ++ [.int .i64 (k : Int)])) (hg : w'.grownBy w1 v.ownBlock) (hg2 : w.heap.size + 5 ≤ g) :
    L1 w h N cap s pass has (k + 1) (w1.setCell ⟨w.heap.size + 4, 0, none⟩ (.slice (some ⟨g, 0, none⟩) ((rk pass has k).length + 1) c)) (.slice (some ⟨g, 0, none⟩) ((rk pass has k).length + 1) c) := by
  have hlt := l.lt
  have hblk : w1.heap[w.heap.size + 4]? = some (.cells #[v] 48 (0, 0)) := by
    rw [hg.block _ (by have := hb.size; omega), (hb.block _ (by omega)), l.1]
    intro e
    have := (l.2.1.lt _ e.symm).1
    omega
  refine ⟨one_setCell hblk, ?_, ?_⟩
  · rw [rk_succ, hk]
    simp only [if_true, List.length_append, List.length_cons, List.length_nil, nats, List.map_append, List.map_cons, List.map_nil]
    exact ownsRow_setCell_below hown (by show w.heap.size + 4 < _; omega) _
  · refine Fr.setCell ?_ _ _ (.inl rfl)
    refine (l.2.2.below hb).grown hg (fun i e => .inr ?_)
    rw [W1.size]
    exact (l.2.1.lt i e).1
end

theorem sinfo3 : (Ybaf.prog.info? 3).map (fun i => (i.zero, i.size, i.bytes)) = some (some (.int .i64 0), 1, 8) := by kernel_rfl

theorem one_cell (u : Value) (w : World) (t : TypeId) : ∀ j v, ([u] : List Value)[j]? = some v → (w.alloc (.cells #[u] t)).cell? ((⟨w.heap.size, 0, none⟩ : Addr).add j) = some v := by
  intro j v hv
  match j, hv with
  | 0, hv => simp at hv; subst hv; simp [Addr.add]

end Go.Proofs.YbulkckkFmt.st
