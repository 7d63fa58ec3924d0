/-
  WHAT STAYS: all blocks of w but those of X. The rows as sideStats finds them.
-/
import Derived.Test.YbulkckkFmtClos
import Derived.Test.YbulkckkFmtEqual
import Derived.Deep.AppendLies
namespace Go.Proofs.YbulkckkFmt.st
open Go.RowKit Go.Joins
set_option linter.unusedVariables false
set_option linter.unusedSimpArgs false

structure Fr (X : Nat → Prop) (w w' : World) : Prop where
  os : w'.os = w.os
  tape : w'.tape = w.tape
  output : w'.output = w.output
  size : w.heap.size ≤ w'.heap.size
  block : ∀ k, k < w.heap.size → ¬ X k → w'.heap[k]? = w.heap[k]?

theorem Fr.refl (X : Nat → Prop) (w : World) : Fr X w w := ⟨rfl, rfl, rfl, Nat.le_refl _, fun _ _ _ => rfl⟩
theorem Fr.trans {X : Nat → Prop} {a b c : World} (h : Fr X a b) (k : Fr X b c) : Fr X a c :=
  ⟨k.os.trans h.os, k.tape.trans h.tape, k.output.trans h.output, Nat.le_trans h.size k.size, fun i hi hx => (k.block i (Nat.lt_of_lt_of_le hi h.size) hx).trans (h.block i hi hx)⟩
theorem Fr.drew {X : Nat → Prop} {a b : World} (h : Fr X a b) : Fr X a b.drew := ⟨h.os, h.tape, h.output, h.size, h.block⟩
theorem Fr.alloc {X : Nat → Prop} {a b : World} (h : Fr X a b) (o : Obj) : Fr X a (b.alloc o) :=
  ⟨h.os, h.tape, h.output, by have := h.size; simp; omega, fun k hk hx => (Below.heap_alloc b o k (Nat.lt_of_lt_of_le hk h.size)).trans (h.block k hk hx)⟩
theorem Fr.below {X : Nat → Prop} {a b c : World} (h : Fr X a b) (k : Below b.heap.size b c) : Fr X a c :=
  ⟨k.os.trans h.os, k.tape.trans h.tape, k.output.trans h.output, Nat.le_trans h.size k.size, fun i hi hx => (k.block i (Nat.lt_of_lt_of_le hi h.size)).trans (h.block i hi hx)⟩
theorem Fr.grown {X : Nat → Prop} {a b c : World} {row : Option Nat} (h : Fr X a b) (k : b.grownBy c row) (hr : ∀ i, row = some i → X i ∨ a.heap.size ≤ i) : Fr X a c :=
  ⟨k.os.trans h.os, k.tape.trans h.tape, k.output.trans h.output, Nat.le_trans h.size k.size, fun i hi hx => (k.block i (Nat.lt_of_lt_of_le hi h.size) (fun e => by
    rcases hr i e.symm with h1 | h1
    · exact hx h1
    · omega)).trans (h.block i hi hx)⟩
theorem Fr.setCell {X : Nat → Prop} {a b : World} (h : Fr X a b) (p : Addr) (v : Value) (hp : X p.block ∨ a.heap.size ≤ p.block) : Fr X a (b.setCell p v) :=
  ⟨h.os, h.tape, h.output, by have := h.size; simp; omega, fun i hi hx => (Below.heap_setCell _ _ _ _ (fun e => by
    rcases hp with h1 | h1
    · rw [← e] at h1; exact hx h1
    · omega)).trans (h.block i hi hx)⟩
theorem Fr.cell {X : Nat → Prop} {a b : World} (h : Fr X a b) {p : Addr} {v : Value} (hc : a.cell? p = some v) (hp : ¬ X p.block) : b.cell? p = some v :=
  (World.cell?_of_block (w := a) (h.block p.block (World.block_lt_of_cell? a _ hc) hp)).trans hc
theorem Fr.frozen {X : Nat → Prop} {a b : World} (h : Fr X a b) {p : Addr} (hl : p.block < a.heap.size) (hp : ¬ X p.block) : b.frozen? p = a.frozen? p :=
  World.frozen?_of_block (w := a) (h.block p.block hl hp)
theorem Fr.mono {X Y : Nat → Prop} {a b : World} (h : Fr X a b) (k : ∀ i, X i → Y i) : Fr Y a b := ⟨h.os, h.tape, h.output, h.size, fun i hi hx => h.block i hi (fun e => hx (k i e))⟩
theorem Fr.row {X : Nat → Prop} {a b : World} (h : Fr X a b) {p x : Nat} {A : Nat → Value} (hr : RowIn a p x A) (hp : ¬ X p) : RowIn b p x A := fun j hj => h.cell (hr j hj) hp
/-- A part of the way. -/
theorem Fr.split {X : Nat → Prop} {a b c : World} (h : Fr X a b) (k : Fr (fun i => X i ∨ a.heap.size ≤ i) b c) : Fr X a c :=
  ⟨k.os.trans h.os, k.tape.trans h.tape, k.output.trans h.output, Nat.le_trans h.size k.size, fun i hi hx => (k.block i (Nat.lt_of_lt_of_le hi h.size) (fun e => by
    rcases e with h1 | h1
    · exact hx h1
    · omega)).trans (h.block i hi hx)⟩

def PASS : ByteArray := ⟨#[112, 97, 115, 115]⟩
def FAIL : ByteArray := ⟨#[102, 97, 105, 108]⟩
def resOf (b : Bool) : ByteArray := if b then PASS else FAIL

/-- The cells of a rowView. -/
def cellsOf (dir res : ByteArray) (q7 q8 : Option Addr) (num : Int) (st : Value) : Nat → Value
  | 0 => .string dir
  | 1 => .string ⟨#[]⟩
  | 2 => .string ⟨#[]⟩
  | 3 => .pointer none
  | 4 => .string res
  | 5 => .string ⟨#[]⟩
  | 6 => .bool false
  | 7 => .pointer q7
  | 8 => .pointer q8
  | 9 => .int .i64 num
  | 10 => .string ⟨#[]⟩
  | 11 => .string ⟨#[]⟩
  | 12 => st
  | _ => .bool false

/-- The rows, as the law lays them: what sideStats is told. -/
structure RowsOk (w : World) (h N : Nat) (s : Int) (pass has : Nat → Bool) (T : Nat → Int) (d : Nat → Nat) (dir : Nat → ByteArray) (st : Nat → Value) : Prop where
  row : ∀ x, x < N → ∃ q7 q8 : Option Addr, RowIn w h x (cellsOf (dir x) (resOf (pass x)) q7 q8 ((x + 1 : Nat) : Int) (st x)) ∧ (if s = 0 then q7 else q8) = (if has x then some ⟨d x, 0, none⟩ else Option.none)
  dur : ∀ x, x < N → has x = true → w.cell? ⟨d x, 0, none⟩ = some (.int .i64 (T x))
  dne : ∀ x, x < N → has x = true → d x ≠ h
  frz : ∀ i, w.frozen? ⟨h, i, none⟩ = false
  lt : h < w.heap.size

theorem RowsOk.fr {X : Nat → Prop} {w w' : World} {h N : Nat} {s : Int} {pass has : Nat → Bool} {T : Nat → Int} {d : Nat → Nat} {dir : Nat → ByteArray} {st : Nat → Value} (k : RowsOk w h N s pass has T d dir st) (f : Fr X w w') (hX : ∀ i, i < w.heap.size → ¬ X i) : RowsOk w' h N s pass has T d dir st where
  row := fun x hx => by
    obtain ⟨q7, q8, h1, h2⟩ := k.row x hx
    exact ⟨q7, q8, f.row h1 (hX _ k.lt), h2⟩
  dur := fun x hx hh => f.cell (k.dur x hx hh) (hX _ (World.block_lt_of_cell? w _ (k.dur x hx hh)))
  dne := k.dne
  frz := fun i => by rw [f.frozen k.lt (hX _ k.lt)]; exact k.frz i
  lt := Nat.lt_of_lt_of_le k.lt f.size

theorem tot_of {s : Int} {q7 q8 q : Option Addr} (dir res : ByteArray) (num : Int) (st : Value) (h : (if s = 0 then q7 else q8) = q) : Tot (cellsOf dir res q7 q8 num st) s q := ⟨q7, q8, rfl, rfl, h⟩

end Go.Proofs.YbulkckkFmt.st
