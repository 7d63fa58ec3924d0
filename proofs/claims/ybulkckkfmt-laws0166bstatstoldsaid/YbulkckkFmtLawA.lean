/-
  The law (3): what it is fed; the memory of its first loop, which lays the rows.
-/
import Derived.Test.YbulkckkFmtSideP
import Derived.Test.YbulkckkFmtPlain
namespace Go.Proofs.YbulkckkFmt.st
open Go.RowKit Go.Joins
set_option linter.unusedVariables false
set_option linter.unusedSimpArgs false

/-- The rows of the input: none, or their cells lie from an address on. -/
def FedA (w : World) (a : Option Addr) (N : Nat) (pass has : Nat → Bool) (T O : Nat → Int) (dir : Nat → ByteArray) : Prop :=
  N = 0 ∨ ∃ b off, a = some ⟨b, off, none⟩ ∧ b < w.heap.size ∧ ∀ i, i < N →
    w.cell? ⟨b, off + i * 5, none⟩ = some (.bool (pass i)) ∧ w.cell? ⟨b, off + i * 5 + 1, none⟩ = some (.bool (has i)) ∧ w.cell? ⟨b, off + i * 5 + 2, none⟩ = some (.int .i64 (T i)) ∧
    w.cell? ⟨b, off + i * 5 + 3, none⟩ = some (.int .i64 (O i)) ∧ w.cell? ⟨b, off + i * 5 + 4, none⟩ = some (.string (dir i))

theorem FedA.fr {w w' : World} {a : Option Addr} {N : Nat} {pass has : Nat → Bool} {T O : Nat → Int} {dir : Nat → ByteArray} (h : FedA w a N pass has T O dir) {X : Nat → Prop} (f : Fr X w w') (hX : ∀ i, i < w.heap.size → ¬ X i) : FedA w' a N pass has T O dir := by
  rcases h with h | ⟨b, off, rfl, hlt, hc⟩
  · exact .inl h
  · refine .inr ⟨b, off, rfl, Nat.lt_of_lt_of_le hlt f.size, fun i hi => ?_⟩
    obtain ⟨h0, h1, h2, h3, h4⟩ := hc i hi
    exact ⟨f.cell h0 (hX _ hlt), f.cell h1 (hX _ hlt), f.cell h2 (hX _ hlt), f.cell h3 (hX _ hlt), f.cell h4 (hX _ hlt)⟩

/-- The rows below k are laid. -/
structure LR (w wr : World) (h N : Nat) (s : Int) (pass has : Nat → Bool) (T : Nat → Int) (d : Nat → Nat) (dir : Nat → ByteArray) (k : Nat) : Prop where
  row : ∀ x, x < k → ∃ q7 q8 : Option Addr, RowIn wr h x (cellsOf (dir x) (resOf (pass x)) q7 q8 ((x + 1 : Nat) : Int) (.slice Option.none 0 0)) ∧ (if s = 0 then q7 else q8) = (if has x then some ⟨d x, 0, none⟩ else Option.none)
  old : ∀ i, i < N * 13 → (wr.cell? ⟨h, i, none⟩).isSome = true
  dur : ∀ x, x < k → wr.cell? ⟨d x, 0, none⟩ = some (.int .i64 (T x))
  dne : ∀ x, x < k → d x ≠ h
  frz : ∀ i, wr.frozen? ⟨h, i, none⟩ = false
  lt : h < wr.heap.size
  fr : Fr (fun _ => False) w wr
  hh : w.heap.size ≤ h

theorem LR.start {w w' : World} {N : Nat} {s : Int} {pass has : Nat → Bool} {T : Nat → Int} {d : Nat → Nat} {dir : Nat → ByteArray} {xs : List Value} (hown : w'.ownsRow w.heap.size 34 13 (.slice (some ⟨w.heap.size, 0, none⟩) N N) N xs) (hg : w.grownBy w' Option.none) : LR w w' w.heap.size N s pass has T d dir 0 where
  row := fun x hx => absurd hx (Nat.not_lt_zero _)
  old := fun i hi => by
    rw [hown.cellAt i hi, List.getElem?_eq_getElem (by rw [hown.1]; exact hi)]
    rfl
  dur := fun x hx => absurd hx (Nat.not_lt_zero _)
  dne := fun x hx => absurd hx (Nat.not_lt_zero _)
  frz := fun i => hown.frozenAt i
  lt := (hown.lt _ rfl).2
  fr := (Fr.refl _ _).grown hg (fun i e => by cases e)
  hh := Nat.le_refl _

theorem LR.rows {w wr : World} {h N : Nat} {s : Int} {pass has : Nat → Bool} {T : Nat → Int} {d : Nat → Nat} {dir : Nat → ByteArray} (l : LR w wr h N s pass has T d dir N) : RowsOk wr h N s pass has T d dir (fun _ => .slice Option.none 0 0) :=
  ⟨l.row, fun x hx _ => l.dur x hx, fun x hx _ => l.dne x hx, l.frz, l.lt⟩

/-- A round: the row k is laid in wf. -/
theorem LR.step {w wr wf : World} {h N : Nat} {s : Int} {pass has : Nat → Bool} {T : Nat → Int} {d : Nat → Nat} {dir : Nat → ByteArray} {k dk : Nat} (l : LR w wr h N s pass has T d dir k) (f : Fr (fun i => i = h) wr wf)
    (hkeep : ∀ i, i < k * 13 → wf.cell? ⟨h, i, none⟩ = wr.cell? ⟨h, i, none⟩) (hold : ∀ i, (wr.cell? ⟨h, i, none⟩).isSome = true → (wf.cell? ⟨h, i, none⟩).isSome = true) (hfz : ∀ i, wf.frozen? ⟨h, i, none⟩ = wr.frozen? ⟨h, i, none⟩)
    (hdk : wr.heap.size ≤ dk) (hT : wf.cell? ⟨dk, 0, none⟩ = some (.int .i64 (T k))) {q7 q8 : Option Addr} (hrow : RowIn wf h k (cellsOf (dir k) (resOf (pass k)) q7 q8 ((k + 1 : Nat) : Int) (.slice Option.none 0 0))) (hq : (if s = 0 then q7 else q8) = (if has k then some ⟨dk, 0, none⟩ else Option.none)) :
    LR w wf h N s pass has T (upd d k dk) dir (k + 1) where
  row := fun x hx => by
    by_cases e : x = k
    · subst e
      rw [upd_same]
      exact ⟨q7, q8, hrow, hq⟩
    · rw [upd_other _ _ e]
      obtain ⟨p7, p8, hr, hp⟩ := l.row x (by omega)
      refine ⟨p7, p8, fun j hj => ?_, hp⟩
      rw [hkeep _ (by omega)]
      exact hr j hj
  old := fun i hi => hold i (l.old i hi)
  dur := fun x hx => by
    by_cases e : x = k
    · subst e
      rw [upd_same]
      exact hT
    · rw [upd_other _ _ e]
      exact f.cell (l.dur x (by omega)) (l.dne x (by omega))
  dne := fun x hx => by
    by_cases e : x = k
    · subst e
      rw [upd_same]
      have := l.lt
      omega
    · rw [upd_other _ _ e]
      exact l.dne x (by omega)
  frz := fun i => (hfz i).trans (l.frz i)
  lt := Nat.lt_of_lt_of_le l.lt f.size
  fr := Fr.split l.fr (f.mono (fun i hi => .inr (by rw [hi]; exact l.hh)))
  hh := l.hh

theorem sinfo34 : (Ybaf.prog.info? 34).map (fun i => (i.zero.isSome, i.size, decide (i.bytes ≤ 4096))) = some (true, 13, true) := by kernel_rfl

theorem info34 : ∃ i z, Ybaf.prog.info? 34 = some i ∧ i.zero = some z ∧ i.size = 13 ∧ i.bytes ≤ 4096 := by
  obtain ⟨i, hi, hz⟩ := Option.map_eq_some_iff.1 sinfo34
  simp only [Prod.mk.injEq, decide_eq_true_eq] at hz
  obtain ⟨z, hz0⟩ := Option.isSome_iff_exists.1 hz.1
  exact ⟨i, z, hi, hz0, hz.2.1, hz.2.2⟩

end Go.Proofs.YbulkckkFmt.st
