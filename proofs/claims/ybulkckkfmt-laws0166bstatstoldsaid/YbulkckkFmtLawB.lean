/-
  The law (3): a round of its first loop.
-/
import Derived.Test.YbulkckkFmtLawA
import Derived.Deep.MidRow
namespace Go.Proofs.YbulkckkFmt.st
open Go.RowKit Go.Joins
set_option linter.unusedVariables false
set_option linter.unusedSimpArgs false

theorem wpList_store_to {P : Program} {ops : Array Oper} {rest : List Oper} {op : Oper} {a : Act} {w : World} {Q : Exit → Act → World → Prop} (hgd : op.guard = Option.none) (ty : TypeId) (x y : Operand) (ho : op.op = .store ty x y)
    (b o : Nat) (cells : Array Value) (hx : a.eval x = .pointer (some ⟨b, o, none⟩)) (hy : a.eval y = .agg cells)
    (ht : w.there b o cells.size) (hi : (P.info? ty).map (·.size) = some cells.size) (h1 : cells.all (·.oneCell') = true) (W9 : World) (hW : W9 = w.setCells b o cells.toList)
    (h : wpList P ops Q rest (a.put op.dst undef) W9) : wpList P ops Q (op :: rest) a w := by
  subst hW
  exact wpList_store_mid hgd ty x y ho b o cells hx hy ht hi h1 h

theorem size34 : (Ybaf.prog.info? 34).map (·.size) = some 13 := by kernel_rfl

/-- The row as the literal lays it. -/
def lit13 (dir res : ByteArray) (num : Int) : Array Value :=
  #[.string dir, .string ⟨#[]⟩, .string ⟨#[]⟩, .pointer Option.none, .string res, .string ⟨#[]⟩, .bool false, .pointer Option.none, .pointer Option.none, .int .i64 num, .string ⟨#[]⟩, .string ⟨#[]⟩, .slice Option.none 0 0]

theorem lit13_at (dir res : ByteArray) (num : Int) (j : Nat) (hj : j < 13) : (lit13 dir res num).toList[j]? = some (cellsOf dir res Option.none Option.none num (.slice Option.none 0 0) j) := by
  match j, hj with
  | 0, _ => rfl
  | 1, _ => rfl
  | 2, _ => rfl
  | 3, _ => rfl
  | 4, _ => rfl
  | 5, _ => rfl
  | 6, _ => rfl
  | 7, _ => rfl
  | 8, _ => rfl
  | 9, _ => rfl
  | 10, _ => rfl
  | 11, _ => rfl
  | 12, _ => rfl

theorem lit13_one (dir res : ByteArray) (num : Int) : (lit13 dir res num).all (·.oneCell') = true := by simp [lit13, Value.oneCell']

theorem alloc3_mid (w : World) (o1 o3 : Obj) (v : Value) (t : TypeId) : (((w.alloc o1).alloc (.cells #[v] t)).alloc o3).cell? ⟨w.heap.size + 1, 0, none⟩ = some v := by
  have e : (w.alloc o1).heap.size = w.heap.size + 1 := by simp
  have h := heap_alloc_new (w.alloc o1) (.cells #[v] t)
  rw [e] at h
  have hc := cell_of_row ((w.alloc o1).alloc (.cells #[v] t)) (w.heap.size + 1) 0 #[v] t (0, 0) h
  exact ((below_alloc1 _ _).cell (World.block_lt_of_cell? _ _ hc)).trans hc

theorem alloc3_below (w : World) (o1 o2 o3 : Obj) : Below w.heap.size w (((w.alloc o1).alloc o2).alloc o3) :=
  ((below_alloc1 w o1).trans ((below_alloc1 _ o2).mono (by simp))).trans ((below_alloc1 _ o3).mono (by simp only [World.size_alloc]; omega))

theorem cellsOf_q (dir res : ByteArray) (q7 q8 p7 p8 : Option Addr) (num : Int) (st : Value) (j : Nat) (h7 : j ≠ 7) (h8 : j ≠ 8) : cellsOf dir res q7 q8 num st j = cellsOf dir res p7 p8 num st j := by
  unfold cellsOf
  split <;> first | rfl | (exact absurd rfl h7) | (exact absurd rfl h8)

theorem fr_setCells {X : Nat → Prop} {a : World} (b : Nat) : ∀ (vs : List Value) (o : Nat) (w : World), Fr X a w → (X b ∨ a.heap.size ≤ b) → Fr X a (w.setCells b o vs)
  | [], _, _, h, _ => h
  | v :: r, o, w, h, hb => fr_setCells b r (o + 1) _ (Fr.setCell h _ _ hb) hb

section
variable {w wr : World} {h N : Nat} {s : Int} {pass has : Nat → Bool} {T : Nat → Int} {d : Nat → Nat} {dir : Nat → ByteArray} {k : Nat}

/-- What the row's store finds: the world X (three blocks more), and the world W9 behind the store. -/
theorem LR.laid (l : LR w wr h N s pass has T d dir k) (hk : k < N) {X W9 : World} (b : Below wr.heap.size wr X) (hW : W9 = X.setCells h (k * 13) (lit13 (dir k) (resOf (pass k)) ((k + 1 : Nat) : Int)).toList) :
    X.there h (k * 13) 13 ∧ RowIn W9 h k (cellsOf (dir k) (resOf (pass k)) Option.none Option.none ((k + 1 : Nat) : Int) (.slice Option.none 0 0)) ∧ (∀ i, W9.frozen? ⟨h, i, none⟩ = false) ∧ (∀ i, i < k * 13 → W9.cell? ⟨h, i, none⟩ = wr.cell? ⟨h, i, none⟩) ∧
    (∀ i, (wr.cell? ⟨h, i, none⟩).isSome = true → (W9.cell? ⟨h, i, none⟩).isSome = true) ∧ Fr (fun i => i = h) wr W9 ∧ ∀ p v, X.cell? ⟨p, 0, none⟩ = some v → p ≠ h → W9.cell? ⟨p, 0, none⟩ = some v := by
  subst hW
  have hc : ∀ i, X.cell? ⟨h, i, none⟩ = wr.cell? ⟨h, i, none⟩ := fun i => b.cell (by exact l.lt)
  have hf : ∀ i, X.frozen? ⟨h, i, none⟩ = false := fun i => (((Fr.refl (fun _ => False) _).below b).frozen (by exact l.lt) (by simp)).trans (l.frz i)
  have ht : X.there h (k * 13) 13 := fun j hj => ⟨by rw [hc]; exact l.old _ (by omega), hf _⟩
  refine ⟨ht, fun j hj => ?_, fun i => by rw [World.frozen?_setCells]; exact hf i, fun i hi => ?_, fun i hi => ?_, ?_, fun p v hp hne => ?_⟩
  · have := World.rangeAt_setCells_same X h (k * 13) (lit13 (dir k) (resOf (pass k)) ((k + 1 : Nat) : Int)).toList ht
    exact this j _ (lit13_at _ _ _ j hj)
  · rw [World.cell?_setCells_out _ _ _ _ _ (fun _ _ => .inl (by exact hi)), hc]
  · exact World.isSome_setCells _ _ _ _ _ (by rw [hc]; exact hi)
  · exact fr_setCells _ _ _ _ ((Fr.refl _ _).below b) (.inl rfl)
  · rw [World.cell?_setCells_out _ _ _ _ _ (fun e => absurd e hne), hp]

/-- The two pointers are laid, whichever first. -/
theorem LR.round (l : LR w wr h N s pass has T d dir k) (hk : k < N) {X W9 : World} (b : Below wr.heap.size wr X) (hW : W9 = X.setCells h (k * 13) (lit13 (dir k) (resOf (pass k)) ((k + 1 : Nat) : Int)).toList)
    {dk : Nat} (hdk : wr.heap.size ≤ dk) (hT : X.cell? ⟨dk, 0, none⟩ = some (.int .i64 (T k))) {q7 q8 : Option Addr} (hq : (if s = 0 then q7 else q8) = (if has k then some ⟨dk, 0, none⟩ else Option.none)) {wf : World}
    (hwf : wf = (W9.setCell ⟨h, k * 13 + 7, none⟩ (.pointer q7)).setCell ⟨h, k * 13 + 8, none⟩ (.pointer q8) ∨ wf = (W9.setCell ⟨h, k * 13 + 8, none⟩ (.pointer q8)).setCell ⟨h, k * 13 + 7, none⟩ (.pointer q7)) :
    LR w wf h N s pass has T (upd d k dk) dir (k + 1) := by
  obtain ⟨_, hrow, hfz, hkeep, hold, hfr, hoth⟩ := l.laid hk b hW
  have hlt := l.lt
  have c7 := hrow 7 (by omega)
  have c8 := hrow 8 (by omega)
  have a7 : wf.cell? ⟨h, k * 13 + 7, none⟩ = some (.pointer q7) := by
    rcases hwf with rfl | rfl
    · rw [World.cell?_setCell_other _ _ _ _ (by simp), World.cell?_setCell_same _ _ _ c7]
    · rw [World.cell?_setCell_same _ _ _ ((World.cell?_setCell_other _ _ _ _ (by simp)).trans c7)]
  have a8 : wf.cell? ⟨h, k * 13 + 8, none⟩ = some (.pointer q8) := by
    rcases hwf with rfl | rfl
    · rw [World.cell?_setCell_same _ _ _ ((World.cell?_setCell_other _ _ _ _ (by simp)).trans c8)]
    · rw [World.cell?_setCell_other _ _ _ _ (by simp), World.cell?_setCell_same _ _ _ c8]
  have ao : ∀ i, i ≠ k * 13 + 7 → i ≠ k * 13 + 8 → wf.cell? ⟨h, i, none⟩ = W9.cell? ⟨h, i, none⟩ := fun i h7 h8 => by
    have n7 : (⟨h, k * 13 + 7, none⟩ : Addr) ≠ ⟨h, i, none⟩ := fun e => h7 (by injection e with _ e _; exact e.symm)
    have n8 : (⟨h, k * 13 + 8, none⟩ : Addr) ≠ ⟨h, i, none⟩ := fun e => h8 (by injection e with _ e _; exact e.symm)
    rcases hwf with rfl | rfl
    · rw [World.cell?_setCell_other _ _ _ _ n8, World.cell?_setCell_other _ _ _ _ n7]
    · rw [World.cell?_setCell_other _ _ _ _ n7, World.cell?_setCell_other _ _ _ _ n8]
  have f9 : Fr (fun i => i = h) wr wf := by
    rcases hwf with rfl | rfl
    · exact Fr.setCell (Fr.setCell hfr _ _ (.inl rfl)) _ _ (.inl rfl)
    · exact Fr.setCell (Fr.setCell hfr _ _ (.inl rfl)) _ _ (.inl rfl)
  have r0 : Fr (fun i => i = h) W9 W9 := Fr.refl _ _
  have hb9 : Fr (fun i => i = h) W9 wf := by
    rcases hwf with rfl | rfl
    · exact Fr.setCell (Fr.setCell r0 _ _ (.inl rfl)) _ _ (.inl rfl)
    · exact Fr.setCell (Fr.setCell r0 _ _ (.inl rfl)) _ _ (.inl rfl)
  refine l.step f9 (fun i hi => ?_) (fun i hi => ?_) (fun i => ?_) hdk (hb9.cell (hoth dk _ hT (by omega)) (by show ¬ dk = h; omega)) (q7 := q7) (q8 := q8) (fun j hj => ?_) hq
  · rw [ao i (by omega) (by omega), hkeep i hi]
  · by_cases e7 : i = k * 13 + 7
    · rw [e7, a7]; rfl
    · by_cases e8 : i = k * 13 + 8
      · rw [e8, a8]; rfl
      · rw [ao i e7 e8]; exact hold i hi
  · rw [l.frz i]
    rcases hwf with rfl | rfl <;> rw [World.frozen?_setCell, World.frozen?_setCell, hfz]
  · by_cases e7 : j = 7
    · subst e7; exact a7
    · by_cases e8 : j = 8
      · subst e8; exact a8
      · rw [ao _ (by omega) (by omega), hrow j hj, cellsOf_q _ _ Option.none Option.none q7 q8 _ _ j e7 e8]
end

end Go.Proofs.YbulkckkFmt.st
