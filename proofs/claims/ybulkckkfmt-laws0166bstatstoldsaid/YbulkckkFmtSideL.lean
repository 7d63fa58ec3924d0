/-
  sideStats (4): what a round of the last loop does to the memory.
-/
import Derived.Test.YbulkckkFmtSideA
namespace Go.Proofs.YbulkckkFmt.st
open Go.RowKit Go.Joins
set_option linter.unusedVariables false
set_option linter.unusedSimpArgs false

def upd {α : Type} (f : Nat → α) (r : Nat) (v : α) : Nat → α := fun x => if x = r then v else f x
theorem upd_same {α : Type} (f : Nat → α) (r : Nat) (v : α) : upd f r v r = v := by simp [upd]
theorem upd_other {α : Type} (f : Nat → α) {r x : Nat} (v : α) (h : x ≠ r) : upd f r v x = f x := by simp [upd, h]

structure L2 (W2 wr : World) (h N p12 : Nat) (s : Int) (pass has : Nat → Bool) (T : Nat → Int) (d : Nat → Nat) (dir : Nat → ByteArray) (st : Nat → Value) (L : Nat → List ByteArray) (v : Value) (cs : List Value) (n : Nat) : Prop where
  rows : RowsOk wr h N s pass has T d dir st
  own : ∀ x, x < N → wr.ownsRow W2.heap.size 9 1 (st x) (L x).length ((L x).map Value.string)
  dis : ∀ x y, x < N → y < N → x ≠ y → ∀ g, (st x).ownBlock = some g → (st y).ownBlock ≠ some g
  view : wr.heap[p12]? = some (.cells #[.int .i64 s, v] 37 (0, 0))
  stats : wr.ownsRow W2.heap.size 44 5 v n cs
  fr : Fr (fun i => i = h ∨ i = p12) W2 wr
  hlt : h < W2.heap.size
  plt : p12 < W2.heap.size
  hp : h ≠ p12
  dlt : ∀ x, x < N → has x = true → d x < W2.heap.size
  dnp : ∀ x, x < N → has x = true → d x ≠ p12

theorem two_setCell {w : World} {b : Nat} {v u x : Value} {t : TypeId} (h : w.heap[b]? = some (.cells #[x, v] t (0, 0))) : (w.setCell ⟨b, 1, none⟩ u).heap[b]? = some (.cells #[x, u] t (0, 0)) := by
  have hlt := lt_of_block h
  have h' : w.heap[b] = .cells #[x, v] t (0, 0) := by simpa [Array.getElem?_eq_getElem hlt] using h
  show (w.heap.modify b _)[b]? = _
  rw [Array.getElem?_eq_getElem (by simpa using hlt), Array.getElem_modify_self, h']
  rfl

theorem kept_below {w w' : World} {base : Nat} {e : TypeId} {size : Nat} {v : Value} {n : Nat} {xs : List Value} (h : w.ownsRow base e size v n xs) (b : Below w.heap.size w w') : w'.ownsRow base e size v n xs :=
  h.kept (row := Option.none) ⟨b.os, b.tape, b.output, b.size, fun i hi _ => b.block i hi⟩ (by cases h : v.ownBlock <;> simp)

theorem types_apart {w : World} {b1 b2 : Nat} {e1 e2 : TypeId} {s1 s2 : Nat} {v1 v2 : Value} {n1 n2 : Nat} {x1 x2 : List Value} (h1 : w.ownsRow b1 e1 s1 v1 n1 x1) (h2 : w.ownsRow b2 e2 s2 v2 n2 x2) (he : e1 ≠ e2) : v1.ownBlock = Option.none ∨ v1.ownBlock ≠ v2.ownBlock := by
  rcases h1.2 with ⟨rfl, _⟩ | ⟨g, c, cur, rfl, _, hg, _⟩
  · exact .inl rfl
  · right
    rcases h2.2 with ⟨rfl, _⟩ | ⟨g2, c2, cur2, rfl, _, hg2, _⟩
    · simp [Value.ownBlock]
    · intro e
      simp [Value.ownBlock] at e
      subst e
      rw [hg] at hg2
      simp at hg2
      exact he hg2.2

theorem cellsOf_st (dir res : ByteArray) (q7 q8 : Option Addr) (num : Int) (st st' : Value) (j : Nat) (h : j ≠ 12) : cellsOf dir res q7 q8 num st j = cellsOf dir res q7 q8 num st' j := by
  unfold cellsOf
  split <;> first | rfl | (exact absurd rfl h)

section
variable {W2 wr : World} {h N p12 : Nat} {s : Int} {pass has : Nat → Bool} {T : Nat → Int} {d : Nat → Nat} {dir : Nat → ByteArray} {st : Nat → Value} {L : Nat → List ByteArray} {v : Value} {cs : List Value} {n : Nat}

theorem L2.below (l : L2 W2 wr h N p12 s pass has T d dir st L v cs n) {w' : World} (b : Below wr.heap.size wr w') : L2 W2 w' h N p12 s pass has T d dir st L v cs n where
  rows := l.rows.fr (X := fun _ => False) ((Fr.refl _ _).below b) (by simp)
  own := fun x hx => kept_below (l.own x hx) b
  dis := l.dis
  view := (b.block _ (Nat.lt_of_lt_of_le l.plt l.fr.size)).trans l.view
  stats := kept_below l.stats b
  fr := l.fr.below b
  hlt := l.hlt
  plt := l.plt
  hp := l.hp
  dlt := l.dlt
  dnp := l.dnp

theorem L2.label (l : L2 W2 wr h N p12 s pass has T d dir st L v cs n) {r : Nat} (hr : r < N) {wa w1 : World} (b : Below wr.heap.size wr wa) {g c : Nat} {nm : ByteArray}
    (hown : w1.ownsRow W2.heap.size 9 1 (.slice (some ⟨g, 0, none⟩) ((L r).length + 1) c) ((L r).length + 1) ((L r).map Value.string ++ [.string nm])) (hg : wa.grownBy w1 (st r).ownBlock) (hat : (st r).ownBlock = some g ∨ g = wa.heap.size) :
    L2 W2 (w1.setCell ⟨h, r * 13 + 12, none⟩ (.slice (some ⟨g, 0, none⟩) ((L r).length + 1) c)) h N p12 s pass has T d dir (upd st r (.slice (some ⟨g, 0, none⟩) ((L r).length + 1) c)) (upd L r (L r ++ [nm])) v cs n := by
  have l' := l.below b
  have hsz := l'.fr.size
  have hfar : ∀ k, k < W2.heap.size → some k ≠ (st r).ownBlock := fun k hk e => by
    have := ((l.own r hr).lt k e.symm).1
    omega
  have hc : ∀ (k o : Nat), k < W2.heap.size → w1.cell? ⟨k, o, none⟩ = wa.cell? ⟨k, o, none⟩ := fun k o hk => hg.cell_far _ (by show k < _; have := hk; omega) (hfar k hk)
  have hgM := (hown.lt g rfl).1
  refine ⟨⟨?_, ?_, l'.rows.dne, ?_, ?_⟩, ?_, ?_, ?_, ?_, ?_, l.hlt, l.plt, l.hp, l.dlt, l.dnp⟩
  · intro x hx
    obtain ⟨q7, q8, hrow, hq⟩ := l'.rows.row x hx
    refine ⟨q7, q8, fun j hj => ?_, hq⟩
    have hcell := (hc h (x * 13 + j) l.hlt).trans (hrow j hj)
    by_cases e : x = r ∧ j = 12
    · obtain ⟨rfl, rfl⟩ := e
      rw [World.cell?_setCell_same _ _ _ hcell, upd_same]
      rfl
    · rw [World.cell?_setCell_other _ _ _ _ (by
        intro e2
        injection e2 with _ e2 _
        apply e
        omega), hcell]
      by_cases ej : j = 12
      · have ex : x ≠ r := fun e3 => e ⟨e3, ej⟩
        rw [upd_other _ _ ex]
      · rw [cellsOf_st _ _ _ _ _ (st x) (upd st r (.slice (some ⟨g, 0, none⟩) ((L r).length + 1) c) x) j ej]
  · intro x hx hh
    have hne := l.rows.dne x hx hh
    rw [World.cell?_setCell_other _ _ _ _ (by intro e; injection e with e _ _; exact hne e.symm), hc _ _ (l.dlt x hx hh)]
    exact l'.rows.dur x hx hh
  · intro i
    rw [World.frozen?_setCell, hg.frozen_far _ (by show h < _; have := l.hlt; omega) (hfar h l.hlt)]
    exact l'.rows.frz i
  · have := l.hlt
    have := hg.size
    simp
    omega
  · intro x hx
    by_cases e : x = r
    · subst e
      rw [upd_same, upd_same]
      simp only [List.length_append, List.length_cons, List.length_nil, List.map_append, List.map_cons, List.map_nil]
      exact ownsRow_setCell_below hown (by exact l.hlt) _
    · rw [upd_other _ _ e, upd_other _ _ e]
      refine ownsRow_setCell_below ((l'.own x hx).kept hg ?_) (by exact l.hlt) _
      cases hb : (st x).ownBlock with
      | none => exact .inl rfl
      | some g2 => exact .inr (fun e2 => l.dis x r hx hr e g2 hb e2.symm)
  · intro x y hx hy hxy g2 h1 h2
    by_cases ex : x = r
    · subst ex
      rw [upd_same] at h1
      rw [upd_other _ _ (fun e => hxy e.symm)] at h2
      simp [Value.ownBlock] at h1
      subst h1
      rcases hat with hat | hat
      · exact l.dis x y hx hy hxy g hat h2
      · have := ((l'.own y hy).lt g h2).2
        omega
    · by_cases ey : y = r
      · subst ey
        rw [upd_same] at h2
        rw [upd_other _ _ hxy] at h1
        simp [Value.ownBlock] at h2
        subst h2
        rcases hat with hat | hat
        · exact l.dis x y hx hy hxy g h1 hat
        · have := ((l'.own x hx).lt g h1).2
          omega
      · rw [upd_other _ _ ex] at h1
        rw [upd_other _ _ ey] at h2
        exact l.dis x y hx hy hxy g2 h1 h2
  · rw [Below.heap_setCell _ _ _ _ (fun e => l.hp (by simpa using e.symm)), hg.block _ (by have := l.plt; omega) (hfar _ l.plt)]
    exact l'.view
  · refine ownsRow_setCell_below (l'.stats.kept hg ?_) (by exact l.hlt) _
    exact types_apart l'.stats (l'.own r hr) (by decide)
  · refine Fr.setCell (l'.fr.grown hg (fun i e => .inr ((l.own r hr).lt i e).1)) _ _ (.inl (.inl rfl))

theorem L2.stat (l : L2 W2 wr h N p12 s pass has T d dir st L v cs n) {wa w1 : World} (b : Below wr.heap.size wr wa) {g c : Nat} {news : List Value}
    (hown : w1.ownsRow W2.heap.size 44 5 (.slice (some ⟨g, 0, none⟩) (n + 1) c) (n + 1) (cs ++ news)) (hg : wa.grownBy w1 v.ownBlock) :
    L2 W2 (w1.setCell ⟨p12, 1, none⟩ (.slice (some ⟨g, 0, none⟩) (n + 1) c)) h N p12 s pass has T d dir st L (.slice (some ⟨g, 0, none⟩) (n + 1) c) (cs ++ news) (n + 1) := by
  have l' := l.below b
  have hsz := l'.fr.size
  have hfar : ∀ k, k < W2.heap.size → some k ≠ v.ownBlock := fun k hk e => by
    have := (l.stats.lt k e.symm).1
    omega
  have hf2 : Fr (fun i => W2.heap.size ≤ i ∨ i = p12) wa (w1.setCell ⟨p12, 1, none⟩ (.slice (some ⟨g, 0, none⟩) (n + 1) c)) :=
    Fr.setCell ((Fr.refl _ _).grown hg (fun i e => .inl (.inl (l.stats.lt i e).1))) _ _ (.inl (.inr rfl))
  have hh : ¬ (W2.heap.size ≤ h ∨ h = p12) := by have := l.hlt; have := l.hp; omega
  refine ⟨⟨?_, ?_, l'.rows.dne, ?_, ?_⟩, ?_, l.dis, ?_, ?_, ?_, l.hlt, l.plt, l.hp, l.dlt, l.dnp⟩
  · intro x hx
    obtain ⟨q7, q8, hrow, hq⟩ := l'.rows.row x hx
    exact ⟨q7, q8, hf2.row hrow hh, hq⟩
  · intro x hx hx2
    have hd := l.dlt x hx hx2
    have e := l.dnp x hx hx2
    exact hf2.cell (l'.rows.dur x hx hx2) (by show ¬ (W2.heap.size ≤ d x ∨ d x = p12); omega)
  · intro i
    rw [hf2.frozen (by show h < _; have := l.hlt; omega) hh]
    exact l'.rows.frz i
  · have := l.hlt
    have := hf2.size
    omega
  · intro x hx
    refine ownsRow_setCell_below ((l'.own x hx).kept hg ?_) (by exact l.plt) _
    exact types_apart (l'.own x hx) l'.stats (by decide)
  · refine two_setCell (v := v) ?_
    rw [hg.block _ (by have := l.plt; omega) (hfar _ l.plt)]
    exact l'.view
  · exact ownsRow_setCell_below hown (by exact l.plt) _
  · refine Fr.setCell (l'.fr.grown hg (fun i e => .inr (l.stats.lt i e).1)) _ _ (.inl (.inr rfl))
end

end Go.Proofs.YbulkckkFmt.st
