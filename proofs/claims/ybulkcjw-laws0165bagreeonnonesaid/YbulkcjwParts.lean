/-
  SMALL LAWS for the walk of LawS0165BAgreeOnNone (3).
-/
import Derived.Test.YbulkcjwExpect
import Derived.Laws.CopyOwn
import Derived.WalkSpells
namespace Go.Proofs.Ybulkcjw.sim
open Go.RowKit
set_option linter.unusedVariables false
set_option linter.unusedSimpArgs false

theorem info25 : (Yba.prog.info? 25).map (fun i => (i.zero, i.size, i.bytes)) = some (some (.pointer none), 1, 8) := by kernel_rfl
theorem info9 : (Yba.prog.info? 9).map (fun i => (i.zero, i.size, i.bytes)) = some (some (.string ⟨#[]⟩), 1, 16) := by kernel_rfl

theorem run_built {t : TypeId} {parts : Array (Nat × Value)} {α : Type} {f : Array Value → α} {r : α} (h : (Yba.prog.built t parts.toList).map f = some r) :
    ∃ Z : Array Value, f Z = r ∧ ∀ w, (Instr.build t parts).run Yba.prog w = .ok (.agg Z) w := by
  obtain ⟨Z, hZ, hf⟩ := Option.map_eq_some_iff.1 h
  exact ⟨Z, hf, fun w => run_build w t parts Z hZ⟩

theorem built78 : (Yba.prog.built 78 (#[] : Array (Nat × Value)).toList).map (fun Z => (Z[10]?, Z[74]?)) = some (some (.bool false), some (.string ⟨#[]⟩)) := by kernel_rfl
theorem built48 : (Yba.prog.built 48 (#[] : Array (Nat × Value)).toList).map (fun Z => Z[15]?) = some (some (.pointer none)) := by kernel_rfl
theorem built48p (b : Nat) : (Yba.prog.built 48 (#[(1, .pointer (some ⟨b, 0, none⟩))] : Array (Nat × Value)).toList).map (fun Z => Z[15]?) = some (some (.pointer (some ⟨b, 0, none⟩))) := by kernel_rfl
theorem built91 (v1 v2 v3 : Value) (a : Option Addr) (n c : Nat) (a2 : Option Addr) (n2 c2 : Nat) (b : Option Nat) (h1 : v1 = .slice a n c) (h2 : v2 = .slice a2 n2 c2) (h3 : v3 = .map b) : (Yba.prog.built 91 (#[(2, v1), (4, v2), (5, v3), (13, .int .i64 (-1))] : Array (Nat × Value)).toList).map (fun Z => (Z[18]?, Z[20]?, Z[21]?)) = some (some v1, some v2, some v3) := by
  subst h1 h2 h3
  kernel_rfl

/-- A composite literal, its cells under a name. -/
theorem wpList_build {P : Program} {w : World} {ops : Array Oper} {rest : List Oper} {o : Oper} {a : Act} {Q : Exit → Act → World → Prop} (t : TypeId) (parts : Array (Nat × Operand)) (hop : o.op = Op.build t parts) (hg : o.guard = none)
    (vals : Array (Nat × Value)) (hv : parts.toList.map (fun p => (p.1, a.eval p.2)) = vals.toList) (Z : Array Value) (hrun : ∀ w, (Instr.build t vals).run P w = .ok (.agg Z) w) (hK : wpList P ops Q rest (a.put o.dst (.agg Z)) w) : wpList P ops Q (o :: rest) a w := by
  have hv' : parts.map (fun p => (p.1, a.eval p.2)) = vals := by
    apply Array.toList_inj.1
    rw [← hv]
    simp
  refine wpList_plain hg fun K hK' => ?_
  unfold Oper.wp
  subst hv'
  simp only [execOp, hop, Sem.run_bind]
  simp [hrun, Result.andThen]
  exact hK' _ _ hK

/-- What the walk is told of the bools. -/
def FedB (w : World) (a : Option Addr) (n : Nat) : Prop :=
  n = 0 ∨ ∃ b off, a = some ⟨b, off, none⟩ ∧ b < w.heap.size ∧ ∀ i, i < n → ∃ x : Bool, w.cell? ⟨b, off + i, none⟩ = some (.bool x)

theorem NodeOk.below {w w' : World} {R : Nat} {v : Value} (hv : NodeOk w R v) (hb : Below w.heap.size w w') : NodeOk w' R v := by
  obtain ⟨g, rfl, hgR, h⟩ := hv
  refine ⟨g, rfl, hgR, ?_⟩
  rcases h with h | ⟨h, hc, hhR, hi⟩
  · exact .inl ((hb.cell (by exact cell_lt h)).trans h)
  · exact .inr ⟨h, (hb.cell (by exact cell_lt hc)).trans hc, hhR, (hb.cell (by exact cell_lt hi.1)).trans hi.1, (hb.cell (by exact cell_lt hi.2)).trans hi.2⟩

theorem one_cell1 (u : Value) (w : World) (o : Obj) (t : TypeId) : ∀ j v, ([u] : List Value)[j]? = some v → ((w.alloc o).alloc (.cells #[u] t)).cell? ((⟨w.heap.size + 1, 0, none⟩ : Addr).add j) = some v := by
  have := one_cell u (w.alloc o) t
  simpa using this

theorem cell_new (w : World) (A : Array Value) (t : TypeId) (j : Nat) : (w.alloc (.cells A t)).cell? ⟨w.heap.size, j, none⟩ = A[j]? :=
  cell_of_row (w.alloc (.cells A t)) w.heap.size j A t (0, 0) (heap_alloc_new w _)

theorem NodeOk.alloc {w : World} {R : Nat} {v : Value} (h : NodeOk w R v) (o : Obj) : NodeOk (w.alloc o) R v := h.grown (World.grownBy_alloc w o _)

/-- A node that is down is added. -/
theorem nodes_down {wr w2 : World} {R : Nat} {A : Array Value} {t : TypeId} {o : Obj} {vs : List Value} (hA : A[15]? = some (.pointer none)) (hg : ((wr.alloc (.cells A t)).alloc o).grownBy w2 (some R)) (hR : R < wr.heap.size)
    (hvs : ∀ v ∈ vs, NodeOk wr R v) : ∀ v ∈ vs ++ [.pointer (some ⟨wr.heap.size, 0, none⟩)], NodeOk w2 R v := by
  intro v hv
  rcases List.mem_append.1 hv with hv | hv
  · exact (((hvs v hv).alloc _).alloc _).grown hg
  · obtain rfl := List.mem_singleton.1 hv
    refine NodeOk.grown (NodeOk.alloc ⟨wr.heap.size, rfl, by omega, .inl ?_⟩ _) hg
    rw [cell_new, hA]

theorem one_cell2 (u : Value) (w : World) (o o2 : Obj) (t : TypeId) : ∀ i v, ([u] : List Value)[i]? = some v → (((w.alloc o).alloc o2).alloc (.cells #[u] t)).cell? ((⟨w.heap.size + 1 + 1, 0, none⟩ : Addr).add i) = some v := by
  have h := one_cell u ((w.alloc o).alloc o2) t
  have e : ((w.alloc o).alloc o2).heap.size = w.heap.size + 1 + 1 := by simp
  rw [e] at h
  exact h

/-- A node that is up is added. -/
theorem nodes_up {wr w2 : World} {R : Nat} {A B : Array Value} {t t2 : TypeId} {o : Obj} {vs : List Value} (hA : A[15]? = some (.pointer (some ⟨wr.heap.size + 1, 0, none⟩))) (hB10 : B[10]? = some (.bool false)) (hB74 : B[74]? = some (.string ⟨#[]⟩))
    (hg : (((wr.alloc (.cells A t)).alloc (.cells B t2)).alloc o).grownBy w2 (some R)) (hR : R < wr.heap.size)
    (hvs : ∀ v ∈ vs, NodeOk wr R v) : ∀ v ∈ vs ++ [.pointer (some ⟨wr.heap.size, 0, none⟩)], NodeOk w2 R v := by
  intro v hv
  rcases List.mem_append.1 hv with hv | hv
  · exact ((((hvs v hv).alloc _).alloc _).alloc _).grown hg
  · obtain rfl := List.mem_singleton.1 hv
    have e : (wr.alloc (.cells A t)).heap.size = wr.heap.size + 1 := by simp
    have hb := cell_new (wr.alloc (.cells A t)) B t2
    rw [e] at hb
    refine NodeOk.grown (NodeOk.alloc ⟨wr.heap.size, rfl, by omega, .inr ⟨wr.heap.size + 1, ?_, by omega, ?_, ?_⟩⟩ _) hg
    · have h1 := cell_new wr A t 15
      rw [hA] at h1
      exact (World.grownBy_alloc _ _ Option.none).cell h1 (by simp)
    · rw [hb, hB10]
    · rw [hb, hB74]

/-- The last node, which is up. -/
theorem last_up {wr w2 : World} {R : Nat} {A B : Array Value} {t t2 : TypeId} {o : Obj} (hA : A[15]? = some (.pointer (some ⟨wr.heap.size, 0, none⟩))) (hB10 : B[10]? = some (.bool false)) (hB74 : B[74]? = some (.string ⟨#[]⟩))
    (hg : (((wr.alloc (.cells B t2)).alloc (.cells A t)).alloc o).grownBy w2 (some R)) (hR : R < wr.heap.size) : NodeOk w2 R (.pointer (some ⟨wr.heap.size + 1, 0, none⟩)) ∧ UpOk w2 (.pointer (some ⟨wr.heap.size + 1, 0, none⟩)) := by
  have e : (wr.alloc (.cells B t2)).heap.size = wr.heap.size + 1 := by simp
  have ha := cell_new (wr.alloc (.cells B t2)) A t 15
  have hb := cell_new wr B t2
  rw [e, hA] at ha
  have g1 := World.grownBy_alloc (wr.alloc (.cells B t2)) (.cells A t) Option.none
  have g2 := World.grownBy_alloc ((wr.alloc (.cells B t2)).alloc (.cells A t)) o Option.none
  have c1 := hg.cell (g2.cell ha (by simp)) (by simp; omega)
  have c2 := hg.cell (g2.cell (g1.cell ((hb 10).trans hB10) (by simp)) (by simp)) (by simp; omega)
  have c3 := hg.cell (g2.cell (g1.cell ((hb 74).trans hB74) (by simp)) (by simp)) (by simp; omega)
  exact ⟨⟨_, rfl, by omega, .inr ⟨_, c1, by omega, c2, c3⟩⟩, _, _, rfl, c1, c2, c3⟩

end Go.Proofs.Ybulkcjw.sim
