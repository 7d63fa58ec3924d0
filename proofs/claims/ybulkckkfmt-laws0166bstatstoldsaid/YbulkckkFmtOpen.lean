/-
  The input's rows, opened.
-/
import Derived.Test.YbulkckkFmtLawA
import Derived.ProofKit
import Derived.Deep.SlicePairs
namespace Go.Proofs.YbulkckkFmt.st
open Go.ChangeShapes Go.WideShapes Go.ChangeAt Go.RowKit Go.Deep
set_option linter.unusedVariables false
set_option linter.unusedSimpArgs false

theorem c26 : Ybaf.prog.cellsOf 26 = 5 := by kernel_rfl
theorem c4 : Ybaf.prog.cellsOf 4 = 1 := by kernel_rfl
theorem c2 : Ybaf.prog.cellsOf 2 = 1 := by kernel_rfl
theorem c9 : Ybaf.prog.cellsOf 9 = 1 := by kernel_rfl

theorem open26 {H : Type} {enc : TypeId × Value → H} {W : World} {base : Nat} {spare : Nat → Bool} {held : Bool} {fuel : Nat} {v : Value} {x : DataW H × List MemPlace} (h : DataW.trod enc Ybaf.prog W base spare held fuel 22 [v] = some x) :
    ∃ (a : Option Addr) (N cap : Nat) (pass has : Nat → Bool) (T O : Nat → Int) (dir : Nat → ByteArray), v = .slice a N cap ∧ N ≤ maxLen ∧ FedA W a N pass has T O dir := by
  rcases open_slice Ybaf.underlying22 h with ⟨h0, _⟩ | ⟨a, len, cap, m, n, D, Pl, hv, hb, hl, hm, hmm, rfl, hx⟩
  · simp at h0
    exact ⟨Option.none, 0, 0, fun _ => false, fun _ => false, fun _ => 0, fun _ => 0, fun _ => ⟨#[]⟩, h0, Nat.zero_le _, .inl rfl⟩
  simp at hv
  have hlm : len ≤ m := by rw [hmm]; split <;> omega
  have each : ∀ i, i < len → ∃ q : Bool × Bool × Int × Int × ByteArray, W.cell? (a.add (i * 5 + 0)) = some (.bool q.1) ∧ W.cell? (a.add (i * 5 + 1)) = some (.bool q.2.1) ∧ W.cell? (a.add (i * 5 + 2)) = some (.int .i64 q.2.2.1) ∧ W.cell? (a.add (i * 5 + 3)) = some (.int .i64 q.2.2.2.1) ∧ W.cell? (a.add (i * 5 + 4)) = some (.string q.2.2.2.2) := by
    intro i hi
    obtain ⟨cs', h1, h2⟩ := hx i (by omega)
    rw [c26] at h1
    obtain ⟨_, hlen, hcell⟩ := World.cells?_some h1
    obtain ⟨xs, k, hk, hxy, _, hxl, hf⟩ := DataW.trod_struct Ybaf.underlying26 h2
    match xs, hxl, cs', hlen with
    | [y0, y1, y2, y3, y4], _, [v0, v1, v2, v3, v4], _ =>
      have g0 := hf 0 _ rfl
      have g1 := hf 1 _ rfl
      have g2 := hf 2 _ rfl
      have g3 := hf 3 _ rfl
      have g4 := hf 4 _ rfl
      simp [c4] at g0 g1
      simp [c2] at g2 g3
      simp [c9] at g4
      obtain ⟨b0, e0, _⟩ := DataW.trod_bool Ybaf.underlying4 g0
      obtain ⟨b1, e1, _⟩ := DataW.trod_bool Ybaf.underlying4 g1
      obtain ⟨n2, e2, _⟩ := DataW.trod_int Ybaf.underlying2 g2
      obtain ⟨n3, e3, _⟩ := DataW.trod_int Ybaf.underlying2 g3
      obtain ⟨s4, e4, _⟩ := DataW.trod_string Ybaf.underlying9 g4
      simp at e0 e1 e2 e3 e4
      subst e0 e1 e2 e3 e4
      have d0 := hcell 0 (by omega)
      have d1 := hcell 1 (by omega)
      have d2 := hcell 2 (by omega)
      have d3 := hcell 3 (by omega)
      have d4 := hcell 4 (by omega)
      rw [add_add] at d0 d1 d2 d3 d4
      exact ⟨(b0, b1, n2, n3, s4), by simpa using d0, by simpa using d1, by simpa using d2, by simpa using d3, by simpa using d4⟩
  obtain ⟨q, hq⟩ := choose_lt each
  refine ⟨some a, len, cap, fun i => (q i).1, fun i => (q i).2.1, fun i => (q i).2.2.1, fun i => (q i).2.2.2.1, fun i => (q i).2.2.2.2, hv, by omega, ?_⟩
  by_cases h0 : len = 0
  · exact .inl h0
  · obtain ⟨b, off, spot⟩ := a
    have h1 := (hq 0 (by omega)).1
    have hspot : spot = Option.none := by simpa [Addr.add] using World.cell?_spot h1
    subst hspot
    have hlt : b < W.heap.size := by
      rw [add_plain] at h1
      exact World.block_lt_of_cell? W _ h1
    refine .inr ⟨b, off, rfl, hlt, fun i hi => ?_⟩
    obtain ⟨d0, d1, d2, d3, d4⟩ := hq i hi
    rw [add_plain] at d0 d1 d2 d3 d4
    exact ⟨d0, d1, d2, d3, d4⟩

end Go.Proofs.YbulkckkFmt.st
