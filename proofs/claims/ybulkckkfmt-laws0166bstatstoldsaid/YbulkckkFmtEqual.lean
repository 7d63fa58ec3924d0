/-
  slices.Equal (6) on two rows of the same strings.
-/
import Derived.Test.YbulkckkFmtRow
import Derived.Lib.SmallJoins
namespace Go.Proofs.YbulkckkFmt.st
open Go.RowKit Go.Joins
set_option linter.unusedVariables false
set_option linter.unusedSimpArgs false

/-- The strings xs, in a block of their own, or none. -/
def StrsAt (w : World) (v : Value) (xs : List ByteArray) : Prop :=
  (v = .slice Option.none 0 0 ∧ xs = []) ∨ ∃ g c, v = .slice (some ⟨g, 0, none⟩) xs.length c ∧ ∀ i x, xs[i]? = some x → w.cell? ⟨g, i, none⟩ = some (.string x)

theorem StrsAt.below {w w' : World} {v : Value} {xs : List ByteArray} (h : StrsAt w v xs) (b : Below w.heap.size w w') : StrsAt w' v xs := by
  rcases h with h | ⟨g, c, rfl, h⟩
  · exact .inl h
  · exact .inr ⟨g, c, rfl, fun i x hx => (b.cell (World.block_lt_of_cell? w _ (h i x hx))).trans (h i x hx)⟩

set_option maxHeartbeats 2000000 in
theorem equal6 (w : World) (v1 v2 : Value) (xs : List ByteArray) (hx : xs.length ≤ 1024) (h1 : StrsAt w v1 xs) (h2 : StrsAt w v2 xs) : Calls Ybaf.prog 6 #[v1, v2] w fun e w' => e = .returned (.bool true) ∧ Below w.heap.size w w' := by
  have e1 : ∃ a c, v1 = .slice a xs.length c := by
    rcases h1 with ⟨rfl, rfl⟩ | ⟨g, c, rfl, h⟩
    · exact ⟨_, _, rfl⟩
    · exact ⟨_, _, rfl⟩
  have e2 : ∃ a c, v2 = .slice a xs.length c := by
    rcases h2 with ⟨rfl, rfl⟩ | ⟨g, c, rfl, h⟩
    · exact ⟨_, _, rfl⟩
    · exact ⟨_, _, rfl⟩
  obtain ⟨a1, c1, rfl⟩ := e1
  obtain ⟨a2, c2, rfl⟩ := e2
  have H1 : Hid (∀ i, i < xs.length → ∃ g x, a1 = some ⟨g, 0, none⟩ ∧ xs[i]? = some x ∧ w.cell? ⟨g, i, none⟩ = some (.string x)) := by
    intro i hi
    rcases h1 with ⟨_, h⟩ | ⟨g, c, e, h⟩
    · subst h; simp at hi
    · injection e with e _ _
      exact ⟨g, xs[i], e, List.getElem?_eq_getElem hi, h i _ (List.getElem?_eq_getElem hi)⟩
  have H2 : Hid (∀ i, i < xs.length → ∃ g x, a2 = some ⟨g, 0, none⟩ ∧ xs[i]? = some x ∧ w.cell? ⟨g, i, none⟩ = some (.string x)) := by
    intro i hi
    rcases h2 with ⟨_, h⟩ | ⟨g, c, e, h⟩
    · subst h; simp at hi
    · injection e with e _ _
      exact ⟨g, xs[i], e, List.getElem?_eq_getElem hi, h i _ (List.getElem?_eq_getElem hi)⟩
  clear h1 h2
  generalize xs.length = n at *
  go_enter Ybaf.func6, Ybaf.ntmps6
  go_wp2
  go_loopw [13] (fun iv wr => ∃ i : Nat, iv = .int .i64 (i : Int) ∧ i ≤ n ∧ Below w.heap.size w wr) (fun iv _ => n - (intOf iv).toNat)
  case atStart => exact ⟨0, rfl, Nat.zero_le _, Below.refl _ _⟩
  case round =>
    obtain ⟨i, rfl, hin, hb⟩ := hrel
    by_cases hlt : i < n
    · have hltI : (i : Int) < (n : Int) := by omega
      obtain ⟨g, x, rfl, hx1, k1⟩ := H1.out i hlt
      obtain ⟨g2, x2, rfl, hx2, k2⟩ := H2.out i hlt
      have ex : x2 = x := by rw [hx1] at hx2; injection hx2 with h; exact h.symm
      subst ex
      have l1 : wr.cell? ⟨g, i, none⟩ = some (.string x2) := (hb.cell (World.block_lt_of_cell? w _ k1)).trans k1
      have l2 : wr.cell? ⟨g2, i, none⟩ = some (.string x2) := (hb.cell (World.block_lt_of_cell? w _ k2)).trans k2
      have b0 : (0 : Int) ≤ (i : Int) := by omega
      clear k1 k2 hx1 hx2
      go_wp2
      go_quiet (fail)
      go_wp2
      go_roundw
      case rel => exact ⟨i + 1, by go_num, by omega, below_drewN hb _⟩
      case measure => simp [intOf]; omega
    · have hltI : (n : Int) ≤ (i : Int) := by omega
      go_wp2
      go_ret
      exact ⟨rfl, hb⟩

end Go.Proofs.YbulkckkFmt.st
