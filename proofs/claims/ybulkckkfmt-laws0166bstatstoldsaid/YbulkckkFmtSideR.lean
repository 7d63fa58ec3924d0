/-
  sideStats (4): what it hands back where rows were kept.
-/
import Derived.Test.YbulkckkFmtSideQ
namespace Go.Proofs.YbulkckkFmt.st
open Go.RowKit Go.Joins
set_option linter.unusedVariables false
set_option linter.unusedSimpArgs false

theorem sinfo44z : (Ybaf.prog.info? 44).map (fun i => (i.zero, i.size, i.bytes)) = some (some (.agg #[.string ⟨#[]⟩, .string ⟨#[]⟩, .string ⟨#[]⟩, .string ⟨#[]⟩, .int .i64 0]), 5, 72) := by kernel_rfl

theorem new_cells (w : World) (xs : Array Value) (t : TypeId) : ∀ j v, xs.toList[j]? = some v → (w.alloc (.cells xs t)).cell? ((⟨w.heap.size, 0, none⟩ : Addr).add j) = some v := by
  intro j v hv
  have e := heap_alloc_new w (.cells xs t)
  have := cell_of_row (w.alloc (.cells xs t)) w.heap.size j xs t (0, 0) e
  have ha : ((⟨w.heap.size, 0, none⟩ : Addr).add j) = ⟨w.heap.size, j, none⟩ := by
    simp only [Addr.add, Nat.zero_add]
    split
    · next h => rw [h]
    · rfl
  rw [ha, this]
  simpa using hv

theorem flat_at {α : Type} (m : Nat) (f : Nat → List α) (hf : ∀ i, (f i).length = m) : ∀ (n j k : Nat), j < n → k < m → (((List.range n).map f).flatten)[j * m + k]? = (f j)[k]?
  | 0, j, k, hj, _ => by omega
  | n + 1, j, k, hj, hk => by
    have hl : (((List.range n).map f).flatten).length = n * m := by
      clear hj hk
      induction n with
      | zero => simp
      | succ n ih => rw [List.range_succ, List.map_append, List.flatten_append, List.length_append, ih]; simp [hf, Nat.add_mul]
    rw [List.range_succ, List.map_append, List.flatten_append]
    rcases Nat.lt_or_ge j n with h | h
    · have : j * m + k < n * m := by
        have : j * m + m ≤ n * m := by rw [← Nat.succ_mul]; exact Nat.mul_le_mul_right _ h
        omega
      rw [List.getElem?_append_left (by omega)]
      exact flat_at m f hf n j k h hk
    · obtain rfl : j = n := by omega
      rw [List.getElem?_append_right (by omega), hl]
      simp

theorem stat_at {wr : World} {base g c : Nat} {s : Int} {dir : Nat → ByteArray} {r : Nat → Nat} {cs : List Value} (hown : wr.ownsRow base 44 5 (.slice (some ⟨g, 0, none⟩) 3 c) 3 cs) (hst : StatL s dir r cs 3) : ∀ j, j < 3 → StatAt wr g s dir r j := by
  intro j hj
  obtain ⟨ms, rfl⟩ := hst
  have h : ∀ k, k < 5 → wr.cell? ⟨g, j * 5 + k, none⟩ = ([Value.string (full s j), .string (lb j), .string (ms j), .string (dir (r j)), .int .i64 ((r j : Int) + 1)] : List Value)[k]? := fun k hk => by
    rw [hown.cellAt (j * 5 + k) (by omega)]
    exact flat_at 5 _ (fun i => rfl) 3 j k hj hk
  exact ⟨h 0 (by omega), h 1 (by omega), ⟨ms j, h 2 (by omega)⟩, h 3 (by omega), h 4 (by omega)⟩

theorem strs_of {wr : World} {base : Nat} {v : Value} {xs : List ByteArray} (h : wr.ownsRow base 9 1 v xs.length (xs.map Value.string)) : StrsAt wr v xs := by
  rcases h.2 with ⟨rfl, h0⟩ | ⟨g, c, cur, rfl, hx⟩
  · exact .inl ⟨rfl, List.eq_nil_of_length_eq_zero h0⟩
  · refine .inr ⟨g, c, rfl, fun i x hi => ?_⟩
    have hlt : i < xs.length := by
      rcases Nat.lt_or_ge i xs.length with h | h
      · exact h
      · rw [List.getElem?_eq_none h] at hi; cases hi
    rw [h.cellAt i (by omega), List.getElem?_map, hi]
    rfl

theorem full_post {w W2 wr : World} {h N p12 p4 g c : Nat} {s : Int} {pass has : Nat → Bool} {T : Nat → Int} {d : Nat → Nat} {dir : Nat → ByteArray} {st : Nat → Value} {cs : List Value} {r : Nat → Nat} {S : List Nat} {n k0 : Nat}
    (l : L2 W2 wr h N p12 s pass has T d dir st (labs s r 3) (.slice (some ⟨g, 0, none⟩) 3 c) cs 3) (hst : StatL s dir r cs 3) (hf : Fr (fun _ => False) w W2) (hlt : h < w.heap.size) (hp12 : w.heap.size ≤ p12) (hp4 : w.heap.size ≤ p4) (hp42 : p4 < W2.heap.size)
    (hP : Picks T S n k0 r) (hp : S.Perm (rk pass has N)) (hs : Sorted T S) (u1 u2 : Value) :
    SidePost w h N s pass has T dir (.returned (.tuple #[.agg #[.int .i64 s, .slice (some ⟨g, 0, none⟩) 3 c], .bool true])) ((wr.setCell ⟨p4, 0, none⟩ u1).setCell ⟨p4, 1, none⟩ u2) := by
  have f0 : Fr (fun i => i = h) w wr := Fr.split (hf.mono (by simp)) (l.fr.mono (fun i hi => by rcases hi with hi | hi <;> omega))
  have f1 : Fr (fun i => i = h) w ((wr.setCell ⟨p4, 0, none⟩ u1).setCell ⟨p4, 1, none⟩ u2) := Fr.setCell (Fr.setCell f0 _ _ (.inr hp4)) _ _ (.inr hp4)
  have f2 : Fr (fun i => i = p4) wr ((wr.setCell ⟨p4, 0, none⟩ u1).setCell ⟨p4, 1, none⟩ u2) := Fr.setCell (Fr.setCell (Fr.refl (fun i => i = p4) wr) ⟨p4, 0, none⟩ u1 (.inl rfl)) ⟨p4, 1, none⟩ u2 (.inl rfl)
  have hgb : W2.heap.size ≤ g := (l.stats.lt g rfl).1
  refine ⟨f1, .inr ⟨S, n, k0, g, c, r, hP, hp, hs, rfl, fun j hj => ?_, fun x hx => ?_⟩⟩
  · obtain ⟨a0, a1, ⟨t, a2⟩, a3, a4⟩ := stat_at l.stats hst j hj
    have hne : ¬ g = p4 := by omega
    exact ⟨f2.cell a0 hne, f2.cell a1 hne, ⟨t, f2.cell a2 hne⟩, f2.cell a3 hne, f2.cell a4 hne⟩
  · obtain ⟨q7, q8, hr, _⟩ := l.rows.row x hx
    refine ⟨st x, f2.cell (hr 12 (by omega)) (by show ¬ h = p4; omega), ?_⟩
    have hso := strs_of (l.own x hx)
    rcases hso with h1 | ⟨g1, c1, e1, h1⟩
    · exact .inl h1
    · refine .inr ⟨g1, c1, e1, fun i y hy => f2.cell (h1 i y hy) ?_⟩
      have := ((l.own x hx).lt g1 (by rw [e1]; rfl)).1
      show ¬ g1 = p4
      omega

end Go.Proofs.YbulkckkFmt.st
