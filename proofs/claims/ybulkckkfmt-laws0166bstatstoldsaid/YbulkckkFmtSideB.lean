/-
  sideStats (4): what the sort and the search are told.
-/
import Derived.Test.YbulkckkFmtSideL
namespace Go.Proofs.YbulkckkFmt.st
open Go.RowKit Go.Joins
set_option linter.unusedVariables false
set_option linter.unusedSimpArgs false

structure Env4 (w' : World) (H h N cap : Nat) (s : Int) (pass has : Nat → Bool) (T : Nat → Int) (d : Nat → Nat) (dir : Nat → ByteArray) (st : Nat → Value) : Prop where
  c0 : w'.cell? ⟨H, 0, none⟩ = some (.slice (some ⟨h, 0, none⟩) N cap)
  c1 : w'.cell? ⟨H + 1, 0, none⟩ = some (.int .i64 s)
  c3 : w'.cell? ⟨H + 1 + 1 + 1, 0, none⟩ = some (.func (.func 7) #[] #[.pointer (some ⟨H + 1, 0, none⟩)])
  rows : RowsOk w' h N s pass has T d dir st

section
variable {w wr w' : World} {h N cap : Nat} {s : Int} {pass has : Nat → Bool} {T : Nat → Int} {d : Nat → Nat} {dir : Nat → ByteArray} {st : Nat → Value} {v : Value}

theorem env_of (f : Fr (fun i => i = w.heap.size + 4) (W1 w h N cap s) w') (hR : RowsOk w h N s pass has T d dir st) : Env4 w' w.heap.size h N cap s pass has T d dir st where
  c0 := f.cell (cell_of_one (W1.b0 w h N cap s)) (by show ¬ w.heap.size = w.heap.size + 4; omega)
  c1 := f.cell (cell_of_one (W1.b1 w h N cap s)) (by show ¬ w.heap.size + 1 = w.heap.size + 4; omega)
  c3 := f.cell (cell_of_one (W1.b3 w h N cap s)) (by show ¬ w.heap.size + 1 + 1 + 1 = w.heap.size + 4; omega)
  rows := by
    refine hR.fr (X := fun i => w.heap.size ≤ i) ?_ (fun i hi => by show ¬ w.heap.size ≤ i; omega)
    refine Fr.split ((W1.fr w h N cap s).mono (by simp)) (f.mono ?_)
    intro i hi
    right
    omega

theorem Env4.below {H : Nat} (e : Env4 wr H h N cap s pass has T d dir st) (b : Below wr.heap.size wr w') : Env4 w' H h N cap s pass has T d dir st :=
  ⟨(b.cell (World.block_lt_of_cell? wr _ e.c0)).trans e.c0, (b.cell (World.block_lt_of_cell? wr _ e.c1)).trans e.c1, (b.cell (World.block_lt_of_cell? wr _ e.c3)).trans e.c3, e.rows.fr (X := fun _ => False) ((Fr.refl _ _).below b) (by simp)⟩

theorem row_of (hR : RowsOk w' h N s pass has T d dir st) {x : Nat} (hx : x < N) (hh : has x = true) : ∃ A : Nat → Value, RowIn w' h x A ∧ Tot A s (some ⟨d x, 0, none⟩) ∧ w'.cell? ⟨d x, 0, none⟩ = some (.int .i64 (T x)) := by
  obtain ⟨q7, q8, h1, h2⟩ := hR.row x hx
  rw [hh, if_pos rfl] at h2
  exact ⟨_, h1, tot_of _ _ _ _ h2, hR.dur x hx hh⟩

theorem cmp_ok (f : Fr (fun i => i = w.heap.size + 4) (W1 w h N cap s) wr) (hR : RowsOk w h N s pass has T d dir st) {g : Nat} (hg : w.heap.size + 5 ≤ g) : CmpOk wr g (w.heap.size + 1 + 1 + 1) w.heap.size T (fun x => x < N ∧ has x = true) := by
  intro w' x y hgr hx hy
  have e := env_of (f.grown hgr (fun i e => by
    simp at e
    subst e
    right
    rw [W1.size]
    exact hg)) hR
  obtain ⟨A, a1, a2, a3⟩ := row_of e.rows hx.1 hx.2
  obtain ⟨B, b1, b2, b3⟩ := row_of e.rows hy.1 hy.2
  exact cmp9 w' x y _ _ (w.heap.size + 1) h N cap (d x) (d y) s (T x) (T y) A B hx.1 hy.1 e.c3 e.c0 e.c1 a2 b2 a1 b1 a3 b3

theorem same_ok {H : Nat} (e : Env4 wr H h N cap s pass has T d dir st) {p4 p5 g n m c z : Nat} (c4 : wr.cell? ⟨p4, 0, none⟩ = some (.slice (some ⟨g, 0, none⟩) n c)) (c5 : wr.cell? ⟨p5, 0, none⟩ = some (.int .i64 (n : Int))) (c6 : wr.cell? ⟨g, m, none⟩ = some (.int .i64 (z : Int))) (hn : n = m + 1) (hn2 : n ≤ 1024) (hz : z < N) (hhz : has z = true) :
    ∀ w' x, Below wr.heap.size wr w' → (x < N ∧ has x = true) → Calls Ybaf.prog 12 #[.int .i64 (x : Int), .pointer (some ⟨H + 1 + 1 + 1, 0, none⟩), .pointer (some ⟨H, 0, none⟩), .pointer (some ⟨p4, 0, none⟩), .pointer (some ⟨p5, 0, none⟩)] w' fun e w'' => ∃ c : Bool, e = .returned (.bool c) ∧ Hid (c = true ↔ T x = T z) ∧ Below w'.heap.size w' w'' := by
  intro w' x b hx
  have e' := e.below b
  obtain ⟨A, a1, a2, a3⟩ := row_of e'.rows hx.1 hx.2
  obtain ⟨B, b1, b2, b3⟩ := row_of e'.rows hz hhz
  exact same12 w' x z n m _ _ (H + 1) p4 p5 g c h N cap (d x) (d z) s (T x) (T z) A B hx.1 hz hn hn2 e'.c3 e'.c0 e'.c1 ((b.cell (World.block_lt_of_cell? wr _ c4)).trans c4) ((b.cell (World.block_lt_of_cell? wr _ c5)).trans c5) ((b.cell (World.block_lt_of_cell? wr _ c6)).trans c6) a2 b2 a1 b1 a3 b3

theorem rk_mem {k x : Nat} (h : x ∈ rk pass has k) : x < k ∧ pass x = true ∧ has x = true := by
  unfold rk at h
  simp at h
  exact h
theorem rk_inc (pass has : Nat → Bool) (k : Nat) : (rk pass has k).Pairwise (· < ·) := List.Pairwise.filter _ List.pairwise_lt_range

theorem own_zero {base n cap g : Nat} {xs : List Value} (hown : wr.ownsRow base 3 1 (.slice (some ⟨g, 0, none⟩) n cap) n xs) : wr.ownsRow 0 3 1 (.slice (some ⟨g, 0, none⟩) n cap) n xs := by
  obtain ⟨h1, h2⟩ := hown
  refine ⟨h1, ?_⟩
  rcases h2 with h2 | ⟨g, c, cur, e, _, r⟩
  · exact .inl h2
  · exact .inr ⟨g, c, cur, e, Nat.zero_le _, r⟩
end

end Go.Proofs.YbulkckkFmt.st
