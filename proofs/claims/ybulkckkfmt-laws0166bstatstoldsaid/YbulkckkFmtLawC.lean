/-
  The law (3): what the call hands back, in one form; its counting loop.
-/
import Derived.Test.YbulkckkFmtLawB
namespace Go.Proofs.YbulkckkFmt.st
open Go.RowKit Go.Joins
set_option linter.unusedVariables false
set_option linter.unusedSimpArgs false

/-- What the call hands back. -/
def Said (w' : World) (h N : Nat) (s : Int) (pass has : Nat → Bool) (T : Nat → Int) (dir : Nat → ByteArray) (s' : Int) (vs : Value) (okb : Bool) : Prop :=
  (rk pass has N = [] ∧ s' = 0 ∧ vs = .slice Option.none 0 0 ∧ okb = false ∧ ∀ x, x < N → w'.cell? ⟨h, x * 13 + 12, none⟩ = some (.slice Option.none 0 0)) ∨
  ∃ (S : List Nat) (n k0 g c : Nat) (r : Nat → Nat), Picks T S n k0 r ∧ S.Perm (rk pass has N) ∧ Sorted T S ∧ s' = s ∧ vs = .slice (some ⟨g, 0, none⟩) 3 c ∧ okb = true ∧ (∀ j, j < 3 → StatAt w' g s dir r j) ∧
     ∀ x, x < N → ∃ v, w'.cell? ⟨h, x * 13 + 12, none⟩ = some v ∧ StrsAt w' v (labs s r 3 x)

theorem SidePost.said {w w' : World} {h N : Nat} {s : Int} {pass has : Nat → Bool} {T : Nat → Int} {dir : Nat → ByteArray} {e : Ending} (p : SidePost w h N s pass has T dir e w') :
    ∃ s' vs okb, e = .returned (.tuple #[.agg #[.int .i64 s', vs], .bool okb]) ∧ (∃ a n c, vs = .slice a n c) ∧ Said w' h N s pass has T dir s' vs okb := by
  obtain ⟨f, ⟨h0, he, hc⟩ | ⟨S, n, k0, g, c, r, hP, hp, hs, he, hst, hl⟩⟩ := p
  · exact ⟨_, _, _, he, ⟨_, _, _, rfl⟩, .inl ⟨h0, rfl, rfl, rfl, hc⟩⟩
  · exact ⟨_, _, _, he, ⟨_, _, _, rfl⟩, .inr ⟨S, n, k0, g, c, r, hP, hp, hs, rfl, rfl, rfl, hst, hl⟩⟩

theorem below_drewN {B : Nat} {a w : World} (h : Below B a w) (n : Nat) : Below B a (w.drewN n) := ⟨h.os, h.tape, h.output, h.size, h.block⟩
theorem below_of_fr {a w : World} (h : Fr (fun _ => False) a w) : Below a.heap.size a w := ⟨h.os, h.tape, h.output, h.size, fun i hi => h.block i hi (by simp)⟩

/-- The counts so far. -/
structure Cnt (pass has : Nat → Bool) (T : Nat → Int) (k : Nat) (C : Nat) (L M : Int) : Prop where
  c : C = (rk pass has k).length
  l : L = lo pass has T k
  m : M = hi pass has T k

section
variable {pass has : Nat → Bool} {T : Nat → Int} {k C : Nat} {L M : Int}
theorem Cnt.zero : Cnt pass has T 0 0 (-1) (-1) := ⟨rfl, rfl, rfl⟩
theorem Cnt.le (q : Cnt pass has T k C L M) : C ≤ k := by rw [q.c]; exact rk_len _ _ _
theorem Cnt.drop (q : Cnt pass has T k C L M) (h : (pass k && has k) = false) : Cnt pass has T (k + 1) C L M := by
  refine ⟨?_, ?_, ?_⟩
  · rw [rk_drop h]; exact q.c
  · unfold lo; rw [h]; simpa using q.l
  · unfold hi; rw [h]; simpa using q.m
theorem Cnt.keep (q : Cnt pass has T k C L M) (h : (pass k && has k) = true) {L' M' : Int} (hl : L' = if L < 0 ∨ T k < T L.toNat then (k : Int) else L) (hm : M' = if M < 0 ∨ T M.toNat < T k then (k : Int) else M) : Cnt pass has T (k + 1) (C + 1) L' M' := by
  refine ⟨?_, ?_, ?_⟩
  · rw [rk_keep h, List.length_append, ← q.c]; rfl
  · unfold lo; rw [h, hl, q.l]; simp
  · unfold hi; rw [h, hm, q.m]; simp
theorem Cnt.cases (q : Cnt pass has T k C L M) : (L = -1 ∧ M = -1) ∨ ∃ x y : Nat, L = (x : Int) ∧ M = (y : Int) ∧ x < k ∧ y < k := by
  rcases lo_spec (pass := pass) (has := has) (T := T) k with ⟨e0, e1⟩ | ⟨x, e1, hx, _⟩
  · rcases hi_spec (pass := pass) (has := has) (T := T) k with ⟨e2, e3⟩ | ⟨y, e3, hy, _⟩
    · exact .inl ⟨q.l.trans e1, q.m.trans e3⟩
    · rw [e0] at hy; cases hy
  · rcases hi_spec (pass := pass) (has := has) (T := T) k with ⟨e2, e3⟩ | ⟨y, e3, hy, _⟩
    · rw [e2] at hx; cases hx
    · exact .inr ⟨x, y, q.l.trans e1, q.m.trans e3, rk_lt hx, rk_lt hy⟩
end

theorem rank_le (pass has : Nat → Bool) (T : Nat → Int) (x : Nat) : ∀ k, rank pass has T x k ≤ k
  | 0 => Nat.le_refl _
  | k + 1 => by
    have := rank_le pass has T x k
    unfold rank
    split <;> omega
theorem rank_up {pass has : Nat → Bool} {T : Nat → Int} {x k : Nat} (h1 : pass k = true) (h2 : has k = true) (h3 : T k < T x ∨ (T k = T x ∧ k < x)) : rank pass has T x (k + 1) = rank pass has T x k + 1 := by
  rw [rank, if_pos]
  rw [h1, h2]
  simpa using h3
theorem rank_stay {pass has : Nat → Bool} {T : Nat → Int} {x k : Nat} (h : pass k = false ∨ has k = false ∨ ¬ (T k < T x ∨ (T k = T x ∧ k < x))) : rank pass has T x (k + 1) = rank pass has T x k := by
  rw [rank, if_neg]
  rcases h with h | h | h
  · simp [h]
  · simp [h]
  · intro e
    simp at e
    exact h e.2
theorem med_drop {pass has : Nat → Bool} {T : Nat → Int} {N mid k : Nat} (h : (pass k && has k) = false ∨ rank pass has T k N ≠ mid) : med pass has T N mid (k + 1) = med pass has T N mid k := by
  rw [med]
  rcases h with h | h
  · rw [h]; rfl
  · rw [if_neg h]; simp
theorem med_hit {pass has : Nat → Bool} {T : Nat → Int} {N mid k : Nat} (h : (pass k && has k) = true) (h2 : rank pass has T k N = mid) : med pass has T N mid (k + 1) = (k : Int) := by
  rw [med, if_pos h, if_pos h2]

end Go.Proofs.YbulkckkFmt.st
