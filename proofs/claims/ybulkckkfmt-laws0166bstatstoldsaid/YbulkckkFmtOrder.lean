/-
  THE PLAIN PART OF THE SORT: indexes in order of a key, equals in their own order.
-/
import Derived.WalkKit
namespace Go.Proofs.YbulkckkFmt.st
set_option linter.unusedVariables false
set_option linter.unusedSimpArgs false

/-- x stands before y: its key is smaller, or the same and x is smaller. -/
def R (T : Nat → Int) (x y : Nat) : Prop := T x < T y ∨ (T x = T y ∧ x < y)
def Sorted (T : Nat → Int) (l : List Nat) : Prop := l.Pairwise (R T)
/-- Every x of A is smaller than every y of B. -/
def Apart (A B : List Nat) : Prop := ∀ x ∈ A, ∀ y ∈ B, x < y

theorem R.trans {T : Nat → Int} {x y z : Nat} (h : R T x y) (k : R T y z) : R T x z := by
  unfold R at *
  omega

theorem Sorted.nil (T : Nat → Int) : Sorted T [] := List.Pairwise.nil
theorem Sorted.one (T : Nat → Int) (x : Nat) : Sorted T [x] := List.pairwise_singleton _ _

theorem sorted_append {T : Nat → Int} {A B : List Nat} : Sorted T (A ++ B) ↔ Sorted T A ∧ Sorted T B ∧ ∀ x ∈ A, ∀ y ∈ B, R T x y := by
  unfold Sorted
  exact List.pairwise_append

/-- What stands behind the last stands behind all. -/
theorem last_all {T : Nat → Int} {A : List Nat} {z y : Nat} (h : Sorted T (A ++ [z])) (hz : R T z y) : ∀ x ∈ A ++ [z], R T x y := by
  intro x hx
  rcases List.mem_append.1 hx with hx | hx
  · exact ((sorted_append.1 h).2.2 x hx z (by simp)).trans hz
  · simp at hx; subst hx; exact hz

/-- What stands before the first stands before all. -/
theorem first_all {T : Nat → Int} {A : List Nat} {z y : Nat} (h : Sorted T (z :: A)) (hz : R T y z) : ∀ x ∈ z :: A, R T y x := by
  intro x hx
  rcases List.mem_cons.1 hx with rfl | hx
  · exact hz
  · exact hz.trans ((List.pairwise_cons.1 h).1 x hx)

theorem cross_all {T : Nat → Int} {A B : List Nat} (hA : Sorted T A) (hB : Sorted T B) (h : ∀ A' z y B', A = A' ++ [z] → B = y :: B' → R T z y) : ∀ x ∈ A, ∀ y ∈ B, R T x y := by
  intro x hx y hy
  cases B with
  | nil => cases hy
  | cons b B' =>
    rcases List.eq_nil_or_concat A with rfl | ⟨A', z, rfl⟩
    · cases hx
    · have h1 := h A' z b B' (by simp) rfl
      have h2 := last_all (A := A') (by simpa using hA) h1 x (by simpa using hx)
      exact first_all hB h2 y hy

/-- One element laid in its place. -/
theorem insert_ok {T : Nat → Int} {S1 S2 : List Nat} {y : Nat} (h : Sorted T (S1 ++ S2)) (h1 : ∀ A z, S1 = A ++ [z] → R T z y) (h2 : ∀ z A, S2 = z :: A → R T y z) : Sorted T (S1 ++ y :: S2) := by
  obtain ⟨a, b, c⟩ := sorted_append.1 h
  have hy2 : ∀ x ∈ S2, R T y x := by
    intro x hx
    cases S2 with
    | nil => cases hx
    | cons z A => exact first_all b (h2 z A rfl) x hx
  have hy1 : ∀ x ∈ S1, R T x y := by
    intro x hx
    rcases List.eq_nil_or_concat S1 with rfl | ⟨A, z, rfl⟩
    · cases hx
    · exact last_all (A := A) (by simpa using a) (h1 A z (by simp)) x (by simpa using hx)
  refine sorted_append.2 ⟨a, List.pairwise_cons.2 ⟨hy2, b⟩, fun x hx w hw => ?_⟩
  rcases List.mem_cons.1 hw with rfl | hw
  · exact hy1 x hx
  · exact c x hx w hw

/-- Two halves merged, and the halves in order. -/
theorem merge_ok {T : Nat → Int} {A1 A2 B1 B2 S1 S2 : List Nat} (hA : Sorted T (A1 ++ A2)) (hB : Sorted T (B1 ++ B2))
    (h12 : ∀ A' z y B', A1 = A' ++ [z] → B2 = y :: B' → R T z y) (h21 : ∀ B' z y A', B1 = B' ++ [z] → A2 = y :: A' → R T z y)
    (p1 : S1.Perm (A1 ++ B1)) (p2 : S2.Perm (A2 ++ B2)) (s1 : Sorted T S1) (s2 : Sorted T S2) :
    Sorted T (S1 ++ S2) ∧ (S1 ++ S2).Perm ((A1 ++ A2) ++ (B1 ++ B2)) := by
  obtain ⟨a1, a2, aa⟩ := sorted_append.1 hA
  obtain ⟨b1, b2, bb⟩ := sorted_append.1 hB
  have c12 := cross_all a1 b2 h12
  have c21 := cross_all b1 a2 h21
  constructor
  · refine sorted_append.2 ⟨s1, s2, fun x hx y hy => ?_⟩
    have hx' := p1.mem_iff.1 hx
    have hy' := p2.mem_iff.1 hy
    rcases List.mem_append.1 hx' with hx' | hx' <;> rcases List.mem_append.1 hy' with hy' | hy'
    · exact aa x hx' y hy'
    · exact c12 x hx' y hy'
    · exact c21 x hx' y hy'
    · exact bb x hx' y hy'
  · refine (List.Perm.append p1 p2).trans ?_
    simp only [List.append_assoc]
    refine List.Perm.append_left _ ?_
    rw [← List.append_assoc, ← List.append_assoc]
    exact List.Perm.append_right _ List.perm_append_comm

theorem Apart.sub {A B A' B' : List Nat} (h : Apart A B) (hA : ∀ x ∈ A', x ∈ A) (hB : ∀ x ∈ B', x ∈ B) : Apart A' B' := fun x hx y hy => h x (hA x hx) y (hB y hy)

end Go.Proofs.YbulkckkFmt.st
