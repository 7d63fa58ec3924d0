/-
  symMergeCmpFunc (20): its long way, stage by stage.
-/
import Derived.Test.YbulkckkFmtMergeA
import Derived.Test.YbulkckkFmtMergeB
namespace Go.Proofs.YbulkckkFmt.st
open Go.RowKit
set_option linter.unusedVariables false
set_option linter.unusedSimpArgs false

/-- What the merge of two neighbouring pieces does, for pieces of at most k elements. -/
def MergeTo (k : Nat) : Prop :=
  ∀ (w0 w : World) (g n cap a m b p1 p2 : Nat) (T : Nat → Int) (V : Nat → Prop) (P A B Q : List Nat), A.length + B.length ≤ k → n ≤ 1024 → P.length = a → m = a + A.length → b = m + B.length → 1 ≤ A.length → 1 ≤ B.length →
    Sorted T A → Sorted T B → Apart A B → (∀ x ∈ A, V x) → (∀ x ∈ B, V x) → CmpOk w0 g p1 p2 T V → RowAt w0 w g n cap (P ++ A ++ B ++ Q) →
    Calls Ybaf.prog 20 #[.slice (some ⟨g, 0, none⟩) n cap, .int .i64 (a : Int), .int .i64 (m : Int), .int .i64 (b : Int), .func (.func 9) #[] #[.pointer (some ⟨p1, 0, none⟩), .pointer (some ⟨p2, 0, none⟩)]] w fun e w' => e = .returned (.tuple #[]) ∧ ∃ S, S.Perm (A ++ B) ∧ Sorted T S ∧ RowAt w0 w' g n cap (P ++ S ++ Q)

/-- The search of the long way. -/
def BinC (T : Nat → Int) (L0 : List Nat) (p lo hi s r : Nat) : Prop :=
  lo ≤ s ∧ s ≤ r ∧ r ≤ hi ∧ (s = lo ∨ T (L0.getD (s - 1) 0) ≤ T (L0.getD (p + 1 - s) 0)) ∧ (r = hi ∨ T (L0.getD (p - r) 0) < T (L0.getD r 0))

/-- The four quarters, and how they stand. -/
structure Quarters (T : Nat → Int) (V : Nat → Prop) (A B A1 A2 B1 B2 : List Nat) : Prop where
  eA : A = A1 ++ A2
  eB : B = B1 ++ B2
  sA : Sorted T A
  sB : Sorted T B
  ap : Apart A B
  vA : ∀ x ∈ A, V x
  vB : ∀ x ∈ B, V x
  h12 : ∀ A' z y B', A1 = A' ++ [z] → B2 = y :: B' → R T z y
  h21 : ∀ B' z y A', B1 = B' ++ [z] → A2 = y :: A' → R T z y

def Stage2 (w0 w : World) (g n cap : Nat) (T : Nat → Int) (P A1 A2 B1 B2 Q : List Nat) : Prop :=
  ∃ S1 : List Nat, S1.Perm (A1 ++ B1) ∧ Sorted T S1 ∧ RowAt w0 w g n cap (P ++ S1 ++ (A2 ++ B2) ++ Q)
def Stage3 (w0 w : World) (g n cap : Nat) (T : Nat → Int) (P A B Q : List Nat) : Prop :=
  ∃ S : List Nat, S.Perm (A ++ B) ∧ Sorted T S ∧ RowAt w0 w g n cap (P ++ S ++ Q)

section
variable {w0 w : World} {g n cap : Nat} {T : Nat → Int} {V : Nat → Prop} {P A B Q A1 A2 B1 B2 : List Nat}

theorem skip1 (q : Quarters T V A B A1 A2 B1 B2) (h : A2 = [] ∨ B1 = []) (hr : RowAt w0 w g n cap (P ++ A ++ B ++ Q)) : RowAt w0 w g n cap (P ++ A1 ++ B1 ++ (A2 ++ B2) ++ Q) := by
  rw [q.eA, q.eB] at hr
  rcases h with rfl | rfl <;> simpa using hr

theorem Quarters.s1 (q : Quarters T V A B A1 A2 B1 B2) : Sorted T A1 ∧ Sorted T A2 := by
  have := q.sA
  rw [q.eA] at this
  exact ⟨(sorted_append.1 this).1, (sorted_append.1 this).2.1⟩
theorem Quarters.s2 (q : Quarters T V A B A1 A2 B1 B2) : Sorted T B1 ∧ Sorted T B2 := by
  have := q.sB
  rw [q.eB] at this
  exact ⟨(sorted_append.1 this).1, (sorted_append.1 this).2.1⟩

theorem skip2 (q : Quarters T V A B A1 A2 B1 B2) (h : A1 = [] ∨ B1 = []) (hr : RowAt w0 w g n cap (P ++ A1 ++ B1 ++ (A2 ++ B2) ++ Q)) : Stage2 w0 w g n cap T P A1 A2 B1 B2 Q := by
  refine ⟨A1 ++ B1, List.Perm.refl _, ?_, by simpa using hr⟩
  rcases h with rfl | rfl
  · simpa using q.s2.1
  · simpa using q.s1.1

theorem end3 (q : Quarters T V A B A1 A2 B1 B2) {S1 S2 : List Nat} (p1 : S1.Perm (A1 ++ B1)) (s1 : Sorted T S1) (p2 : S2.Perm (A2 ++ B2)) (s2 : Sorted T S2) (hr : RowAt w0 w g n cap (P ++ S1 ++ S2 ++ Q)) : Stage3 w0 w g n cap T P A B Q := by
  have h1 := q.sA
  have h2 := q.sB
  rw [q.eA] at h1
  rw [q.eB] at h2
  obtain ⟨hs, hp⟩ := merge_ok h1 h2 q.h12 q.h21 p1 p2 s1 s2
  refine ⟨S1 ++ S2, ?_, hs, by simpa using hr⟩
  rw [q.eA, q.eB]
  exact hp

theorem skip3 (q : Quarters T V A B A1 A2 B1 B2) (h : A2 = [] ∨ B2 = []) (hr : Stage2 w0 w g n cap T P A1 A2 B1 B2 Q) : Stage3 w0 w g n cap T P A B Q := by
  obtain ⟨S1, p1, s1, hr⟩ := hr
  refine end3 q p1 s1 (List.Perm.refl _) ?_ hr
  rcases h with rfl | rfl
  · simpa using q.s2.2
  · simpa using q.s1.2

theorem do1 (q : Quarters T V A B A1 A2 B1 B2) (hn : n ≤ 1024) (fv : Value) (a m e : Nat) (ha : a = P.length + A1.length) (hm : m = a + A2.length) (he : e = m + B1.length) (h1 : 1 ≤ A2.length) (h2 : 1 ≤ B1.length) (hr : RowAt w0 w g n cap (P ++ A ++ B ++ Q)) :
    Calls Ybaf.prog 22 #[.slice (some ⟨g, 0, none⟩) n cap, .int .i64 (a : Int), .int .i64 (m : Int), .int .i64 (e : Int), fv] w fun e w' => e = .returned (.tuple #[]) ∧ RowAt w0 w' g n cap (P ++ A1 ++ B1 ++ (A2 ++ B2) ++ Q) := by
  rw [q.eA, q.eB] at hr
  have h := rotate22 w0 w g n cap a m e fv (P ++ A1) A2 B1 (B2 ++ Q) hn (by simp; omega) hm he h1 h2 (by simpa using hr)
  refine h.mono ?_
  rintro e w' ⟨he, hw⟩
  exact ⟨he, by simpa using hw⟩

theorem do2 {k : Nat} (ih : MergeTo k) {p1 p2 : Nat} (hc : CmpOk w0 g p1 p2 T V) (q : Quarters T V A B A1 A2 B1 B2) (hn : n ≤ 1024) (a m b : Nat) (ha : P.length = a) (hm : m = a + A1.length) (hb : b = m + B1.length) (hk : A1.length + B1.length ≤ k) (h1 : 1 ≤ A1.length) (h2 : 1 ≤ B1.length)
    (hr : RowAt w0 w g n cap (P ++ A1 ++ B1 ++ (A2 ++ B2) ++ Q)) :
    Calls Ybaf.prog 20 #[.slice (some ⟨g, 0, none⟩) n cap, .int .i64 (a : Int), .int .i64 (m : Int), .int .i64 (b : Int), .func (.func 9) #[] #[.pointer (some ⟨p1, 0, none⟩), .pointer (some ⟨p2, 0, none⟩)]] w fun e w' => e = .returned (.tuple #[]) ∧ Stage2 w0 w' g n cap T P A1 A2 B1 B2 Q := by
  have h := ih w0 w g n cap a m b p1 p2 T V P A1 B1 (A2 ++ B2 ++ Q) hk hn ha hm hb h1 h2 q.s1.1 q.s2.1 (q.ap.sub (fun x hx => by rw [q.eA]; simp [hx]) (fun x hx => by rw [q.eB]; simp [hx])) (fun x hx => q.vA x (by rw [q.eA]; simp [hx])) (fun x hx => q.vB x (by rw [q.eB]; simp [hx])) hc (by simpa using hr)
  refine h.mono ?_
  rintro e w' ⟨he, S, p, s, hw⟩
  exact ⟨he, S, p, s, by simpa using hw⟩

theorem do3 {k : Nat} (ih : MergeTo k) {p1 p2 : Nat} (hc : CmpOk w0 g p1 p2 T V) (q : Quarters T V A B A1 A2 B1 B2) (hn : n ≤ 1024) (a m b : Nat) (ha : a = P.length + A1.length + B1.length) (hm : m = a + A2.length) (hb : b = m + B2.length) (hk : A2.length + B2.length ≤ k) (h1 : 1 ≤ A2.length) (h2 : 1 ≤ B2.length)
    (hr : Stage2 w0 w g n cap T P A1 A2 B1 B2 Q) :
    Calls Ybaf.prog 20 #[.slice (some ⟨g, 0, none⟩) n cap, .int .i64 (a : Int), .int .i64 (m : Int), .int .i64 (b : Int), .func (.func 9) #[] #[.pointer (some ⟨p1, 0, none⟩), .pointer (some ⟨p2, 0, none⟩)]] w fun e w' => e = .returned (.tuple #[]) ∧ Stage3 w0 w' g n cap T P A B Q := by
  obtain ⟨S1, pp1, ss1, hr⟩ := hr
  have hl := pp1.length_eq
  simp at hl
  have h := ih w0 w g n cap a m b p1 p2 T V (P ++ S1) A2 B2 Q hk hn (by simp; omega) hm hb h1 h2 q.s1.2 q.s2.2 (q.ap.sub (fun x hx => by rw [q.eA]; simp [hx]) (fun x hx => by rw [q.eB]; simp [hx])) (fun x hx => q.vA x (by rw [q.eA]; simp [hx])) (fun x hx => q.vB x (by rw [q.eB]; simp [hx])) hc (by simpa using hr)
  refine h.mono ?_
  rintro e w' ⟨he, S, p, s, hw⟩
  exact ⟨he, end3 q pp1 ss1 p s hw⟩

/-- Where the search has ended the quarters stand as they must. -/
theorem quarters_of {a m b mid s lo hi : Nat} (hP : P.length = a) (hm : m = a + A.length) (hb : b = m + B.length) (sA : Sorted T A) (sB : Sorted T B) (ap : Apart A B) (vA : ∀ x ∈ A, V x) (vB : ∀ x ∈ B, V x) (hmid : a ≤ mid ∧ mid ≤ b)
    (hcase : (m ≤ mid ∧ lo = a ∧ hi = m ∧ mid + m - a ≤ b) ∨ (mid < m ∧ lo = mid + m - b ∧ hi = mid ∧ a + b ≤ mid + m)) (hbin : BinC T (P ++ A ++ B ++ Q) (mid + m - 1) lo hi s s) (h1 : 1 ≤ mid + m) :
    Quarters T V A B (A.take (s - a)) (A.drop (s - a)) (B.take (mid - s)) (B.drop (mid - s)) := by
  obtain ⟨b1, _, b3, blo, bhi⟩ := hbin
  have atA : ∀ v (hv : v < A.length), (P ++ A ++ B ++ Q).getD (a + v) 0 = A[v] := by
    intro v hv
    have := getD_in P A (B ++ Q) v hv
    rw [hP] at this
    simpa using this
  have atB : ∀ v (hv : v < B.length), (P ++ A ++ B ++ Q).getD (m + v) 0 = B[v] := by
    intro v hv
    have := getD_in (P ++ A) B Q v hv
    have e : (P ++ A).length = m := by simp; omega
    rw [e] at this
    simpa using this
  refine ⟨(List.take_append_drop _ _).symm, (List.take_append_drop _ _).symm, sA, sB, ap, vA, vB, ?_, ?_⟩
  · intro A' z y B' e1 e2
    have l1 := congrArg List.length e1
    have l2 := congrArg List.length e2
    simp at l1 l2
    have hu : s - a - 1 < A.length := by omega
    have hv : mid - s < B.length := by omega
    have hz : A[s - a - 1] = z := by
      have := congrArg (fun l => l[s - a - 1]?) e1
      simp [show A'.length = s - a - 1 by omega, List.getElem?_take, show s - a - 1 < s - a by omega, hu] at this
      exact this
    have hy : B[mid - s] = y := by
      rw [List.drop_eq_getElem_cons hv] at e2
      cases e2
      rfl
    have t1 := atA (s - a - 1) hu
    have t2 := atB (mid - s) hv
    rw [hz, show a + (s - a - 1) = s - 1 by omega] at t1
    rw [hy, show m + (mid - s) = mid + m - 1 + 1 - s by omega] at t2
    have hzy : z < y := ap z (by rw [← hz]; exact List.getElem_mem hu) y (by rw [← hy]; exact List.getElem_mem hv)
    rcases blo with h | h
    · omega
    · rw [t1, t2] at h
      unfold R
      omega
  · intro B' z y A' e1 e2
    have l1 := congrArg List.length e1
    have l2 := congrArg List.length e2
    simp at l1 l2
    have hv : mid - s - 1 < B.length := by omega
    have hu : s - a < A.length := by omega
    have hz : B[mid - s - 1] = z := by
      have := congrArg (fun l => l[mid - s - 1]?) e1
      simp [show B'.length = mid - s - 1 by omega, List.getElem?_take, show mid - s - 1 < mid - s by omega, hv] at this
      exact this
    have hy : A[s - a] = y := by
      rw [List.drop_eq_getElem_cons hu] at e2
      cases e2
      rfl
    have t1 := atA (s - a) hu
    have t2 := atB (mid - s - 1) hv
    rw [hy, show a + (s - a) = s by omega] at t1
    rw [hz, show m + (mid - s - 1) = mid + m - 1 - s by omega] at t2
    rcases bhi with h | h
    · omega
    · rw [t1, t2] at h
      exact .inl h

end
end Go.Proofs.YbulkckkFmt.st
