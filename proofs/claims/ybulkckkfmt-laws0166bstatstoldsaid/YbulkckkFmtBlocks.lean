/-
  THE PLAIN PART OF stableCmpFunc: blocks that are sorted, and apart.
-/
import Derived.Test.YbulkckkFmtOrder
namespace Go.Proofs.YbulkckkFmt.st
set_option linter.unusedVariables false
set_option linter.unusedSimpArgs false

theorem flat_len (l : List (List Nat)) (k : Nat) (h : ∀ B ∈ l, B.length = k) : l.flatten.length = l.length * k := by
  induction l with
  | nil => simp
  | cons B l ih =>
    have h1 := h B (by simp)
    have h2 := ih (fun C hC => h C (by simp [hC]))
    simp only [List.flatten_cons, List.length_append, List.length_cons, h1, h2, Nat.add_mul, Nat.one_mul]
    omega

/-- Blocks of bs2 elements (dl), blocks of bs elements (rl), and a rest. -/
structure Mix (T : Nat → Int) (xs : List Nat) (bs2 bs : Nat) (dl rl : List (List Nat)) (tail : List Nat) : Prop where
  perm : (dl.flatten ++ rl.flatten ++ tail).Perm xs
  len2 : ∀ B ∈ dl, B.length = bs2
  len1 : ∀ B ∈ rl, B.length = bs
  srt2 : ∀ B ∈ dl, Sorted T B
  srt1 : ∀ B ∈ rl, Sorted T B
  apart : (dl ++ rl).Pairwise Apart
  tl : ∀ B ∈ dl ++ rl, Apart B tail

section
variable {T : Nat → Int} {xs : List Nat} {bs2 bs : Nat} {dl rl : List (List Nat)} {tail : List Nat}

theorem Apart.perm {A B A' B' : List Nat} (h : Apart A B) (hA : A'.Perm A) (hB : B'.Perm B) : Apart A' B' := h.sub (fun x hx => hA.mem_iff.1 hx) (fun x hx => hB.mem_iff.1 hx)
theorem Apart.appR {A B C : List Nat} (h1 : Apart A B) (h2 : Apart A C) : Apart A (B ++ C) := fun x hx y hy => (List.mem_append.1 hy).elim (h1 x hx y) (h2 x hx y)
theorem Apart.appL {A B C : List Nat} (h1 : Apart A C) (h2 : Apart B C) : Apart (A ++ B) C := fun x hx y hy => (List.mem_append.1 hx).elim (fun h => h1 x h y hy) (fun h => h2 x h y hy)

/-- Two blocks merged into one. -/
theorem Mix.merge {B1 B2 S : List Nat} (h : Mix T xs bs2 bs dl (B1 :: B2 :: rl) tail) (hS : S.Perm (B1 ++ B2)) (hs : Sorted T S) (hl : bs2 = bs + bs) : Mix T xs bs2 bs (dl ++ [S]) rl tail := by
  have ha := List.pairwise_append.1 h.apart
  have ha2 := List.pairwise_cons.1 ha.2.1
  have ha3 := List.pairwise_cons.1 ha2.2
  refine ⟨?_, ?_, fun B hB => h.len1 B (by simp [hB]), ?_, fun B hB => h.srt1 B (by simp [hB]), ?_, ?_⟩
  · refine List.Perm.trans ?_ h.perm
    simp only [List.flatten_append, List.flatten_cons, List.flatten_nil, List.append_nil, List.append_assoc]
    refine List.Perm.append_left _ ?_
    rw [← List.append_assoc B1]
    exact List.Perm.append_right _ hS
  · intro B hB
    rcases List.mem_append.1 hB with hB | hB
    · exact h.len2 B hB
    · simp at hB; subst hB
      rw [hS.length_eq, List.length_append, h.len1 B1 (by simp), h.len1 B2 (by simp), hl]
  · intro B hB
    rcases List.mem_append.1 hB with hB | hB
    · exact h.srt2 B hB
    · simp at hB; subst hB; exact hs
  · rw [List.append_assoc, List.singleton_append]
    refine List.pairwise_append.2 ⟨ha.1, ?_, ?_⟩
    · refine List.pairwise_cons.2 ⟨fun C hC => ?_, ha3.2⟩
      exact (Apart.appL (ha2.1 C (by simp [hC])) (ha3.1 C hC)).perm hS (List.Perm.refl _)
    · intro B hB C hC
      simp at hC
      rcases hC with rfl | hC
      · exact (Apart.appR (ha.2.2 B hB B1 (by simp)) (ha.2.2 B hB B2 (by simp))).perm (List.Perm.refl _) hS
      · exact ha.2.2 B hB C (by simp [hC])
  · intro B hB
    simp at hB
    rcases hB with hB | rfl | hB
    · exact h.tl B (by simp [hB])
    · exact (Apart.appL (h.tl B1 (by simp)) (h.tl B2 (by simp))).perm hS (List.Perm.refl _)
    · exact h.tl B (by simp [hB])

/-- The next block of an increasing rest, sorted. -/
theorem Mix.next {L rest S : List Nat} (h : Mix T xs bs2 bs dl [] (L ++ rest)) (hinc : (L ++ rest).Pairwise (· < ·)) (hS : S.Perm L) (hs : Sorted T S) (hl : L.length = bs2) : Mix T xs bs2 bs (dl ++ [S]) [] rest := by
  have hp := List.pairwise_append.1 hinc
  refine ⟨?_, ?_, (fun B hB => absurd hB (by simp)), ?_, (fun B hB => absurd hB (by simp)), ?_, ?_⟩
  · refine List.Perm.trans ?_ h.perm
    simp only [List.flatten_append, List.flatten_cons, List.flatten_nil, List.append_nil, List.append_assoc]
    exact List.Perm.append_left _ (List.Perm.append_right _ hS)
  · intro B hB
    rcases List.mem_append.1 hB with hB | hB
    · exact h.len2 B hB
    · simp at hB; subst hB; rw [hS.length_eq, hl]
  · intro B hB
    rcases List.mem_append.1 hB with hB | hB
    · exact h.srt2 B hB
    · simp at hB; subst hB; exact hs
  · have ha := h.apart
    simp only [List.append_nil] at ha ⊢
    refine List.pairwise_append.2 ⟨ha, List.pairwise_singleton _ _, fun B hB C hC => ?_⟩
    simp at hC; subst hC
    exact (h.tl B (by simp [hB])).sub (fun x hx => hx) (fun x hx => List.mem_append_left _ (hS.mem_iff.1 hx))
  · intro B hB
    simp at hB
    rcases hB with hB | rfl
    · exact (h.tl B (by simp [hB])).sub (fun x hx => hx) (fun x hx => List.mem_append_right _ hx)
    · exact fun x hx y hy => hp.2.2 x (hS.mem_iff.1 hx) y hy

/-- The rest turned into another order. -/
theorem Mix.rest {S : List Nat} (h : Mix T xs bs2 bs dl rl tail) (hS : S.Perm tail) : Mix T xs bs2 bs dl rl S :=
  ⟨(List.Perm.append_left _ hS).trans h.perm, h.len2, h.len1, h.srt2, h.srt1, h.apart, fun B hB => (h.tl B hB).perm (List.Perm.refl _) hS⟩

/-- The last block and the rest become the rest. -/
theorem Mix.last {B S : List Nat} (h : Mix T xs bs2 bs dl [B] tail) (hS : S.Perm (B ++ tail)) : Mix T xs bs2 bs dl [] S := by
  have ha := List.pairwise_append.1 h.apart
  refine ⟨?_, h.len2, (fun C hC => absurd hC (by simp)), h.srt2, (fun C hC => absurd hC (by simp)), by simpa using ha.1, ?_⟩
  · refine List.Perm.trans ?_ h.perm
    simp only [List.flatten_cons, List.flatten_nil, List.append_nil, List.append_assoc]
    exact List.Perm.append_left _ hS
  · intro C hC
    simp at hC
    exact (Apart.appR (ha.2.2 C hC B (by simp)) (h.tl C (by simp [hC]))).perm (List.Perm.refl _) hS

/-- A pass begins: what were blocks of bs2 are blocks of bs. -/
theorem Mix.turn (h : Mix T xs bs2 bs dl [] tail) (b2 : Nat) : Mix T xs b2 bs2 [] dl tail :=
  ⟨by simpa using h.perm, (fun B hB => absurd hB (by simp)), h.len2, (fun B hB => absurd hB (by simp)), h.srt2, by simpa using h.apart, by simpa using h.tl⟩

/-- One block at most: all is sorted. -/
theorem Mix.done (h : Mix T xs bs2 bs dl [] tail) (hs : Sorted T tail) (hn : xs.length ≤ bs2) (hb : 1 ≤ bs2) : Sorted T (dl.flatten ++ tail) := by
  have hl := h.perm.length_eq
  simp only [List.flatten_nil, List.append_nil, List.length_append] at hl
  rw [flat_len dl bs2 h.len2] at hl
  match dl, h, hl with
  | [], h, hl => simpa using hs
  | [B], h, hl =>
    simp at hl
    have ht : tail = [] := List.eq_nil_of_length_eq_zero (by omega)
    subst ht
    simpa using h.srt2 B (by simp)
  | B :: C :: l, h, hl =>
    exfalso
    simp only [List.length_cons] at hl
    have : (l.length + 1 + 1) * bs2 = l.length * bs2 + bs2 + bs2 := by rw [Nat.add_mul, Nat.add_mul, Nat.one_mul]
    omega

theorem Mix.start (T : Nat → Int) (xs : List Nat) (b2 b1 : Nat) : Mix T xs b2 b1 [] [] xs :=
  ⟨by simp, (fun B hB => absurd hB (by simp)), (fun B hB => absurd hB (by simp)), (fun B hB => absurd hB (by simp)), (fun B hB => absurd hB (by simp)), List.Pairwise.nil, (fun B hB => absurd hB (by simp))⟩

end
end Go.Proofs.YbulkckkFmt.st
