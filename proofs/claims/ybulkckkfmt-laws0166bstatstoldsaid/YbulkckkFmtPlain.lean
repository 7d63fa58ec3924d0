/-
  The plain law: the least, the middle and the greatest as the law counts them are those of the sorted row.
-/
import Derived.Test.YbulkckkFmtSideP
namespace Go.Proofs.YbulkckkFmt.st
set_option linter.unusedVariables false
set_option linter.unusedSimpArgs false

section
variable (pass has : Nat → Bool) (T : Nat → Int)

def lo : Nat → Int
  | 0 => -1
  | k + 1 => if pass k && has k then (if lo k < 0 ∨ T k < T (lo k).toNat then (k : Int) else lo k) else lo k

def hi : Nat → Int
  | 0 => -1
  | k + 1 => if pass k && has k then (if hi k < 0 ∨ T (hi k).toNat < T k then (k : Int) else hi k) else hi k

/-- How many kept rows below k come before x. -/
def rank (x : Nat) : Nat → Nat
  | 0 => 0
  | k + 1 => if pass k && has k && (decide (T k < T x) || (T k == T x && decide (k < x))) then rank x k + 1 else rank x k

def med (N mid : Nat) : Nat → Int
  | 0 => -1
  | k + 1 => if pass k && has k then (if rank pass has T k N = mid then (k : Int) else med N mid k) else med N mid k
end

section
variable {pass has : Nat → Bool} {T : Nat → Int}

theorem rk_keep {k : Nat} (h : (pass k && has k) = true) : rk pass has (k + 1) = rk pass has k ++ [k] := by rw [rk_succ, if_pos h]
theorem rk_drop {k : Nat} (h : (pass k && has k) = false) : rk pass has (k + 1) = rk pass has k := by rw [rk_succ, h]; simp
theorem rk_lt {k x : Nat} (h : x ∈ rk pass has k) : x < k := (rk_mem h).1

theorem lo_spec : ∀ k, (rk pass has k = [] ∧ lo pass has T k = -1) ∨ ∃ x : Nat, lo pass has T k = (x : Int) ∧ x ∈ rk pass has k ∧ ∀ y ∈ rk pass has k, y = x ∨ R T x y
  | 0 => .inl ⟨rfl, rfl⟩
  | k + 1 => by
    unfold lo
    cases h : (pass k && has k) with
    | false => rw [rk_drop h]; simpa [h] using lo_spec k
    | true =>
      rw [rk_keep h]
      simp only [h, if_true]
      right
      rcases lo_spec k with ⟨e0, e1⟩ | ⟨x, e1, hx, hall⟩
      · rw [e0, e1]
        exact ⟨k, by simp, by simp, by simp⟩
      · rw [e1]
        have hn : ¬ ((x : Int) < 0) := by omega
        have hxk := rk_lt hx
        by_cases ht : T k < T x
        · refine ⟨k, by simp [hn, ht], by simp, fun y hy => ?_⟩
          rcases List.mem_append.1 hy with hy | hy
          · right
            rcases hall y hy with rfl | hr
            · exact .inl ht
            · exact R.trans (.inl ht) hr
          · left; simpa using hy
        · refine ⟨x, by simp [hn, ht], by simp [hx], fun y hy => ?_⟩
          rcases List.mem_append.1 hy with hy | hy
          · exact hall y hy
          · right
            obtain rfl : y = k := by simpa using hy
            unfold R
            omega

theorem hi_spec : ∀ k, (rk pass has k = [] ∧ hi pass has T k = -1) ∨ ∃ x : Nat, hi pass has T k = (x : Int) ∧ x ∈ rk pass has k ∧ ∀ y ∈ rk pass has k, T y < T x ∨ (T y = T x ∧ x ≤ y)
  | 0 => .inl ⟨rfl, rfl⟩
  | k + 1 => by
    unfold hi
    cases h : (pass k && has k) with
    | false => rw [rk_drop h]; simpa [h] using hi_spec k
    | true =>
      rw [rk_keep h]
      simp only [h, if_true]
      right
      rcases hi_spec k with ⟨e0, e1⟩ | ⟨x, e1, hx, hall⟩
      · rw [e0, e1]
        exact ⟨k, by simp, by simp, by simp⟩
      · rw [e1]
        have hn : ¬ ((x : Int) < 0) := by omega
        have hxk := rk_lt hx
        by_cases ht : T x < T k
        · refine ⟨k, by simp [hn, ht], by simp, fun y hy => ?_⟩
          rcases List.mem_append.1 hy with hy | hy
          · rcases hall y hy with hr | hr <;> omega
          · obtain rfl : y = k := by simpa using hy
            right; omega
        · refine ⟨x, by simp [hn, ht], by simp [hx], fun y hy => ?_⟩
          rcases List.mem_append.1 hy with hy | hy
          · exact hall y hy
          · obtain rfl : y = k := by simpa using hy
            omega

theorem rank_eq (x : Nat) : ∀ k, rank pass has T x k = ((rk pass has k).filter (fun y => decide (T y < T x) || (T y == T x && decide (y < x)))).length
  | 0 => rfl
  | k + 1 => by
    unfold rank
    cases h : (pass k && has k) with
    | false => rw [rk_drop h, rank_eq x k]; simp [h]
    | true =>
      rw [rk_keep h, List.filter_append, List.length_append, rank_eq x k]
      simp only [h, Bool.true_and]
      split
      · next h2 => simp only [List.filter_cons, h2, if_true, List.filter_nil, List.length_cons, List.length_nil]
      · next h2 => simp only [List.filter_cons, h2, List.filter_nil, List.length_nil]; rfl

theorem rank_sorted {N : Nat} {S : List Nat} (hp : S.Perm (rk pass has N)) (hs : Sorted T S) {i : Nat} (hi : i < S.length) : rank pass has T (S.getD i 0) N = i := by
  rw [rank_eq, ← (hp.filter _).length_eq]
  have hsplit : S = S.take i ++ S.drop i := (List.take_append_drop i S).symm
  have hx : S.getD i 0 = S[i] := by rw [List.getD_eq_getElem?_getD, List.getElem?_eq_getElem hi]; rfl
  rw [hx]
  have h1 : (S.take i).filter (fun y => decide (T y < T S[i]) || (T y == T S[i] && decide (y < S[i]))) = S.take i := by
    rw [List.filter_eq_self]
    intro y hy
    obtain ⟨j, hj, rfl⟩ := List.mem_iff_getElem.1 hy
    rw [List.length_take] at hj
    rw [List.getElem_take]
    have := (List.pairwise_iff_getElem.1 hs) j i (by omega) hi (by omega)
    unfold R at this
    simpa using this
  have h2 : (S.drop i).filter (fun y => decide (T y < T S[i]) || (T y == T S[i] && decide (y < S[i]))) = [] := by
    rw [List.filter_eq_nil_iff]
    intro y hy
    obtain ⟨j, hj, rfl⟩ := List.mem_iff_getElem.1 hy
    rw [List.length_drop] at hj
    rw [List.getElem_drop]
    rcases Nat.eq_zero_or_pos j with rfl | hj0
    · simp
    · have := (List.pairwise_iff_getElem.1 hs) i (i + j) hi (by omega) (by omega)
      unfold R at this
      simp
      omega
  conv => lhs; arg 1; arg 2; rw [hsplit]
  rw [List.filter_append, h1, h2, List.append_nil, List.length_take]
  omega

theorem med_spec {N mid : Nat} {S : List Nat} (hp : S.Perm (rk pass has N)) (hs : Sorted T S) (hm : mid < S.length) : ∀ k, k ≤ N → (S.getD mid 0 < k → med pass has T N mid k = (S.getD mid 0 : Int)) ∧ (k ≤ S.getD mid 0 → med pass has T N mid k = -1)
  | 0, _ => ⟨fun h => absurd h (Nat.not_lt_zero _), fun _ => rfl⟩
  | k + 1, hk => by
    obtain ⟨i1, i2⟩ := med_spec hp hs hm k (by omega)
    have hmem : S.getD mid 0 ∈ rk pass has N := by
      refine hp.mem_iff.1 ?_
      rw [List.getD_eq_getElem?_getD, List.getElem?_eq_getElem hm]
      exact List.getElem_mem _
    unfold med
    by_cases e : k = S.getD mid 0
    · subst e
      have := (rk_mem hmem).2
      refine ⟨fun _ => ?_, fun h => by omega⟩
      rw [if_pos (by rw [this.1, this.2]; rfl), if_pos (rank_sorted hp hs hm)]
    · have hne : (pass k && has k) = true → rank pass has T k N ≠ mid := fun hkp hr => by
        have hkS : k ∈ S := by
          refine hp.mem_iff.2 ?_
          unfold rk
          simp only [List.mem_filter, List.mem_range]
          exact ⟨by omega, hkp⟩
        obtain ⟨i, hi, rfl⟩ := List.mem_iff_getElem.1 hkS
        have hx : S.getD i 0 = S[i] := by rw [List.getD_eq_getElem?_getD, List.getElem?_eq_getElem hi]; rfl
        rw [← hx, rank_sorted hp hs hi] at hr
        subst hr
        exact e hx.symm
      have hsame : (if (pass k && has k) = true then if rank pass has T k N = mid then (k : Int) else med pass has T N mid k else med pass has T N mid k) = med pass has T N mid k := by
        split
        · next hkp => rw [if_neg (hne hkp)]
        · rfl
      rw [hsame]
      exact ⟨fun h => i1 (by omega), fun h => i2 (by omega)⟩

theorem R.anti {x y : Nat} (h : R T x y) (k : R T y x) : False := by unfold R at h k; omega

theorem picks_law {N n k0 : Nat} {S : List Nat} {r : Nat → Nat} (hP : Picks T S n k0 r) (hp : S.Perm (rk pass has N)) (hs : Sorted T S) :
    lo pass has T N = (r 0 : Int) ∧ med pass has T N ((n - 1) / 2) N = (r 1 : Int) ∧ hi pass has T N = (r 2 : Int) ∧ (rk pass has N).length = n ∧ 0 < n ∧ ∀ j, r j ∈ rk pass has N ∨ 3 ≤ j := by
  obtain ⟨hl, hn, e0, e1, e2, hk, hmax, hfst⟩ := hP
  have hg : ∀ i, i < n → ∃ h : i < S.length, S.getD i 0 = S[i] := fun i hi => ⟨by omega, by rw [List.getD_eq_getElem?_getD, List.getElem?_eq_getElem (by omega)]; rfl⟩
  have hm : ∀ i, i < n → S.getD i 0 ∈ rk pass has N := fun i hi => by
    obtain ⟨h, e⟩ := hg i hi
    rw [e]
    exact hp.mem_iff.1 (List.getElem_mem _)
  have hne : rk pass has N ≠ [] := fun e => by have := hm 0 hn; rw [e] at this; cases this
  have hpw := List.pairwise_iff_getElem.1 hs
  refine ⟨?_, ?_, ?_, by rw [← hp.length_eq, hl], hn, ?_⟩
  · rcases lo_spec (pass := pass) (has := has) (T := T) N with ⟨h, _⟩ | ⟨x, hx, hmx, hall⟩
    · exact absurd h hne
    · rw [hx, e0]
      rcases hall _ (hm 0 hn) with h | h
      · rw [h]
      · exfalso
        obtain ⟨i, hi, rfl⟩ := List.mem_iff_getElem.1 (hp.mem_iff.2 hmx)
        obtain ⟨h0, e⟩ := hg 0 hn
        rw [e] at h
        rcases Nat.eq_zero_or_pos i with rfl | hi0
        · exact R.anti h h
        · exact R.anti h (hpw 0 i h0 hi hi0)
  · rw [e1]
    exact (med_spec hp hs (by omega) N (Nat.le_refl _)).1 (rk_lt (hm _ (by omega)))
  · rcases hi_spec (pass := pass) (has := has) (T := T) N with ⟨h, _⟩ | ⟨x, hx, hmx, hall⟩
    · exact absurd h hne
    · rw [hx, e2]
      obtain ⟨i, hi, rfl⟩ := List.mem_iff_getElem.1 (hp.mem_iff.2 hmx)
      have hall0 := hall _ (hm k0 hk)
      obtain ⟨h0, e⟩ := hg k0 hk
      obtain ⟨h9, e9⟩ := hg (n - 1) (by omega)
      have hib : T S[i] ≤ T S[n - 1] := by
        rcases Nat.lt_or_ge i (n - 1) with h | h
        · have := hpw i (n - 1) hi h9 h
          unfold R at this
          omega
        · have : i = n - 1 := by omega
          subst this
          exact Int.le_refl _
      rw [e, e9] at hmax
      rw [e] at hall0
      rw [e]
      have hTi : T S[i] = T S[n - 1] := by omega
      have hik : k0 ≤ i := by
        rcases Nat.lt_or_ge i k0 with h | h
        · exfalso
          apply hfst i h
          obtain ⟨h3, e3⟩ := hg i (by omega)
          rw [e3, e9, hTi]
        · exact h
      rcases Nat.lt_or_ge k0 i with h | h
      · have := hpw k0 i h0 hi h
        unfold R at this
        omega
      · have : k0 = i := by omega
        subst this
        rfl
  · intro j
    match j with
    | 0 => left; rw [e0]; exact hm 0 hn
    | 1 => left; rw [e1]; exact hm _ (by omega)
    | 2 => left; rw [e2]; exact hm k0 hk
    | j + 3 => right; omega
end

end Go.Proofs.YbulkckkFmt.st
