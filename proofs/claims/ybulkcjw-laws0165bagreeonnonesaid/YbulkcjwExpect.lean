/-
  THE PLAIN PART and THE CONTRACT of zzs0165bexpect (5).
-/
import Derived.Test.YbulkcjwLeader
namespace Go.Proofs.Ybulkcjw.sim
open Go.RowKit
set_option linter.unusedVariables false
set_option linter.unusedSimpArgs false

/-- The i-th string. -/
def st (ss : List ByteArray) (i : Nat) : ByteArray := ss.getD i ByteArray.empty
/-- The last place among the first k whose string is empty. -/
def lastE (ss : List ByteArray) : Nat → Option Nat
  | 0 => none
  | k + 1 => if isE (st ss k) = true then some k else lastE ss k

theorem lastE_lt (ss : List ByteArray) : ∀ k q, lastE ss k = some q → q < k ∧ isE (st ss q) = true := by
  intro k
  induction k with
  | zero => intro q h; cases h
  | succ k ih =>
    intro q h
    unfold lastE at h
    split at h
    · rename_i he
      cases h
      exact ⟨by omega, he⟩
    · have := ih q h
      exact ⟨by omega, this.2⟩

def LE (ss : List ByteArray) (k : Nat) : Int := ((lastE ss k).getD 0 : Nat)
def HE (ss : List ByteArray) (k : Nat) : Bool := (lastE ss k).isSome

theorem LE_hit (ss : List ByteArray) (k : Nat) (h : isE (st ss k) = true) : LE ss (k + 1) = k ∧ HE ss (k + 1) = true := by
  simp [LE, HE, lastE, h]
theorem LE_miss (ss : List ByteArray) (k : Nat) (h : isE (st ss k) = false) : LE ss (k + 1) = LE ss k ∧ HE ss (k + 1) = HE ss k := by
  simp [LE, HE, lastE, h]

/-- What the law expects. -/
def expL (ss : List ByteArray) (n : Nat) (put : Bool) (x : Int) : Int := if put = true ∧ 0 < n then x % n else LE ss n
def expB (ss : List ByteArray) (n : Nat) (put : Bool) (x : Int) : Bool := if put = true ∧ 0 < n then isE (st ss (x % n).toNat) else HE ss n

/-- What the walk is told of the strings: none, or their cells lie from an address on. -/
def Fed (w : World) (a : Option Addr) (n : Nat) (ss : List ByteArray) : Prop :=
  n = 0 ∨ ∃ b off, a = some ⟨b, off, none⟩ ∧ b < w.heap.size ∧ ∀ i, i < n → w.cell? ⟨b, off + i, none⟩ = some (.string (st ss i))

theorem Fed.below {w w' : World} {a : Option Addr} {n : Nat} {ss : List ByteArray} (h : Fed w a n ss) (hb : Below w.heap.size w w') : Fed w' a n ss := by
  rcases h with h | ⟨b, off, rfl, hlt, hc⟩
  · exact .inl h
  · exact .inr ⟨b, off, rfl, Nat.lt_of_lt_of_le hlt hb.size, fun i hi => (hb.cell (by exact hlt)).trans (hc i hi)⟩

theorem emod_cast (x : Int) (n : Nat) (hx : 0 ≤ x) (hn : 0 < n) : ∃ q : Nat, x % (n : Int) = (q : Int) ∧ q < n := by
  have h1 := Int.emod_nonneg x (show (n : Int) ≠ 0 by omega)
  have h2 := Int.emod_lt_of_pos x (show (0 : Int) < n by omega)
  exact ⟨(x % n).toNat, by omega, by omega⟩

theorem ret2 {k : IntKind} {a b : Int} {c d : Bool} (h : a = b) (h2 : c = d) : Ending.returned (.tuple #[.int k a, .bool c]) = .returned (.tuple #[.int k b, .bool d]) := by rw [h, h2]

set_option maxHeartbeats 1000000 in
theorem expect5 (a : Option Addr) (n cap : Nat) (put : Bool) (x : Int) (ss : List ByteArray) (w : World) (hn : n ≤ 1024) (hx0 : 0 ≤ x) (hx1 : x ≤ 255) (hfed : Fed w a n ss) :
    Calls Yba.prog 5 #[.slice a n cap, .bool put, .int .u8 x] w fun e w' => e = .returned (.tuple #[.int .i64 (expL ss n put x), .bool (expB ss n put x)]) ∧ ∃ nq, w' = w.drewN nq := by
  by_cases hp : put = true ∧ 0 < n
  · obtain ⟨rfl, h0⟩ := hp
    unfold expL expB
    rw [if_pos ⟨rfl, h0⟩, if_pos ⟨rfl, h0⟩]
    obtain ⟨q, hq, hqn⟩ := emod_cast x n hx0 h0
    rcases hfed with h | ⟨b, off, rfl, hbl, hc⟩
    · omega
    have hc := hc q hqn
    have HQ : Hid _ := hq
    have hqi : (q : Int) < (n : Int) := by omega
    have hq2 : (x % (n : Int)).toNat = q := by omega
    rw [hq2, hq]
    clear hq hq2
    go_enter Yba.func5, Yba.ntmps5
    go_wp2
    rw [HQ.out]
    go_quiet (fail)
    go_wp2
    go_ret2
    exact ⟨ret2 rfl (isE_eq _), _, rfl⟩
  · have e1 : expL ss n put x = LE ss n := by unfold expL; rw [if_neg hp]
    have e2 : expB ss n put x = HE ss n := by unfold expB; rw [if_neg hp]
    rw [e1, e2]
    clear e1 e2
    have hp' : put = false ∨ (put = true ∧ n = 0) := by
      cases put
      · exact .inl rfl
      · refine .inr ⟨rfl, ?_⟩
        by_cases h0 : n = 0
        · exact h0
        · exact absurd ⟨rfl, by omega⟩ hp
    clear hp
    rcases hp' with rfl | ⟨rfl, rfl⟩
    · go_enter Yba.func5, Yba.ntmps5
      go_wp2
      go_loop [9, 10, 11] (fun l t i => ∃ k : Nat, k ≤ n ∧ i = .int .i64 k ∧ l = .int .i64 (LE ss k) ∧ t = .bool (HE ss k)) (fun _ _ i => n - (intOf i).toNat)
      case atStart => exact ⟨0, Nat.zero_le _, rfl, rfl, rfl⟩
      case round =>
        obtain ⟨k, hk, rfl, rfl, rfl⟩ := hrel
        by_cases hlt : k < n
        · rcases hfed with h | ⟨b, off, rfl, hbl, hc⟩
          · omega
          have hck := hc k hlt
          clear hc
          obtain ⟨s, HS⟩ : ∃ s, Hid (st ss k = s) := ⟨_, rfl⟩
          have hh := LE_hit ss k
          have hm := LE_miss ss k
          rw [HS.out] at hck hh hm
          rw [← isE_eq] at hh hm
          obtain ⟨L0, HL⟩ : ∃ s, Hid (LE ss k = s) := ⟨_, rfl⟩
          obtain ⟨B0, HBo⟩ : ∃ s, Hid (HE ss k = s) := ⟨_, rfl⟩
          rw [HL.out, HBo.out] at hm
          rw [HL.out, HBo.out]
          cases hse : s.toList.isEmpty
          · have HM : Hid _ := hm hse
            clear hh hm
            go_wp2
            go_round
            case rel => exact ⟨k + 1, by omega, by go_num, by rw [HM.out.1], by rw [HM.out.2]⟩
            case measure => simp [intOf]; omega
          · have HM : Hid _ := hh hse
            clear hh hm
            go_wp2
            go_round
            case rel => exact ⟨k + 1, by omega, by go_num, by rw [HM.out.1], by rw [HM.out.2]⟩
            case measure => simp [intOf]; omega
        · have hkn : k = n := by omega
          subst hkn
          clear hfed
          go_wp2
          go_ret2
          exact ⟨rfl, 0, rfl⟩
    · clear hfed
      go_enter Yba.func5, Yba.ntmps5
      go_wp2
      refine wp_loop_rounds 1 ?_
      rw [rounds_succ]
      go_wp2
      go_ret2
      exact ⟨rfl, 0, rfl⟩

end Go.Proofs.Ybulkcjw.sim
