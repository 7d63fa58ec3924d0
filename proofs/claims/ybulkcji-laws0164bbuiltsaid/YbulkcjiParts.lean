/-
  THE CONTRACTS of isZoneNamePart (5) and zzs0164bmodel (6): both answer partB.
-/
import Derived.Test.YbulkcjiBytes
namespace Go.Proofs.Ybulkcji.zone
open Go.RowKit
set_option linter.unusedVariables false
set_option linter.unusedSimpArgs false

def bt (s : ByteArray) (k : Nat) : Int := if h : k < s.size then ((s[k]'h).toNat : Int) else 0
theorem bt_eq (s : ByteArray) (k : Nat) (h : k < s.size) : ((s[k]'h).toNat : Int) = bt s k := by simp [bt, h]
theorem bt_bd (s : ByteArray) (k : Nat) : 0 ≤ bt s k ∧ bt s k ≤ 255 := by
  unfold bt
  split
  · have := (s[k]'(by assumption)).toNat_lt
    omega
  · omega

/-- The first k bytes are such as may stand in a part. -/
def allOk (s : ByteArray) : Nat → Bool
  | 0 => true
  | k + 1 => allOk s k && okB (bt s k) ((k : Int) == 0)
def partB (s : ByteArray) : Bool := allOk s s.size && decide (0 < s.size)

theorem allOk_false (s : ByteArray) (k : Nat) (h : allOk s k = false) : ∀ m, k ≤ m → allOk s m = false := by
  intro m hm
  induction m with
  | zero => have : k = 0 := by omega
            subst this; exact h
  | succ m ih =>
    by_cases e : k = m + 1
    · subst e; exact h
    · simp [allOk, ih (by omega)]

theorem part_hit (s : ByteArray) (k : Nat) (hk : k < s.size) (h : okB (bt s k) ((k : Int) == 0) = false) : partB s = false := by
  have : allOk s (k + 1) = false := by simp [allOk, h]
  simp [partB, allOk_false s _ this _ hk]

theorem part_end (s : ByteArray) (h : allOk s s.size = true) : partB s = decide (0 < s.size) := by simp [partB, h]

theorem not_empty (s : ByteArray) : (!s.toList.isEmpty) = decide (0 < s.size) := by
  rw [ByteArray.toList_eq]
  have e : s.data.toList.length = s.size := by rw [Array.length_toList]; rfl
  cases h : s.data.toList with
  | nil => rw [h] at e; simp at e; simp [← e]
  | cons a l => rw [h] at e; simp at e; simp; omega

set_option maxHeartbeats 400000 in
theorem part5 (s : ByteArray) (w : World) (hs : s.size ≤ 4096) :
    Calls Yba.prog 5 #[.string s] w fun e w' => e = .returned (.bool (partB s)) ∧ w' = w := by
  obtain ⟨r, HR⟩ : ∃ r, Hid (partB s = r) := ⟨_, rfl⟩
  rw [HR.out]
  go_enter Yba.func5, Yba.ntmps5
  go_wp2
  go_loop [6] (fun i => ∃ k : Nat, k ≤ s.size ∧ i = .int .i64 k ∧ allOk s k = true) (fun i => s.size - (intOf i).toNat)
  case atStart => exact ⟨0, Nat.zero_le _, rfl, rfl⟩
  case round =>
    obtain ⟨k, hk, rfl, hall⟩ := hrel
    have HA : Hid _ := hall
    clear hall
    by_cases hlt : k < s.size
    · have hbd := bt_bd s k
      have heq := bt_eq s k hlt
      rw [← heq] at hbd
      obtain ⟨v, HV⟩ : ∃ v, Hid (okB (bt s k) ((k : Int) == 0) = v) := ⟨_, rfl⟩
      have hcall : ∀ w : World, Calls Yba.prog 7 #[.int .u8 ((s[k]'hlt).toNat : Int), .bool ((k : Int) == 0)] w fun e w' => e = .returned (.bool v) ∧ w' = w := by
        intro w
        rw [← HV.out, ← heq]
        exact byte7 _ _ w hbd.1 hbd.2
      clear heq hbd
      cases v
      · go_wp2_with (go_at_call 7; refine (hcall _).mono ?_; rintro e w' ⟨rfl, rfl⟩)
        go_ret
        exact ⟨by rw [← HR.out, part_hit s k hlt HV.out]; rfl, rfl⟩
      · go_wp2_with (go_at_call 7; refine (hcall _).mono ?_; rintro e w' ⟨rfl, rfl⟩)
        go_round
        case rel => exact ⟨k + 1, by omega, by go_num, by simp [allOk, HA.out, HV.out]⟩
        case measure => simp [intOf]; omega
    · go_wp2
      go_ret
      have hks : k = s.size := by omega
      subst hks
      refine ⟨?_, rfl⟩
      rw [← HR.out, part_end s HA.out]
      exact ret_bool (not_empty s)

set_option maxHeartbeats 400000 in
theorem model6 (s : ByteArray) (w : World) (hs : s.size ≤ 4096) :
    Calls Yba.prog 6 #[.string s] w fun e w' => e = .returned (.bool (partB s)) ∧ w' = w := by
  obtain ⟨r, HR⟩ : ∃ r, Hid (partB s = r) := ⟨_, rfl⟩
  rw [HR.out]
  by_cases hz : s.size = 0
  · have hr : r = false := by rw [← HR.out]; simp [partB, hz]
    have hz' : s.size ≤ 0 := by omega
    subst hr
    clear hz
    go_enter Yba.func6, Yba.ntmps6
    go_wp2
    go_ret
    exact ⟨rfl, rfl⟩
  have hpos : 0 < s.size := by omega
  have hzb : ((s.size : Int) == 0) = false := beq_eq_false_iff_ne.2 (by omega)
  clear hz
  go_enter Yba.func6, Yba.ntmps6
  go_wp2
  go_loop [3] (fun i => ∃ k : Nat, k ≤ s.size ∧ i = .int .i64 k ∧ allOk s k = true) (fun i => s.size - (intOf i).toNat)
  case atStart => exact ⟨0, Nat.zero_le _, rfl, rfl⟩
  case round =>
    obtain ⟨k, hk, rfl, hall⟩ := hrel
    have HA : Hid _ := hall
    clear hall
    by_cases hlt : k < s.size
    · have hbd := bt_bd s k
      have heq := bt_eq s k hlt
      rw [← heq] at hbd
      obtain ⟨v, HV⟩ : ∃ v, Hid (okB (bt s k) ((k : Int) == 0) = v) := ⟨_, rfl⟩
      have hcall : ∀ w : World, Calls Yba.prog 8 #[.int .u8 ((s[k]'hlt).toNat : Int), .bool ((k : Int) == 0)] w fun e w' => e = .returned (.bool v) ∧ w' = w := by
        intro w
        rw [← HV.out, ← heq]
        exact byte8 _ _ w hbd.1 hbd.2
      clear heq hbd
      cases v
      · go_wp2_with (go_at_call 8; refine (hcall _).mono ?_; rintro e w' ⟨rfl, rfl⟩)
        go_ret
        exact ⟨by rw [← HR.out, part_hit s k hlt HV.out]; rfl, rfl⟩
      · go_wp2_with (go_at_call 8; refine (hcall _).mono ?_; rintro e w' ⟨rfl, rfl⟩)
        go_round
        case rel => exact ⟨k + 1, by omega, by go_num, by simp [allOk, HA.out, HV.out]⟩
        case measure => simp [intOf]; omega
    · go_wp2
      go_ret
      have hks : k = s.size := by omega
      subst hks
      refine ⟨?_, rfl⟩
      rw [← HR.out, part_end s HA.out]
      exact ret_bool (by simp [hpos])

end Go.Proofs.Ybulkcji.zone
