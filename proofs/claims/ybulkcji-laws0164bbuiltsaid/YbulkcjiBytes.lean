/-
  THE CONTRACTS of isZoneNameByte (7) and zzs0164bok (8): both answer okB.
-/
import Derived.Test.YbulkcjiRows
import Derived.WalkKit
import Derived.Deep.Light
namespace Go.Proofs.Ybulkcji.zone
open Go.RowKit
set_option linter.unusedVariables false
set_option linter.unusedSimpArgs false

/-- May c stand in a part of a zone name, at its start if first is set? -/
def okB (c : Int) (first : Bool) : Bool :=
  (decide (65 ≤ c) && decide (c ≤ 90)) || (!first && ((decide (97 ≤ c) && decide (c ≤ 122)) || (decide (48 ≤ c) && decide (c ≤ 57)) || decide (c = 95) || decide (c = 45) || decide (c = 43)))

theorem parts (c : Int) (h0 : 0 ≤ c) (h1 : c ≤ 255) : (c ≤ 47) ∨ (48 ≤ c ∧ c ≤ 57) ∨ (58 ≤ c ∧ c ≤ 64) ∨ (65 ≤ c ∧ c ≤ 90) ∨ (91 ≤ c ∧ c ≤ 96) ∨ (97 ≤ c ∧ c ≤ 122) ∨ (123 ≤ c) := by omega

theorem ret_bool {a b : Bool} (h : a = b) : Ending.returned (.bool a) = .returned (.bool b) := by rw [h]

set_option maxHeartbeats 2000000 in
theorem byte7 (c : Int) (f : Bool) (w : World) (h0 : 0 ≤ c) (h1 : c ≤ 255) :
    Calls Yba.prog 7 #[.int .u8 c, .bool f] w fun e w' => e = .returned (.bool (okB c f)) ∧ w' = w := by
  obtain ⟨r, HR⟩ : ∃ r, Hid (okB c f = r) := ⟨_, rfl⟩
  rw [HR.out]
  rcases parts c h0 h1 with h | h | h | h | h | h | h <;> cases f
  all_goals
    go_enter Yba.func7, Yba.ntmps7
    go_wp2
    all_goals
      go_ret
      refine ⟨ret_bool ?_, rfl⟩
      rw [← HR.out, Bool.eq_iff_iff]
      simp [okB]
      try first | omega | (go_light; clear HR; simp only [beq_iff_eq, beq_eq_false_iff_ne, ne_eq] at *; omega)

set_option maxHeartbeats 2000000 in
theorem byte8 (c : Int) (f : Bool) (w : World) (h0 : 0 ≤ c) (h1 : c ≤ 255) :
    Calls Yba.prog 8 #[.int .u8 c, .bool f] w fun e w' => e = .returned (.bool (okB c f)) ∧ w' = w := by
  obtain ⟨r, HR⟩ : ∃ r, Hid (okB c f = r) := ⟨_, rfl⟩
  rw [HR.out]
  rcases parts c h0 h1 with h | h | h | h | h | h | h <;> cases f
  all_goals
    go_enter Yba.func8, Yba.ntmps8
    go_wp2
    all_goals
      go_ret
      refine ⟨ret_bool ?_, rfl⟩
      rw [← HR.out, Bool.eq_iff_iff]
      simp [okB]
      try first | omega | (go_light; clear HR; simp only [beq_iff_eq, beq_eq_false_iff_ne, ne_eq] at *; omega)

end Go.Proofs.Ybulkcji.zone
