/-
  THE WALKS over 'addSaturating' and 'zzs1524awant'.
-/
import Derived.Test.YbulkaenqRows
import Derived.WalkKit
import Derived.OpenShut
namespace Go.Proofs.Ybulkaenq
open Go.RowKit
set_option linter.unusedVariables false

/-- The sum, held within int64. -/
def sat (a b : Int) : Int := if 9223372036854775807 < a + b then 9223372036854775807 else if a + b < -9223372036854775808 then -9223372036854775808 else a + b

theorem sat_hi {a b : Int} (h : 9223372036854775807 < a + b) : sat a b = 9223372036854775807 := if_pos h
theorem sat_lo {a b : Int} (h : a + b < -9223372036854775808) : sat a b = -9223372036854775808 := by unfold sat; rw [if_neg (by omega), if_pos h]
theorem sat_in {a b : Int} (h : a + b ≤ 9223372036854775807) (h' : -9223372036854775808 ≤ a + b) : sat a b = a + b := by unfold sat; rw [if_neg (by omega), if_neg (by omega)]
theorem ret_int {k : IntKind} {a b : Int} (h : a = b) : Ending.returned (.int k a) = .returned (.int k b) := by rw [h]

theorem add_any (a b : Int) (w : World) (ha : -9223372036854775808 ≤ a ∧ a ≤ 9223372036854775807) (hb : -9223372036854775808 ≤ b ∧ b ≤ 9223372036854775807) :
    Calls Yba.prog 5 #[.int .i64 a, .int .i64 b] w fun e w' => e = .returned (.int .i64 (sat a b)) ∧ w' = w := by
  obtain ⟨a0, a1⟩ := ha
  obtain ⟨b0, b1⟩ := hb
  by_cases hp : 0 < b
  · by_cases ho : 9223372036854775807 - b < a
    · go_enter Yba.func5, Yba.ntmps5
      go_wp2
      go_ret
      exact ⟨ret_int (sat_hi (by omega)).symm, rfl⟩
    · go_enter Yba.func5, Yba.ntmps5
      go_wp2
      go_ret
      exact ⟨ret_int (sat_in (by omega) (by omega)).symm, rfl⟩
  · by_cases hm : b < 0
    · by_cases ho : a < -9223372036854775808 - b
      · go_enter Yba.func5, Yba.ntmps5
        go_wp2
        go_ret
        exact ⟨ret_int (sat_lo (by omega)).symm, rfl⟩
      · go_enter Yba.func5, Yba.ntmps5
        go_wp2
        go_ret
        exact ⟨ret_int (sat_in (by omega) (by omega)).symm, rfl⟩
    · go_enter Yba.func5, Yba.ntmps5
      go_wp2
      go_ret
      exact ⟨ret_int (sat_in (by omega) (by omega)).symm, rfl⟩

theorem wrap_hi {a b : Int} (h : 9223372036854775807 < a + b) (h' : a + b ≤ 18446744073709551614) : ∃ s, IntKind.i64.wrap (a + b) = s ∧ s < 0 :=
  ⟨_, rfl, by simp [IntKind.wrap, IntKind.bits, IntKind.signed]; omega⟩
theorem wrap_lo {a b : Int} (h : a + b < -9223372036854775808) (h' : -18446744073709551616 ≤ a + b) : ∃ s, IntKind.i64.wrap (a + b) = s ∧ 0 ≤ s :=
  ⟨_, rfl, by simp [IntKind.wrap, IntKind.bits, IntKind.signed]; omega⟩

theorem want_any (a b : Int) (w : World) (ha : -9223372036854775808 ≤ a ∧ a ≤ 9223372036854775807) (hb : -9223372036854775808 ≤ b ∧ b ≤ 9223372036854775807) :
    Calls Yba.prog 6 #[.int .i64 a, .int .i64 b] w fun e w' => e = .returned (.int .i64 (sat a b)) ∧ w' = w := by
  obtain ⟨a0, a1⟩ := ha
  obtain ⟨b0, b1⟩ := hb
  by_cases hp : 0 ≤ a
  · by_cases hq : 0 ≤ b
    · by_cases ho : 9223372036854775807 < a + b
      · obtain ⟨s, hs, hs0⟩ := wrap_hi ho (by omega)
        have hb1 : 0 < b := by omega
        have hd : decide (0 ≤ s) = false := decide_eq_false (by omega)
        go_enter Yba.func6, Yba.ntmps6
        go_wp2
        go_ret
        exact ⟨ret_int (sat_hi (by omega)).symm, rfl⟩
      · have hd : decide (0 ≤ a + b) = true := decide_eq_true (by omega)
        go_enter Yba.func6, Yba.ntmps6
        go_wp2
        go_ret
        exact ⟨ret_int (sat_in (by omega) (by omega)).symm, rfl⟩
    · go_enter Yba.func6, Yba.ntmps6
      go_wp2
      go_ret
      exact ⟨ret_int (sat_in (by omega) (by omega)).symm, rfl⟩
  · by_cases hq : 0 ≤ b
    · go_enter Yba.func6, Yba.ntmps6
      go_wp2
      go_ret
      exact ⟨ret_int (sat_in (by omega) (by omega)).symm, rfl⟩
    · by_cases ho : a + b < -9223372036854775808
      · obtain ⟨s, hs, hs0⟩ := wrap_lo ho (by omega)
        have hb1 : ¬ 0 < b := by omega
        go_enter Yba.func6, Yba.ntmps6
        go_wp2
        go_ret
        exact ⟨ret_int (sat_lo (by omega)).symm, rfl⟩
      · go_enter Yba.func6, Yba.ntmps6
        go_wp2
        go_ret
        exact ⟨ret_int (sat_in (by omega) (by omega)).symm, rfl⟩
end Go.Proofs.Ybulkaenq
