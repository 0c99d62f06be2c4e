/-
  THE WALK over '(*metric).latest'.
-/
import Derived.Test.YbulkaepgRows
import Derived.Test.YbulkaepgPlain
import Derived.WalkKit
namespace Go.Proofs.Ybulkaepg
open Go.RowKit
set_option linter.unusedVariables false

theorem latest_any (M B n : Nat) (E : Nat → Int) (w : World) (hn : n ≤ 1024)
    (hm : w.cell? ⟨M, 19, none⟩ = some (.slice (some ⟨B, 0, none⟩) n n)) (hc : ∀ j, j < n → w.cell? ⟨B, j * 5 + 1, none⟩ = some (.int .i64 (E j))) :
    Calls Yba.prog 4 #[.pointer (some ⟨M, 0, none⟩)] w fun e w' => e = .returned (.tuple #[.int .i64 (lat E n), .bool (fnd E n)]) ∧ w' = w := by
  go_enter Yba.func4, Yba.ntmps4
  go_wp2
  go_loop [4, 5, 13] (fun l f i => ∃ k : Nat, k ≤ n ∧ i = .int .i64 k ∧ l = .int .i64 (lat E k) ∧ f = .bool (fnd E k)) (fun _ _ i => n - (intOf i).toNat)
  case atStart => exact ⟨0, Nat.zero_le _, rfl, rfl, rfl⟩
  case round =>
    obtain ⟨k, hk, rfl, rfl, rfl⟩ := hrel
    by_cases hlt : k < n
    · have hcell := hc k hlt
      clear hc
      by_cases hE : E k = -1
      · have hE1 : (E k != -1) = false := by simp [hE]
        have HE : Hid (E k = -1) := hE
        clear hE
        go_wp2
        go_round
        case rel => exact ⟨k + 1, by omega, by go_num, by rw [lat_none HE.out], by rw [fnd_none HE.out]⟩
        case measure => simp [intOf]; omega
      · have hE1 : (E k != -1) = true := by simp [hE]
        have HE : Hid (¬ E k = -1) := hE
        clear hE
        by_cases hf : fnd E k = true
        · by_cases hl : lat E k < E k
          · go_wp2
            go_round
            case rel => exact ⟨k + 1, by omega, by go_num, by rw [lat_up HE.out hl], by rw [fnd_some HE.out]⟩
            case measure => simp [intOf]; omega
          · have HL : Hid (¬ lat E k < E k) := hl
            have hd : decide (lat E k < E k) = false := decide_eq_false hl
            go_wp2
            go_round
            case rel => exact ⟨k + 1, by omega, by go_num, by rw [lat_keep hf HL.out], by rw [fnd_some HE.out, hf]⟩
            case measure => simp [intOf]; omega
        · have hf : fnd E k = false := by simpa using hf
          go_wp2
          go_round
          case rel => exact ⟨k + 1, by omega, by go_num, by rw [lat_first HE.out hf], by rw [fnd_some HE.out]⟩
          case measure => simp [intOf]; omega
    · go_wp2
      go_ret2
      obtain rfl : k = n := by omega
      exact ⟨rfl, rfl⟩
end Go.Proofs.Ybulkaepg
