/-
  THE WALKS over 'readDeltaSize': a number that ends at its k-th byte (k up to 8); a number that does not end so.
-/
import Derived.Test.YbulkaekkRows
import Derived.Test.YbulkaekkPlain
import Derived.WalkKit
import Derived.Deep.QuietTactic
import Derived.BigQuiet
namespace Go.Proofs.Ybulkaekk
open Go.RowKit
set_option linter.unusedVariables false

theorem below_drewN {B : Nat} {a w : World} (h : Below B a w) (n : Nat) : Below B a (w.drewN n) := h.trans ⟨rfl, rfl, rfl, Nat.le_refl _, fun _ _ => rfl⟩

theorem read_good (b off len cap k : Nat) (f : Nat → Int) (w : World) (hn : len ≤ 4611686018427387904) (hcap : len ≤ cap) (hcm : cap ≤ 9223372036854775807)
    (hc : ∀ j, j < len → w.cell? ⟨b, off + j, none⟩ = some (.int .u8 (f j)))
    (hr : ∀ j, 0 ≤ f j ∧ f j ≤ 255) (hk : k < len) (hk8 : k ≤ 8) (hlo : ∀ j, j < k → 128 ≤ f j) (hhi : f k < 128) :
    Calls Yba.prog 5 #[.slice (some ⟨b, off, none⟩) len cap] w fun e w' =>
      ∃ ad : Addr, (k + 1 < len → ad = ⟨b, off + (k + 1), none⟩) ∧ e = .returned (.tuple #[.int .u64 (val f (k + 1)), .slice (some ad) (len - (k + 1)) (cap - (k + 1)), .nilIface]) ∧ ∃ q, w' = w.drewN q := by
  go_enter Yba.func5, Yba.ntmps5
  go_wp2
  go_loopw [5, 6, 7] (fun v i sh wr => ∃ j q : Nat, j ≤ k ∧ i = .int .i64 j ∧ sh = .int .u64 (7 * j : Nat) ∧ v = .int .u64 (val f j) ∧ wr = w.drewN q) (fun _ i _ _ => len - (intOf i).toNat)
  case atStart => exact ⟨0, 0, Nat.zero_le _, rfl, rfl, rfl, rfl⟩
  case round =>
    obtain ⟨j, q, hj, rfl, rfl, rfl, rfl⟩ := hrel
    have hrk := hr j
    have hcell := hc j (by omega)
    have hm1 := mask127 hrk.1 hrk.2
    have hvb := val_bound f j
    have i1 : (0 : Int) ≤ (j : Int) := by omega
    have i2 : (j : Int) < (len : Int) := by omega
    by_cases hlt : j < k
    · have hm2 := mask128_hi (hlo j hlt) hrk.2
      clear hr hc hlo
      go_wp2
      go_roundw
      case rel => exact ⟨j + 1, q, by omega, by go_num, by go_num, by rw [← step_or f j (by omega)], rfl⟩
      case measure => simp [intOf]; omega
    · obtain rfl : j = k := by omega
      have hm2 := mask128_lo hrk.1 hhi
      clear hr hc hlo
      go_wp2
      go_quiet (fail)
      go_wp2
      · go_ret3
        exact ⟨_, fun h => absurd h (by omega), by rw [step_or f j hk8]; rfl, _, rfl⟩
      · go_ret3
        exact ⟨_, fun _ => rfl, by rw [step_or f j hk8]; rfl, _, rfl⟩

/-- errors.New hands back a pointer in an error: not nil. -/
theorem read_bad (b off len cap : Nat) (f : Nat → Int) (w : World) (hn : len ≤ 4611686018427387904) (hcap : len ≤ cap) (hcm : cap ≤ 9223372036854775807)
    (hc : ∀ j, j < len → w.cell? ⟨b, off + j, none⟩ = some (.int .u8 (f j)))
    (hr : ∀ j, 0 ≤ f j ∧ f j ≤ 255) (hlo : ∀ j, j < len → j ≤ 8 → 128 ≤ f j) :
    Calls Yba.prog 5 #[.slice (some ⟨b, off, none⟩) len cap] w fun e w' =>
      ∃ (t : TypeId) (v : Value), e = .returned (.tuple #[.int .u64 0, .slice none 0 0, .iface t v]) ∧ Below w.heap.size w w' := by
  go_enter Yba.func5, Yba.ntmps5
  go_wp2
  go_loopw [5, 6, 7] (fun v i sh wr => ∃ j q : Nat, j ≤ len ∧ j ≤ 9 ∧ i = .int .i64 j ∧ sh = .int .u64 (7 * j : Nat) ∧ v = .int .u64 (val f j) ∧ wr = w.drewN q) (fun _ i _ _ => len - (intOf i).toNat)
  case atStart => exact ⟨0, 0, Nat.zero_le _, Nat.zero_le _, rfl, rfl, rfl, rfl⟩
  case round =>
    obtain ⟨j, q, hj, hj9, rfl, rfl, rfl, rfl⟩ := hrel
    have hrk := hr j
    have hm1 := mask127 hrk.1 hrk.2
    have hvb := val_bound f j
    have i1 : (0 : Int) ≤ (j : Int) := by omega
    by_cases hlt : j < len
    · have i2 : (j : Int) < (len : Int) := by omega
      have hcell := hc j (by omega)
      by_cases h9 : j = 9
      · subst h9
        clear hr hc hlo
        go_wp2
        go_ret3
        refine ⟨_, _, rfl, ?_⟩
        first | exact below_drewN ((Below.refl _ _).alloc (Nat.le_refl _) _) _ | exact (below_drewN (Below.refl _ _) _).alloc (Nat.le_refl _) _
      · have hm2 := mask128_hi (hlo j hlt (by omega)) hrk.2
        clear hr hc hlo
        have hj8 : j ≤ 8 := by omega
        go_wp2
        go_roundw
        case rel => exact ⟨j + 1, q, by omega, by omega, by go_num, by go_num, by rw [← step_or f j (by omega)], rfl⟩
        case measure => simp [intOf]; omega
    · go_wp2
      go_ret3
      refine ⟨_, _, rfl, ?_⟩
      first | exact below_drewN ((Below.refl _ _).alloc (Nat.le_refl _) _) _ | exact (below_drewN (Below.refl _ _) _).alloc (Nat.le_refl _) _

/-- An empty slice, a nil one too. -/
theorem read_empty (a : Option Addr) (cap : Nat) (w : World) :
    Calls Yba.prog 5 #[.slice a 0 cap] w fun e w' =>
      ∃ (t : TypeId) (v : Value), e = .returned (.tuple #[.int .u64 0, .slice none 0 0, .iface t v]) ∧ Below w.heap.size w w' := by
  go_enter Yba.func5, Yba.ntmps5
  go_wp2
  refine wp_loop_rounds 1 ?_
  rw [rounds_succ]
  go_wp2
  go_ret3
  exact ⟨_, _, rfl, (Below.refl _ _).alloc (Nat.le_refl _) _⟩
end Go.Proofs.Ybulkaekk
