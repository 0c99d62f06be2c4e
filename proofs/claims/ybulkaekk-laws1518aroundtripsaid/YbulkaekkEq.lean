/-
  THE WALK over 'zzs1518aeq': two slices of bytes that read alike: true.
-/
import Derived.Test.YbulkaekkRows
import Derived.Test.YbulkaekkPlain
import Derived.WalkKit
import Derived.Deep.QuietTactic
import Derived.BigQuiet
namespace Go.Proofs.Ybulkaekk
open Go.RowKit

/-- Both empty. -/
theorem eq_empty (a b : Option Addr) (ca cb : Nat) (w : World) :
    Calls Yba.prog 6 #[.slice a 0 ca, .slice b 0 cb] w fun e w' => e = .returned (.bool true) ∧ w' = w := by
  go_enter Yba.func6, Yba.ntmps6
  go_wp2
  refine wp_loop_rounds 1 ?_
  rw [rounds_succ]
  go_wp2
  go_ret
  exact ⟨rfl, rfl⟩

theorem eq_some (b1 o1 b2 o2 n ca cb : Nat) (f : Nat → Int) (w : World) (hn : n ≤ 4611686018427387904)
    (h1 : ∀ j, j < n → w.cell? ⟨b1, o1 + j, none⟩ = some (.int .u8 (f j)))
    (h2 : ∀ j, j < n → w.cell? ⟨b2, o2 + j, none⟩ = some (.int .u8 (f j))) :
    Calls Yba.prog 6 #[.slice (some ⟨b1, o1, none⟩) n ca, .slice (some ⟨b2, o2, none⟩) n cb] w fun e w' => e = .returned (.bool true) ∧ ∃ q, w' = w.drewN q := by
  go_enter Yba.func6, Yba.ntmps6
  go_wp2
  go_loopw [5] (fun i wr => ∃ k q : Nat, k ≤ n ∧ i = .int .i64 k ∧ wr = w.drewN q) (fun i _ => n - (intOf i).toNat)
  case atStart => exact ⟨0, 0, Nat.zero_le _, rfl, rfl⟩
  case round =>
    obtain ⟨k, q, hk, rfl, rfl⟩ := hrel
    by_cases hlt : k < n
    · have c1 := h1 k hlt
      have c2 := h2 k hlt
      have i1 : (0 : Int) ≤ (k : Int) := by omega
      have i2 : (k : Int) < (n : Int) := by omega
      clear h1 h2
      go_wp2
      go_quiet (fail)
      go_wp2
      go_roundw
      case rel => exact ⟨k + 1, _, by omega, by go_num, rfl⟩
      case measure => simp [intOf]; omega
    · go_wp2
      go_ret
      exact ⟨rfl, q, rfl⟩

/-- Two slices of one length; where there is an element, each leads to its cells, and they read alike. -/
theorem eq_same (a1 a2 : Option Addr) (b1 o1 b2 o2 n ca cb : Nat) (f : Nat → Int) (w : World) (hn : n ≤ 4611686018427387904)
    (h : 0 < n → a1 = some ⟨b1, o1, none⟩ ∧ a2 = some ⟨b2, o2, none⟩ ∧ (∀ j, j < n → w.cell? ⟨b1, o1 + j, none⟩ = some (.int .u8 (f j))) ∧ (∀ j, j < n → w.cell? ⟨b2, o2 + j, none⟩ = some (.int .u8 (f j)))) :
    Calls Yba.prog 6 #[.slice a1 n ca, .slice a2 n cb] w fun e w' => e = .returned (.bool true) ∧ ∃ q, w' = w.drewN q := by
  by_cases h0 : n = 0
  · subst h0
    exact (eq_empty a1 a2 ca cb w).mono fun e w' ⟨he, hw⟩ => ⟨he, 0, hw⟩
  · obtain ⟨rfl, rfl, c1, c2⟩ := h (by omega)
    exact eq_some b1 o1 b2 o2 n ca cb f w hn c1 c2
end Go.Proofs.Ybulkaekk
