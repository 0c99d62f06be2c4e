/-
  THE WALK over 'LawS1518AModel'.
-/
import Derived.Test.YbulkaekkEq
import Derived.Test.YbulkaekkRead
import Derived.WalkKit
import Derived.WalkSpells
import Derived.Deep.QuietTactic
import Derived.BigQuiet
namespace Go.Proofs.Ybulkaekk
open Go.RowKit
set_option linter.unusedVariables false

theorem model_long (a : Option Addr) (len cap : Nat) (w : World) (h : 1024 < len) :
    Calls Yba.prog 3 #[.slice a len cap] w fun e w' => e = .returned (.bool true) ∧ Below w.heap.size w w' := by
  go_enter Yba.func3, Yba.ntmps3
  go_wp2
  go_ret
  exact ⟨rfl, Below.refl _ _⟩

theorem model_empty (a : Option Addr) (cap : Nat) (w : World) :
    Calls Yba.prog 3 #[.slice a 0 cap] w fun e w' => e = .returned (.bool true) ∧ Below w.heap.size w w' := by
  have hnil : ∀ W, (binOp .eql 22 (.slice none 0 0) (.slice none 0 0)).run Yba.prog W = .ok (.bool true) W := fun W => Lib.run_eql_slice_nil W _ _ _ _ _ _ _ Yba.underlying22
  go_enter Yba.func3, Yba.ntmps3
  go_wp2_with (go_at_call 5; refine (read_empty _ _ _).mono ?_; rintro e w' ⟨t, v, rfl, hb⟩)
  refine wp_loop_rounds 1 ?_
  rw [rounds_succ]
  go_wp2
  go_ret
  exact ⟨rfl, by assumption⟩

theorem model_bad (b off len cap : Nat) (f : Nat → Int) (w : World) (hl0 : 0 < len) (hn : len ≤ 1024) (hcap : len ≤ cap) (hcm : cap ≤ 9223372036854775807)
    (hc : ∀ j, j < len → w.cell? ⟨b, off + j, none⟩ = some (.int .u8 (f j)))
    (hr : ∀ j, 0 ≤ f j ∧ f j ≤ 255) (hlo : ∀ j, j < len → j ≤ 8 → 128 ≤ f j) :
    Calls Yba.prog 3 #[.slice (some ⟨b, off, none⟩) len cap] w fun e w' => e = .returned (.bool true) ∧ Below w.heap.size w w' := by
  have hnil : ∀ W, (binOp .eql 22 (.slice none 0 0) (.slice none 0 0)).run Yba.prog W = .ok (.bool true) W := fun W => Lib.run_eql_slice_nil W _ _ _ _ _ _ _ Yba.underlying22
  have hbw : b < w.heap.size := block_lt_of_cell (hc 0 hl0)
  go_enter Yba.func3, Yba.ntmps3
  go_wp2_with (go_at_call 5; refine (read_bad b off len cap f _ (by omega) hcap hcm hc hr hlo).mono ?_; rintro e w1 ⟨t, v, rfl, hb⟩)
  have hc1 : ∀ j, j < len → w1.cell? ⟨b, off + j, none⟩ = some (.int .u8 (f j)) := fun j hj => (hb.cell hbw).trans (hc j hj)
  clear hc
  go_loop [6, 7] (fun s i => ∃ j : Nat, j ≤ len ∧ i = .int .i64 j ∧ s = .int .i64 (-1)) (fun _ i => len - (intOf i).toNat)
  case atStart => exact ⟨0, Nat.zero_le _, rfl, rfl⟩
  case round =>
    obtain ⟨j, hj, rfl, rfl⟩ := hrel
    by_cases hlt : j < len
    · have hcell := hc1 j hlt
      by_cases h8 : f j < 128
      · have h9 : 8 < j := by
          rcases Nat.lt_or_ge 8 j with h | h
          · exact h
          · have := hlo j hlt h; omega
        clear hlo hr hc1
        go_wp2
        go_ret
        exact ⟨rfl, hb⟩
      · clear hlo hr hc1
        go_wp2
        go_round
        case rel => exact ⟨j + 1, by omega, by go_num, rfl⟩
        case measure => simp [intOf]; omega
    · clear hlo hr hc1
      go_wp2
      go_ret
      exact ⟨rfl, hb⟩

theorem model_good (b off len cap k : Nat) (f : Nat → Int) (w : World) (hn : len ≤ 1024) (hcap : len ≤ cap) (hcm : cap ≤ 9223372036854775807)
    (hc : ∀ j, j < len → w.cell? ⟨b, off + j, none⟩ = some (.int .u8 (f j)))
    (hr : ∀ j, 0 ≤ f j ∧ f j ≤ 255) (hk : k < len) (hk8 : k ≤ 8) (hlo : ∀ j, j < k → 128 ≤ f j) (hhi : f k < 128) :
    Calls Yba.prog 3 #[.slice (some ⟨b, off, none⟩) len cap] w fun e w' => e = .returned (.bool true) ∧ Below w.heap.size w w' := by
  go_enter Yba.func3, Yba.ntmps3
  go_wp2_with (go_at_call 5; refine (read_good b off len cap k f _ (by omega) hcap hcm hc hr hk hk8 hlo hhi).mono ?_; rintro e w1 ⟨ad, had, rfl, q, rfl⟩)
  go_loop [6, 7] (fun s i => ∃ j : Nat, j ≤ k ∧ i = .int .i64 j ∧ s = .int .i64 (-1)) (fun _ i => len - (intOf i).toNat)
  case atStart => exact ⟨0, Nat.zero_le _, rfl, rfl⟩
  case round =>
    obtain ⟨j, hj, rfl, rfl⟩ := hrel
    have hcell := hc j (by omega)
    have hlt : j < len := by omega
    by_cases h8 : j < k
    · have h128 := hlo j h8
      clear hlo hr hc had
      go_wp2
      go_round
      case rel => exact ⟨j + 1, by omega, by go_num, rfl⟩
      case measure => simp [intOf]; omega
    · obtain rfl : j = k := by omega
      have HA : Hid (j + 1 < len → ad = ⟨b, off + (j + 1), none⟩) := had
      have HC : Hid (∀ j, j < len → w.cell? ⟨b, off + j, none⟩ = some (.int .u8 (f j))) := hc
      have HR : Hid (∀ j, 0 ≤ f j ∧ f j ≤ 255) := hr
      clear hlo hr hc had
      go_wp2
      go_loop [8, 9] (fun x i => (∃ m : Nat, m ≤ j ∧ i = .int .i64 m ∧ x = .int .u64 (top f (m + 1) (j - m))) ∨ (i = .int .i64 (-1) ∧ x = .int .u64 (val f (j + 1)))) (fun _ i => (intOf i + 1).toNat)
      case atStart => exact Or.inl ⟨j, Nat.le_refl _, rfl, by simp [top]⟩
      case round =>
        rcases hrel with ⟨m, hm, rfl, rfl⟩ | ⟨rfl, rfl⟩
        · have hcm2 := HC.out m (by omega)
          have hrm := HR.out m
          have hmask := mask127 hrm.1 hrm.2
          have hb := top_bound f (m + 1) (j - m)
          go_wp2
          go_round
          case rel =>
            rw [want_step f m j hk8]
            cases m with
            | zero => exact Or.inr ⟨rfl, by rw [val_all]; rfl⟩
            | succ m => exact Or.inl ⟨m, by omega, by go_num, by rw [show j - (m + 1) + 1 = j - m by omega]⟩
          case measure => simp [intOf]
        · go_wp2_with (go_at_call 6; refine (eq_same _ _ b (off + (j + 1)) b (off + (j + 1)) _ _ _ (fun i => f (j + 1 + i)) _ ?_ ?_).mono ?_)
          case refine_1 => omega
          case refine_2 => exact fun h => ⟨HA.out (by omega), by omega, fun i hi => by rw [Nat.add_assoc off]; exact HC.out (j + 1 + i) (by omega)⟩
          all_goals
            rintro e w' rfl x rfl
            go_wp2
            go_ret
            exact ⟨rfl, below_drewN (Below.refl _ _) _⟩
end Go.Proofs.Ybulkaekk
