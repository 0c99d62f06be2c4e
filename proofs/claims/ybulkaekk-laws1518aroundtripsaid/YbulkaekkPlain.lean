/-
  THE PLAIN MATHEMATICS behind 'readDeltaSize': a little-endian base-128 number. No Go in sight.
-/
import Derived.WalkKit
namespace Go.Proofs.Ybulkaekk
open Go.RowKit

/-- The number of the first n digits 'f j % 128', least significant first. -/
def val (f : Nat → Int) : Nat → Int
  | 0 => 0
  | n + 1 => val f n + (f n % 128) * 2 ^ (7 * n)

theorem val_succ (f : Nat → Int) (n : Nat) : val f (n + 1) = val f n + (f n % 128) * 2 ^ (7 * n) := rfl

theorem val_bound (f : Nat → Int) (n : Nat) : 0 ≤ val f n ∧ val f n < 2 ^ (7 * n) := by
  induction n with
  | zero => exact ⟨Int.le_refl 0, by simp [val]⟩
  | succ n ih =>
    have hp : (0 : Int) < 2 ^ (7 * n) := Int.pow_pos (by decide)
    have e : (2 : Int) ^ (7 * (n + 1)) = 128 * 2 ^ (7 * n) := by
      rw [show 7 * (n + 1) = 7 * n + 7 from by omega, Int.pow_add]; rw [show (2 : Int) ^ 7 = 128 from rfl]; exact Int.mul_comm _ _
    have h0 : 0 ≤ f n % 128 := Int.emod_nonneg _ (by decide)
    have h1 : f n % 128 < 128 := Int.emod_lt_of_pos _ (by decide)
    have m0 : 0 ≤ (f n % 128) * 2 ^ (7 * n) := Int.mul_nonneg h0 (Int.le_of_lt hp)
    have m1 : (f n % 128) * 2 ^ (7 * n) ≤ 127 * 2 ^ (7 * n) := Int.mul_le_mul_of_nonneg_right (by omega) (Int.le_of_lt hp)
    rw [val_succ, e]
    exact ⟨by omega, by omega⟩

/-- 2^(7k) as k goes to 9. -/
theorem pow_le (k : Nat) (hk : k ≤ 8) : (2 : Int) ^ (7 * k) ≤ 72057594037927936 := by
  have : (2 : Int) ^ (7 * k) ≤ 2 ^ (7 * 8) := by
    have h := Nat.pow_le_pow_right (n := 2) (by decide) (show 7 * k ≤ 7 * 8 by omega)
    exact_mod_cast h
  exact Int.le_trans this (by decide)

theorem shl_in (k : Nat) (hk : k ≤ 8) (c : Int) (h0 : 0 ≤ c) (h1 : c < 128) : 0 ≤ c * 2 ^ (7 * k) ∧ c * 2 ^ (7 * k) < 9223372036854775808 := by
  have hp : (0 : Int) < 2 ^ (7 * k) := Int.pow_pos (by decide)
  have h := pow_le k hk
  have m : c * 2 ^ (7 * k) ≤ 127 * 2 ^ (7 * k) := Int.mul_le_mul_of_nonneg_right (by omega) (Int.le_of_lt hp)
  exact ⟨Int.mul_nonneg h0 (Int.le_of_lt hp), by omega⟩

theorem or_join (k : Nat) (hk : k ≤ 8) (X c : Int) (x0 : 0 ≤ X) (x1 : X < 2 ^ (7 * k)) (h0 : 0 ≤ c) (h1 : c < 128) :
    bits .or .u64 X (c * 2 ^ (7 * k)) = X + c * 2 ^ (7 * k) := by
  have hb := shl_in k hk c h0 h1
  have hp := pow_le k hk
  obtain ⟨x, rfl⟩ := Int.eq_ofNat_of_zero_le x0
  obtain ⟨c, rfl⟩ := Int.eq_ofNat_of_zero_le h0
  have hx : x < 2 ^ (7 * k) := by exact_mod_cast x1
  have e : ((c : Int) * 2 ^ (7 * k)) = ((2 ^ (7 * k) * c : Nat) : Int) := by
    rw [Int.natCast_mul, Int.natCast_pow]; exact Int.mul_comm _ _
  rw [e] at hb ⊢
  have o := Nat.two_pow_add_eq_or_of_lt hx c
  rw [u64_or_nat x (2 ^ (7 * k) * c) (by omega) (by omega), Nat.or_comm, ← o]
  omega

theorem step_or (f : Nat → Int) (k : Nat) (hk : k ≤ 8) : bits .or .u64 (val f k) (IntKind.u64.wrap ((f k % 128) * 2 ^ (7 * k))) = val f (k + 1) := by
  have h0 : 0 ≤ f k % 128 := Int.emod_nonneg _ (by decide)
  have h1 : f k % 128 < 128 := Int.emod_lt_of_pos _ (by decide)
  have hb := shl_in k hk _ h0 h1
  have hv := val_bound f k
  rw [IntWalk.u64_in _ ⟨by omega, by omega⟩, or_join k hk _ _ hv.1 hv.2 h0 h1, val_succ]

theorem mask127 {c : Int} (h₀ : 0 ≤ c) (h₁ : c ≤ 255) : bits .and .u8 c 127 = c % 128 := bits_mask .u8 8 (by decide) wraps_u8 7 (by decide) c h₀ (by omega)
theorem mask128_fin : ∀ a : Fin 256, bits .and .u8 ((a.val : Nat) : Int) 128 = if a.val < 128 then 0 else 128 := by decide +kernel
theorem mask128_lo {c : Int} (h₀ : 0 ≤ c) (h₁ : c < 128) : bits .and .u8 c 128 = 0 := by
  obtain ⟨c, rfl⟩ := Int.eq_ofNat_of_zero_le h₀
  have := mask128_fin ⟨c, by omega⟩
  simpa [show c < 128 by omega] using this
theorem mask128_hi {c : Int} (h₀ : 128 ≤ c) (h₁ : c ≤ 255) : bits .and .u8 c 128 = 128 := by
  obtain ⟨c, rfl⟩ := Int.eq_ofNat_of_zero_le (show 0 ≤ c by omega)
  have := mask128_fin ⟨c, by omega⟩
  simpa [show ¬ c < 128 by omega] using this

/-- Read from the top: the digits from j on, so far. 'want' of the law. -/
def top (f : Nat → Int) (j : Nat) : Nat → Int
  | 0 => 0
  | n + 1 => (f j % 128) + 128 * top f (j + 1) n

theorem val_top (f : Nat → Int) (j n : Nat) : val f (j + n) = val f j + 2 ^ (7 * j) * top f j n := by
  induction n generalizing j with
  | zero => simp [top]
  | succ n ih =>
    rw [show j + (n + 1) = (j + 1) + n by omega, ih (j + 1), val_succ, top, show 7 * (j + 1) = 7 * j + 7 by omega, Int.pow_add, show (2 : Int) ^ 7 = 128 from rfl,
      Int.mul_add, Int.mul_comm (f j % 128), Int.mul_assoc, Int.add_assoc]
theorem top_bound (f : Nat → Int) (j n : Nat) : 0 ≤ top f j n ∧ top f j n < 2 ^ (7 * n) := by
  induction n generalizing j with
  | zero => exact ⟨Int.le_refl 0, by simp [top]⟩
  | succ n ih =>
    have e : (2 : Int) ^ (7 * (n + 1)) = 128 * 2 ^ (7 * n) := by
      rw [show 7 * (n + 1) = 7 * n + 7 from by omega, Int.pow_add]; rw [show (2 : Int) ^ 7 = 128 from rfl]; exact Int.mul_comm _ _
    have h := ih (j + 1)
    rw [top, e]
    exact ⟨by omega, by omega⟩
theorem val_all (f : Nat → Int) (n : Nat) : val f n = top f 0 n := by
  have := val_top f 0 n
  simp [val] at this
  exact this

theorem want_step (f : Nat → Int) (m j : Nat) (hj : j ≤ 8) :
    IntKind.u64.wrap (IntKind.u64.wrap (top f (m + 1) (j - m) * 128) + f m % 128) = top f m (j - m + 1) := by
  have hb := top_bound f (m + 1) (j - m)
  have hp := pow_le (j - m) (by omega)
  have h0 : 0 ≤ f m % 128 := Int.emod_nonneg _ (by decide)
  have h1 : f m % 128 < 128 := Int.emod_lt_of_pos _ (by decide)
  rw [IntWalk.u64_in (top f (m + 1) (j - m) * 128) ⟨by omega, by omega⟩, IntWalk.u64_in _ ⟨by omega, by omega⟩, top]
  omega
end Go.Proofs.Ybulkaekk
