/-
  THE PLAIN MATHEMATICS of the round trip: the bytes that the law writes, and that they read back. No Go in sight.
-/
import Derived.Test.YbulkaekkPlain
namespace Go.Proofs.Ybulkaekk
open Go.RowKit

/-- The i-th digit of X to the base 128. -/
def dig (X : Int) (i : Nat) : Int := X / 2 ^ (7 * i) % 128

/-- The bytes written so far, each with bit 7. -/
def encL (X : Int) (j : Nat) : List Int := (List.range j).map fun i => dig X i + 128

theorem encL_length (X : Int) (j : Nat) : (encL X j).length = j := by simp [encL]
theorem encL_succ (X : Int) (j : Nat) : encL X (j + 1) = encL X j ++ [dig X j + 128] := by simp [encL, List.range_succ]
theorem dig_bound (X : Int) (i : Nat) : 0 ≤ dig X i ∧ dig X i < 128 := ⟨Int.emod_nonneg _ (by decide), Int.emod_lt_of_pos _ (by decide)⟩

theorem pow_step (j : Nat) : (2 : Int) ^ (7 * (j + 1)) = 2 ^ (7 * j) * 128 := by
  rw [show 7 * (j + 1) = 7 * j + 7 by omega, Int.pow_add]; rfl
theorem div_step (X : Int) (j : Nat) : X / 2 ^ (7 * j) / 128 = X / 2 ^ (7 * (j + 1)) := by
  rw [pow_step, Int.ediv_ediv_of_nonneg (Int.le_of_lt (Int.pow_pos (by decide)))]

/-- All that is written: the digits with bit 7, the last digit without, the tail. -/
def full (X : Int) (j : Nat) (Z : List Int) : List Int := encL X j ++ [dig X j] ++ Z

def fullF (X : Int) (j : Nat) (Z : List Int) (i : Nat) : Int := (full X j Z)[i]?.getD 0

theorem full_length (X : Int) (j : Nat) (Z : List Int) : (full X j Z).length = j + 1 + Z.length := by simp [full, encL_length]; omega
theorem fullF_lo (X : Int) (j : Nat) (Z : List Int) (i : Nat) (h : i < j) : fullF X j Z i = dig X i + 128 := by
  simp [fullF, full, encL, List.getElem?_append, h]
theorem fullF_at (X : Int) (j : Nat) (Z : List Int) : fullF X j Z j = dig X j := by
  simp [fullF, full, encL]
theorem fullF_hi (X : Int) (j : Nat) (Z : List Int) (i : Nat) : fullF X j Z (j + 1 + i) = Z[i]?.getD 0 := by
  unfold fullF full
  rw [List.getElem?_append_right (by simp [encL_length])]
  simp [encL_length]
theorem fullF_range (X : Int) (j : Nat) (Z : List Int) (hZ : ∀ i : Nat, 0 ≤ Z[i]?.getD 0 ∧ Z[i]?.getD 0 ≤ 255) (i : Nat) : 0 ≤ fullF X j Z i ∧ fullF X j Z i ≤ 255 := by
  rcases Nat.lt_or_ge i j with h | h
  · rw [fullF_lo X j Z i h]; have := dig_bound X i; omega
  · rcases Nat.eq_or_lt_of_le h with h | h
    · subst h; rw [fullF_at]; have := dig_bound X j; omega
    · obtain ⟨t, rfl⟩ : ∃ t, i = j + 1 + t := ⟨i - (j + 1), by omega⟩
      rw [fullF_hi]; exact hZ t

theorem val_dig (X : Int) (f : Nat → Int) (n : Nat) (h : ∀ i, i < n → f i % 128 = dig X i) : val f n = X % 2 ^ (7 * n) := by
  induction n with
  | zero => simp [val]
  | succ n ih =>
    rw [val_succ, ih (fun i hi => h i (by omega)), h n (by omega), dig, pow_step]
    have := Int.emod_emod_of_dvd X (Int.dvd_mul_right (2 ^ (7 * n)) 128)
    have e := Int.emod_def X (2 ^ (7 * n))
    have e2 := Int.emod_def X (2 ^ (7 * n) * 128)
    have e3 := Int.emod_def (X / 2 ^ (7 * n)) 128
    rw [Int.ediv_ediv_of_nonneg (Int.le_of_lt (Int.pow_pos (by decide)))] at e3
    rw [e, e2, e3, Int.sub_mul, Int.mul_comm (X / 2 ^ (7 * n)), Int.mul_comm 128, Int.mul_assoc (2 ^ (7 * n)), Int.mul_comm 128 (X / _), Int.mul_comm _ (2 ^ (7 * n))]
    omega

theorem val_full (X : Int) (j : Nat) (Z : List Int) (h1 : X / 2 ^ (7 * (j + 1)) = 0) : val (fullF X j Z) (j + 1) = X := by
  rw [val_dig X]
  · have := Int.emod_def X (2 ^ (7 * (j + 1)))
    rw [this, h1]; simp
  · intro i hi
    have hd := dig_bound X i
    rcases Nat.lt_or_ge i j with h | h
    · rw [fullF_lo X j Z i h]; omega
    · obtain rfl : i = j := by omega
      rw [fullF_at]; omega

theorem wraps64 (n : Int) (h0 : 0 ≤ n) (h1 : n < 2 ^ 64) : IntKind.u64.wrap n = n := by
  have e : (2 : Int) ^ 64 = 18446744073709551616 := by decide
  exact IntWalk.u64_in n ⟨by omega, by omega⟩
theorem mask127_64 {x : Int} (h0 : 0 ≤ x) (h1 : x < 18446744073709551616) : bits .and .u64 x 127 = x % 128 := bits_mask .u64 64 (by decide) wraps64 7 (by decide) x h0 (by omega)
theorem mask63 {x : Int} (h0 : 0 ≤ x) (h1 : x < 18446744073709551616) : bits .and .u64 x 9223372036854775807 = x % 9223372036854775808 := bits_mask .u64 64 (by decide) wraps64 63 (by decide) x h0 (by omega)

/-- Nine bytes are enough. -/
theorem few (X : Int) (j : Nat) (h1 : X < 9223372036854775808) (h0 : 0 ≤ X) (h : X / 2 ^ (7 * (j + 1)) ≠ 0) : j + 1 ≤ 8 := by
  rcases Nat.lt_or_ge (j + 1) 9 with h2 | h2
  · omega
  · exfalso
    apply h
    apply Int.ediv_eq_zero_of_lt h0
    have h3 : (2 : Int) ^ 63 ≤ 2 ^ (7 * (j + 1)) := by
      have := Nat.pow_le_pow_right (n := 2) (by decide) (show 63 ≤ 7 * (j + 1) by omega)
      exact_mod_cast this
    have h4 : (2 : Int) ^ 63 = 9223372036854775808 := by decide
    omega
end Go.Proofs.Ybulkaekk
