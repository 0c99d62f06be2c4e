/-
  THE PLAIN MATHEMATICS of 'latest': the greatest end that is not -1, and whether there is one. No Go in sight.
-/
import Derived.WalkKit
namespace Go.Proofs.Ybulkaepg
open Go.RowKit

/-- After k layers: is there an end that is not -1? -/
def fnd (E : Nat → Int) : Nat → Bool
  | 0 => false
  | k + 1 => fnd E k || (E k != -1)

/-- After k layers: the greatest such end; 0 where there is none. -/
def lat (E : Nat → Int) : Nat → Int
  | 0 => 0
  | k + 1 => if (E k != -1 && (!fnd E k || decide (lat E k < E k))) = true then E k else lat E k

/-- Is g among the first k ends that are not -1? -/
def mem (E : Nat → Int) (g : Int) : Nat → Bool
  | 0 => false
  | k + 1 => mem E g k || (E k != -1 && E k == g)

theorem fnd_none {E : Nat → Int} {k : Nat} (h : E k = -1) : fnd E (k + 1) = fnd E k := by simp [fnd, h]
theorem fnd_some {E : Nat → Int} {k : Nat} (h : E k ≠ -1) : fnd E (k + 1) = true := by simp [fnd, h]
theorem lat_none {E : Nat → Int} {k : Nat} (h : E k = -1) : lat E (k + 1) = lat E k := by simp [lat, h]
theorem lat_first {E : Nat → Int} {k : Nat} (h : E k ≠ -1) (hf : fnd E k = false) : lat E (k + 1) = E k := by simp [lat, h, hf]
theorem lat_up {E : Nat → Int} {k : Nat} (h : E k ≠ -1) (hl : lat E k < E k) : lat E (k + 1) = E k := by simp [lat, h, hl]
theorem lat_keep {E : Nat → Int} {k : Nat} (hf : fnd E k = true) (hl : ¬ lat E k < E k) : lat E (k + 1) = lat E k := by simp [lat, hf, hl]
theorem mem_none {E : Nat → Int} {g : Int} {k : Nat} (h : E k = -1) : mem E g (k + 1) = mem E g k := by simp [mem, h]
theorem mem_hit {E : Nat → Int} {g : Int} {k : Nat} (h : E k ≠ -1) (he : E k = g) : mem E g (k + 1) = true := by
  have h1 : (E k != -1) = true := by simp [h]
  have h2 : (E k == g) = true := by simp [he]
  simp [mem, h1, h2]
theorem mem_miss {E : Nat → Int} {g : Int} {k : Nat} (he : E k ≠ g) : mem E g (k + 1) = mem E g k := by
  have h2 : (E k == g) = false := by simp [he]
  simp [mem, h2]

/-- What holds of the answer. -/
theorem lat_spec (E : Nat → Int) (n : Nat) :
    (fnd E n = false → lat E n = 0) ∧ (∀ j, j < n → E j ≠ -1 → E j ≤ lat E n) ∧ (fnd E n = true → ∃ j, j < n ∧ E j ≠ -1 ∧ E j = lat E n) ∧ (fnd E n = false → ∀ j, j < n → E j = -1) := by
  induction n with
  | zero => exact ⟨fun _ => rfl, fun j h => absurd h (by omega), fun h => (by cases h), fun _ j h => absurd h (by omega)⟩
  | succ n ih =>
    obtain ⟨h1, h2, h3, h4⟩ := ih
    by_cases hE : E n = -1
    · rw [fnd_none hE, lat_none hE]
      refine ⟨h1, fun j hj hne => ?_, fun hf => ?_, fun hf j hj => ?_⟩
      · rcases Nat.lt_or_ge j n with h | h
        · exact h2 j h hne
        · obtain rfl : j = n := by omega
          exact absurd hE hne
      · obtain ⟨j, hj, a, b⟩ := h3 hf
        exact ⟨j, by omega, a, b⟩
      · rcases Nat.lt_or_ge j n with h | h
        · exact h4 hf j h
        · obtain rfl : j = n := by omega
          exact hE
    · rw [fnd_some hE]
      refine ⟨fun h => (by cases h), ?_, ?_, fun h => (by cases h)⟩
      · intro j hj hne
        rcases Nat.lt_or_ge j n with h | h
        · have hjn := h2 j h hne
          by_cases hf : fnd E n = true
          · by_cases hl : lat E n < E n
            · rw [lat_up hE hl]; omega
            · rw [lat_keep hf hl]; exact hjn
          · exact absurd (h4 (by simpa using hf) j h) hne
        · obtain rfl : j = n := by omega
          by_cases hf : fnd E j = true
          · by_cases hl : lat E j < E j
            · rw [lat_up hE hl]; omega
            · rw [lat_keep hf hl]; omega
          · rw [lat_first hE (by simpa using hf)]; omega
      · intro _
        by_cases hf : fnd E n = true
        · by_cases hl : lat E n < E n
          · exact ⟨n, by omega, hE, (lat_up hE hl).symm⟩
          · obtain ⟨j, hj, a, b⟩ := h3 hf
            exact ⟨j, by omega, a, by rw [lat_keep hf hl]; exact b⟩
        · exact ⟨n, by omega, hE, (lat_first hE (by simpa using hf)).symm⟩

theorem mem_of (E : Nat → Int) (g : Int) (n j : Nat) (hj : j < n) (hne : E j ≠ -1) (he : E j = g) : mem E g n = true := by
  induction n with
  | zero => omega
  | succ n ih =>
    rcases Nat.lt_or_ge j n with h | h
    · by_cases hE : E n = -1
      · rw [mem_none hE]; exact ih h
      · by_cases hg : E n = g
        · exact mem_hit hE hg
        · rw [mem_miss hg]; exact ih h
    · obtain rfl : j = n := by omega
      exact mem_hit hne he

/-- Where one is found it is among them. -/
theorem mem_lat (E : Nat → Int) (n : Nat) (h : fnd E n = true) : mem E (lat E n) n = true := by
  obtain ⟨j, hj, a, b⟩ := (lat_spec E n).2.2.1 h
  exact mem_of E _ n j hj a b
end Go.Proofs.Ybulkaepg
