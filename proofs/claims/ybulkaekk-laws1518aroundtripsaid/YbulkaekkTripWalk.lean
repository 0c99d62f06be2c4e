/-
  THE WALK over 'LawS1518ARoundTrip'.
-/
import Derived.Test.YbulkaekkTripPlain
import Derived.Test.YbulkaekkEq
import Derived.Test.YbulkaekkRead
import Derived.WalkKit
import Derived.WalkSpells
import Derived.Deep.QuietTactic
import Derived.BigQuiet
namespace Go.Proofs.Ybulkaekk
open Go.RowKit Go.WideShapes Go.ChangeShapes
set_option linter.unusedVariables false

theorem Yba.info5 : (Yba.prog.info? 5).map (fun i => (i.zero, i.size, i.bytes)) = some (some (.int .u8 0), 1, 1) := by kernel_rfl

theorem trip_long (a : Int) (p : Option Addr) (len cap : Nat) (w : World) (h : 1024 < len) :
    Calls Yba.prog 4 #[.int .u64 a, .slice p len cap] w fun e w' => e = .returned (.bool true) ∧ Below w.heap.size w w' := by
  go_enter Yba.func4, Yba.ntmps4
  go_wp2
  go_ret
  exact ⟨rfl, Below.refl _ _⟩

/-- The tail's cells, in a later world. -/
theorem tail_cells {w w1 : World} {p : Option Addr} {b off len : Nat} {Z : List Int} (hb : Below w.heap.size w w1) (hZ : Z.length = len) (hsome : 0 < len → p = some ⟨b, off, none⟩)
    (hc : ∀ j, j < len → w.cell? ⟨b, off + j, none⟩ = some (.int .u8 (Z[j]?.getD 0))) :
    ∀ ad, p = some ad → ∀ t u, (Z.map (Value.int .u8))[t]? = some u → w1.cell? (ad.add t) = some u := by
  intro ad had t u hu
  have ht : t < len := by
    rcases Nat.lt_or_ge t len with h | h
    · exact h
    · rw [List.getElem?_eq_none (by simp; omega)] at hu; cases hu
  rw [hsome (by omega)] at had
  cases had
  rw [add_plain]
  have h1 := hc t ht
  have h2 := block_lt_of_cell h1
  rw [hb.cell h2, h1]
  rw [List.getElem?_map] at hu
  rw [List.getElem?_eq_getElem (by omega)] at hu ⊢
  simpa using hu

/-- What the new row holds. -/
theorem full_cells {w : World} {B len j : Nat} {X : Int} {Z : List Int} (hZ : Z.length = len) (h : w.ownsRow B 5 1 (.slice (some ⟨B, 0, none⟩) (j + 1 + len) (10 + len)) (j + 1 + len) (List.map (Value.int .u8) (encL X j) ++ [Value.int .u8 (dig X j)] ++ Z.map (Value.int .u8))) :
    ∀ i, i < j + 1 + len → w.cell? ⟨B, 0 + i, none⟩ = some (.int .u8 (fullF X j Z i)) := by
  intro i hi
  have e : List.map (Value.int .u8) (encL X j) ++ [Value.int .u8 (dig X j)] ++ Z.map (Value.int .u8) = (full X j Z).map (Value.int .u8) := by simp [full]
  rw [e] at h
  rw [Nat.zero_add, h.cellAt i (by omega), List.getElem?_map, fullF, List.getElem?_eq_getElem (by rw [full_length]; omega)]
  rfl

set_option maxHeartbeats 1600000 in
theorem trip_any (a : Int) (p : Option Addr) (b off len cap : Nat) (Z : List Int) (w : World) (h0 : 0 ≤ a) (h1 : a < 18446744073709551616) (hn : len ≤ 1024) (hZ : Z.length = len)
    (hnone : p = none → len = 0 ∧ cap = 0) (hsome : 0 < len → p = some ⟨b, off, none⟩)
    (hc : ∀ j, j < len → w.cell? ⟨b, off + j, none⟩ = some (.int .u8 (Z[j]?.getD 0))) (hr : ∀ j : Nat, 0 ≤ Z[j]?.getD 0 ∧ Z[j]?.getD 0 ≤ 255) :
    Calls Yba.prog 4 #[.int .u64 a, .slice p len cap] w fun e w' => e = .returned (.bool true) ∧ Below w.heap.size w w' := by
  obtain ⟨i0, hi, hz0, hz1, hz2⟩ := info_parts Yba.info5
  obtain ⟨X, hX⟩ : ∃ X, X = a % 9223372036854775808 := ⟨_, rfl⟩
  have hm : bits .and .u64 a 9223372036854775807 = X := (mask63 h0 h1).trans hX.symm
  have X0 : 0 ≤ X := by omega
  have X1 : X < 9223372036854775808 := by omega
  clear hX
  go_enter Yba.func4, Yba.ntmps4
  go_wp2_with (at_make; refine wpList_make_own _ rfl _ _ 22 rfl w.heap.size 5 i0 (.int .u8 0) 1 Yba.underlying22 hi hz0 hz1 _ _ _ (10 + len) rfl rfl (by omega) ?b2 ?b3 (Nat.le_refl _) ?_)
  case b2 => rw [hz2]; omega
  case b3 => unfold maxLen; omega
  intro w0 hown0 hgrow0
  have hb0 : Below w.heap.size w w0 := (Below.refl _ _).grown hgrow0 (Nat.le_refl _) (fun k h => by cases h)
  go_wp2
  go_loopw [0, 6] (fun x s wr => ∃ (j : Nat) (y : Int), j ≤ 8 ∧ 0 ≤ y ∧ y < 9223372036854775808 ∧ x = .int .u64 y ∧ Hid (y = X / 2 ^ (7 * j)) ∧ s = .slice (some ⟨w.heap.size, 0, none⟩) j (10 + len) ∧
      wr.ownsRow w.heap.size 5 1 (.slice (some ⟨w.heap.size, 0, none⟩) j (10 + len)) j ((encL X j).map (Value.int .u8)) ∧ Below w.heap.size w wr) (fun x _ _ => (intOf x).toNat)
  case atStart => exact ⟨0, X, by omega, X0, X1, rfl, by simp [Hid], rfl, hown0, hb0⟩
  case round =>
    obtain ⟨j, y, hj, y0, y1, rfl, HY, rfl, hown, hb⟩ := hrel
    have hk := mask127_64 y0 (by omega)
    have d0 : 0 ≤ y % 128 := Int.emod_nonneg _ (by decide)
    have d1 : y % 128 < 128 := Int.emod_lt_of_pos _ (by decide)
    have ho := u8_or128_right (y % 128) d0 d1
    by_cases hy : y / 128 = 0
    · have HZ : Hid (Z.length = len) := hZ
      have HN : Hid (p = none → len = 0 ∧ cap = 0) := hnone
      have HS : Hid (0 < len → p = some ⟨b, off, none⟩) := hsome
      have HC : Hid (∀ j, j < len → w.cell? ⟨b, off + j, none⟩ = some (.int .u8 (Z[j]?.getD 0))) := hc
      have HR : Hid (∀ j : Nat, 0 ≤ Z[j]?.getD 0 ∧ Z[j]?.getD 0 ≤ 255) := hr
      clear hZ hnone hsome hc hr
      have hY := HY.out
      have hd : y % 128 = dig X j := by rw [hY, dig]
      have HV : Hid (val (fullF X j Z) (j + 1) = X) := val_full X j Z (by rw [← div_step, ← hY]; exact hy)
      have HD : Hid (y % 128 = dig X j) := hd
      clear hY hd
      go_wp2_with (first
        | (at_builtin; refine wpList_append_fits _ rfl (.tmp 33) (.tmp 35) 22 rfl w.heap.size 5 i0 1 Yba.underlying22 hi hz1 w.heap.size j (10 + len) _ rfl (hown.alloc _) ⟨wr.heap.size, 0, none⟩ 1 1 [.int .u8 (y % 128)] rfl rfl (cell_one_new _ _ _) (by intro u hu; simp at hu; subst hu; rfl) (by omega) ?_; intro w1 hown1 hgrow1; have hb1 : Below w.heap.size w w1 := (hb.alloc hb.size _).grown hgrow1 (by simp; have := hb.size; omega) (fun k hk => by cases hk; exact Nat.le_refl _))
        | (at_builtin; refine wpList_append_fits_any _ rfl (.tmp 37) (.tmp 38) 22 rfl w.heap.size 5 i0 1 Yba.underlying22 hi hz1 w.heap.size (j + 1) (10 + len) _ rfl hown1 p len cap (Z.map (Value.int .u8)) rfl (by simpa using HZ.out) HN.out (tail_cells hb1 HZ.out HS.out HC.out) (ints_oneCell _ _) (by omega) ?_; intro w2 hown2 hgrow2))
      have hb2 : Below w.heap.size w w2 := hb1.grown hgrow2 hb1.size (fun k hk => by cases hk; exact Nat.le_refl _)
      rw [HD.out] at hown2
      have hcells := full_cells HZ.out hown2
      clear hown0 hown1 hown2 hgrow1 hgrow2 hown hb hb0 hb1 hgrow0
      refine (read_good w.heap.size 0 (j + 1 + len) (10 + len) j (fullF X j Z) w2 (by omega) (by omega) (by omega) hcells (fullF_range X j Z HR.out) (by omega) hj (fun i hij => by rw [fullF_lo X j Z i hij]; have := dig_bound X i; omega) (by rw [fullF_at]; exact (dig_bound X j).2)).mono ?_
      rintro e w3 ⟨ad, had, rfl, q, rfl⟩
      rw [HV.out]
      have HA : Hid (j + 1 < j + 1 + len → ad = ⟨w.heap.size, 0 + (j + 1), none⟩) := had
      have HF : Hid (∀ i, i < j + 1 + len → w2.cell? ⟨w.heap.size, 0 + i, none⟩ = some (.int .u8 (fullF X j Z i))) := hcells
      clear had hcells
      have el : j + 1 + len - (j + 1) = len := by omega
      rw [el]
      clear el
      go_wp2_with fail
      refine (eq_same _ _ w.heap.size (j + 1) b off _ _ _ (fun i => Z[i]?.getD 0) _ (by omega) (fun hl => ⟨by rw [HA.out (by omega), Nat.zero_add], HS.out hl, fun i hi => ?_, fun i hi => ?_⟩)).mono ?_
      · have := HF.out (j + 1 + i) (by omega)
        rw [fullF_hi, Nat.zero_add] at this
        exact this
      · exact (hb2.cell (block_lt_of_cell (HC.out i hi))).trans (HC.out i hi)
      rintro e w4 ⟨rfl, q4, rfl⟩
      go_wp2
      go_ret
      exact ⟨rfl, below_drewN hb2 _⟩
    · go_wp2_with (at_builtin; refine wpList_append_fits _ rfl (.tmp 28) (.tmp 31) 22 rfl w.heap.size 5 i0 1 Yba.underlying22 hi hz1 w.heap.size j (10 + len) _ rfl (hown.alloc _) ⟨wr.heap.size, 0, none⟩ 1 1 [.int .u8 (y % 128 + 128)] rfl rfl (cell_one_new _ _ _) (by intro u hu; simp at hu; subst hu; rfl) (by omega) ?_; intro w1 hown1 hgrow1)
      have hY := HY.out
      have hd : y % 128 = dig X j := by rw [hY, dig]
      have hown2 : w1.ownsRow w.heap.size 5 1 (.slice (some ⟨w.heap.size, 0, none⟩) (j + 1) (10 + len)) (j + 1) ((encL X (j + 1)).map (Value.int .u8)) := by
        rw [encL_succ, List.map_append, ← hd]; exact hown1
      have hj1 : j + 1 ≤ 8 := few X j X1 X0 (by rw [← div_step, ← hY]; exact hy)
      have hb1 : Below w.heap.size w w1 := (hb.alloc hb.size _).grown hgrow1 (by simp; have := hb.size; omega) (fun k hk => by cases hk; exact Nat.le_refl _)
      have HY1 : Hid (y / 128 = X / 2 ^ (7 * (j + 1))) := by show _ = _; rw [hY, div_step]
      clear hd hY hown1 hgrow1 hown hb
      go_roundw
      case rel => exact ⟨j + 1, y / 128, hj1, by omega, by omega, rfl, HY1, rfl, hown2, hb1⟩
      case measure => simp [intOf]; omega
end Go.Proofs.Ybulkaekk
