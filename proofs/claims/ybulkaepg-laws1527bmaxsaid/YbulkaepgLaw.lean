/-
  THE WALK over 'LawS1527BMax'.
-/
import Derived.Test.YbulkaepgLatest
import Derived.Test.YbulkaepgLay
import Derived.WalkKit
import Derived.WalkSpells
import Derived.Deep.QuietTactic
import Derived.BigQuiet
import Derived.Deep.RegionHeld3
namespace Go.Proofs.Ybulkaepg
open Go.RowKit
set_option linter.unusedVariables false

theorem law_long (p : Option Addr) (len cap : Nat) (w : World) (h : 1024 < len) :
    Calls Yba.prog 3 #[.slice p len cap] w fun e w' => e = .returned (.bool true) ∧ Below w.heap.size w w' := by
  go_enter Yba.func3, Yba.ntmps3
  go_wp2
  go_ret
  exact ⟨rfl, Below.refl _ _⟩

set_option maxHeartbeats 1600000 in
theorem law_any (p : Option Addr) (b off n cap : Nat) (E : Nat → Int) (w : World) (hn : n ≤ 1024) (hcap : n ≤ cap) (hs : 0 < n → p = some ⟨b, off, none⟩)
    (hc : ∀ j, j < n → w.cell? ⟨b, off + j, none⟩ = some (.int .i64 (E j))) :
    Calls Yba.prog 3 #[.slice p n cap] w fun e w' => e = .returned (.bool true) ∧ Below w.heap.size w w' := by
  have HS : Hid (0 < n → p = some ⟨b, off, none⟩) := hs
  have HC : Hid (∀ j, j < n → w.cell? ⟨b, off + j, none⟩ = some (.int .i64 (E j))) := hc
  clear hs hc
  obtain ⟨i0, hi, hz0, hz1, hz2⟩ := info_parts Yba.info61
  go_enter Yba.func3, Yba.ntmps3
  go_wp2_with (at_make; refine wpList_make_full _ rfl _ _ 24 rfl w.heap.size 61 i0 zeroLayer 5 Yba.underlying24 hi hz0 hz1 _ _ _ _ n rfl rfl rfl rfl (by rw [hz2]; omega) (by unfold maxLen; omega) (Nat.le_refl _) ?_; intro w0 hown0 hgrow0)
  obtain ⟨hne, hlay⟩ := lay_start hown0 hgrow0 (cs := #[.string ⟨#[]⟩, .string ⟨#[]⟩, .string ⟨#[]⟩, .string ⟨#[]⟩, .slice none 0 0, .nilFunc, .bool false, .int .i64 0, .float .f64 0, .nilFunc, .nilFunc, .nilFunc, .string ⟨#[]⟩, .int .i32 0, .int .u32 0, .int .u32 0, .int .u32 0, .int .i32 0, .int .i32 0, .slice (some ⟨w.heap.size, 0, none⟩) n n, .slice none 0 0, .nilIface, .slice none 0 0]) rfl
  generalize w0.heap.size = M at *
  have HNE : Hid (M ≠ w.heap.size) := hne
  clear hown0 hgrow0 hne
  go_loopw [22] (fun i wr => ∃ k : Nat, k ≤ n ∧ i = .int .i64 k ∧ Lay w M w.heap.size n (fun j => if j < k then E j else 0) wr) (fun i _ => n - (intOf i).toNat)
  case atStart => exact ⟨0, Nat.zero_le _, rfl, hlay.congr fun j _ => by simp⟩
  case round =>
    clear hlay
    obtain ⟨k, hk, rfl, hl⟩ := hrel
    have HL : Hid (Lay w M w.heap.size n (fun j => if j < k then E j else 0) wr) := hl
    clear hl
    by_cases hlt : k < n
    · obtain rfl := HS.out (by omega)
      have c1 := (HL.out.below.cell (block_lt_of_cell (HC.out k hlt))).trans (HC.out k hlt)
      have c2 := HL.out.hdr
      have c3 := HL.out.cell k hlt
      have f3 := HL.out.free k hlt
      simp only [Nat.lt_irrefl, if_false] at c3
      have i1 : (0 : Int) ≤ (k : Int) := by omega
      have i2 : (k : Int) < (n : Int) := by omega
      go_wp2
      go_region
      go_wp2
      go_roundw
      case rel =>
        refine ⟨k + 1, by omega, by go_num, ?_⟩
        exact (HL.out.store HNE.out (Nat.le_refl _) k hlt (E k) _ (fun j hj => by by_cases e : j = k <;> by_cases e2 : j < k <;> simp [e, e2] <;> omega)).drawn 1
      case measure => simp [intOf]; omega
    · have hl : Lay w M w.heap.size n E wr := HL.out.congr fun j hj => by simp [show j < k by omega]
      clear HL
      have HL : Hid (Lay w M w.heap.size n E wr) := hl
      clear hl
      obtain ⟨S1, S2, S3, S4⟩ := lat_spec E n
      have HS2 : Hid (∀ j, j < n → E j ≠ -1 → E j ≤ lat E n) := S2
      have HM : Hid (fnd E n = true → mem E (lat E n) n = true) := mem_lat E n
      have HZ : Hid (fnd E n = false → lat E n = 0) := S1
      clear S1 S2 S3 S4
      go_wp2_with (go_at_call 4; refine (latest_any M w.heap.size n E _ hn HL.out.hdr HL.out.cell).mono ?_; rintro e w2 ⟨rfl, rfl⟩)
      go_loop [7, 8, 44] (fun s m i => ∃ k : Nat, k ≤ n ∧ i = .int .i64 k ∧ s = .bool (fnd E k) ∧ m = .bool (mem E (lat E n) k)) (fun _ _ i => n - (intOf i).toNat)
      case atStart => exact ⟨0, Nat.zero_le _, rfl, rfl, rfl⟩
      case round =>
        obtain ⟨j, hj, rfl, rfl, rfl⟩ := hrel
        by_cases hjl : j < n
        · obtain rfl := HS.out (by omega)
          have c1 := (HL.out.below.cell (block_lt_of_cell (HC.out j hjl))).trans (HC.out j hjl)
          by_cases hE : E j = -1
          · have hE1 : (E j == -1) = true := by simp [hE]
            have HE : Hid (E j = -1) := hE
            clear hE
            go_wp2
            go_round
            case rel => exact ⟨j + 1, by omega, by go_num, by rw [fnd_none HE.out], by rw [mem_none HE.out]⟩
            case measure => simp [intOf]; omega
          · have hE1 : (E j == -1) = false := by simp [hE]
            have hle := HS2.out j hjl hE
            have HE : Hid (¬ E j = -1) := hE
            clear hE
            by_cases hq : E j = lat E n
            · have hq1 : (E j == lat E n) = true := by simp [hq]
              have HQ : Hid (E j = lat E n) := hq
              clear hq
              go_wp2
              go_round
              case rel => exact ⟨j + 1, by omega, by go_num, by rw [fnd_some HE.out], by rw [mem_hit HE.out HQ.out]⟩
              case measure => simp [intOf]; omega
            · have hq1 : (E j == lat E n) = false := by simp [hq]
              have HQ : Hid (¬ E j = lat E n) := hq
              clear hq
              go_wp2
              go_round
              case rel => exact ⟨j + 1, by omega, by go_num, by rw [fnd_some HE.out], by rw [mem_miss HQ.out]⟩
              case measure => simp [intOf]; omega
        · obtain rfl : j = n := by omega
          cases hf : fnd E j with
          | true =>
            have hm := HM.out hf
            go_wp2
            go_loopw [76] (fun i wr => ∃ k q : Nat, k ≤ j ∧ i = .int .i64 k ∧ wr = w2.drewN q) (fun i _ => j - (intOf i).toNat)
            case atStart => exact ⟨0, 0, Nat.zero_le _, rfl, rfl⟩
            case round =>
              obtain ⟨t, q, ht, rfl, rfl⟩ := hrel
              by_cases htl : t < j
              · obtain rfl := HS.out (by omega)
                have c1 := (HL.out.below.cell (block_lt_of_cell (HC.out t htl))).trans (HC.out t htl)
                have c2 := HL.out.hdr
                have c3 := HL.out.cell t htl
                have i1 : (0 : Int) ≤ (t : Int) := by omega
                have i2 : (t : Int) < (j : Int) := by omega
                go_wp2
                go_quiet (fail)
                go_wp2
                go_roundw
                case rel => exact ⟨t + 1, _, by omega, by go_num, rfl⟩
                case measure => simp [intOf]; omega
              · go_wp2
                go_ret
                exact ⟨rfl, below_drewN HL.out.below _⟩
          | false =>
            have hz := HZ.out hf
            go_wp2
            go_loopw [76] (fun i wr => ∃ k q : Nat, k ≤ j ∧ i = .int .i64 k ∧ wr = w2.drewN q) (fun i _ => j - (intOf i).toNat)
            case atStart => exact ⟨0, 0, Nat.zero_le _, rfl, rfl⟩
            case round =>
              obtain ⟨t, q, ht, rfl, rfl⟩ := hrel
              by_cases htl : t < j
              · obtain rfl := HS.out (by omega)
                have c1 := (HL.out.below.cell (block_lt_of_cell (HC.out t htl))).trans (HC.out t htl)
                have c2 := HL.out.hdr
                have c3 := HL.out.cell t htl
                have i1 : (0 : Int) ≤ (t : Int) := by omega
                have i2 : (t : Int) < (j : Int) := by omega
                go_wp2
                go_quiet (fail)
                go_wp2
                go_roundw
                case rel => exact ⟨t + 1, _, by omega, by go_num, rfl⟩
                case measure => simp [intOf]; omega
              · go_wp2
                go_ret
                exact ⟨rfl, below_drewN HL.out.below _⟩
end Go.Proofs.Ybulkaepg
