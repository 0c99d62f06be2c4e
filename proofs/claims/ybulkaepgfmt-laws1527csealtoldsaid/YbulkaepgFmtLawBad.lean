/-
  THE WALK over 'LawS1527CSeal' where it returns early, and where the sealing fails.
-/
import Derived.Test.YbulkaepgFmtParts
import Derived.Test.YbulkaepgFmtSealBad
import Derived.WalkKit
import Derived.WalkSpells
namespace Go.Proofs.YbulkaepgFmt
open Go.RowKit Go.Extern.Stop Go.Stop Go.Extern
set_option linter.unusedVariables false

set_option maxRecDepth 100000 in
theorem law_long (p : Option Addr) (n cap : Nat) (nf number sel : Int) (b : Bool) (w : World) (h : 1024 < n) :
    Calls Ybaf.prog 3 #[.slice p n cap, .int .u64 nf, .int .u64 number, .int .u16 sel, .bool b] w fun e w' => e = .returned (.bool true) ∧ Below w.heap.size w w' := by
  go_enter Ybaf.func3, Ybaf.ntmps3
  go_wp2
  go_ret
  exact ⟨rfl, Below.refl _ _⟩

set_option maxRecDepth 100000 in
set_option maxHeartbeats 1600000 in
theorem law_missing (F : Interp) (p : Option Addr) (b off n cap : Nat) (E : Nat → Int) (nf number sel : Int) (w : World) (hF : F.answers w.tape) (hn : n ≤ 1024) (hs : 0 < n → p = some ⟨b, off, none⟩)
    (hc : ∀ j, j < n → w.cell? ⟨b, off + j, none⟩ = some (.int .i64 (E j))) (s0 : 0 ≤ sel) (s1 : sel ≤ 65535) :
    Calls Ybaf.prog 3 #[.slice p n cap, .int .u64 nf, .int .u64 number, .int .u16 sel, .bool true] w fun e w' => e = .returned (.bool true) ∧ Below w.heap.size w w' := by
  have HS : Hid (0 < n → p = some ⟨b, off, none⟩) := hs
  have HC : Hid (∀ j, j < n → w.cell? ⟨b, off + j, none⟩ = some (.int .i64 (E j))) := hc
  clear hs hc
  obtain ⟨i0, hi, hz0, hz1, hz2⟩ := info_parts Ybaf.info28
  go_enter Ybaf.func3, Ybaf.ntmps3
  go_wp2_with (at_make; refine wpList_make_full _ rfl _ _ 25 rfl w.heap.size 28 i0 zeroRec 2 Ybaf.underlying25 hi hz0 hz1 _ _ _ _ n rfl rfl rfl rfl (by rw [hz2]; omega) (by unfold maxLen; omega) (Nat.le_refl _) ?_; intro w0 hown0 hgrow0)
  have HL0 : Hid (Lay w w.heap.size n (fun _ => 0) w0) := lay_start hown0 hgrow0
  clear hown0 hgrow0 hi hz0 hz1 hz2
  go_loopw [33] (fun i wr => ∃ k : Nat, k ≤ n ∧ i = .int .i64 k ∧ Lay w w.heap.size n (fun j => if j < k then E j else 0) wr) (fun i _ => n - (intOf i).toNat)
  case atStart => exact ⟨0, Nat.zero_le _, rfl, HL0.out.congr fun j _ => by simp⟩
  case round =>
    clear HL0
    obtain ⟨k, hk, rfl, hl⟩ := hrel
    have HL : Hid (Lay w w.heap.size n (fun j => if j < k then E j else 0) wr) := hl
    clear hl
    by_cases hlt : k < n
    · obtain rfl := HS.out (by omega)
      have c1 := (HL.out.below.cell (block_lt_of_cell (HC.out k hlt))).trans (HC.out k hlt)
      have c2 := HL.out.time k hlt
      have c3 := HL.out.rest k hlt
      have f2 := HL.out.timeF k hlt
      have f3 := HL.out.restF k hlt
      simp only [Nat.lt_irrefl, if_false] at c2
      have i1 : (0 : Int) ≤ (k : Int) := by omega
      have i2 : (k : Int) < (n : Int) := by omega
      go_wp2
      go_roundw
      case rel => exact ⟨k + 1, by omega, by go_num, HL.out.store (Nat.le_refl _) k hlt (E k) _ (fun j hj => by by_cases e : j = k <;> by_cases e2 : j < k <;> simp [e, e2] <;> omega)⟩
      case measure => simp [intOf]; omega
    · have HL1 : Hid (Lay w w.heap.size n E wr) := HL.out.congr fun j hj => by simp [show j < k by omega]
      clear HL
      have hmm := @run_makeMap Ybaf.prog
      have hput := put_call wr
      go_wp2_with fail
      refine (seal_missing F (wr.heap.size + 1 + 1) (wr.heap.size + 1) _ number _ (atCall wr w.heap.size n nf) (by exact answers_later hF (below_call HL1.out nf)) (stage_of HL1.out nf).db).mono ?_
      rintro e w2 ⟨⟨t, x, rfl⟩, hb⟩
      obtain ⟨c7, c9, c10, c12, hb2⟩ := failed HL1.out nf hb
      clear hb hmm hput
      go_wp2
      go_ret
      exact ⟨rfl, hb2⟩

set_option maxRecDepth 100000 in
set_option maxHeartbeats 1600000 in
theorem law_count (F : Interp) (p : Option Addr) (b off n cap : Nat) (E : Nat → Int) (nf number sel : Int) (w : World) (hF : F.answers w.tape) (hn : n ≤ 1024) (hs : 0 < n → p = some ⟨b, off, none⟩)
    (hc : ∀ j, j < n → w.cell? ⟨b, off + j, none⟩ = some (.int .i64 (E j))) (s0 : 0 ≤ sel) (s1 : sel ≤ 65535) (K : Int) (hK : sel % ((n : Int) + 2) = K) (hbad : K = 0 ∨ (n : Int) < K) :
    Calls Ybaf.prog 3 #[.slice p n cap, .int .u64 nf, .int .u64 number, .int .u16 sel, .bool false] w fun e w' => e = .returned (.bool true) ∧ Below w.heap.size w w' := by
  have HS : Hid (0 < n → p = some ⟨b, off, none⟩) := hs
  have HC : Hid (∀ j, j < n → w.cell? ⟨b, off + j, none⟩ = some (.int .i64 (E j))) := hc
  clear hs hc
  obtain ⟨i0, hi, hz0, hz1, hz2⟩ := info_parts Ybaf.info28
  go_enter Ybaf.func3, Ybaf.ntmps3
  go_wp2_with (at_make; refine wpList_make_full _ rfl _ _ 25 rfl w.heap.size 28 i0 zeroRec 2 Ybaf.underlying25 hi hz0 hz1 _ _ _ _ n rfl rfl rfl rfl (by rw [hz2]; omega) (by unfold maxLen; omega) (Nat.le_refl _) ?_; intro w0 hown0 hgrow0)
  have HL0 : Hid (Lay w w.heap.size n (fun _ => 0) w0) := lay_start hown0 hgrow0
  clear hown0 hgrow0 hi hz0 hz1 hz2
  go_loopw [33] (fun i wr => ∃ k : Nat, k ≤ n ∧ i = .int .i64 k ∧ Lay w w.heap.size n (fun j => if j < k then E j else 0) wr) (fun i _ => n - (intOf i).toNat)
  case atStart => exact ⟨0, Nat.zero_le _, rfl, HL0.out.congr fun j _ => by simp⟩
  case round =>
    clear HL0
    obtain ⟨k, hk, rfl, hl⟩ := hrel
    have HL : Hid (Lay w w.heap.size n (fun j => if j < k then E j else 0) wr) := hl
    clear hl
    by_cases hlt : k < n
    · obtain rfl := HS.out (by omega)
      have c1 := (HL.out.below.cell (block_lt_of_cell (HC.out k hlt))).trans (HC.out k hlt)
      have c2 := HL.out.time k hlt
      have c3 := HL.out.rest k hlt
      have f2 := HL.out.timeF k hlt
      have f3 := HL.out.restF k hlt
      simp only [Nat.lt_irrefl, if_false] at c2
      have i1 : (0 : Int) ≤ (k : Int) := by omega
      have i2 : (k : Int) < (n : Int) := by omega
      go_wp2
      go_roundw
      case rel => exact ⟨k + 1, by omega, by go_num, HL.out.store (Nat.le_refl _) k hlt (E k) _ (fun j hj => by by_cases e : j = k <;> by_cases e2 : j < k <;> simp [e, e2] <;> omega)⟩
      case measure => simp [intOf]; omega
    · have HL1 : Hid (Lay w w.heap.size n E wr) := HL.out.congr fun j hj => by simp [show j < k by omega]
      clear HL
      have hmm := @run_makeMap Ybaf.prog
      have hput := put_call wr
      go_wp2_with fail
      have hK0 : 0 ≤ K := by rw [← hK]; exact Int.emod_nonneg _ (by omega)
      have hK1 : K < (n : Int) + 2 := by rw [← hK]; exact Int.emod_lt_of_pos _ (by omega)
      refine (seal_count F (wr.heap.size + 1 + 1) (wr.heap.size + 1) wr.heap.size n n _ number _ (atCall wr w.heap.size n nf) (by exact answers_later hF (below_call HL1.out nf)) (stage_of HL1.out nf).db (stage_of HL1.out nf).opn hn hK0 (by omega) hbad).mono ?_
      rintro e w2 ⟨⟨t, x, rfl⟩, hb⟩
      obtain ⟨c7, c9, c10, c12, hb2⟩ := failed HL1.out nf hb
      clear hb hmm hput
      rcases hbad with rfl | hbad
      · go_wp2
        go_ret
        exact ⟨rfl, hb2⟩
      · have hz : (K == 0) = false := by simp; omega
        go_wp2
        go_ret
        exact ⟨rfl, hb2⟩
end Go.Proofs.YbulkaepgFmt
