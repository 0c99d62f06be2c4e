/-
  THE WALKS over '(*DB).sealChunk' on its two ways that end in an error.
-/
import Derived.Test.YbulkaepgFmtStream
import Derived.Test.YbulkaepgFmtErr
import Derived.WalkKit
namespace Go.Proofs.YbulkaepgFmt
open Go.RowKit Go.Extern.Stop Go.Stop Go.Extern
set_option linter.unusedVariables false

theorem answers_later {F : Interp} {B : Nat} {w w' : World} (hF : F.answers w.tape) (h : Below B w w') : F.answers w'.tape := by rw [h.tape]; exact hF

/-- The stream is not there. -/
theorem seal_missing (F : Interp) (d m : Nat) (v : Value) (number count : Int) (w : World) (hF : F.answers w.tape) (hd : DBat w d m v) :
    Calls Ybaf.prog 4 #[.pointer (some ⟨d, 0, none⟩), .string ⟨#[116]⟩, .int .u64 number, .int .u64 count] w fun e w' =>
      (∃ t x, e = .returned (.iface t x)) ∧ Below w.heap.size w w' := by
  have HD : Hid (DBat w d m v) := hd
  clear hd
  go_enter Ybaf.func4, Ybaf.ntmps4
  go_wp2_with (go_at_call 6; refine (stream_any d m ⟨#[116]⟩ v (.pointer none) _ HD.out rfl).mono ?_; rintro e w' ⟨rfl, hw⟩; subst w')
  refine (errorf_missing F ⟨#[116]⟩ w.heap.size 1 _ (by exact hF) (by go_simp)).mono ?_
  rintro e w1 ⟨⟨t, x, rfl⟩, hb⟩
  have hb1 : Below w.heap.size w w1 := ((Below.refl _ _).alloc (Nat.le_refl _) _).trans (hb.mono (by simp))
  clear hb
  go_wp2
  go_ret
  exact ⟨⟨_, _, rfl⟩, hb1⟩

/-- The count does not fit the open part. -/
theorem seal_count (F : Interp) (d m s n c : Nat) (ao : Option Addr) (number count : Int) (w : World) (hF : F.answers w.tape) (hd : DBat w d m (.pointer (some ⟨s, 0, none⟩)))
    (ho : w.cell? ⟨s, 9, none⟩ = some (.slice ao n c)) (hn : n ≤ 1024) (h0 : 0 ≤ count) (h1 : count ≤ 65535) (hbad : count = 0 ∨ (n : Int) < count) :
    Calls Ybaf.prog 4 #[.pointer (some ⟨d, 0, none⟩), .string ⟨#[115]⟩, .int .u64 number, .int .u64 count] w fun e w' =>
      (∃ t x, e = .returned (.iface t x)) ∧ Below w.heap.size w w' := by
  have HD : Hid (DBat w d m (.pointer (some ⟨s, 0, none⟩))) := hd
  clear hd
  rcases hbad with rfl | hbad
  · go_enter Ybaf.func4, Ybaf.ntmps4
    go_wp2_with (go_at_call 6; refine (stream_any d m ⟨#[115]⟩ _ (.pointer (some ⟨s, 0, none⟩)) _ HD.out rfl).mono ?_; rintro e w' ⟨rfl, hw⟩; subst w')
    refine (errorf_count F ⟨#[115]⟩ 0 n w.heap.size 3 _ (by exact hF) (by go_simp) (by go_simp) (by go_simp)).mono ?_
    rintro e w1 ⟨⟨t, x, rfl⟩, hb⟩
    have hb1 : Below w.heap.size w w1 := ((Below.refl _ _).alloc (Nat.le_refl _) _).trans (hb.mono (by simp))
    clear hb
    go_wp2
    go_ret
    exact ⟨⟨_, _, rfl⟩, hb1⟩
  · have hz : (count == 0) = false := by simp; omega
    go_enter Ybaf.func4, Ybaf.ntmps4
    go_wp2_with (go_at_call 6; refine (stream_any d m ⟨#[115]⟩ _ (.pointer (some ⟨s, 0, none⟩)) _ HD.out rfl).mono ?_; rintro e w' ⟨rfl, hw⟩; subst w')
    refine (errorf_count F ⟨#[115]⟩ count n w.heap.size 3 _ (by exact hF) (by go_simp) (by go_simp) (by go_simp)).mono ?_
    rintro e w1 ⟨⟨t, x, rfl⟩, hb⟩
    have hb1 : Below w.heap.size w w1 := ((Below.refl _ _).alloc (Nat.le_refl _) _).trans (hb.mono (by simp))
    clear hb
    go_wp2
    go_ret
    exact ⟨⟨_, _, rfl⟩, hb1⟩
end Go.Proofs.YbulkaepgFmt
