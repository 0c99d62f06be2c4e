/-
  THE WALKS over 'AppendUint16' at nil and over 'entry'.
-/
import Derived.Test.YbulkaeoeParts
import Derived.WalkKit
import Derived.WalkSpells
namespace Go.Proofs.Ybulkaeoe
open Go.RowKit
set_option linter.unusedVariables false

theorem Yba.info5 : (Yba.prog.info? 5).map (fun i => (i.zero, i.size, i.bytes)) = some (some (.int .u8 0), 1, 1) := by kernel_rfl

theorem app16 (T : Int) (w : World) (h0 : 0 ≤ T) (h1 : T ≤ 65535) :
    Calls Yba.prog 6 #[.agg #[], .slice none 0 0, .int .u16 T] w fun e w' =>
      ∃ v, e = .returned v ∧ w'.ownsRow w.heap.size 5 1 v 2 [.int .u8 (T / 256), .int .u8 (T % 256)] ∧ Below w.heap.size w w' := by
  obtain ⟨i0, hi, hz0, hz1, hz2⟩ := info_parts Yba.info5
  go_enter Yba.func6, Yba.ntmps6
  go_wp2_with (at_builtin; refine append_any _ rfl (.tmp 7) (.tmp 13) 23 rfl w.heap.size 5 i0 (.int .u8 0) 1 1 Yba.underlying23 hi hz0 hz1 hz2 rfl (by decide) (.slice none 0 0) 0 [] rfl (World.ownsRow_nil _ _ _ _) _ 2 2 [.int .u8 (T / 256), .int .u8 (T % 256)] rfl rfl (fun h => by cases h) (cells_new _ _ _ _ (by simp)) (by intro u hu; simp at hu; rcases hu with rfl | rfl <;> rfl) (by decide) (by decide) (by simp; omega) ?_; intro v w1 hown hb)
  go_ret
  exact ⟨v, rfl, hown, (((Below.refl _ _).alloc (Nat.le_refl _) _).alloc (by simp) _).trans hb⟩

/-- The bytes of an entry. -/
def entryL (T : Int) (Zp : List Int) (n : Nat) (Zc : List Int) : List Int := [T / 256, T % 256] ++ Zp ++ [(n : Int) / 65536, (n : Int) / 256, (n : Int) % 256] ++ Zc

set_option maxRecDepth 20000 in
theorem entry_any (T : Int) (p : Option Addr) (bp op lp cp : Nat) (Zp : List Int) (c : Option Addr) (bc oc lc cc : Nat) (Zc : List Int) (w : World) (h0 : 0 ≤ T) (h1 : T ≤ 65535) (hp : lp ≤ 1024) (hc : lc ≤ 1024)
    (sp : Src w p bp op lp cp Zp) (sc : Src w c bc oc lc cc Zc) :
    Calls Yba.prog 4 #[.int .u16 T, .slice p lp cp, .slice c lc cc] w fun e w' =>
      ∃ v, e = .returned (.tuple #[v, .nilIface]) ∧ w'.ownsRow w.heap.size 5 1 v (2 + lp + 3 + lc) ((entryL T Zp lc Zc).map (Value.int .u8)) ∧ Below w.heap.size w w' := by
  obtain ⟨i0, hi, hz0, hz1, hz2⟩ := info_parts Yba.info5
  have hbig : decide ((16777216 : Int) ≤ (lc : Int)) = false := decide_eq_false (by omega)
  go_enter Yba.func4, Yba.ntmps4
  go_wp2_with (first
    | (go_at_call 6; refine (app16 T _ h0 h1).mono ?_; rintro e w1 ⟨v1, rfl, hown1, hb1⟩; have sp1 := sp.later hb1)
    | (at_builtin; refine append_any _ rfl (.tmp 18) (.tmp 19) 23 rfl w.heap.size 5 i0 (.int .u8 0) 1 1 Yba.underlying23 hi hz0 hz1 hz2 rfl (by decide) _ 2 _ rfl hown1 _ lp cp (Zp.map (Value.int .u8)) rfl (by simpa using sp.length) sp.atNil sp1.cells (ints_oneCell _ _) (by unfold maxLen; omega) (by omega) hb1.size ?_; intro v2 w2 hown2 hb2; have hb12 := hb1.trans hb2)
    | (at_builtin; refine append_any _ rfl (.tmp 21) (.tmp 30) 23 rfl w.heap.size 5 i0 (.int .u8 0) 1 1 Yba.underlying23 hi hz0 hz1 hz2 rfl (by decide) _ (2 + lp) _ rfl (hown2.alloc _) _ 3 3 [.int .u8 ((lc : Int) / 65536), .int .u8 ((lc : Int) / 256), .int .u8 ((lc : Int) % 256)] rfl rfl (fun h => by cases h) (cells_new _ _ _ _ rfl) (by intro u hu; simp at hu; rcases hu with rfl | rfl | rfl <;> rfl) (by unfold maxLen; omega) (by omega) (by have := hb12.size; simp; omega) ?_; intro v3 w3 hown3 hb3; have hb13 := (hb12.alloc hb12.size _).trans hb3; have sc3 := sc.later hb13)
    | (at_builtin; refine append_any _ rfl (.tmp 32) (.tmp 33) 23 rfl w.heap.size 5 i0 (.int .u8 0) 1 1 Yba.underlying23 hi hz0 hz1 hz2 rfl (by decide) _ (2 + lp + 3) _ rfl hown3 _ lc cc (Zc.map (Value.int .u8)) rfl (by simpa using sc.length) sc.atNil sc3.cells (ints_oneCell _ _) (by unfold maxLen; omega) (by omega) hb13.size ?_; intro v4 w4 hown4 hb4; have hb14 := hb13.trans hb4))
  go_ret2
  refine ⟨v4, rfl, ?_, hb14⟩
  have e : (entryL T Zp lc Zc).map (Value.int .u8) = [Value.int .u8 (T / 256), .int .u8 (T % 256)] ++ Zp.map (Value.int .u8) ++ [.int .u8 ((lc : Int) / 65536), .int .u8 ((lc : Int) / 256), .int .u8 ((lc : Int) % 256)] ++ Zc.map (Value.int .u8) := by simp [entryL]
  rw [e]
  exact hown4
end Go.Proofs.Ybulkaeoe
