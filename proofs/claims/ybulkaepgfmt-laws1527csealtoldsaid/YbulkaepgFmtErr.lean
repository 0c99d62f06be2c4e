/-
  The closed facts for a walk over fmt's stopped front 'fmt.errorf' (the guide's section 10), at this dump's numbers: typed by hand after the worked CheckFmt.lean. Each is proved by the kernel's own evaluation.
-/
import Derived.Test.YbulkaepgFmtRows
import Derived.Stop.CallBack
import Derived.Stop.IfaceNil
import Derived.WalkKit
import Derived.WalkSpells
namespace Go.Proofs.YbulkaepgFmt
open Go.Extern.Stop Go.Stop Go.Extern Go.RowKit

-- fmt.errorf: function 14: a plain stop
theorem Ybaf.call14 (args : Array Value) (w : World) : (callFunc 14 args).run Ybaf.prog w = ((FmtStop.errorf #[9, 91] #[64] args).run Ybaf.prog w).andThen fun v w' => .ok (.value v) w' :=
  run_callFunc_extern Ybaf.func14 (by kernel_rfl) (by kernel_rfl) (by kernel_rfl) (by kernel_rfl) args w
theorem Ybaf.guard (name : String) (w : World) : (FmtStop.guard name).run Ybaf.prog w = .ok () w := by kernel_rfl
-- the two formats
theorem Ybaf.fmt0 : FmtStop.printed? ⟨#[97, 32, 99, 104, 117, 110, 107, 32, 105, 115, 32, 115, 101, 97, 108, 101, 100, 32, 111, 102, 32, 116, 104, 101, 32, 115, 116, 114, 101, 97, 109, 32, 37, 113, 44, 32, 119, 104, 105, 99, 104, 32, 100, 111, 101, 115, 32, 110, 111, 116, 32, 101, 120, 105, 115, 116]⟩ 1 = some [(0, 113, false)] := by kernel_rfl
theorem Ybaf.fmt0r (w : World) : (FmtDoors.printed ⟨#[97, 32, 99, 104, 117, 110, 107, 32, 105, 115, 32, 115, 101, 97, 108, 101, 100, 32, 111, 102, 32, 116, 104, 101, 32, 115, 116, 114, 101, 97, 109, 32, 37, 113, 44, 32, 119, 104, 105, 99, 104, 32, 100, 111, 101, 115, 32, 110, 111, 116, 32, 101, 120, 105, 115, 116]⟩ 1).run Ybaf.prog w = .ok [(0, 113, false)] w := by kernel_rfl
theorem Ybaf.fmt1 : FmtStop.printed? ⟨#[97, 32, 99, 104, 117, 110, 107, 32, 111, 102, 32, 37, 100, 32, 114, 101, 99, 111, 114, 100, 115, 32, 105, 115, 32, 115, 101, 97, 108, 101, 100, 32, 111, 102, 32, 116, 104, 101, 32, 115, 116, 114, 101, 97, 109, 32, 37, 113, 44, 32, 119, 104, 111, 115, 101, 32, 111, 112, 101, 110, 32, 112, 97, 114, 116, 32, 104, 111, 108, 100, 115, 32, 37, 100]⟩ 3 = some [(0, 100, false), (1, 113, false), (2, 100, false)] := by kernel_rfl
theorem Ybaf.fmt1r (w : World) : (FmtDoors.printed ⟨#[97, 32, 99, 104, 117, 110, 107, 32, 111, 102, 32, 37, 100, 32, 114, 101, 99, 111, 114, 100, 115, 32, 105, 115, 32, 115, 101, 97, 108, 101, 100, 32, 111, 102, 32, 116, 104, 101, 32, 115, 116, 114, 101, 97, 109, 32, 37, 113, 44, 32, 119, 104, 111, 115, 101, 32, 111, 112, 101, 110, 32, 112, 97, 114, 116, 32, 104, 111, 108, 100, 115, 32, 37, 100]⟩ 3).run Ybaf.prog w = .ok [(0, 100, false), (1, 113, false), (2, 100, false)] w := by kernel_rfl
-- what each operand type reads as
def Ybaf.shape9 : List UInt8 := [12, 6, 0, 0, 0, 0, 0, 0, 0, 115, 116, 114, 105, 110, 103]
theorem Ybaf.op9_113 (name : String) (x : ByteArray) (w : World) : (FmtStop.operand name false 113 false (.iface 9 (.string x))).run Ybaf.prog w = .ok (Ybaf.shape9, FmtStop.pack x.data.toList) w := by kernel_rfl
theorem Ybaf.op9_113w (name : String) (x : ByteArray) (w : World) : (FmtStop.operand name true 113 false (.iface 9 (.string x))).run Ybaf.prog w = .ok (Ybaf.shape9, FmtStop.pack x.data.toList) w := by kernel_rfl
def Ybaf.shape3 : List UInt8 := [5, 3, 0, 0, 0, 0, 0, 0, 0, 105, 110, 116]
theorem Ybaf.op3_100 (name : String) (x : Int) (w : World) : (FmtStop.operand name false 100 false (.iface 3 (.int .i64 x))).run Ybaf.prog w = .ok (Ybaf.shape3, Go.Extern.Stop.digits 8 (x % 2 ^ 64).toNat) w := by kernel_rfl
theorem Ybaf.op3_100w (name : String) (x : Int) (w : World) : (FmtStop.operand name true 100 false (.iface 3 (.int .i64 x))).run Ybaf.prog w = .ok (Ybaf.shape3, Go.Extern.Stop.digits 8 (x % 2 ^ 64).toNat) w := by kernel_rfl
def Ybaf.shape23 : List UInt8 := [9, 6, 0, 0, 0, 0, 0, 0, 0, 117, 105, 110, 116, 54, 52]
theorem Ybaf.op23_100 (name : String) (x : Int) (w : World) : (FmtStop.operand name false 100 false (.iface 23 (.int .u64 x))).run Ybaf.prog w = .ok (Ybaf.shape23, Go.Extern.Stop.digits 8 (x % 2 ^ 64).toNat) w := by kernel_rfl
theorem Ybaf.op23_100w (name : String) (x : Int) (w : World) : (FmtStop.operand name true 100 false (.iface 23 (.int .u64 x))).run Ybaf.prog w = .ok (Ybaf.shape23, Go.Extern.Stop.digits 8 (x % 2 ^ 64).toNat) w := by kernel_rfl
-- the error type that fmt.errorf makes
theorem Ybaf.ptr103 (w : World) : (FmtStop.ptrTo "errors.errorString").run Ybaf.prog w = .ok 103 w := by kernel_rfl
theorem Ybaf.elem103 (w : World) : (elemOf 103).run Ybaf.prog w = .ok 105 w := by kernel_rfl
theorem Ybaf.isError103 (w : World) : (FmtDoors.textMethod 103 "Error").run Ybaf.prog w = .ok true w := by kernel_rfl

attribute [local go_sem] Ybaf.call14 Ybaf.guard Ybaf.fmt0 Ybaf.fmt0r Ybaf.fmt1 Ybaf.fmt1r Ybaf.op9_113 Ybaf.op9_113w Ybaf.op3_100 Ybaf.op3_100w Ybaf.op23_100 Ybaf.op23_100w Ybaf.ptr103 Ybaf.elem103 Ybaf.isError103

/-- The first text: the stream does not exist. -/
theorem errorf_missing (F : Interp) (nm : ByteArray) (b cap : Nat) (w : World) (hF : F.answers w.tape) (hc : w.cell? ⟨b, 0, none⟩ = some (.iface 9 (.string nm))) :
    Calls Ybaf.prog 7 #[.string ⟨#[97, 32, 99, 104, 117, 110, 107, 32, 105, 115, 32, 115, 101, 97, 108, 101, 100, 32, 111, 102, 32, 116, 104, 101, 32, 115, 116, 114, 101, 97, 109, 32, 37, 113, 44, 32, 119, 104, 105, 99, 104, 32, 100, 111, 101, 115, 32, 110, 111, 116, 32, 101, 120, 105, 115, 116]⟩, .slice (some ⟨b, 0, none⟩) 1 cap] w fun e w' =>
      (∃ t v, e = .returned (.iface t v)) ∧ Below w.heap.size w w' := by
  have hF' := answers_open hF
  go_enter Ybaf.func7, Ybaf.ntmps7
  go_wp2
  go_ret
  exact ⟨⟨_, _, rfl⟩, ((Below.refl _ _).alloc (Nat.le_refl _) _).drew⟩

/-- The second text: the count does not fit. -/
theorem errorf_count (F : Interp) (nm : ByteArray) (x y : Int) (b cap : Nat) (w : World) (hF : F.answers w.tape) (hc0 : w.cell? ⟨b, 0, none⟩ = some (.iface 23 (.int .u64 x))) (hc1 : w.cell? ⟨b, 1, none⟩ = some (.iface 9 (.string nm))) (hc2 : w.cell? ⟨b, 2, none⟩ = some (.iface 3 (.int .i64 y))) :
    Calls Ybaf.prog 7 #[.string ⟨#[97, 32, 99, 104, 117, 110, 107, 32, 111, 102, 32, 37, 100, 32, 114, 101, 99, 111, 114, 100, 115, 32, 105, 115, 32, 115, 101, 97, 108, 101, 100, 32, 111, 102, 32, 116, 104, 101, 32, 115, 116, 114, 101, 97, 109, 32, 37, 113, 44, 32, 119, 104, 111, 115, 101, 32, 111, 112, 101, 110, 32, 112, 97, 114, 116, 32, 104, 111, 108, 100, 115, 32, 37, 100]⟩, .slice (some ⟨b, 0, none⟩) 3 cap] w fun e w' =>
      (∃ t v, e = .returned (.iface t v)) ∧ Below w.heap.size w w' := by
  have hF' := answers_open hF
  go_enter Ybaf.func7, Ybaf.ntmps7
  go_wp2
  go_ret
  exact ⟨⟨_, _, rfl⟩, ((Below.refl _ _).alloc (Nat.le_refl _) _).drew⟩
end Go.Proofs.YbulkaepgFmt
