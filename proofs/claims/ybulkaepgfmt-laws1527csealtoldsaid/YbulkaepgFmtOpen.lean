/-
  THE WALKS over '(*stream).openChanged' and '(*atomic.Pointer).Load'.
-/
import Derived.Test.YbulkaepgFmtRows
import Derived.WalkKit
namespace Go.Proofs.YbulkaepgFmt
open Go.RowKit
set_option linter.unusedVariables false

theorem run_loadPtr {a : Addr} {x : Option Addr} {w : World} (hc : w.cell? a = some (.pointer x)) : (callFunc 11 #[.pointer (some a)]).run Ybaf.prog w = .ok (.value (.pointer x)) w := by
  rw [run_callFunc_extern Ybaf.func11 (by kernel_rfl) (by kernel_rfl) (by kernel_rfl) (e := Extern.Atomic.loadT .ptr) (by kernel_rfl)]
  change (Sem.run Ybaf.prog (do Extern.Atomic.read .ptr (← asAddr (.pointer (some a)))) w).andThen _ = _
  simp [Extern.Atomic.read, asAddr, hc, Result.andThen]

theorem run_storePtr {a : Addr} {x : Option Addr} {u : Value} {w : World} (hc : w.cell? a = some u) (hz : w.frozen? a = false) :
    (callFunc 33 #[.pointer (some a), .pointer x]).run Ybaf.prog w = .ok (.value (.tuple #[])) (w.setCell a (.pointer x)) := by
  rw [run_callFunc_extern Ybaf.func33 (by kernel_rfl) (by kernel_rfl) (by kernel_rfl) (e := Extern.Atomic.storeT) (by kernel_rfl)]
  change (Sem.run Ybaf.prog (do
    store (← asAddr (.pointer (some a))) (.pointer x) .atomic
    pure Extern.Atomic.none_) w).andThen _ = _
  simp [asAddr, hc, hz, run_store Ybaf.prog w a (.pointer x) .atomic rfl, Result.andThen, Extern.Atomic.none_]

theorem conv_out (w : World) : (convert 44 46 (.pointer none)).run Ybaf.prog w = .ok (.pointer none) w := by kernel_rfl
theorem conv_in (w : World) : (convert 46 44 (.pointer none)).run Ybaf.prog w = .ok (.pointer none) w := by kernel_rfl

theorem load_any (s : Nat) (w : World) (hc : w.cell? ⟨s, 11, none⟩ = some (.pointer none)) :
    Calls Ybaf.prog 5 #[.pointer (some ⟨s, 11, none⟩)] w fun e w' => e = .returned (.pointer none) ∧ w' = w := by
  have hl := run_loadPtr hc
  have hv := conv_in
  go_enter Ybaf.func5, Ybaf.ntmps5
  go_wp2
  go_ret
  exact ⟨rfl, rfl⟩

theorem changed_any (s : Nat) (c : Int) (u : Value) (w : World) (h0 : 0 ≤ c) (h1 : c < 1000000) (c0 : w.cell? ⟨s, 10, none⟩ = some (.int .u64 c)) (c1 : w.cell? ⟨s, 11, none⟩ = some u)
    (f0 : w.frozen? ⟨s, 10, none⟩ = false) (f1 : w.frozen? ⟨s, 11, none⟩ = false) :
    Calls Ybaf.prog 9 #[.pointer (some ⟨s, 0, none⟩)] w fun e w' => e = .returned (.tuple #[]) ∧ w' = (w.setCell ⟨s, 10, none⟩ (.int .u64 (c + 1))).setCell ⟨s, 11, none⟩ (.pointer none) := by
  have c1' : (w.setCell ⟨s, 10, none⟩ (.int .u64 (c + 1))).cell? ⟨s, 11, none⟩ = some u := (World.cell?_setCell_other _ ⟨s, 10, none⟩ ⟨s, 11, none⟩ _ (by simp)).trans c1
  have f1' : (w.setCell ⟨s, 10, none⟩ (.int .u64 (c + 1))).frozen? ⟨s, 11, none⟩ = false := by simpa using f1
  have hs := run_storePtr (x := none) c1' f1'
  have hv := conv_out
  go_enter Ybaf.func9, Ybaf.ntmps9
  go_wp2
  go_end0
  go_wp2
  go_end0
  exact ⟨rfl, rfl⟩
end Go.Proofs.YbulkaepgFmt
