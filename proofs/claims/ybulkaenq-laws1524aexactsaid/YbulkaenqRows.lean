/-
  No cell of these rows narrows 'for every input' (looked for: loops, veiled, ifaces, maps, wideKeys, modest, calm, conditions, laid).
  DERIVED. THE GIVEN ROWS OF THIS SEAT. 2 by the template 'for every input the law returns true; each argument reads behind the call as it read before'; 0 by the template 'total and deterministic' (their statements: YbulkaenqTotals.lean).
  GIVEN WITH THE SEED: the statements are not yours to turn. If you find one false, say at which input.
  Laid BY PROGRAM, IN A SANDBOX (cutbox-rows.mjs): the forced cells as the released guide's own fill.sh prints them over the translation 30feb6a507737a90… (all of the seat's roots in one cut). By AI agents, Wed Nov 11 2026. No macro, syntax, notation, axiom, sorry.
-/
import Derived.Test.YbulkaenqChecked
import GoSem.Claim
import GoSem.ClaimJoined
import GoSem.ClaimMapViews
import Derived.JoinedTies
import Derived.KernelRfl
namespace Go.Proofs.Ybulkaenq
/- THE CELL 'sum', in the pinned program and in every row, IS THE sha256 OF THE DUMP (.gsa) THAT YbulkaenqProg.lean LOADS. Nothing in Lean hashes anything: it is a label: what it is worth is what the hold of that sum in a sandbox is worth. -/
noncomputable def Yba.pinned : Pinned := { name := "ybulkaenq", sum := "30feb6a507737a90a555205bd4f36f3a3cb888c85e8e68868a1864ce1d093b31", checked := Yba.checked }
namespace Rows
def none {H : Type} : Left H := { results := [], args := [] }

/-- 'wait.LawS1524AExact': WHATEVER THE INPUT: true; the input reads as it did. -/
def lawS1524AExactSpec : ChangeSpec := { name := "lawS1524AExact", fn := fun _ => fun
  | [d1, d2] => { results := [.lit (.bool true)], args := [d1, d2] }
  | _ => none }
def lawS1524AExactRow : OpenClaim := { program := "ybulkaenq", sum := "30feb6a507737a90a555205bd4f36f3a3cb888c85e8e68868a1864ce1d093b31", func := "example.com/cadenza/cadenza/wait.LawS1524AExact", spec := "lawS1524AExact", apart := false }
def LawS1524AExactSaid : Prop := lawS1524AExactRow.holds Yba.pinned (OpenSpec.ofChange lawS1524AExactSpec)

/-- ITS FALSE NEIGHBOUR: 'it returns false'. Refute it at one input. -/
def lawS1524AExactWrong : ChangeSpec := { name := "lawS1524AExact", fn := fun _ => fun
  | [d1, d2] => { results := [.lit (.bool false)], args := [d1, d2] }
  | _ => none }
def LawS1524AExactWrongFalsely : Prop := lawS1524AExactRow.holds Yba.pinned (OpenSpec.ofChange lawS1524AExactWrong)

/-- 'wait.LawS1524AOrderAndSymmetry': WHATEVER THE INPUT: true; the input reads as it did. -/
def lawS1524AOrderAndSymmetrySpec : ChangeSpec := { name := "lawS1524AOrderAndSymmetry", fn := fun _ => fun
  | [d1, d2] => { results := [.lit (.bool true)], args := [d1, d2] }
  | _ => none }
def lawS1524AOrderAndSymmetryRow : OpenClaim := { program := "ybulkaenq", sum := "30feb6a507737a90a555205bd4f36f3a3cb888c85e8e68868a1864ce1d093b31", func := "example.com/cadenza/cadenza/wait.LawS1524AOrderAndSymmetry", spec := "lawS1524AOrderAndSymmetry", apart := false }
def LawS1524AOrderAndSymmetrySaid : Prop := lawS1524AOrderAndSymmetryRow.holds Yba.pinned (OpenSpec.ofChange lawS1524AOrderAndSymmetrySpec)

/-- ITS FALSE NEIGHBOUR: 'it returns false'. Refute it at one input. -/
def lawS1524AOrderAndSymmetryWrong : ChangeSpec := { name := "lawS1524AOrderAndSymmetry", fn := fun _ => fun
  | [d1, d2] => { results := [.lit (.bool false)], args := [d1, d2] }
  | _ => none }
def LawS1524AOrderAndSymmetryWrongFalsely : Prop := lawS1524AOrderAndSymmetryRow.holds Yba.pinned (OpenSpec.ofChange lawS1524AOrderAndSymmetryWrong)

end Rows
end Go.Proofs.Ybulkaenq
