/-
  No cell of these rows narrows 'for every input' (looked for: loops, veiled, ifaces, maps, wideKeys, modest, calm, conditions, laid).
  DERIVED. THE GIVEN ROWS OF THIS SEAT. 1 by the template 'for every input the law returns true; each argument reads behind the call as it read before'; 0 by the template 'total and deterministic' (their statements: YbulkaeoeTotals.lean).
  GIVEN WITH THE SEED: the statements are not yours to turn. If you find one false, say at which input.
  Laid BY PROGRAM, IN A SANDBOX (cutbox-rows.mjs): the forced cells as the released guide's own fill.sh prints them over the translation 7d75442e6ec249dd… (all of the seat's roots in one cut). By AI agents, Wed Nov 11 2026. No macro, syntax, notation, axiom, sorry.
-/
import Derived.Test.YbulkaeoeChecked
import GoSem.Claim
import GoSem.ClaimJoined
import GoSem.ClaimMapViews
import Derived.JoinedTies
import Derived.KernelRfl
namespace Go.Proofs.Ybulkaeoe
/- THE CELL 'sum', in the pinned program and in every row, IS THE sha256 OF THE DUMP (.gsa) THAT YbulkaeoeProg.lean LOADS. Nothing in Lean hashes anything: it is a label: what it is worth is what the hold of that sum in a sandbox is worth. -/
noncomputable def Yba.pinned : Pinned := { name := "ybulkaeoe", sum := "7d75442e6ec249dde7b3efc93131bbfdf789fe01a0a9b490c5bc6fe4e7236221", checked := Yba.checked }
namespace Rows
def none {H : Type} : Left H := { results := [], args := [] }

/-- 'sct.LawS1525AExact': WHATEVER THE INPUT: true; the input reads as it did. -/
def lawS1525AExactSpec : ChangeSpec := { name := "lawS1525AExact", fn := fun _ => fun
  | [d1, d2, d3] => { results := [.lit (.bool true)], args := [d1, d2, d3] }
  | _ => none }
def lawS1525AExactRow : OpenClaim := { program := "ybulkaeoe", sum := "7d75442e6ec249dde7b3efc93131bbfdf789fe01a0a9b490c5bc6fe4e7236221", func := "example.com/sameview/sameview/internal/sct.LawS1525AExact", spec := "lawS1525AExact", named := ["encoding/binary.BigEndian"], apart := false }
def LawS1525AExactSaid : Prop := lawS1525AExactRow.holds Yba.pinned (OpenSpec.ofChange lawS1525AExactSpec)

/-- ITS FALSE NEIGHBOUR: 'it returns false'. Refute it at one input. -/
def lawS1525AExactWrong : ChangeSpec := { name := "lawS1525AExact", fn := fun _ => fun
  | [d1, d2, d3] => { results := [.lit (.bool false)], args := [d1, d2, d3] }
  | _ => none }
def LawS1525AExactWrongFalsely : Prop := lawS1525AExactRow.holds Yba.pinned (OpenSpec.ofChange lawS1525AExactWrong)

end Rows
end Go.Proofs.Ybulkaeoe
