/-
  No cell of these rows narrows 'for every input' (looked for: loops, veiled, ifaces, maps, wideKeys, modest, calm, conditions, laid).
  DERIVED. THE GIVEN ROWS OF THIS SEAT. 2 by the template 'for every input the law returns true; each argument reads behind the call as it read before'; 0 by the template 'total and deterministic' (their statements: YbulkaekkTotals.lean).
  GIVEN WITH THE SEED: the statements are not yours to turn. If you find one false, say at which input.
  Laid BY PROGRAM, IN A SANDBOX (cutbox-rows.mjs): the forced cells as the released guide's own fill.sh prints them over the translation bb75f04c67df033e… (all of the seat's roots in one cut). By AI agents, Wed Nov 11 2026. No macro, syntax, notation, axiom, sorry.
-/
import Derived.Test.YbulkaekkChecked
import GoSem.Claim
import GoSem.ClaimJoined
import GoSem.ClaimMapViews
import Derived.JoinedTies
import Derived.KernelRfl
namespace Go.Proofs.Ybulkaekk
/- THE CELL 'sum', in the pinned program and in every row, IS THE sha256 OF THE DUMP (.gsa) THAT YbulkaekkProg.lean LOADS. Nothing in Lean hashes anything: it is a label: what it is worth is what the hold of that sum in a sandbox is worth. -/
noncomputable def Yba.pinned : Pinned := { name := "ybulkaekk", sum := "bb75f04c67df033ef8c3660841b4777a0daf706db15b58b6dc7be0d38ba40de3", checked := Yba.checked }
namespace Rows
def none {H : Type} : Left H := { results := [], args := [] }

/-- 'pack.LawS1518AModel': WHATEVER THE INPUT: true; the input reads as it did. -/
def lawS1518AModelSpec : ChangeSpec := { name := "lawS1518AModel", fn := fun _ => fun
  | [d] => { results := [.lit (.bool true)], args := [d] }
  | _ => none }
def lawS1518AModelRow : OpenClaim := { program := "ybulkaekk", sum := "bb75f04c67df033ef8c3660841b4777a0daf706db15b58b6dc7be0d38ba40de3", func := "example.com/hashbridge/hashbridge/pkg/pack.LawS1518AModel", spec := "lawS1518AModel", apart := false }
def LawS1518AModelSaid : Prop := lawS1518AModelRow.holds Yba.pinned (OpenSpec.ofChange lawS1518AModelSpec)

/-- ITS FALSE NEIGHBOUR: 'it returns false'. Refute it at one input. -/
def lawS1518AModelWrong : ChangeSpec := { name := "lawS1518AModel", fn := fun _ => fun
  | [d] => { results := [.lit (.bool false)], args := [d] }
  | _ => none }
def LawS1518AModelWrongFalsely : Prop := lawS1518AModelRow.holds Yba.pinned (OpenSpec.ofChange lawS1518AModelWrong)

/-- 'pack.LawS1518ARoundTrip': WHATEVER THE INPUT: true; the input reads as it did. -/
def lawS1518ARoundTripSpec : ChangeSpec := { name := "lawS1518ARoundTrip", fn := fun _ => fun
  | [d1, d2] => { results := [.lit (.bool true)], args := [d1, d2] }
  | _ => none }
def lawS1518ARoundTripRow : OpenClaim := { program := "ybulkaekk", sum := "bb75f04c67df033ef8c3660841b4777a0daf706db15b58b6dc7be0d38ba40de3", func := "example.com/hashbridge/hashbridge/pkg/pack.LawS1518ARoundTrip", spec := "lawS1518ARoundTrip", apart := false }
def LawS1518ARoundTripSaid : Prop := lawS1518ARoundTripRow.holds Yba.pinned (OpenSpec.ofChange lawS1518ARoundTripSpec)

/-- ITS FALSE NEIGHBOUR: 'it returns false'. Refute it at one input. -/
def lawS1518ARoundTripWrong : ChangeSpec := { name := "lawS1518ARoundTrip", fn := fun _ => fun
  | [d1, d2] => { results := [.lit (.bool false)], args := [d1, d2] }
  | _ => none }
def LawS1518ARoundTripWrongFalsely : Prop := lawS1518ARoundTripRow.holds Yba.pinned (OpenSpec.ofChange lawS1518ARoundTripWrong)

end Rows
end Go.Proofs.Ybulkaekk
