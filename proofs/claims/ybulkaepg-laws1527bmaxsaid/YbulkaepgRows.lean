/-
  No cell of these rows narrows 'for every input' (looked for: loops, veiled, ifaces, maps, wideKeys, modest, calm, conditions, laid).
  DERIVED. THE GIVEN ROWS OF THIS SEAT. 1 by the template 'for every input the law returns true; each argument reads behind the call as it read before'; 0 by the template 'total and deterministic' (their statements: YbulkaepgTotals.lean).
  GIVEN WITH THE SEED: the statements are not yours to turn. If you find one false, say at which input.
  Laid BY PROGRAM, IN A SANDBOX (cutbox-rows.mjs): the forced cells as the released guide's own fill.sh prints them over the translation 26dcfb96bb273f36… (all of the seat's roots in one cut). By AI agents, Wed Nov 11 2026. No macro, syntax, notation, axiom, sorry.
-/
import Derived.Test.YbulkaepgChecked
import GoSem.Claim
import GoSem.ClaimJoined
import GoSem.ClaimMapViews
import Derived.JoinedTies
import Derived.KernelRfl
namespace Go.Proofs.Ybulkaepg
/- THE CELL 'sum', in the pinned program and in every row, IS THE sha256 OF THE DUMP (.gsa) THAT YbulkaepgProg.lean LOADS. Nothing in Lean hashes anything: it is a label: what it is worth is what the hold of that sum in a sandbox is worth. -/
noncomputable def Yba.pinned : Pinned := { name := "ybulkaepg", sum := "26dcfb96bb273f36ccd1c413e6b760e67717bad0653532254c26d87450181e88", checked := Yba.checked }
namespace Rows
def none {H : Type} : Left H := { results := [], args := [] }

/-- 'sloyka.LawS1527BMax': WHATEVER THE INPUT: true; the input reads as it did. -/
def lawS1527BMaxSpec : ChangeSpec := { name := "lawS1527BMax", fn := fun _ => fun
  | [d] => { results := [.lit (.bool true)], args := [d] }
  | _ => none }
def lawS1527BMaxRow : OpenClaim := { program := "ybulkaepg", sum := "26dcfb96bb273f36ccd1c413e6b760e67717bad0653532254c26d87450181e88", func := "example.com/sloyka/sloyka.LawS1527BMax", spec := "lawS1527BMax", apart := false }
def LawS1527BMaxSaid : Prop := lawS1527BMaxRow.holds Yba.pinned (OpenSpec.ofChange lawS1527BMaxSpec)

/-- ITS FALSE NEIGHBOUR: 'it returns false'. Refute it at one input. -/
def lawS1527BMaxWrong : ChangeSpec := { name := "lawS1527BMax", fn := fun _ => fun
  | [d] => { results := [.lit (.bool false)], args := [d] }
  | _ => none }
def LawS1527BMaxWrongFalsely : Prop := lawS1527BMaxRow.holds Yba.pinned (OpenSpec.ofChange lawS1527BMaxWrong)

end Rows
end Go.Proofs.Ybulkaepg
