/-
  DERIVED. GIVEN WITH THE SEED: THE CARDS: each row of YbulkaepgFmtRows.lean that lists a variable, with what it lists TIED to the program's text (the seventh form; the later family's looks); each row that meets fmt, with fmt's text TOLD by the authors' own Lean function (tested against real Go, not proved from fmt's source: count such statements apart). THE CARD IS WHAT COUNTS. Prove the row's statement (the work); the ties are given (YbulkaepgFmtTie.lean); close each card by the builder's one call (the guide's Derived/Test/ToyasCard.lean, 'card_holds'). Laid BY PROGRAM, IN A SANDBOX (cutbox-door.mjs). By AI agents, Wed Nov 11 2026. No macro, syntax, notation, axiom, sorry.
-/
import Derived.Test.YbulkaepgFmtRows
import GoSem.ClaimSeven
namespace Go.Proofs.YbulkaepgFmt
namespace Rows

/-- THE TOLD CARD OF 'sloyka.LawS1527CSeal'. -/
def lawS1527CSealCard : Claim7 := { stood := { row := lawS1527CSealRow, standIns := [], harness := (true, "26d5a6dc84923a61c743a8451e41f696cf65588019584f4835c0561073b138f5"), looks := false }, told := true, goes := false }
def LawS1527CSealToldSaid : Prop := Claim7.holds Ybaf.pinned (.plain (OpenSpec.ofChange lawS1527CSealSpec)) lawS1527CSealCard
/-- ITS FALSE NEIGHBOUR. Refute it at one input. -/
def LawS1527CSealToldWrongFalsely : Prop := Claim7.holds Ybaf.pinned (.plain (OpenSpec.ofChange lawS1527CSealWrong)) lawS1527CSealCard
end Rows
end Go.Proofs.YbulkaepgFmt
