/-
  No cell of these rows narrows 'for every input' (looked for: loops, veiled, ifaces, maps, wideKeys, modest, calm, conditions, laid).
  DERIVED. THE GIVEN ROWS OF THIS SEAT. 1 by the template 'for every input the law returns true; each argument reads behind the call as it read before'; 0 by the template 'total and deterministic' (their statements: YbulkaepgFmtTotals.lean).
  GIVEN WITH THE SEED: the statements are not yours to turn. If you find one false, say at which input.
  Laid BY PROGRAM, IN A SANDBOX (cutbox-rows.mjs): the forced cells as the released guide's own fill.sh prints them over the translation f440e79c70f80bfb… (all of the seat's roots in one cut). By AI agents, Wed Nov 11 2026. No macro, syntax, notation, axiom, sorry.
-/
import Derived.Test.YbulkaepgFmtChecked
import GoSem.Claim
import GoSem.ClaimJoined
import GoSem.ClaimMapViews
import Derived.JoinedTies
import Derived.KernelRfl
namespace Go.Proofs.YbulkaepgFmt
/- THE CELL 'sum', in the pinned program and in every row, IS THE sha256 OF THE DUMP (.gsa) THAT YbulkaepgFmtProg.lean LOADS. Nothing in Lean hashes anything: it is a label: what it is worth is what the hold of that sum in a sandbox is worth. -/
noncomputable def Ybaf.pinned : Pinned := { name := "ybulkaepgfmt", sum := "f440e79c70f80bfb94ed0012d19880be7ec5e40af7f1de7f86d36e0c838139bc", checked := Ybaf.checked }
namespace Rows
def none {H : Type} : Left H := { results := [], args := [] }

/-- 'sloyka.LawS1527CSeal': WHATEVER THE INPUT: true; the input reads as it did. -/
def lawS1527CSealSpec : ChangeSpec := { name := "lawS1527CSeal", fn := fun _ => fun
  | [d1, d2, d3, d4, d5] => { results := [.lit (.bool true)], args := [d1, d2, d3, d4, d5] }
  | _ => none }
def lawS1527CSealRow : OpenClaim := { program := "ybulkaepgfmt", sum := "f440e79c70f80bfb94ed0012d19880be7ec5e40af7f1de7f86d36e0c838139bc", func := "example.com/sloyka/sloyka.LawS1527CSeal", spec := "lawS1527CSeal", stops := ["fmt.errorf"], inPlace := ["(*sync.RWMutex).RLock", "internal/race.Read", "internal/race.Disable", "sync/atomic.AddInt32", "sync.runtime_SemacquireRWMutexR", "internal/race.Enable", "internal/race.Acquire", "(*sync.RWMutex).RUnlock", "internal/race.ReleaseMerge", "(*sync.RWMutex).rUnlockSlow", "sync.fatal", "sync.runtime_Semrelease", "fmt.errorf", "(*sync.RWMutex).Lock", "(*internal/sync.Mutex).Lock", "sync/atomic.CompareAndSwapInt32", "(*internal/sync.Mutex).lockSlow", "internal/sync.runtime_canSpin", "internal/sync.runtime_doSpin", "internal/sync.throw", "internal/sync.runtime_nanotime", "internal/sync.runtime_SemacquireMutex", "sync.runtime_SemacquireRWMutex", "sync/atomic.StorePointer", "(*sync.RWMutex).Unlock", "internal/race.Release", "(*internal/sync.Mutex).Unlock", "(*internal/sync.Mutex).unlockSlow", "internal/sync.fatal", "internal/sync.runtime_Semrelease", "sync/atomic.LoadPointer"], plainKeys := false, apart := false }
/-- NO THEOREM (fmt's text is open here; it may be false): for the released tool's asking of the row's closed facts alone. THE STATEMENT IS 'LawS1527CSealToldSaid' (YbulkaepgFmtCards.lean). -/
def LawS1527CSealFormAsk : Prop := lawS1527CSealRow.holds Ybaf.pinned (OpenSpec.ofChange lawS1527CSealSpec)

/-- ITS FALSE NEIGHBOUR: 'it returns false'. Refute it at one input. -/
def lawS1527CSealWrong : ChangeSpec := { name := "lawS1527CSeal", fn := fun _ => fun
  | [d1, d2, d3, d4, d5] => { results := [.lit (.bool false)], args := [d1, d2, d3, d4, d5] }
  | _ => none }
def LawS1527CSealWrongFormAsk : Prop := lawS1527CSealRow.holds Ybaf.pinned (OpenSpec.ofChange lawS1527CSealWrong)

end Rows
end Go.Proofs.YbulkaepgFmt
