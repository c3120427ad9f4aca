/-
  No cell of these rows narrows 'for every input' (looked for: loops, veiled, ifaces, maps, wideKeys, modest, calm, conditions, laid).
  DERIVED. THE GIVEN ROWS OF THIS SEAT. 2 by the template 'for every input the law returns true; each argument reads behind the call as it read before'; 0 by the template 'total and deterministic' (their statements: YbulkcrtgFmtTotals.lean).
  GIVEN WITH THE SEED: the statements are not yours to turn. If you find one false, say at which input.
  Laid BY PROGRAM, IN A SANDBOX (cutbox-rows.mjs): the forced cells as the released guide's own fill.sh prints them over the translation a712d50ef44a33d9… (all of the seat's roots in one cut). By AI agents, Wed Nov 11 2026. No macro, syntax, notation, axiom, sorry.
-/
import Derived.Test.YbulkcrtgFmtChecked
import GoSem.Claim
import GoSem.ClaimJoined
import GoSem.ClaimMapViews
import Derived.JoinedTies
import Derived.KernelRfl
namespace Go.Proofs.YbulkcrtgFmt
/- THE CELL 'sum', in the pinned program and in every row, IS THE sha256 OF THE DUMP (.gsa) THAT YbulkcrtgFmtProg.lean LOADS. Nothing in Lean hashes anything: it is a label: what it is worth is what the hold of that sum in a sandbox is worth. -/
noncomputable def Ybaf.pinned : Pinned := { name := "ybulkcrtgfmt", sum := "a712d50ef44a33d926318f57588e9229eefab0c053952477aba5f04cc64d60fa", checked := Ybaf.checked }
namespace Rows
def none {H : Type} : Left H := { results := [], args := [] }

/-- 'happenstamp.LawS4673ADecodeWhole': WHATEVER THE INPUT: true; the input reads as it did. -/
def lawS4673ADecodeWholeSpec : ChangeSpec := { name := "lawS4673ADecodeWhole", fn := fun _ => fun
  | [d1, d2, d3, d4, d5, d6, d7] => { results := [.lit (.bool true)], args := [d1, d2, d3, d4, d5, d6, d7] }
  | _ => none }
def lawS4673ADecodeWholeRow : OpenClaim := { program := "ybulkcrtgfmt", sum := "a712d50ef44a33d926318f57588e9229eefab0c053952477aba5f04cc64d60fa", func := "example.com/happenstamp/happenstamp.LawS4673ADecodeWhole", spec := "lawS4673ADecodeWhole", stops := ["fmt.errorf"], inPlace := ["fmt.errorf"], unfollowed := true, recurses := true, apart := false }
/-- NO THEOREM (fmt's text is open here; it may be false): for the released tool's asking of the row's closed facts alone. THE STATEMENT IS 'LawS4673ADecodeWholeToldSaid' (YbulkcrtgFmtCards.lean). -/
def LawS4673ADecodeWholeFormAsk : Prop := lawS4673ADecodeWholeRow.holds Ybaf.pinned (OpenSpec.ofChange lawS4673ADecodeWholeSpec)

/-- ITS FALSE NEIGHBOUR: 'it returns false'. Refute it at one input. -/
def lawS4673ADecodeWholeWrong : ChangeSpec := { name := "lawS4673ADecodeWhole", fn := fun _ => fun
  | [d1, d2, d3, d4, d5, d6, d7] => { results := [.lit (.bool false)], args := [d1, d2, d3, d4, d5, d6, d7] }
  | _ => none }
def LawS4673ADecodeWholeWrongFormAsk : Prop := lawS4673ADecodeWholeRow.holds Ybaf.pinned (OpenSpec.ofChange lawS4673ADecodeWholeWrong)

/-- 'happenstamp.LawS4673CDiffScript': WHATEVER THE INPUT: true; the input reads as it did. -/
def lawS4673CDiffScriptSpec : ChangeSpec := { name := "lawS4673CDiffScript", fn := fun _ => fun
  | [d1, d2, d3, d4, d5, d6] => { results := [.lit (.bool true)], args := [d1, d2, d3, d4, d5, d6] }
  | _ => none }
def lawS4673CDiffScriptRow : OpenClaim := { program := "ybulkcrtgfmt", sum := "a712d50ef44a33d926318f57588e9229eefab0c053952477aba5f04cc64d60fa", func := "example.com/happenstamp/happenstamp.LawS4673CDiffScript", spec := "lawS4673CDiffScript", stops := ["fmt.errorf"], inPlace := ["internal/bytealg.abigen_runtime_cmpstring", "fmt.errorf", "slices.overlaps[string]", "slices.overlaps[uint64]", "(*internal/sync.Mutex).Lock", "internal/race.Disable", "sync/atomic.CompareAndSwapInt32", "internal/race.Enable", "internal/race.Acquire", "(*internal/sync.Mutex).lockSlow", "internal/sync.runtime_canSpin", "internal/sync.runtime_doSpin", "internal/sync.throw", "internal/sync.runtime_nanotime", "internal/sync.runtime_SemacquireMutex", "sync/atomic.AddInt32", "(*internal/sync.Mutex).Unlock", "internal/race.ReleaseMerge", "(*internal/sync.Mutex).unlockSlow", "internal/sync.fatal", "internal/sync.runtime_Semrelease", "slices.overlaps[example.com/happenstamp/happenstamp.entry]"], unfollowed := true, recurses := true, apart := false }
/-- NO THEOREM (fmt's text is open here; it may be false): for the released tool's asking of the row's closed facts alone. THE STATEMENT IS 'LawS4673CDiffScriptToldSaid' (YbulkcrtgFmtCards.lean). -/
def LawS4673CDiffScriptFormAsk : Prop := lawS4673CDiffScriptRow.holds Ybaf.pinned (OpenSpec.ofChange lawS4673CDiffScriptSpec)

/-- ITS FALSE NEIGHBOUR: 'it returns false'. Refute it at one input. -/
def lawS4673CDiffScriptWrong : ChangeSpec := { name := "lawS4673CDiffScript", fn := fun _ => fun
  | [d1, d2, d3, d4, d5, d6] => { results := [.lit (.bool false)], args := [d1, d2, d3, d4, d5, d6] }
  | _ => none }
def LawS4673CDiffScriptWrongFormAsk : Prop := lawS4673CDiffScriptRow.holds Ybaf.pinned (OpenSpec.ofChange lawS4673CDiffScriptWrong)

end Rows
end Go.Proofs.YbulkcrtgFmt
