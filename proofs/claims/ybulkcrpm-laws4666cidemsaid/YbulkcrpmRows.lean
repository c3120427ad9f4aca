/-
  No cell of these rows narrows 'for every input' (looked for: loops, veiled, ifaces, maps, wideKeys, modest, calm, conditions, laid).
  DERIVED. THE GIVEN ROWS OF THIS SEAT. 3 by the template 'for every input the law returns true; each argument reads behind the call as it read before'; 0 by the template 'total and deterministic' (their statements: YbulkcrpmTotals.lean).
  GIVEN WITH THE SEED: the statements are not yours to turn. If you find one false, say at which input.
  Laid BY PROGRAM, IN A SANDBOX (cutbox-rows.mjs): the forced cells as the released guide's own fill.sh prints them over the translation 6b770e42087b1b88… (all of the seat's roots in one cut). By AI agents, Wed Nov 11 2026. No macro, syntax, notation, axiom, sorry.
-/
import Derived.Test.YbulkcrpmChecked
import GoSem.Claim
import GoSem.ClaimJoined
import GoSem.ClaimMapViews
import Derived.JoinedTies
import Derived.KernelRfl
namespace Go.Proofs.Ybulkcrpm
/- THE CELL 'sum', in the pinned program and in every row, IS THE sha256 OF THE DUMP (.gsa) THAT YbulkcrpmProg.lean LOADS. Nothing in Lean hashes anything: it is a label: what it is worth is what the hold of that sum in a sandbox is worth. -/
noncomputable def Yba.pinned : Pinned := { name := "ybulkcrpm", sum := "6b770e42087b1b88ae66b5bc470b64e0937ecb254efa1d83bf0edc8bfabf3e9d", checked := Yba.checked }
namespace Rows
def none {H : Type} : Left H := { results := [], args := [] }

/-- 'scenario.LawS4666AUsage': WHATEVER THE INPUT: true; the input reads as it did. -/
def lawS4666AUsageSpec : ChangeSpec := { name := "lawS4666AUsage", fn := fun _ => fun
  | [d1, d2, d3, d4, d5, d6] => { results := [.lit (.bool true)], args := [d1, d2, d3, d4, d5, d6] }
  | _ => none }
def lawS4666AUsageRow : OpenClaim := { program := "ybulkcrpm", sum := "6b770e42087b1b88ae66b5bc470b64e0937ecb254efa1d83bf0edc8bfabf3e9d", func := "example.com/junctor/junctor/internal/scenario.LawS4666AUsage", spec := "lawS4666AUsage", inPlace := ["internal/abi.NoEscape", "internal/bytealg.MakeNoZero"], apart := false }
def LawS4666AUsageSaid : Prop := lawS4666AUsageRow.holds Yba.pinned (OpenSpec.ofChange lawS4666AUsageSpec)

/-- ITS FALSE NEIGHBOUR: 'it returns false'. Refute it at one input. -/
def lawS4666AUsageWrong : ChangeSpec := { name := "lawS4666AUsage", fn := fun _ => fun
  | [d1, d2, d3, d4, d5, d6] => { results := [.lit (.bool false)], args := [d1, d2, d3, d4, d5, d6] }
  | _ => none }
def LawS4666AUsageWrongFalsely : Prop := lawS4666AUsageRow.holds Yba.pinned (OpenSpec.ofChange lawS4666AUsageWrong)

/-- 'call.LawS4666CExact': WHATEVER THE INPUT: true; the input reads as it did. -/
def lawS4666CExactSpec : ChangeSpec := { name := "lawS4666CExact", fn := fun _ => fun
  | [d1, d2] => { results := [.lit (.bool true)], args := [d1, d2] }
  | _ => none }
def lawS4666CExactRow : OpenClaim := { program := "ybulkcrpm", sum := "6b770e42087b1b88ae66b5bc470b64e0937ecb254efa1d83bf0edc8bfabf3e9d", func := "example.com/junctor/junctor/internal/call.LawS4666CExact", spec := "lawS4666CExact", apart := false }
def LawS4666CExactSaid : Prop := lawS4666CExactRow.holds Yba.pinned (OpenSpec.ofChange lawS4666CExactSpec)

/-- ITS FALSE NEIGHBOUR: 'it returns false'. Refute it at one input. -/
def lawS4666CExactWrong : ChangeSpec := { name := "lawS4666CExact", fn := fun _ => fun
  | [d1, d2] => { results := [.lit (.bool false)], args := [d1, d2] }
  | _ => none }
def LawS4666CExactWrongFalsely : Prop := lawS4666CExactRow.holds Yba.pinned (OpenSpec.ofChange lawS4666CExactWrong)

/-- 'call.LawS4666CIdem': WHATEVER THE INPUT: true; the input reads as it did. -/
def lawS4666CIdemSpec : ChangeSpec := { name := "lawS4666CIdem", fn := fun _ => fun
  | [d1, d2, d3] => { results := [.lit (.bool true)], args := [d1, d2, d3] }
  | _ => none }
def lawS4666CIdemRow : OpenClaim := { program := "ybulkcrpm", sum := "6b770e42087b1b88ae66b5bc470b64e0937ecb254efa1d83bf0edc8bfabf3e9d", func := "example.com/junctor/junctor/internal/call.LawS4666CIdem", spec := "lawS4666CIdem", apart := false }
def LawS4666CIdemSaid : Prop := lawS4666CIdemRow.holds Yba.pinned (OpenSpec.ofChange lawS4666CIdemSpec)

/-- ITS FALSE NEIGHBOUR: 'it returns false'. Refute it at one input. -/
def lawS4666CIdemWrong : ChangeSpec := { name := "lawS4666CIdem", fn := fun _ => fun
  | [d1, d2, d3] => { results := [.lit (.bool false)], args := [d1, d2, d3] }
  | _ => none }
def LawS4666CIdemWrongFalsely : Prop := lawS4666CIdemRow.holds Yba.pinned (OpenSpec.ofChange lawS4666CIdemWrong)

end Rows
end Go.Proofs.Ybulkcrpm
