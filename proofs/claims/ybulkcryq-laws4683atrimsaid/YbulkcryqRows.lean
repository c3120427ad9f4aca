/-
  No cell of these rows narrows 'for every input' (looked for: loops, veiled, ifaces, maps, wideKeys, modest, calm, conditions, laid).
  DERIVED. THE GIVEN ROWS OF THIS SEAT. 1 by the template 'for every input the law returns true; each argument reads behind the call as it read before'; 0 by the template 'total and deterministic' (their statements: YbulkcryqTotals.lean).
  GIVEN WITH THE SEED: the statements are not yours to turn. If you find one false, say at which input.
  Laid BY PROGRAM, IN A SANDBOX (cutbox-rows.mjs): the forced cells as the released guide's own fill.sh prints them over the translation 9adc0157f204cb76… (all of the seat's roots in one cut). By AI agents, Wed Nov 11 2026. No macro, syntax, notation, axiom, sorry.
-/
import Derived.Test.YbulkcryqChecked
import GoSem.Claim
import GoSem.ClaimJoined
import GoSem.ClaimMapViews
import Derived.JoinedTies
import Derived.KernelRfl
namespace Go.Proofs.Ybulkcryq
/- THE CELL 'sum', in the pinned program and in every row, IS THE sha256 OF THE DUMP (.gsa) THAT YbulkcryqProg.lean LOADS. Nothing in Lean hashes anything: it is a label: what it is worth is what the hold of that sum in a sandbox is worth. -/
noncomputable def Yba.pinned : Pinned := { name := "ybulkcryq", sum := "9adc0157f204cb76ea732d16f87f48830e0c955c382f9951b82f948593d587af", checked := Yba.checked }
namespace Rows
def none {H : Type} : Left H := { results := [], args := [] }

/-- 'engine.LawS4683ATrim': WHATEVER THE INPUT: true; the input reads as it did. -/
def lawS4683ATrimSpec : ChangeSpec := { name := "lawS4683ATrim", fn := fun _ => fun
  | [d1, d2, d3] => { results := [.lit (.bool true)], args := [d1, d2, d3] }
  | _ => none }
def lawS4683ATrimRow : OpenClaim := { program := "ybulkcryq", sum := "9adc0157f204cb76ea732d16f87f48830e0c955c382f9951b82f948593d587af", func := "example.com/quorumlock/quorumlock/engine.LawS4683ATrim", spec := "lawS4683ATrim", unfollowed := true, recurses := true, named := ["encoding/binary.LittleEndian"], apart := false }
def LawS4683ATrimSaid : Prop := lawS4683ATrimRow.holds Yba.pinned (OpenSpec.ofChange lawS4683ATrimSpec)

/-- ITS FALSE NEIGHBOUR: 'it returns false'. Refute it at one input. -/
def lawS4683ATrimWrong : ChangeSpec := { name := "lawS4683ATrim", fn := fun _ => fun
  | [d1, d2, d3] => { results := [.lit (.bool false)], args := [d1, d2, d3] }
  | _ => none }
def LawS4683ATrimWrongFalsely : Prop := lawS4683ATrimRow.holds Yba.pinned (OpenSpec.ofChange lawS4683ATrimWrong)

end Rows
end Go.Proofs.Ybulkcryq
