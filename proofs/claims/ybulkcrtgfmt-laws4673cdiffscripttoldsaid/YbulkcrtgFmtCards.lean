/-
  DERIVED. GIVEN WITH THE SEED: THE CARDS: each row of YbulkcrtgFmtRows.lean that lists a variable, with what it lists TIED to the program's text (the seventh form; the later family's looks); each row that meets fmt, with fmt's text TOLD by the authors' own Lean function (tested against real Go, not proved from fmt's source: count such statements apart). THE CARD IS WHAT COUNTS. Prove the row's statement (the work); the ties are given (YbulkcrtgFmtTie.lean); close each card by the builder's one call (the guide's Derived/Test/ToyasCard.lean, 'card_holds'). Laid BY PROGRAM, IN A SANDBOX (cutbox-door.mjs). By AI agents, Wed Nov 11 2026. No macro, syntax, notation, axiom, sorry.
-/
import Derived.Test.YbulkcrtgFmtRows
import GoSem.ClaimSeven
namespace Go.Proofs.YbulkcrtgFmt
namespace Rows

/-- THE TOLD CARD OF 'happenstamp.LawS4673ADecodeWhole'. -/
def lawS4673ADecodeWholeCard : Claim7 := { stood := { row := lawS4673ADecodeWholeRow, standIns := [], harness := (true, "98cbf0a7f23cdaa197c74201f84cfdfa1c7fd104da6afa18ca1a4b67667717cb"), looks := true }, told := true, goes := false }
def LawS4673ADecodeWholeToldSaid : Prop := Claim7.holds Ybaf.pinned (.plain (OpenSpec.ofChange lawS4673ADecodeWholeSpec)) lawS4673ADecodeWholeCard
/-- ITS FALSE NEIGHBOUR. Refute it at one input. -/
def LawS4673ADecodeWholeToldWrongFalsely : Prop := Claim7.holds Ybaf.pinned (.plain (OpenSpec.ofChange lawS4673ADecodeWholeWrong)) lawS4673ADecodeWholeCard

/-- THE TOLD CARD OF 'happenstamp.LawS4673CDiffScript'. -/
def lawS4673CDiffScriptCard : Claim7 := { stood := { row := lawS4673CDiffScriptRow, standIns := [], harness := (true, "98cbf0a7f23cdaa197c74201f84cfdfa1c7fd104da6afa18ca1a4b67667717cb"), looks := true }, told := true, goes := false }
def LawS4673CDiffScriptToldSaid : Prop := Claim7.holds Ybaf.pinned (.plain (OpenSpec.ofChange lawS4673CDiffScriptSpec)) lawS4673CDiffScriptCard
/-- ITS FALSE NEIGHBOUR. Refute it at one input. -/
def LawS4673CDiffScriptToldWrongFalsely : Prop := Claim7.holds Ybaf.pinned (.plain (OpenSpec.ofChange lawS4673CDiffScriptWrong)) lawS4673CDiffScriptCard
end Rows
end Go.Proofs.YbulkcrtgFmt
