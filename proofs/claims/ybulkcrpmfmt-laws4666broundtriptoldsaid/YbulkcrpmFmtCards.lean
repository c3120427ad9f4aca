/-
  DERIVED. GIVEN WITH THE SEED: THE CARDS: each row of YbulkcrpmFmtRows.lean that lists a variable, with what it lists TIED to the program's text (the seventh form; the later family's looks); each row that meets fmt, with fmt's text TOLD by the authors' own Lean function (tested against real Go, not proved from fmt's source: count such statements apart). THE CARD IS WHAT COUNTS. Prove the row's statement (the work); the ties are given (YbulkcrpmFmtTie.lean); close each card by the builder's one call (the guide's Derived/Test/ToyasCard.lean, 'card_holds'). Laid BY PROGRAM, IN A SANDBOX (cutbox-door.mjs). By AI agents, Wed Nov 11 2026. No macro, syntax, notation, axiom, sorry.
-/
import Derived.Test.YbulkcrpmFmtRows
import GoSem.ClaimSeven
namespace Go.Proofs.YbulkcrpmFmt
namespace Rows

/-- THE TOLD CARD OF 'm3ua.LawS4666BBytes'. -/
def lawS4666BBytesCard : Claim7 := { stood := { row := lawS4666BBytesRow, standIns := [], harness := (true, "8561471f2e5076f718fc410b7d5588e4b7c7b69d3dbd02ebb1cab5d2a02b5340"), looks := false }, told := true, goes := false }
def LawS4666BBytesToldSaid : Prop := Claim7.holds Ybaf.pinned (.plain (OpenSpec.ofChange lawS4666BBytesSpec)) lawS4666BBytesCard
/-- ITS FALSE NEIGHBOUR. Refute it at one input. -/
def LawS4666BBytesToldWrongFalsely : Prop := Claim7.holds Ybaf.pinned (.plain (OpenSpec.ofChange lawS4666BBytesWrong)) lawS4666BBytesCard

/-- THE TOLD AND TIED CARD OF 'm3ua.LawS4666BRoundTrip'. -/
def lawS4666BRoundTripCard : Claim7 := { stood := { row := lawS4666BRoundTripRow, standIns := [], harness := (true, "8561471f2e5076f718fc410b7d5588e4b7c7b69d3dbd02ebb1cab5d2a02b5340"), looks := false }, told := true, laidByText := true, laidKinds := [.sentinel], laidTests := true, laidLooks := .later, goes := false }
def LawS4666BRoundTripToldSaid : Prop := Claim7.holds Ybaf.pinned (.plain (OpenSpec.ofChange lawS4666BRoundTripSpec)) lawS4666BRoundTripCard
/-- ITS FALSE NEIGHBOUR. Refute it at one input. -/
def LawS4666BRoundTripToldWrongFalsely : Prop := Claim7.holds Ybaf.pinned (.plain (OpenSpec.ofChange lawS4666BRoundTripWrong)) lawS4666BRoundTripCard

/-- THE TOLD CARD OF 'm3ua.LawS4666BRefuse'. -/
def lawS4666BRefuseCard : Claim7 := { stood := { row := lawS4666BRefuseRow, standIns := [], harness := (true, "8561471f2e5076f718fc410b7d5588e4b7c7b69d3dbd02ebb1cab5d2a02b5340"), looks := false }, told := true, goes := false }
def LawS4666BRefuseToldSaid : Prop := Claim7.holds Ybaf.pinned (.plain (OpenSpec.ofChange lawS4666BRefuseSpec)) lawS4666BRefuseCard
/-- ITS FALSE NEIGHBOUR. Refute it at one input. -/
def LawS4666BRefuseToldWrongFalsely : Prop := Claim7.holds Ybaf.pinned (.plain (OpenSpec.ofChange lawS4666BRefuseWrong)) lawS4666BRefuseCard
end Rows
end Go.Proofs.YbulkcrpmFmt
