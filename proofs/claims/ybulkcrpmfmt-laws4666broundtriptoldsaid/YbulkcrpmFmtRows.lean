/-
  NARROWER THAN 'FOR EVERY INPUT', by the rows' own cells (each row's printed sentence says how): LawS4666BRoundTrip: ifaces, laid.
  DERIVED. THE GIVEN ROWS OF THIS SEAT. 3 by the template 'for every input the law returns true; each argument reads behind the call as it read before'; 0 by the template 'total and deterministic' (their statements: YbulkcrpmFmtTotals.lean).
  GIVEN WITH THE SEED: the statements are not yours to turn. If you find one false, say at which input.
  Laid BY PROGRAM, IN A SANDBOX (cutbox-rows.mjs): the forced cells as the released guide's own fill.sh prints them over the translation a7263bff61789eeb… (all of the seat's roots in one cut). By AI agents, Wed Nov 11 2026. No macro, syntax, notation, axiom, sorry.
-/
import Derived.Test.YbulkcrpmFmtChecked
import GoSem.Claim
import GoSem.ClaimJoined
import GoSem.ClaimMapViews
import Derived.JoinedTies
import Derived.KernelRfl
namespace Go.Proofs.YbulkcrpmFmt
/- THE CELL 'sum', in the pinned program and in every row, IS THE sha256 OF THE DUMP (.gsa) THAT YbulkcrpmFmtProg.lean LOADS. Nothing in Lean hashes anything: it is a label: what it is worth is what the hold of that sum in a sandbox is worth. -/
noncomputable def Ybaf.pinned : Pinned := { name := "ybulkcrpmfmt", sum := "a7263bff61789eebae8fe63c5822bf1fdf9da00d87eaf8c14bd502451ac7f596", checked := Ybaf.checked }
namespace Rows
def none {H : Type} : Left H := { results := [], args := [] }

/- WHAT THE LISTED PACKAGE-LEVEL VARIABLES READ AS WHEN THE CALL BEGINS. Each datum BY PROGRAM (the guide's laid-datum.mjs) off the statement by which the dump's own 'gosem.cut.vars' lays the variable. In a bare row this is a premise. The card (YbulkcrpmFmtCards.lean) ties it to the program's text. -/
def laid_example_com_junctor_junctor_m3ua_ErrVersion {H : Type} : DataW H := .iface "*errors.errorString" (.ptr (.agg [.lit (.string [109, 51, 117, 97, 58, 32, 118, 101, 114, 115, 105, 111, 110, 32, 111, 116, 104, 101, 114, 32, 116, 104, 97, 110, 32, 49])]))

/-- 'm3ua.LawS4666BBytes': WHATEVER THE INPUT: true; the input reads as it did. -/
def lawS4666BBytesSpec : ChangeSpec := { name := "lawS4666BBytes", fn := fun _ => fun
  | [d1, d2] => { results := [.lit (.bool true)], args := [d1, d2] }
  | _ => none }
def lawS4666BBytesRow : OpenClaim := { program := "ybulkcrpmfmt", sum := "a7263bff61789eebae8fe63c5822bf1fdf9da00d87eaf8c14bd502451ac7f596", func := "example.com/junctor/junctor/m3ua.LawS4666BBytes", spec := "lawS4666BBytes", stops := ["fmt.errorf"], inPlace := ["fmt.errorf"], named := ["encoding/binary.BigEndian"], apart := false }
/-- NO THEOREM (fmt's text is open here; it may be false): for the released tool's asking of the row's closed facts alone. THE STATEMENT IS 'LawS4666BBytesToldSaid' (YbulkcrpmFmtCards.lean). -/
def LawS4666BBytesFormAsk : Prop := lawS4666BBytesRow.holds Ybaf.pinned (OpenSpec.ofChange lawS4666BBytesSpec)

/-- ITS FALSE NEIGHBOUR: 'it returns false'. Refute it at one input. -/
def lawS4666BBytesWrong : ChangeSpec := { name := "lawS4666BBytes", fn := fun _ => fun
  | [d1, d2] => { results := [.lit (.bool false)], args := [d1, d2] }
  | _ => none }
def LawS4666BBytesWrongFormAsk : Prop := lawS4666BBytesRow.holds Ybaf.pinned (OpenSpec.ofChange lawS4666BBytesWrong)

/-- 'm3ua.LawS4666BRoundTrip': WHATEVER THE INPUT: true; the input reads as it did. -/
def lawS4666BRoundTripSpec : ChangeSpec := { name := "lawS4666BRoundTrip", vars := ["example.com/junctor/junctor/m3ua.ErrVersion"], fn := fun _ => fun
  | [d1, d2, g1] => { results := [.lit (.bool true)], args := [d1, d2], vars := [g1] }
  | _ => none }
def lawS4666BRoundTripRow : OpenClaim := { program := "ybulkcrpmfmt", sum := "a7263bff61789eebae8fe63c5822bf1fdf9da00d87eaf8c14bd502451ac7f596", func := "example.com/junctor/junctor/m3ua.LawS4666BRoundTrip", spec := "lawS4666BRoundTrip", stops := ["fmt.errorf"], inPlace := ["fmt.errorf"], named := ["encoding/binary.BigEndian", "example.com/junctor/junctor/m3ua.ErrVersion"], ifaces := true, apart := false, laid := [("example.com/junctor/junctor/m3ua.ErrVersion", laid_example_com_junctor_junctor_m3ua_ErrVersion)] }
/-- NO THEOREM (fmt's text is open here; it may be false): for the released tool's asking of the row's closed facts alone. THE STATEMENT IS 'LawS4666BRoundTripToldSaid' (YbulkcrpmFmtCards.lean). -/
def LawS4666BRoundTripFormAsk : Prop := lawS4666BRoundTripRow.holds Ybaf.pinned (OpenSpec.ofChange lawS4666BRoundTripSpec)

/-- ITS FALSE NEIGHBOUR: 'it returns false'. Refute it at one input. -/
def lawS4666BRoundTripWrong : ChangeSpec := { name := "lawS4666BRoundTrip", vars := ["example.com/junctor/junctor/m3ua.ErrVersion"], fn := fun _ => fun
  | [d1, d2, g1] => { results := [.lit (.bool false)], args := [d1, d2], vars := [g1] }
  | _ => none }
def LawS4666BRoundTripWrongFormAsk : Prop := lawS4666BRoundTripRow.holds Ybaf.pinned (OpenSpec.ofChange lawS4666BRoundTripWrong)

/-- 'm3ua.LawS4666BRefuse': WHATEVER THE INPUT: true; the input reads as it did. -/
def lawS4666BRefuseSpec : ChangeSpec := { name := "lawS4666BRefuse", fn := fun _ => fun
  | [d1, d2] => { results := [.lit (.bool true)], args := [d1, d2] }
  | _ => none }
def lawS4666BRefuseRow : OpenClaim := { program := "ybulkcrpmfmt", sum := "a7263bff61789eebae8fe63c5822bf1fdf9da00d87eaf8c14bd502451ac7f596", func := "example.com/junctor/junctor/m3ua.LawS4666BRefuse", spec := "lawS4666BRefuse", stops := ["fmt.errorf"], inPlace := ["fmt.errorf"], named := ["encoding/binary.BigEndian"], apart := false }
/-- NO THEOREM (fmt's text is open here; it may be false): for the released tool's asking of the row's closed facts alone. THE STATEMENT IS 'LawS4666BRefuseToldSaid' (YbulkcrpmFmtCards.lean). -/
def LawS4666BRefuseFormAsk : Prop := lawS4666BRefuseRow.holds Ybaf.pinned (OpenSpec.ofChange lawS4666BRefuseSpec)

/-- ITS FALSE NEIGHBOUR: 'it returns false'. Refute it at one input. -/
def lawS4666BRefuseWrong : ChangeSpec := { name := "lawS4666BRefuse", fn := fun _ => fun
  | [d1, d2] => { results := [.lit (.bool false)], args := [d1, d2] }
  | _ => none }
def LawS4666BRefuseWrongFormAsk : Prop := lawS4666BRefuseRow.holds Ybaf.pinned (OpenSpec.ofChange lawS4666BRefuseWrong)

end Rows
end Go.Proofs.YbulkcrpmFmt
