/-
  NARROWER THAN 'FOR EVERY INPUT', by the rows' own cells (each row's printed sentence says how): LawS2667CRoundTrip: ifaces, laid.
  DERIVED. THE GIVEN ROWS OF THIS SEAT. 1 by the template 'for every input the law returns true; each argument reads behind the call as it read before'; 0 by the template 'total and deterministic' (their statements: YbulkbcfcFmtTotals.lean).
  GIVEN WITH THE SEED: the statements are not yours to turn. If you find one false, say at which input.
  Laid BY PROGRAM, IN A SANDBOX (cutbox-rows.mjs): the forced cells as the released guide's own fill.sh prints them over the translation 619176a4dd749789… (all of the seat's roots in one cut). By AI agents, Wed Nov 11 2026. No macro, syntax, notation, axiom, sorry.
-/
import Derived.Test.YbulkbcfcFmtChecked
import GoSem.Claim
import GoSem.ClaimJoined
import GoSem.ClaimMapViews
import Derived.JoinedTies
import Derived.KernelRfl
namespace Go.Proofs.YbulkbcfcFmt
/- THE CELL 'sum', in the pinned program and in every row, IS THE sha256 OF THE DUMP (.gsa) THAT YbulkbcfcFmtProg.lean LOADS. Nothing in Lean hashes anything: it is a label: what it is worth is what the hold of that sum in a sandbox is worth. -/
noncomputable def Ybaf.pinned : Pinned := { name := "ybulkbcfcfmt", sum := "619176a4dd74978911706a27f93ca92aa955c7945cf85a7bba33d545bd7f4eb9", checked := Ybaf.checked }
namespace Rows
def none {H : Type} : Left H := { results := [], args := [] }

/- WHAT THE LISTED PACKAGE-LEVEL VARIABLES READ AS WHEN THE CALL BEGINS. Each datum BY PROGRAM (the guide's laid-datum.mjs) off the statement by which the dump's own 'gosem.cut.vars' lays the variable. In a bare row this is a premise. The card (YbulkbcfcFmtCards.lean) ties it to the program's text. -/
def laid_example_com_oncewire_oncewire_pkg_wire_errShort {H : Type} : DataW H := .iface "*errors.errorString" (.ptr (.agg [.lit (.string [119, 105, 114, 101, 58, 32, 109, 101, 115, 115, 97, 103, 101, 32, 105, 115, 32, 99, 117, 116, 32, 115, 104, 111, 114, 116])]))
def laid_example_com_oncewire_oncewire_pkg_wire_errTooBig {H : Type} : DataW H := .iface "*errors.errorString" (.ptr (.agg [.lit (.string [119, 105, 114, 101, 58, 32, 110, 117, 109, 98, 101, 114, 32, 100, 111, 101, 115, 32, 110, 111, 116, 32, 102, 105, 116, 32, 105, 110, 32, 54, 52, 32, 98, 105, 116, 115])]))

/-- 'wire.LawS2667CRoundTrip': WHATEVER THE INPUT: true; the input reads as it did. -/
def lawS2667CRoundTripSpec : ChangeSpec := { name := "lawS2667CRoundTrip", vars := ["example.com/oncewire/oncewire/pkg/wire.errShort", "example.com/oncewire/oncewire/pkg/wire.errTooBig"], fn := fun _ => fun
  | [d1, d2, d3, d4, g1, g2] => { results := [.lit (.bool true)], args := [d1, d2, d3, d4], vars := [g1, g2] }
  | _ => none }
def lawS2667CRoundTripRow : OpenClaim := { program := "ybulkbcfcfmt", sum := "619176a4dd74978911706a27f93ca92aa955c7945cf85a7bba33d545bd7f4eb9", func := "example.com/oncewire/oncewire/pkg/wire.LawS2667CRoundTrip", spec := "lawS2667CRoundTrip", stops := ["fmt.errorf"], inPlace := ["fmt.errorf"], named := ["example.com/oncewire/oncewire/pkg/wire.errShort", "example.com/oncewire/oncewire/pkg/wire.errTooBig"], ifaces := true, apart := false, laid := [("example.com/oncewire/oncewire/pkg/wire.errShort", laid_example_com_oncewire_oncewire_pkg_wire_errShort), ("example.com/oncewire/oncewire/pkg/wire.errTooBig", laid_example_com_oncewire_oncewire_pkg_wire_errTooBig)] }
/-- NO THEOREM (fmt's text is open here; it may be false): for the released tool's asking of the row's closed facts alone. THE STATEMENT IS 'LawS2667CRoundTripToldSaid' (YbulkbcfcFmtCards.lean). -/
def LawS2667CRoundTripFormAsk : Prop := lawS2667CRoundTripRow.holds Ybaf.pinned (OpenSpec.ofChange lawS2667CRoundTripSpec)

/-- ITS FALSE NEIGHBOUR: 'it returns false'. Refute it at one input. -/
def lawS2667CRoundTripWrong : ChangeSpec := { name := "lawS2667CRoundTrip", vars := ["example.com/oncewire/oncewire/pkg/wire.errShort", "example.com/oncewire/oncewire/pkg/wire.errTooBig"], fn := fun _ => fun
  | [d1, d2, d3, d4, g1, g2] => { results := [.lit (.bool false)], args := [d1, d2, d3, d4], vars := [g1, g2] }
  | _ => none }
def LawS2667CRoundTripWrongFormAsk : Prop := lawS2667CRoundTripRow.holds Ybaf.pinned (OpenSpec.ofChange lawS2667CRoundTripWrong)

end Rows
end Go.Proofs.YbulkbcfcFmt
