/-
  DERIVED. GIVEN WITH THE SEED: THE CARDS: each row of YbulkbcfcFmtRows.lean that lists a variable, with what it lists TIED to the program's text (the seventh form; the later family's looks); each row that meets fmt, with fmt's text TOLD by the authors' own Lean function (tested against real Go, not proved from fmt's source: count such statements apart). THE CARD IS WHAT COUNTS. Prove the row's statement (the work); the ties are given (YbulkbcfcFmtTie.lean); close each card by the builder's one call (the guide's Derived/Test/ToyasCard.lean, 'card_holds'). Laid BY PROGRAM, IN A SANDBOX (cutbox-door.mjs). By AI agents, Wed Nov 11 2026. No macro, syntax, notation, axiom, sorry.
-/
import Derived.Test.YbulkbcfcFmtRows
import GoSem.ClaimSeven
namespace Go.Proofs.YbulkbcfcFmt
namespace Rows

/-- THE TOLD AND TIED CARD OF 'wire.LawS2667CRoundTrip'. -/
def lawS2667CRoundTripCard : Claim7 := { stood := { row := lawS2667CRoundTripRow, standIns := [], harness := (true, "2ad15da7068d528eef150c384ef1d579acd743e1ab85e12a496e7c3efee91a16"), looks := false }, told := true, laidByText := true, laidKinds := [.sentinel, .sentinel], laidTests := true, laidLooks := .later, goes := false }
def LawS2667CRoundTripToldSaid : Prop := Claim7.holds Ybaf.pinned (.plain (OpenSpec.ofChange lawS2667CRoundTripSpec)) lawS2667CRoundTripCard
/-- ITS FALSE NEIGHBOUR. Refute it at one input. -/
def LawS2667CRoundTripToldWrongFalsely : Prop := Claim7.holds Ybaf.pinned (.plain (OpenSpec.ofChange lawS2667CRoundTripWrong)) lawS2667CRoundTripCard
end Rows
end Go.Proofs.YbulkbcfcFmt
