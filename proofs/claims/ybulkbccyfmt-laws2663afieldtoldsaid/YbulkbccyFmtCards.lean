/-
  DERIVED. GIVEN WITH THE SEED: THE CARDS: each row of YbulkbccyFmtRows.lean that lists a variable, with what it lists TIED to the program's text (the seventh form; the later family's looks); each row that meets fmt, with fmt's text TOLD by the authors' own Lean function (tested against real Go, not proved from fmt's source: count such statements apart). THE CARD IS WHAT COUNTS. Prove the row's statement (the work); the ties are given (YbulkbccyFmtTie.lean); close each card by the builder's one call (the guide's Derived/Test/ToyasCard.lean, 'card_holds'). Laid BY PROGRAM, IN A SANDBOX (cutbox-door.mjs). By AI agents, Wed Nov 11 2026. No macro, syntax, notation, axiom, sorry.
-/
import Derived.Test.YbulkbccyFmtRows
import GoSem.ClaimSeven
namespace Go.Proofs.YbulkbccyFmt
namespace Rows

/-- THE TOLD CARD OF 'table.LawS2663AField'. -/
def lawS2663AFieldCard : Claim7 := { stood := { row := lawS2663AFieldRow, standIns := [], harness := (true, "7a25fd0a67ed1f22d97a9691ad6f3f47ee1a9c6059222a57889aee4cfb5300ac"), looks := true }, told := true, goes := false }
def LawS2663AFieldToldSaid : Prop := Claim7.holds Ybaf.pinned (.plain (OpenSpec.ofChange lawS2663AFieldSpec)) lawS2663AFieldCard
/-- ITS FALSE NEIGHBOUR. Refute it at one input. -/
def LawS2663AFieldToldWrongFalsely : Prop := Claim7.holds Ybaf.pinned (.plain (OpenSpec.ofChange lawS2663AFieldWrong)) lawS2663AFieldCard
end Rows
end Go.Proofs.YbulkbccyFmt
