/-
  No cell of these rows narrows 'for every input' (looked for: loops, veiled, ifaces, maps, wideKeys, modest, calm, conditions, laid).
  DERIVED. THE GIVEN ROWS OF THIS SEAT. 1 by the template 'for every input the law returns true; each argument reads behind the call as it read before'; 0 by the template 'total and deterministic' (their statements: YbulkbccyFmtTotals.lean).
  GIVEN WITH THE SEED: the statements are not yours to turn. If you find one false, say at which input.
  Laid BY PROGRAM, IN A SANDBOX (cutbox-rows.mjs): the forced cells as the released guide's own fill.sh prints them over the translation 8434e1e023dd7c0f… (all of the seat's roots in one cut). By AI agents, Wed Nov 11 2026. No macro, syntax, notation, axiom, sorry.
-/
import Derived.Test.YbulkbccyFmtChecked
import GoSem.Claim
import GoSem.ClaimJoined
import GoSem.ClaimMapViews
import Derived.JoinedTies
import Derived.KernelRfl
namespace Go.Proofs.YbulkbccyFmt
/- THE CELL 'sum', in the pinned program and in every row, IS THE sha256 OF THE DUMP (.gsa) THAT YbulkbccyFmtProg.lean LOADS. Nothing in Lean hashes anything: it is a label: what it is worth is what the hold of that sum in a sandbox is worth. -/
noncomputable def Ybaf.pinned : Pinned := { name := "ybulkbccyfmt", sum := "8434e1e023dd7c0f659fdc85e7b1b5870ad73d4f5ac3f901f499ede90c525594", checked := Ybaf.checked }
namespace Rows
def none {H : Type} : Left H := { results := [], args := [] }

/-- 'table.LawS2663AField': WHATEVER THE INPUT: true; the input reads as it did. -/
def lawS2663AFieldSpec : ChangeSpec := { name := "lawS2663AField", fn := fun _ => fun
  | [d1, d2, d3, d4] => { results := [.lit (.bool true)], args := [d1, d2, d3, d4] }
  | _ => none }
def lawS2663AFieldRow : OpenClaim := { program := "ybulkbccyfmt", sum := "8434e1e023dd7c0f659fdc85e7b1b5870ad73d4f5ac3f901f499ede90c525594", func := "example.com/rendement/rendement/internal/table.LawS2663AField", spec := "lawS2663AField", stops := ["fmt.errorf"], inPlace := ["fmt.errorf", "internal/reflectlite.TypeOf"], unfollowed := true, recurses := true, apart := false }
/-- NO THEOREM (fmt's text is open here; it may be false): for the released tool's asking of the row's closed facts alone. THE STATEMENT IS 'LawS2663AFieldToldSaid' (YbulkbccyFmtCards.lean). -/
def LawS2663AFieldFormAsk : Prop := lawS2663AFieldRow.holds Ybaf.pinned (OpenSpec.ofChange lawS2663AFieldSpec)

/-- ITS FALSE NEIGHBOUR: 'it returns false'. Refute it at one input. -/
def lawS2663AFieldWrong : ChangeSpec := { name := "lawS2663AField", fn := fun _ => fun
  | [d1, d2, d3, d4] => { results := [.lit (.bool false)], args := [d1, d2, d3, d4] }
  | _ => none }
def LawS2663AFieldWrongFormAsk : Prop := lawS2663AFieldRow.holds Ybaf.pinned (OpenSpec.ofChange lawS2663AFieldWrong)

end Rows
end Go.Proofs.YbulkbccyFmt
