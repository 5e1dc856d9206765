/-
  No cell of these rows narrows 'for every input' (looked for: loops, veiled, ifaces, maps, wideKeys, modest, calm, conditions, laid).
  DERIVED. THE GIVEN ROWS OF THIS SEAT. 1 by the template 'for every input the law returns true; each argument reads behind the call as it read before'; 0 by the template 'total and deterministic' (their statements: YbulkbcckTotals.lean).
  GIVEN WITH THE SEED: the statements are not yours to turn. If you find one false, say at which input.
  Laid BY PROGRAM, IN A SANDBOX (cutbox-rows.mjs): the forced cells as the released guide's own fill.sh prints them over the translation 5f769aa815f881f3… (all of the seat's roots in one cut). By AI agents, Wed Nov 11 2026. No macro, syntax, notation, axiom, sorry.
-/
import Derived.Test.YbulkbcckChecked
import GoSem.Claim
import GoSem.ClaimJoined
import GoSem.ClaimMapViews
import Derived.JoinedTies
import Derived.KernelRfl
namespace Go.Proofs.Ybulkbcck
/- THE CELL 'sum', in the pinned program and in every row, IS THE sha256 OF THE DUMP (.gsa) THAT YbulkbcckProg.lean LOADS. Nothing in Lean hashes anything: it is a label: what it is worth is what the hold of that sum in a sandbox is worth. -/
noncomputable def Yba.pinned : Pinned := { name := "ybulkbcck", sum := "5f769aa815f881f33242077f68bf5ca281b66f61c7262b2c95e78f0590107301", checked := Yba.checked }
namespace Rows
def none {H : Type} : Left H := { results := [], args := [] }

/-- 'netlab.LawS2662AExact': WHATEVER THE INPUT: true; the input reads as it did. -/
def lawS2662AExactSpec : ChangeSpec := { name := "lawS2662AExact", fn := fun _ => fun
  | [d1, d2, d3] => { results := [.lit (.bool true)], args := [d1, d2, d3] }
  | _ => none }
def lawS2662AExactRow : OpenClaim := { program := "ybulkbcck", sum := "5f769aa815f881f33242077f68bf5ca281b66f61c7262b2c95e78f0590107301", func := "example.com/quietlane/quietlane/internal/netlab.LawS2662AExact", spec := "lawS2662AExact", apart := false }
def LawS2662AExactSaid : Prop := lawS2662AExactRow.holds Yba.pinned (OpenSpec.ofChange lawS2662AExactSpec)

/-- ITS FALSE NEIGHBOUR: 'it returns false'. Refute it at one input. -/
def lawS2662AExactWrong : ChangeSpec := { name := "lawS2662AExact", fn := fun _ => fun
  | [d1, d2, d3] => { results := [.lit (.bool false)], args := [d1, d2, d3] }
  | _ => none }
def LawS2662AExactWrongFalsely : Prop := lawS2662AExactRow.holds Yba.pinned (OpenSpec.ofChange lawS2662AExactWrong)

end Rows
end Go.Proofs.Ybulkbcck
