/-
  No cell of these rows narrows 'for every input' (looked for: loops, veiled, ifaces, maps, wideKeys, modest, calm, conditions, laid).
  DERIVED. THE GIVEN ROWS OF THIS SEAT. 6 by the template 'for every input the law returns true; each argument reads behind the call as it read before'; 0 by the template 'total and deterministic' (their statements: YbulkbcfcTotals.lean).
  GIVEN WITH THE SEED: the statements are not yours to turn. If you find one false, say at which input.
  Laid BY PROGRAM, IN A SANDBOX (cutbox-rows.mjs): the forced cells as the released guide's own fill.sh prints them over the translation 4a3d3cc962e970fe… (all of the seat's roots in one cut). By AI agents, Wed Nov 11 2026. No macro, syntax, notation, axiom, sorry.
-/
import Derived.Test.YbulkbcfcChecked
import GoSem.Claim
import GoSem.ClaimJoined
import GoSem.ClaimMapViews
import Derived.JoinedTies
import Derived.KernelRfl
namespace Go.Proofs.Ybulkbcfc
/- THE CELL 'sum', in the pinned program and in every row, IS THE sha256 OF THE DUMP (.gsa) THAT YbulkbcfcProg.lean LOADS. Nothing in Lean hashes anything: it is a label: what it is worth is what the hold of that sum in a sandbox is worth. -/
noncomputable def Yba.pinned : Pinned := { name := "ybulkbcfc", sum := "4a3d3cc962e970fe1ec85b2f7feb1d217d797f4d6d0cd6377d8c2bfb01e88eb7", checked := Yba.checked }
namespace Rows
def none {H : Type} : Left H := { results := [], args := [] }

/-- 'store.LawS2667AFirstLeast': WHATEVER THE INPUT: true; the input reads as it did. -/
def lawS2667AFirstLeastSpec : ChangeSpec := { name := "lawS2667AFirstLeast", fn := fun _ => fun
  | [d] => { results := [.lit (.bool true)], args := [d] }
  | _ => none }
def lawS2667AFirstLeastRow : OpenClaim := { program := "ybulkbcfc", sum := "4a3d3cc962e970fe1ec85b2f7feb1d217d797f4d6d0cd6377d8c2bfb01e88eb7", func := "example.com/oncewire/oncewire/pkg/store.LawS2667AFirstLeast", spec := "lawS2667AFirstLeast", plainKeys := false, apart := false }
def LawS2667AFirstLeastSaid : Prop := lawS2667AFirstLeastRow.holds Yba.pinned (OpenSpec.ofChange lawS2667AFirstLeastSpec)

/-- ITS FALSE NEIGHBOUR: 'it returns false'. Refute it at one input. -/
def lawS2667AFirstLeastWrong : ChangeSpec := { name := "lawS2667AFirstLeast", fn := fun _ => fun
  | [d] => { results := [.lit (.bool false)], args := [d] }
  | _ => none }
def LawS2667AFirstLeastWrongFalsely : Prop := lawS2667AFirstLeastRow.holds Yba.pinned (OpenSpec.ofChange lawS2667AFirstLeastWrong)

/-- 'store.LawS2667ALeastBelowAll': WHATEVER THE INPUT: true; the input reads as it did. -/
def lawS2667ALeastBelowAllSpec : ChangeSpec := { name := "lawS2667ALeastBelowAll", fn := fun _ => fun
  | [d] => { results := [.lit (.bool true)], args := [d] }
  | _ => none }
def lawS2667ALeastBelowAllRow : OpenClaim := { program := "ybulkbcfc", sum := "4a3d3cc962e970fe1ec85b2f7feb1d217d797f4d6d0cd6377d8c2bfb01e88eb7", func := "example.com/oncewire/oncewire/pkg/store.LawS2667ALeastBelowAll", spec := "lawS2667ALeastBelowAll", plainKeys := false, apart := false }
def LawS2667ALeastBelowAllSaid : Prop := lawS2667ALeastBelowAllRow.holds Yba.pinned (OpenSpec.ofChange lawS2667ALeastBelowAllSpec)

/-- ITS FALSE NEIGHBOUR: 'it returns false'. Refute it at one input. -/
def lawS2667ALeastBelowAllWrong : ChangeSpec := { name := "lawS2667ALeastBelowAll", fn := fun _ => fun
  | [d] => { results := [.lit (.bool false)], args := [d] }
  | _ => none }
def LawS2667ALeastBelowAllWrongFalsely : Prop := lawS2667ALeastBelowAllRow.holds Yba.pinned (OpenSpec.ofChange lawS2667ALeastBelowAllWrong)

/-- 'wire.LawS2667BModel': WHATEVER THE INPUT: true; the input reads as it did. -/
def lawS2667BModelSpec : ChangeSpec := { name := "lawS2667BModel", fn := fun _ => fun
  | [d1, d2] => { results := [.lit (.bool true)], args := [d1, d2] }
  | _ => none }
def lawS2667BModelRow : OpenClaim := { program := "ybulkbcfc", sum := "4a3d3cc962e970fe1ec85b2f7feb1d217d797f4d6d0cd6377d8c2bfb01e88eb7", func := "example.com/oncewire/oncewire/pkg/wire.LawS2667BModel", spec := "lawS2667BModel", plainKeys := false, apart := false }
def LawS2667BModelSaid : Prop := lawS2667BModelRow.holds Yba.pinned (OpenSpec.ofChange lawS2667BModelSpec)

/-- ITS FALSE NEIGHBOUR: 'it returns false'. Refute it at one input. -/
def lawS2667BModelWrong : ChangeSpec := { name := "lawS2667BModel", fn := fun _ => fun
  | [d1, d2] => { results := [.lit (.bool false)], args := [d1, d2] }
  | _ => none }
def LawS2667BModelWrongFalsely : Prop := lawS2667BModelRow.holds Yba.pinned (OpenSpec.ofChange lawS2667BModelWrong)

/-- 'wire.LawS2667BMember': WHATEVER THE INPUT: true; the input reads as it did. -/
def lawS2667BMemberSpec : ChangeSpec := { name := "lawS2667BMember", fn := fun _ => fun
  | [d1, d2, d3] => { results := [.lit (.bool true)], args := [d1, d2, d3] }
  | _ => none }
def lawS2667BMemberRow : OpenClaim := { program := "ybulkbcfc", sum := "4a3d3cc962e970fe1ec85b2f7feb1d217d797f4d6d0cd6377d8c2bfb01e88eb7", func := "example.com/oncewire/oncewire/pkg/wire.LawS2667BMember", spec := "lawS2667BMember", plainKeys := false, apart := false }
def LawS2667BMemberSaid : Prop := lawS2667BMemberRow.holds Yba.pinned (OpenSpec.ofChange lawS2667BMemberSpec)

/-- ITS FALSE NEIGHBOUR: 'it returns false'. Refute it at one input. -/
def lawS2667BMemberWrong : ChangeSpec := { name := "lawS2667BMember", fn := fun _ => fun
  | [d1, d2, d3] => { results := [.lit (.bool false)], args := [d1, d2, d3] }
  | _ => none }
def LawS2667BMemberWrongFalsely : Prop := lawS2667BMemberRow.holds Yba.pinned (OpenSpec.ofChange lawS2667BMemberWrong)

/-- 'wire.LawS2667BPrefix': WHATEVER THE INPUT: true; the input reads as it did. -/
def lawS2667BPrefixSpec : ChangeSpec := { name := "lawS2667BPrefix", fn := fun _ => fun
  | [d1, d2, d3] => { results := [.lit (.bool true)], args := [d1, d2, d3] }
  | _ => none }
def lawS2667BPrefixRow : OpenClaim := { program := "ybulkbcfc", sum := "4a3d3cc962e970fe1ec85b2f7feb1d217d797f4d6d0cd6377d8c2bfb01e88eb7", func := "example.com/oncewire/oncewire/pkg/wire.LawS2667BPrefix", spec := "lawS2667BPrefix", plainKeys := false, apart := false }
def LawS2667BPrefixSaid : Prop := lawS2667BPrefixRow.holds Yba.pinned (OpenSpec.ofChange lawS2667BPrefixSpec)

/-- ITS FALSE NEIGHBOUR: 'it returns false'. Refute it at one input. -/
def lawS2667BPrefixWrong : ChangeSpec := { name := "lawS2667BPrefix", fn := fun _ => fun
  | [d1, d2, d3] => { results := [.lit (.bool false)], args := [d1, d2, d3] }
  | _ => none }
def LawS2667BPrefixWrongFalsely : Prop := lawS2667BPrefixRow.holds Yba.pinned (OpenSpec.ofChange lawS2667BPrefixWrong)

/-- 'wire.LawS2667CBytes': WHATEVER THE INPUT: true; the input reads as it did. -/
def lawS2667CBytesSpec : ChangeSpec := { name := "lawS2667CBytes", fn := fun _ => fun
  | [d1, d2, d3, d4] => { results := [.lit (.bool true)], args := [d1, d2, d3, d4] }
  | _ => none }
def lawS2667CBytesRow : OpenClaim := { program := "ybulkbcfc", sum := "4a3d3cc962e970fe1ec85b2f7feb1d217d797f4d6d0cd6377d8c2bfb01e88eb7", func := "example.com/oncewire/oncewire/pkg/wire.LawS2667CBytes", spec := "lawS2667CBytes", plainKeys := false, apart := false }
def LawS2667CBytesSaid : Prop := lawS2667CBytesRow.holds Yba.pinned (OpenSpec.ofChange lawS2667CBytesSpec)

/-- ITS FALSE NEIGHBOUR: 'it returns false'. Refute it at one input. -/
def lawS2667CBytesWrong : ChangeSpec := { name := "lawS2667CBytes", fn := fun _ => fun
  | [d1, d2, d3, d4] => { results := [.lit (.bool false)], args := [d1, d2, d3, d4] }
  | _ => none }
def LawS2667CBytesWrongFalsely : Prop := lawS2667CBytesRow.holds Yba.pinned (OpenSpec.ofChange lawS2667CBytesWrong)

end Rows
end Go.Proofs.Ybulkbcfc
