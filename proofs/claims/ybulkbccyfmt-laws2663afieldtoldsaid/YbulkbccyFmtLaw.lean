import Derived.Test.YbulkbccyFmtFacts
import Derived.WalkLawsBesides
import Derived.Laws.EntriesVeiled
import Derived.BigQuiet
import Derived.Deep.QuietTactic
namespace Go.Proofs.YbulkbccyFmt
open Go.RowKit Go.Extern.Stop Go.Stop Go.Extern
attribute [local go_sem] call11 guard0 fmt0 fmt0r op9_115w op9_113w ptr40 elem40 isError40 isError30

set_option maxHeartbeats 400000 in
theorem law_ok (col s : ByteArray) (n : Int) (w : World) :
    Calls Ybaf.prog 3 #[.string col, .string s, .int .i64 n, .bool false] w fun e w' => e = .returned (.bool true) ∧ Below w.heap.size w w' := by
  go_enter Ybaf.func3, Ybaf.ntmps3
  go_wp2
  go_ret
  refine ⟨rfl, ?_⟩
  repeat (first | exact Below.refl _ _ | refine Below.drew ?_ | refine Below.alloc ?_ (by simp <;> omega) _)

set_option maxHeartbeats 400000 in
theorem law_fail (F : Interp) (col s : ByteArray) (n : Int) (w : World) (hF : F.answers w.tape) :
    Calls Ybaf.prog 3 #[.string col, .string s, .int .i64 n, .bool true] w fun e w' => e = .returned (.bool true) ∧ Below w.heap.size w w' := by
  have hF' := answers_open hF
  have hop := fun (w' : World) h => opPlain30_119w "fmt.errorf" ⟨w.heap.size + 1 + 1, 0, none⟩ ⟨#[122, 122, 115, 50, 54, 54, 51, 97, 32, 112, 97, 114, 115, 101, 32, 102, 97, 105, 108, 117, 114, 101]⟩ w' h
  generalize 14 :: FmtStop.pack Ybaf.t30.str.toUTF8.data.toList = sh at hop
  go_enter Ybaf.func3, Ybaf.ntmps3
  go_wp2
  go_region
  go_wp2_with (first | (go_at_call 7; refine (is_wrap_same (w.heap.size + 1 + 1 + 1 + 1 + 1 + 1 + 1) 0 ⟨w.heap.size + 1 + 1, 0, none⟩ _ ?_).mono ?_; go_simp; rintro e w' ⟨rfl, rfl⟩) | go_in)
  go_ret
  refine ⟨rfl, ?_⟩
  repeat (first | exact Below.refl _ _ | refine Below.drew ?_ | refine Below.alloc ?_ (by simp <;> omega) _)
end Go.Proofs.YbulkbccyFmt
