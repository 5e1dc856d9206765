/-
  Closed facts of this seat's program for the walk over fmt's stopped front and errors.Is (after the worked family Sentry).
-/
import Derived.Test.YbulkbccyFmtRows
import Derived.WalkKit
import Derived.WalkSpells
import Derived.Stop.CallBack
import Derived.Stop.IfaceNil
import Derived.Stop.Asserts
import Derived.LaidEql
import Derived.RowKitTokens
import GoSem.ClaimData
namespace Go.Proofs.YbulkbccyFmt
open Go.RowKit Go.Extern.Stop Go.Stop Go.Extern

-- fmt.errorf: function 11: a plain stop
theorem call11 (args : Array Value) (w : World) : (callFunc 11 args).run Ybaf.prog w = ((FmtStop.errorf #[9, 39] #[23] args).run Ybaf.prog w).andThen fun v w' => .ok (.value v) w' :=
  run_callFunc_extern Ybaf.func11 (by kernel_rfl) (by kernel_rfl) (by kernel_rfl) (by kernel_rfl) args w
theorem guard0 (name : String) (w : World) : (FmtStop.guard name).run Ybaf.prog w = .ok () w := by kernel_rfl
theorem fmt0 : FmtStop.printed? ⟨#[37, 115, 32, 37, 113, 58, 32, 37, 119]⟩ 3 = some [(0, 115, false), (1, 113, false), (2, 119, false)] := by kernel_rfl
theorem fmt0r (w : World) : (FmtDoors.printed ⟨#[37, 115, 32, 37, 113, 58, 32, 37, 119]⟩ 3).run Ybaf.prog w = .ok [(0, 115, false), (1, 113, false), (2, 119, false)] w := by kernel_rfl
-- a string as an operand
def shape9 : List UInt8 := [12, 6, 0, 0, 0, 0, 0, 0, 0, 115, 116, 114, 105, 110, 103]
theorem op9_115w (name : String) (x : ByteArray) (w : World) : (FmtStop.operand name true 115 false (.iface 9 (.string x))).run Ybaf.prog w = .ok (shape9, FmtStop.pack x.data.toList) w := by kernel_rfl
theorem op9_113w (name : String) (x : ByteArray) (w : World) : (FmtStop.operand name true 113 false (.iface 9 (.string x))).run Ybaf.prog w = .ok (shape9, FmtStop.pack x.data.toList) w := by kernel_rfl
theorem ptr40 (w : World) : (FmtStop.ptrTo "fmt.wrapError").run Ybaf.prog w = .ok 40 w := by kernel_rfl
theorem elem40 (w : World) : (elemOf 40).run Ybaf.prog w = .ok 75 w := by kernel_rfl
theorem isError40 (w : World) : (FmtDoors.textMethod 40 "Error").run Ybaf.prog w = .ok true w := by kernel_rfl
theorem isError30 (w : World) : (FmtDoors.textMethod 30 "Error").run Ybaf.prog w = .ok true w := by kernel_rfl
theorem opPlain30_119w (name : String) (a : Addr) (s : ByteArray) (w : World) (hc : w.cell? a = some (.string s)) :
    (FmtStop.operand name true 119 false (.iface 30 (.pointer (some a)))).run Ybaf.prog w = .ok (14 :: FmtStop.pack Ybaf.t30.str.toUTF8.data.toList, s.data.toList) w := by
  have h1 : (typeStr 30).run Ybaf.prog w = .ok Ybaf.t30.str w := by kernel_rfl
  have d2 : Ybaf.t30.desc = .pointer 32 := rfl
  have d3 : Ybaf.t32.desc = .named "errors.errorString" 31 := rfl
  simp [FmtStop.operand, h1, d2, d3, run_load, hc]

/-! errors.Is at a wrap of the sentinel -/
theorem isTypeOf (v : Value) (w : World) : (callFunc 9 #[.iface 30 v]).run Ybaf.prog w = .ok (.value (.iface 42 (.agg #[.pointer (some ⟨0, 30, none⟩)]))) w := by kernel_rfl
theorem isComparable (w : World) : (callFunc 33 #[.agg #[.pointer (some ⟨0, 30, none⟩)]]).run Ybaf.prog w = .ok (.value (.bool true)) w := by kernel_rfl
theorem isComp : (Ybaf.prog.info? 30).map (·.comparable) = some true := by kernel_rfl
theorem isSize : (Ybaf.prog.info? 32).map (·.size) = some 1 := by kernel_rfl
theorem noIsE (v : Value) (xT : TypeId) (w : World) : (Instr.typeAssert (.iface 30 v) xT 44 true).run Ybaf.prog w = .ok (.tuple #[.nilIface, .bool false]) w := run_typeAssert_lacksB Ybaf.underlying44 (by kernel_rfl) (by kernel_rfl) v xT w
theorem noIsW (v : Value) (xT : TypeId) (w : World) : (Instr.typeAssert (.iface 40 v) xT 44 true).run Ybaf.prog w = .ok (.tuple #[.nilIface, .bool false]) w := run_typeAssert_lacksB Ybaf.underlying44 (by kernel_rfl) (by kernel_rfl) v xT w
theorem hasUnwrapW (v : Value) (xT : TypeId) (w : World) : (Instr.typeAssert (.iface 40 v) xT 47 true).run Ybaf.prog w = .ok (.tuple #[.iface 40 v, .bool true]) w := run_typeAssert_hasB Ybaf.underlying47 (by kernel_rfl) v xT w
theorem isMethodComparable (v : Value) (w : World) : (Go.method 188 42 v "Comparable").run Ybaf.prog w = .ok (33, v) w := by kernel_rfl
theorem methodUnwrap (v : Value) (w : World) : (Go.method 188 40 v "Unwrap").run Ybaf.prog w = .ok (29, v) w := by kernel_rfl

set_option maxHeartbeats 400000 in
/-- errors.Is(e, x), e a wrap of x itself: one Unwrap, then equal. -/
theorem is_wrap_same (pb po : Nat) (b : Addr) (w : World) (h1 : w.cell? ⟨pb, po + 1, none⟩ = some (.iface 30 (.pointer (some b)))) :
    Calls Ybaf.prog 7 #[.iface 40 (.pointer (some ⟨pb, po, none⟩)), .iface 30 (.pointer (some b))] w fun e w' => e = .returned (.bool true) ∧ w' = w := by
  obtain ⟨i, hi, hcmp⟩ := Option.map_eq_some_iff.1 isComp
  obtain ⟨j, hj, hjs⟩ := Option.map_eq_some_iff.1 isSize
  have tT := isTypeOf
  have cT := isComparable
  have mR := isMethodComparable
  have nE := noIsE
  have nW := noIsW
  have uW := hasUnwrapW
  have mU := methodUnwrap
  have heq := run_eql_iface_ptr_same (P := Ybaf.prog) w b Ybaf.underlying23 Ybaf.underlying30 hi hcmp hj
  have hty := run_eql_iface_types (P := Ybaf.prog) 40 30 (.pointer (some ⟨pb, po, none⟩)) (.pointer (some b)) Ybaf.underlying23 (by decide) w
  go_enter Ybaf.func7, Ybaf.ntmps7
  go_wp2
  refine wp_loop_rounds 2 ?_
  rw [rounds_succ]
  go_wp2
  rw [rounds_succ]
  go_wp2
  go_ret
  exact ⟨rfl, rfl⟩
end Go.Proofs.YbulkbccyFmt
