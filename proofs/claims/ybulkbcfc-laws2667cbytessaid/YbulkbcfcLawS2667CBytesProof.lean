/-
  The law wire.LawS2667CBytes: the frame, after the seat's shells; the array argument by hand; the walk out of the texts imported.
-/
import Derived.Test.YbulkbcfcRows
import Derived.Test.YbulkbcfcCnil
import Derived.WalkKit
import Derived.ProofKit
import Derived.OpenShut
import Derived.ShutString
import Derived.ChangeOld
import Derived.Below
namespace Go.Proofs.Ybulkbcfc.lawS2667CBytes
open Go.ChangeShapes Go.WideShapes Go.ChangeAt Go.RowKit
open Go.ChangeMaps (open_string shut_string)
set_option linter.unusedVariables false

theorem own : ownKnob Yba.prog.godebug = none := by kernel_rfl
theorem laidOut : laidOutB Yba.prog = true := by kernel_rfl
theorem cells5 : Yba.prog.cellsOf 5 = 1 := by kernel_rfl
theorem cells57 : Yba.prog.cellsOf 57 = 16 := by kernel_rfl

/-- What the walk is told of a slice of bytes that came in. -/
def IsRow (k : IntKind) (w : World) (a : Option Addr) (len cap : Nat) (zs : List Int) : Prop :=
  (a = none ∧ len = 0 ∧ cap = 0 ∧ zs = []) ∨
  ∃ x, a = some x ∧ len ≤ cap ∧ cap ≤ maxLen ∧ zs.length = cap ∧ (∀ i, i < zs.length → w.cell? (x.add i) = some (.int k (zs.getD i 0))) ∧ ∀ n ∈ zs, (Lit.int k n).wf = true

/-- An array of sixteen bytes by value, opened. -/
theorem open_arr {H : Type} {enc : TypeId × Value → H} {P : Program} {W : World} {base b0 : Nat} {sp : Nat → Bool} {held : Bool} {t : TypeId} {v : Value} {d : DataW H} {p : List MemPlace}
    (ht : P.underlying t = some (.array 16 5)) (h5 : P.underlying 5 = some (.int .u8)) (c5 : P.cellsOf 5 = 1) (ct : P.cellsOf t = 16) (hv : Value.okWide P W .any base t v) (hd : DataW.Trod enc P W b0 sp held t v d p) :
    ∃ ls : List Int, ls.length = 16 ∧ v = .agg (bv ls).toArray := by
  obtain ⟨cs, rfl, hsz, _⟩ : ∃ cs, v = .agg cs ∧ cs.size = P.cellsOf t ∧ Go.Row.okWide P W .any base t cs := by
    simpa [Value.okWide, ht] using hv
  rw [ct] at hsz
  obtain ⟨fuel, hf⟩ := hd
  obtain ⟨xs, m, _, _, _, hl, hel⟩ := DataW.trod_array ht hf
  refine ⟨cs.toList.map intOf, by simp [hsz], ?_⟩
  have e : cs.toList = bv (cs.toList.map intOf) := by
    apply List.ext_getElem?
    intro i
    by_cases hi : i < 16
    · have hE := hel i hi
      rw [c5, Nat.mul_one, List.getElem?_eq_getElem (by omega)] at hE
      obtain ⟨n, e1, _⟩ := DataW.trod_int h5 hE
      have e2 : cs.toList[i]? = some (.int .u8 n) := by
        have h0 : (((Value.agg cs).cells.toList.drop i).take 1)[0]? = some (.int .u8 n) := by rw [e1]; rfl
        simpa [Value.cells, List.getElem?_take, List.getElem?_drop] using h0
      simp only [bv, List.getElem?_map, e2, Option.map_some, intOf]
    · rw [List.getElem?_eq_none (by simp; omega), List.getElem?_eq_none (by simp [bv]; omega)]
  rw [← e]

theorem walk (a0 : Option Addr) (len0 cap0 : Nat) (z0 : List Int) (ls : List Int) (a2 a3 : Int) (w : World) (w0 : IsRow .u8 w a0 len0 cap0 z0) (w1 : ls.length = 16) (w2 : (Lit.int .u8 a2).wf = true) (w3 : (Lit.int .u64 a3).wf = true) :
    Calls Yba.prog 8 #[.slice a0 len0 cap0, .agg (bv ls).toArray, .int .u8 a2, .int .u64 a3] w fun e w' => e = .returned (.bool true) ∧ Below w.heap.size w w' := by
  have b2 := bounds_u8 w2
  have b3 := bounds_u64 w3
  rcases w0 with ⟨rfl, rfl, rfl, rfl⟩ | ⟨x, rfl, hlc, hm, hz, hcell, _⟩
  · by_cases hp : a2 % 2 = 1
    · exact c_nil_odd 0 0 [] ls a2 a3 w rfl rfl rfl (by omega) w1 b2.1 b2.2 b3.1 b3.2 hp
    · exact c_nil_even 0 0 [] ls a2 a3 w rfl rfl rfl (by omega) w1 b2.1 b2.2 b3.1 b3.2 hp
  · by_cases hl : 1024 < len0
    · exact c_long _ len0 cap0 ls a2 a3 w hl (by unfold maxLen at hm; omega)
    · have hb : (z0.take len0).length = len0 ∧ ∀ j y, (z0.take len0)[j]? = some y → w.cell? (x.add j) = some (.int .u8 y) := by
        refine ⟨by simp; omega, fun j y hy => ?_⟩
        rw [List.getElem?_take] at hy
        split at hy
        · have hj : j < z0.length := (List.getElem?_eq_some_iff.1 hy).1
          rw [hcell j hj, List.getD, hy]
          rfl
        · cases hy
      by_cases hp : a2 % 2 = 1
      · exact c_odd x len0 cap0 _ ls a2 a3 w hb (by omega) w1 b2.1 b2.2 b3.1 b3.2 hp
      · exact c_even x len0 cap0 _ ls a2 a3 w hb (by omega) w1 b2.1 b2.2 b3.1 b3.2 hp

set_option maxRecDepth 100000 in
theorem lifted (os : Os) (started : os.Started) (H : Type) (enc : TypeId × Value → H) :
    ReturnsInHanded {} Yba.checked os 8 .any (Rows.lawS2667CBytesSpec.pre6 enc Yba.prog Yba.f8 Rows.lawS2667CBytesRow.domain false) (Rows.lawS2667CBytesSpec.post enc Yba.prog Yba.f8 false true false false) := by
  refine returnsInHanded_of_change (C := Yba.checked) own started (by kernel_rfl) Yba.func8
    (ChangeSpec.witness6 (enc := enc) (C := Yba.checked) false ⟨#[], #[.slice none 0 0, .agg #[.int .u8 0, .int .u8 0, .int .u8 0, .int .u8 0, .int .u8 0, .int .u8 0, .int .u8 0, .int .u8 0, .int .u8 0, .int .u8 0, .int .u8 0, .int .u8 0, .int .u8 0, .int .u8 0, .int .u8 0, .int .u8 0], .int .u8 0, .int .u64 0], []⟩ 8 (by kernel_rfl) (by kernel_rfl) (by kernel_rfl) (by kernel_rfl)) ?_
  intro W base args ds gs before hval0 hW hcnd _
  have hval : ∀ (j : Nat) t v, Yba.f8.params[j]? = some t → args[j]? = some v → Value.okWide Yba.prog W .any base t v := hval0
  have hW' := hW
  obtain ⟨p, q, hA0, hV, rfl, hfz, hnd⟩ := hW
  have hA : DataW.TrodAll enc Yba.prog W 0 (fun _ => true) true Yba.f8.params.toList args.toList ds p := hA0
  rw [Yba.params8] at hA hval
  obtain ⟨v0, vs0, d0, ds0, p0, q0, hargs, rfl, rfl, h0, r0⟩ := trodAll_cons hA
  obtain ⟨v1, vs1, d1, ds1, p1, q1, rfl, rfl, rfl, h1, r1⟩ := trodAll_cons r0
  obtain ⟨v2, vs2, d2, ds2, p2, q2, rfl, rfl, rfl, h2, r2⟩ := trodAll_cons r1
  obtain ⟨v3, vs3, d3, ds3, p3, q3, rfl, rfl, rfl, h3, r3⟩ := trodAll_cons r2
  obtain ⟨rfl, rfl, rfl⟩ := trodAll_nil r3
  obtain rfl : args = #[v0, v1, v2, v3] := by cases args; simp_all
  obtain ⟨rfl, rfl⟩ := trodVars_none hV
  obtain ⟨a0, len0, cap0, rfl⟩ := okWide_slice Yba.underlying56 (hval 0 56 v0 rfl rfl)
  have k0 := h0
  have lt0 : ∀ x ∈ p0, x.block < W.heap.size := by obtain ⟨m, hm⟩ := k0; exact DataW.trod_lt m _ _ _ hm
  obtain ⟨z0, w0⟩ : ∃ zs, IsRow .u8 W a0 len0 cap0 zs := by
    obtain ⟨fuel, hf⟩ := h0
    rcases open_ints Yba.underlying56 Yba.underlying5 (by kernel_rfl) hf with ⟨hcs, _⟩ | ⟨x, l, c, zs, hcs, _, hl, hm, hz, _, hcell, hwz⟩
    · simp [Value.cells] at hcs
      obtain ⟨rfl, rfl, rfl⟩ := hcs
      exact ⟨[], .inl ⟨rfl, rfl, rfl, rfl⟩⟩
    · simp [Value.cells] at hcs
      obtain ⟨rfl, rfl, rfl⟩ := hcs
      exact ⟨zs, .inr ⟨_, rfl, hl, hm, by simpa using hz, hcell, hwz⟩⟩
  have k1 := h1
  have lt1 : ∀ x ∈ p1, x.block < W.heap.size := by obtain ⟨m, hm⟩ := k1; exact DataW.trod_lt m _ _ _ hm
  obtain ⟨ls, w1, rfl⟩ := open_arr Yba.underlying57 Yba.underlying5 cells5 cells57 (hval 1 57 v1 rfl rfl) h1
  obtain ⟨a2, rfl, rfl, rfl, w2⟩ := open_int Yba.underlying5 (hval 2 5 v2 rfl rfl) h2
  obtain ⟨a3, rfl, rfl, rfl, w3⟩ := open_int Yba.underlying58 (hval 3 58 v3 rfl rfl) h3
  clear hA0 hval0
  refine (walk a0 len0 cap0 z0 ls a2 a3 W w0 w1 w2 w3).mono fun e W' ⟨he, bel⟩ => ?_
  subst he
  exact ⟨_, rfl, _, _, _, [], _, [], hW', trodAll_mk1 (shut_bool Yba.underlying4 _), (trodAll_cons_mk (Below.trod laidOut (by kernel_rfl) (of_decide_eq_true (by kernel_rfl)) k0 bel lt0) (trodAll_cons_mk (Below.trod laidOut (by kernel_rfl) (of_decide_eq_true (by kernel_rfl)) k1 bel lt1) (trodAll_cons_mk (shut_int Yba.underlying5 w2) (trodAll_cons_mk (shut_int Yba.underlying58 w3) trodAll_mk0)))), rfl, bel.frame _, fun h => by cases h⟩

theorem over : Rows.lawS2667CBytesRow.holds Yba.pinned (OpenSpec.ofChange Rows.lawS2667CBytesSpec) :=
  OpenClaim.holds_of_wide 8 Yba.f8 rfl rfl rfl rfl rfl rfl rfl ⟨rfl, rfl, rfl, rfl, rfl⟩ rfl rfl rfl rfl rfl (by kernel_rfl) Yba.func8 (by kernel_rfl)
    (of_decide_eq_true (by kernel_rfl)) (by unfold Func.isWrapper; first | (rw [if_pos (by decide +kernel)]; kernel_rfl) | (rw [if_neg (by decide +kernel)]; exact ⟨rfl, rfl⟩))
    (fun os started H enc _ => lifted os started H enc)

/-- The statement. -/
theorem proved : Rows.LawS2667CBytesSaid := over
end Go.Proofs.Ybulkbcfc.lawS2667CBytes
