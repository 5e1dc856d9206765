/-
  The told and tied card of wire.LawS2667CRoundTrip, proved: the walk (YbulkbcfcFmtRt) never asks fmt and never reads the two sentinels; lifted, and closed by the builder 'Claim7.holds_of_told_tied_any_at'.
-/
import Derived.Test.YbulkbcfcFmtCards
import Derived.Test.YbulkbcfcFmtTie
import Derived.Test.YbulkbcfcFmtRt
import Derived.ProofKit
import Derived.OpenShut
import Derived.OpenVars
import Derived.Stop.JoinedAt
import Derived.Stop.JoinedTold
import Derived.Stop.LaidErr
import Derived.LaidLaws
import Derived.SevenTiedAt
namespace Go.Proofs.YbulkbcfcFmt.lawS2667CRoundTrip
open Go.ChangeShapes Go.WideShapes Go.ChangeAt Go.RowKit Go.Kit
open Go.ChangeMaps (open_string shut_string)
open Go.Extern.Stop Go.Stop Go.Extern

theorem own : ownKnob Ybaf.prog.godebug = none := by kernel_rfl
theorem laidOut : laidOutB Ybaf.pinned.checked.prog = true := by kernel_rfl
theorem stops : Ybaf.pinned.checked.prog.stops = ["fmt.errorf"] := by kernel_rfl
theorem stopKnobs : Ybaf.pinned.checked.prog.stopKnobs = [] := by kernel_rfl
theorem quiet (os : Os) : Stop.quiet Ybaf.pinned.checked.prog os := by
  intro k hk
  rw [stopKnobs] at hk
  cases hk
theorem cells5 : Ybaf.prog.cellsOf 5 = 1 := by kernel_rfl
theorem cells23 : Ybaf.prog.cellsOf 23 = 16 := by kernel_rfl

/-- What the walk is told of a slice of bytes that came in. -/
def IsRow (k : IntKind) (w : World) (a : Option Addr) (len cap : Nat) (zs : List Int) : Prop :=
  (a = none ∧ len = 0 ∧ cap = 0 ∧ zs = []) ∨
  ∃ x, a = some x ∧ len ≤ cap ∧ cap ≤ maxLen ∧ zs.length = cap ∧ (∀ i, i < zs.length → w.cell? (x.add i) = some (.int k (zs.getD i 0))) ∧ ∀ n ∈ zs, (Lit.int k n).wf = true

/-- An array of sixteen bytes by value, opened. -/
theorem open_arr {H : Type} {enc : TypeId × Value → H} {P : Program} {W : World} {base b0 : Nat} {sp : Nat → Bool} {held : Bool} {t : TypeId} {v : Value} {d : DataW H} {p : List MemPlace}
    (ht : P.underlying t = some (.array 16 5)) (h5 : P.underlying 5 = some (.int .u8)) (c5 : P.cellsOf 5 = 1) (ct : P.cellsOf t = 16) (hv : Value.okWide P W .any base t v) (hd : DataW.Trod enc P W b0 sp held t v d p) :
    ∃ ls : List Int, ls.length = 16 ∧ v = .agg (bv ls).toArray := by
  obtain ⟨cs, rfl, hsz, _⟩ : ∃ cs, v = .agg cs ∧ cs.size = P.cellsOf t ∧ Go.Row.okWide P W .any base t cs := by
    simpa [Value.okWide, ht] using hv
  rw [ct] at hsz
  obtain ⟨fuel, hf⟩ := hd
  obtain ⟨xs, m, _, _, _, hl, hel⟩ := DataW.trod_array ht hf
  refine ⟨cs.toList.map intOf, by simp [hsz], ?_⟩
  have e : cs.toList = bv (cs.toList.map intOf) := by
    apply List.ext_getElem?
    intro i
    by_cases hi : i < 16
    · have hE := hel i hi
      rw [c5, Nat.mul_one, List.getElem?_eq_getElem (by omega)] at hE
      obtain ⟨n, e1, _⟩ := DataW.trod_int h5 hE
      have e2 : cs.toList[i]? = some (.int .u8 n) := by
        have h0 : (((Value.agg cs).cells.toList.drop i).take 1)[0]? = some (.int .u8 n) := by rw [e1]; rfl
        simpa [Value.cells, List.getElem?_take, List.getElem?_drop] using h0
      simp only [bv, List.getElem?_map, e2, Option.map_some, intOf]
    · rw [List.getElem?_eq_none (by simp; omega), List.getElem?_eq_none (by simp [bv]; omega)]
  rw [← e]

theorem walk (a0 : Option Addr) (len0 cap0 : Nat) (z0 : List Int) (ls : List Int) (a2 a3 : Int) (w : World) (w0 : IsRow .u8 w a0 len0 cap0 z0) (w1 : ls.length = 16) (w2 : (Lit.int .u8 a2).wf = true) (w3 : (Lit.int .u64 a3).wf = true) :
    Calls Ybaf.prog 3 #[.slice a0 len0 cap0, .agg (bv ls).toArray, .int .u8 a2, .int .u64 a3] w fun e w' => e = .returned (.bool true) ∧ Below w.heap.size w w' := by
  have b2 := bounds_u8 w2
  have b3 := bounds_u64 w3
  rcases w0 with ⟨rfl, rfl, rfl, rfl⟩ | ⟨x, rfl, hlc, hm, hz, hcell, _⟩
  · by_cases hp : a2 % 3 = 1
    · exact rt_A_nil 0 0 [] ls a2 a3 w rfl rfl rfl (by omega) w1 b2.1 b2.2 hp
    · by_cases h0 : a3 = 0
      · exact rt_B_nil 0 0 [] ls a2 (a2 % 3 + 1) a3 w rfl rfl rfl (by omega) w1 b2.1 b2.2 rfl (by omega) h0
      · exact rt_C_nil 0 0 [] ls a2 (a2 % 3 + 1) a3 w rfl rfl rfl (by omega) w1 b2.1 b2.2 rfl (by omega) (by have := b3.1; omega) b3.2
  · by_cases hl : 1024 < len0
    · exact rt_long _ len0 cap0 ls a2 a3 w hl
    · have hb : (z0.take len0).length = len0 ∧ ∀ j y, (z0.take len0)[j]? = some y → w.cell? (x.add j) = some (.int .u8 y) := by
        refine ⟨by simp; omega, fun j y hy => ?_⟩
        rw [List.getElem?_take] at hy
        split at hy
        · have hj : j < z0.length := (List.getElem?_eq_some_iff.1 hy).1
          rw [hcell j hj, List.getD, hy]
          rfl
        · cases hy
      by_cases hp : a2 % 3 = 1
      · exact rt_A x len0 cap0 _ ls a2 a3 w hb (by omega) w1 b2.1 b2.2 hp
      · by_cases h0 : a3 = 0
        · exact rt_B x len0 cap0 _ ls a2 (a2 % 3 + 1) a3 w hb (by omega) w1 b2.1 b2.2 rfl (by omega) h0
        · exact rt_C x len0 cap0 _ ls a2 (a2 % 3 + 1) a3 w hb (by omega) w1 b2.1 b2.2 rfl (by omega) (by have := b3.1; omega) b3.2

set_option maxRecDepth 100000 in
set_option maxHeartbeats 1600000 in
theorem lifted (os : Os) (started : os.Started) (H : Type) (enc : TypeId × Value → H) :
    ReturnsInTold none {} Ybaf.checked os 3 .any Input.okWide ((OpenSpec.ofChange Rows.lawS2667CRoundTripSpec).preRow enc Ybaf.prog Ybaf.f3 [] false Rows.lawS2667CRoundTripRow.laid) (fun F => ((OpenSpec.ofChange Rows.lawS2667CRoundTripSpec).at F).post enc Ybaf.prog Ybaf.f3 false true false false) (aloneAtReturn Ybaf.prog) nothingAlways := by
  refine returnsInTold_of_row (C := Ybaf.checked) (s := OpenSpec.ofChange Rows.lawS2667CRoundTripSpec) (by kernel_rfl) own started (by kernel_rfl) Ybaf.func3
    (OpenSpec.witness_stopped_at (enc := enc) (C := Ybaf.checked) false
      { (World.holding Ybaf.prog os ⟨#[.cells #[.string ⟨#[119, 105, 114, 101, 58, 32, 109, 101, 115, 115, 97, 103, 101, 32, 105, 115, 32, 99, 117, 116, 32, 115, 104, 111, 114, 116]⟩] 48, .cells #[.string ⟨#[119, 105, 114, 101, 58, 32, 110, 117, 109, 98, 101, 114, 32, 100, 111, 101, 115, 32, 110, 111, 116, 32, 102, 105, 116, 32, 105, 110, 32, 54, 52, 32, 98, 105, 116, 115]⟩] 48], #[], []⟩) with heap := ((World.holding Ybaf.prog os ⟨#[.cells #[.string ⟨#[119, 105, 114, 101, 58, 32, 109, 101, 115, 115, 97, 103, 101, 32, 105, 115, 32, 99, 117, 116, 32, 115, 104, 111, 114, 116]⟩] 48, .cells #[.string ⟨#[119, 105, 114, 101, 58, 32, 110, 117, 109, 98, 101, 114, 32, 100, 111, 101, 115, 32, 110, 111, 116, 32, 102, 105, 116, 32, 105, 110, 32, 54, 52, 32, 98, 105, 116, 115]⟩] 48], #[], []⟩).heap.modify 0 (fun | .cells _ t frozen => .cells #[.iface 46 (.pointer (some ⟨(World.holding Ybaf.prog default ⟨#[], #[], []⟩).heap.size, 0, none⟩))] t frozen | o => o)).modify 1 (fun | .cells _ t frozen => .cells #[.iface 46 (.pointer (some ⟨(World.holding Ybaf.prog default ⟨#[], #[], []⟩).heap.size + 1, 0, none⟩))] t frozen | o => o) }
      #[.slice none 0 0, .agg #[.int .u8 0, .int .u8 0, .int .u8 0, .int .u8 0, .int .u8 0, .int .u8 0, .int .u8 0, .int .u8 0, .int .u8 0, .int .u8 0, .int .u8 0, .int .u8 0, .int .u8 0, .int .u8 0, .int .u8 0, .int .u8 0], .int .u8 0, .int .u64 0] rfl (by kernel_rfl) (by kernel_rfl) (by kernel_rfl)
      (OpenSpec.preRow_of_B rfl 8 (by kernel_rfl) (by kernel_rfl) (laidMet_of_run' 8 (by kernel_rfl) (by kernel_rfl)))) ?_
  intro F W base args ds gs before _ hF hval0 hW _ _ _ _ _
  have hval : ∀ (j : Nat) t v, Ybaf.f3.params[j]? = some t → args[j]? = some v → Value.okWide Ybaf.prog W .any base t v := hval0
  have hW' := hW
  obtain ⟨p, q, hA0, hV0, rfl, hfz, hnd⟩ := hW
  have hA : DataW.TrodAll enc Ybaf.prog W 0 (fun _ => true) true Ybaf.f3.params.toList args.toList ds p := hA0
  have hV : DataW.TrodVars enc Ybaf.prog W (fun _ => true) Rows.lawS2667CRoundTripSpec.vars gs q := hV0
  have hV' := hV
  obtain ⟨_, _, _, _, g1, _, _, _, _, _, g2, _, rfl, _⟩ := trodVars_two hV'
  rw [Ybaf.params3] at hA hval
  obtain ⟨v0, vs0, d0, ds0, p0, q0, hargs, rfl, rfl, h0, r0⟩ := trodAll_cons hA
  obtain ⟨v1, vs1, d1, ds1, p1, q1, rfl, rfl, rfl, h1, r1⟩ := trodAll_cons r0
  obtain ⟨v2, vs2, d2, ds2, p2, q2, rfl, rfl, rfl, h2, r2⟩ := trodAll_cons r1
  obtain ⟨v3, vs3, d3, ds3, p3, q3, rfl, rfl, rfl, h3, r3⟩ := trodAll_cons r2
  obtain ⟨rfl, rfl, rfl⟩ := trodAll_nil r3
  obtain rfl : args = #[v0, v1, v2, v3] := by cases args; simp_all
  obtain ⟨a0, len0, cap0, rfl⟩ := okWide_slice Ybaf.underlying22 (hval 0 22 v0 rfl rfl)
  have k0 := h0
  have lt0 : ∀ x ∈ p0, x.block < W.heap.size := by obtain ⟨m, hm⟩ := k0; exact DataW.trod_lt m _ _ _ hm
  obtain ⟨z0, w0⟩ : ∃ zs, IsRow .u8 W a0 len0 cap0 zs := by
    obtain ⟨fuel, hf⟩ := h0
    rcases open_ints Ybaf.underlying22 Ybaf.underlying5 (by kernel_rfl) hf with ⟨hcs, _⟩ | ⟨x, l, c, zs, hcs, _, hl, hm, hz, _, hcell, hwz⟩
    · simp [Value.cells] at hcs
      obtain ⟨rfl, rfl, rfl⟩ := hcs
      exact ⟨[], .inl ⟨rfl, rfl, rfl, rfl⟩⟩
    · simp [Value.cells] at hcs
      obtain ⟨rfl, rfl, rfl⟩ := hcs
      exact ⟨zs, .inr ⟨_, rfl, hl, hm, by simpa using hz, hcell, hwz⟩⟩
  have k1 := h1
  have lt1 : ∀ x ∈ p1, x.block < W.heap.size := by obtain ⟨m, hm⟩ := k1; exact DataW.trod_lt m _ _ _ hm
  obtain ⟨ls, w1, rfl⟩ := open_arr Ybaf.underlying23 Ybaf.underlying5 cells5 cells23 (hval 1 23 v1 rfl rfl) h1
  obtain ⟨a2, rfl, rfl, rfl, w2⟩ := open_int Ybaf.underlying5 (hval 2 5 v2 rfl rfl) h2
  obtain ⟨a3, rfl, rfl, rfl, w3⟩ := open_int Ybaf.underlying24 (hval 3 24 v3 rfl rfl) h3
  clear hA0 hval0
  refine (walk a0 len0 cap0 z0 ls a2 a3 W w0 w1 w2 w3).mono fun e W' ⟨he, bel⟩ => ?_
  subst he
  refine ⟨_, rfl, _, _, _, [], p0 ++ (p1 ++ ([] ++ ([] ++ []))), q, hW', ?_, ?_, ?_, bel.frame _, fun h => by cases h⟩
  · exact trodAll_mk1 (shut_bool Ybaf.underlying4 _)
  · exact (trodAll_cons_mk (Below.trod laidOut (by kernel_rfl) (of_decide_eq_true (by kernel_rfl)) k0 bel lt0) (trodAll_cons_mk (Below.trod laidOut (by kernel_rfl) (of_decide_eq_true (by kernel_rfl)) k1 bel lt1) (trodAll_cons_mk (shut_int Ybaf.underlying5 w2) (trodAll_cons_mk (shut_int Ybaf.underlying24 w3) trodAll_mk0))))
  · exact Below.trodVars laidOut bel (by kernel_rfl) hV

theorem proved : Rows.LawS2667CRoundTripToldSaid :=
  Claim7.holds_of_told_tied_any_at .later 3 Ybaf.f3 "fmt.errorf" [] [] _ _ _ _ _ (by kernel_rfl) rfl rfl rfl laidOut (by kernel_rfl) rfl ⟨rfl, rfl, rfl, rfl, rfl, rfl, rfl⟩ rfl rfl (by kernel_rfl) (by kernel_rfl) Ybaf.func3 (by kernel_rfl)
    (of_decide_eq_true (by kernel_rfl)) (of_decide_eq_true (by kernel_rfl)) stops.symm rfl stopKnobs.symm (by kernel_rfl)
    (by kernel_rfl) (by kernel_rfl) (by kernel_rfl) (by kernel_rfl) (by kernel_rfl) (by kernel_rfl) (by kernel_rfl) (by kernel_rfl) (by kernel_rfl) rfl (by kernel_rfl) rfl rfl
    rfl rfl
    rfl (by kernel_rfl) (by kernel_rfl) (by kernel_rfl) (by decide) (by kernel_rfl) lawS2667CRoundTrip_row_tie
    (OpenClaim.moreEntering_of (by kernel_rfl) (by kernel_rfl) (by kernel_rfl) (by kernel_rfl) (by kernel_rfl) (by kernel_rfl) (by kernel_rfl) (by kernel_rfl) (by kernel_rfl) (by kernel_rfl))
    ⟨_, WideRow.started_initial, quiet _⟩
    (fun os started _ H enc _ => lifted os started H enc)
end Go.Proofs.YbulkbcfcFmt.lawS2667CRoundTrip
