/-
  The law netlab.LawS2662AExact: the frame is the seat's shell; the walk is put together out of the two ways of YbulkbcckWalk.
-/
import Derived.Test.YbulkbcckRows
import Derived.Test.YbulkbcckWalk
import Derived.WalkKit
import Derived.ProofKit
import Derived.OpenShut
import Derived.ShutString
import Derived.ChangeOld
import Derived.Below
namespace Go.Proofs.Ybulkbcck.lawS2662AExact
open Go.ChangeShapes Go.WideShapes Go.ChangeAt Go.RowKit
open Go.ChangeMaps (open_string shut_string)
set_option linter.unusedVariables false

theorem own : ownKnob Yba.prog.godebug = none := by kernel_rfl
theorem laidOut : laidOutB Yba.prog = true := by kernel_rfl

/-- WHAT THE WALK IS TOLD OF A SLICE OF INTEGERS THAT CAME IN: it is nil; or it leads to a row of 'cap' cells, the numbers 'zs' (the first 'len' are its elements, the rest its spare room), each fitting its kind. -/
def IsRow (k : IntKind) (w : World) (a : Option Addr) (len cap : Nat) (zs : List Int) : Prop :=
  (a = none ∧ len = 0 ∧ cap = 0 ∧ zs = []) ∨
  ∃ x, a = some x ∧ len ≤ cap ∧ cap ≤ maxLen ∧ zs.length = cap ∧ (∀ i, i < zs.length → w.cell? (x.add i) = some (.int k (zs.getD i 0))) ∧ ∀ n ∈ zs, (Lit.int k n).wf = true

theorem block_lt {w : World} {x : Addr} {v : Value} (h : w.cell? x = some v) : x.block < w.heap.size := by
  unfold World.cell? at h
  by_cases hb : x.block < w.heap.size
  · exact hb
  · rw [Array.getElem?_eq_none (by omega)] at h
    cases h

theorem row_facts {w : World} {a : Option Addr} {len cap : Nat} {zs : List Int} (h : IsRow .u16 w a len cap zs) :
    ∃ f : Nat → Nat, (∀ k, k < len → ∃ b o, a = some ⟨b, o, none⟩ ∧ b < w.heap.size ∧ w.cell? ⟨b, o + k, none⟩ = some (.int .u16 (f k))) ∧ ∀ k, f k ≤ 65535 := by
  rcases h with ⟨rfl, rfl, rfl, rfl⟩ | ⟨x, rfl, hl, hm, hz, hcell, hwf⟩
  · exact ⟨fun _ => 0, fun k hk => absurd hk (by omega), fun _ => Nat.zero_le _⟩
  · have hb : ∀ k, 0 ≤ zs.getD k 0 ∧ zs.getD k 0 ≤ 65535 := by
      intro k
      by_cases hk : k < zs.length
      · have := hwf (zs.getD k 0) (by simp [hk])
        simp only [Lit.wf, decide_eq_true_eq, Bool.and_eq_true] at this
        have h1 : IntKind.u16.min = 0 := by decide
        have h2 : IntKind.u16.max = 65535 := by decide
        rw [h1, h2] at this
        exact this
      · simp [List.getD, List.getElem?_eq_none (by omega : zs.length ≤ k)]
    refine ⟨fun k => (zs.getD k 0).toNat, fun k hk => ?_, fun k => by have := hb k; show (zs.getD k 0).toNat ≤ 65535; omega⟩
    have hc := hcell k (by omega)
    obtain ⟨b, o, sp⟩ := x
    obtain rfl : sp = none := by
      have := World.cell?_spot (hcell 0 (by omega))
      simpa [Addr.add] using this
    refine ⟨b, o, rfl, ?_, ?_⟩
    · have := block_lt hc
      rw [Go.WideShapes.add_plain] at this
      exact this
    · have e : (((zs.getD k 0).toNat : Nat) : Int) = zs.getD k 0 := by have := hb k; omega
      show _ = some (Value.int .u16 (((zs.getD k 0).toNat : Nat) : Int))
      rw [e, ← hc]
      rw [Go.WideShapes.add_plain]

theorem walk_long (a0 : Option Addr) (len0 cap0 : Nat) (a1 : Option Addr) (len1 cap1 : Nat) (a2 : Int) (w : World) (h : 1024 < len0 ∨ 1024 < len1) (m0 : len0 ≤ 9223372036854775807) (m1 : len1 ≤ 9223372036854775807) :
    Calls Yba.prog 3 #[.slice a0 len0 cap0, .slice a1 len1 cap1, .int .u64 a2] w fun e w' => e = .returned (.bool true) ∧ Below w.heap.size w w' := by
  by_cases h0 : 1024 < len0
  · go_enter Yba.func3, Yba.ntmps3
    go_wp2
    go_ret
    exact ⟨rfl, Below.refl _ _⟩
  · have h1 : 1024 < len1 := by omega
    clear h
    go_enter Yba.func3, Yba.ntmps3
    go_wp2
    go_ret
    exact ⟨rfl, Below.refl _ _⟩

theorem walk (a0 : Option Addr) (len0 cap0 : Nat) (z0 : List Int) (a1 : Option Addr) (len1 cap1 : Nat) (z1 : List Int) (a2 : Int) (w : World) (w0 : IsRow .u16 w a0 len0 cap0 z0) (w1 : IsRow .u16 w a1 len1 cap1 z1) (w2 : (Lit.int .u64 a2).wf = true) :
    Calls Yba.prog 3 #[.slice a0 len0 cap0, .slice a1 len1 cap1, .int .u64 a2] w fun e w' => e = .returned (.bool true) ∧ Below w.heap.size w w' := by
  have wl : ∀ {a : Option Addr} {len cap : Nat} {zs : List Int}, IsRow .u16 w a len cap zs → len ≤ 9223372036854775807 := by
    intro a len cap zs h
    rcases h with ⟨_, rfl, _, _⟩ | ⟨_, _, hl, hm, _⟩
    · omega
    · unfold maxLen at hm; omega
  have m0 := wl w0
  have m1 := wl w1
  obtain ⟨f, hf, bf⟩ := row_facts w0
  obtain ⟨g, hg, bg⟩ := row_facts w1
  have ws : 0 ≤ a2 ∧ a2 ≤ 18446744073709551615 := by
    simp only [Lit.wf, decide_eq_true_eq, Bool.and_eq_true] at w2
    have h1 : IntKind.u64.min = 0 := by decide
    have h2 : IntKind.u64.max = 18446744073709551615 := by decide
    rw [h1, h2] at w2
    exact w2
  by_cases hl : 1024 < len0 ∨ 1024 < len1
  · exact walk_long a0 len0 cap0 a1 len1 cap1 a2 w hl m0 m1
  · by_cases hc : len1 < len0
    · exact walkA a0 len0 cap0 a1 len1 cap1 a2 w f g hf hg bf bg (by omega) (by omega) ws.1 ws.2 hc
    · exact walkB a0 len0 cap0 a1 len1 cap1 a2 w f g hf hg bf bg (by omega) (by omega) ws.1 ws.2 (by omega)

/-! ### THE ROW's STEP: WRITTEN OUT: LEAVE IT -/
set_option maxRecDepth 100000 in
theorem lifted (os : Os) (started : os.Started) (H : Type) (enc : TypeId × Value → H) :
    ReturnsInHanded {} Yba.checked os 3 .any (Rows.lawS2662AExactSpec.pre6 enc Yba.prog Yba.f3 Rows.lawS2662AExactRow.domain false) (Rows.lawS2662AExactSpec.post enc Yba.prog Yba.f3 false true false false) := by
  refine returnsInHanded_of_change (C := Yba.checked) own started (by kernel_rfl) Yba.func3
    (ChangeSpec.witness6 (enc := enc) (C := Yba.checked) false ⟨#[], #[.slice none 0 0, .slice none 0 0, .int .u64 0], []⟩ 8 (by kernel_rfl) (by kernel_rfl) (by kernel_rfl) (by kernel_rfl)) ?_
  intro W base args ds gs before hval0 hW hcnd _
  have hval : ∀ (j : Nat) t v, Yba.f3.params[j]? = some t → args[j]? = some v → Value.okWide Yba.prog W .any base t v := hval0
  have hW' := hW
  obtain ⟨p, q, hA0, hV, rfl, hfz, hnd⟩ := hW
  have hA : DataW.TrodAll enc Yba.prog W 0 (fun _ => true) true Yba.f3.params.toList args.toList ds p := hA0
  rw [Yba.params3] at hA hval
  obtain ⟨v0, vs0, d0, ds0, p0, q0, hargs, rfl, rfl, h0, r0⟩ := trodAll_cons hA
  obtain ⟨v1, vs1, d1, ds1, p1, q1, rfl, rfl, rfl, h1, r1⟩ := trodAll_cons r0
  obtain ⟨v2, vs2, d2, ds2, p2, q2, rfl, rfl, rfl, h2, r2⟩ := trodAll_cons r1
  obtain ⟨rfl, rfl, rfl⟩ := trodAll_nil r2
  obtain rfl : args = #[v0, v1, v2] := by cases args; simp_all
  obtain ⟨rfl, rfl⟩ := trodVars_none hV
  obtain ⟨a0, len0, cap0, rfl⟩ := okWide_slice Yba.underlying22 (hval 0 22 v0 rfl rfl)
  have k0 := h0
  have lt0 : ∀ x ∈ p0, x.block < W.heap.size := by obtain ⟨m, hm⟩ := k0; exact DataW.trod_lt m _ _ _ hm
  obtain ⟨z0, w0⟩ : ∃ zs, IsRow .u16 W a0 len0 cap0 zs := by
    obtain ⟨fuel, hf⟩ := h0
    rcases open_ints Yba.underlying22 Yba.underlying26 (by kernel_rfl) hf with ⟨hcs, _⟩ | ⟨x, l, c, zs, hcs, _, hl, hm, hz, _, hcell, hwz⟩
    · simp [Value.cells] at hcs
      obtain ⟨rfl, rfl, rfl⟩ := hcs
      exact ⟨[], .inl ⟨rfl, rfl, rfl, rfl⟩⟩
    · simp [Value.cells] at hcs
      obtain ⟨rfl, rfl, rfl⟩ := hcs
      exact ⟨zs, .inr ⟨_, rfl, hl, hm, by simpa using hz, hcell, hwz⟩⟩
  obtain ⟨a1, len1, cap1, rfl⟩ := okWide_slice Yba.underlying22 (hval 1 22 v1 rfl rfl)
  have k1 := h1
  have lt1 : ∀ x ∈ p1, x.block < W.heap.size := by obtain ⟨m, hm⟩ := k1; exact DataW.trod_lt m _ _ _ hm
  obtain ⟨z1, w1⟩ : ∃ zs, IsRow .u16 W a1 len1 cap1 zs := by
    obtain ⟨fuel, hf⟩ := h1
    rcases open_ints Yba.underlying22 Yba.underlying26 (by kernel_rfl) hf with ⟨hcs, _⟩ | ⟨x, l, c, zs, hcs, _, hl, hm, hz, _, hcell, hwz⟩
    · simp [Value.cells] at hcs
      obtain ⟨rfl, rfl, rfl⟩ := hcs
      exact ⟨[], .inl ⟨rfl, rfl, rfl, rfl⟩⟩
    · simp [Value.cells] at hcs
      obtain ⟨rfl, rfl, rfl⟩ := hcs
      exact ⟨zs, .inr ⟨_, rfl, hl, hm, by simpa using hz, hcell, hwz⟩⟩
  obtain ⟨a2, rfl, rfl, rfl, w2⟩ := open_int Yba.underlying23 (hval 2 23 v2 rfl rfl) h2
  clear hA0 hval0
  refine (walk a0 len0 cap0 z0 a1 len1 cap1 z1 a2 W w0 w1 w2).mono fun e W' ⟨he, bel⟩ => ?_
  subst he
  exact ⟨_, rfl, _, _, _, [], _, [], hW', trodAll_mk1 (shut_bool Yba.underlying4 _), (trodAll_cons_mk (Below.trod laidOut (by kernel_rfl) (of_decide_eq_true (by kernel_rfl)) k0 bel lt0) (trodAll_cons_mk (Below.trod laidOut (by kernel_rfl) (of_decide_eq_true (by kernel_rfl)) k1 bel lt1) (trodAll_cons_mk (shut_int Yba.underlying23 w2) trodAll_mk0))), rfl, bel.frame _, fun h => by cases h⟩

theorem over : Rows.lawS2662AExactRow.holds Yba.pinned (OpenSpec.ofChange Rows.lawS2662AExactSpec) :=
  OpenClaim.holds_of_wide 3 Yba.f3 rfl rfl rfl rfl rfl rfl rfl ⟨rfl, rfl, rfl, rfl, rfl⟩ rfl rfl rfl rfl rfl (by kernel_rfl) Yba.func3 (by kernel_rfl)
    (of_decide_eq_true (by kernel_rfl)) (by unfold Func.isWrapper; first | (rw [if_pos (by decide +kernel)]; kernel_rfl) | (rw [if_neg (by decide +kernel)]; exact ⟨rfl, rfl⟩))
    (fun os started H enc _ => lifted os started H enc)

/-- ████ THE STATEMENT ████ -/
theorem proved : Rows.LawS2662AExactSaid := over
end Go.Proofs.Ybulkbcck.lawS2662AExact
