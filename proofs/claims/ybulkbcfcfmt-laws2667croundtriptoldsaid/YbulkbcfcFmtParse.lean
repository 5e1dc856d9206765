/-
  wire.parseHeader at the bytes that appendHeader writes.
-/
import Derived.Test.YbulkbcfcFmtOpen
namespace Go.Proofs.YbulkbcfcFmt
open Go.RowKit

theorem forIn_yield {P : Program} {α β : Type} (f : α → β → Sem (ForInStep β)) (b : β) (w : World) : ∀ js : List α, (∀ j ∈ js, (f j b).run P w = .ok (.yield b) w) → (forIn js b f).run P w = .ok b w
  | [], _ => by simp
  | j :: js, h => by
    rw [List.forIn_cons]
    simp only [Sem.run_bind, h j (by simp), Result.andThen_ok]
    exact forIn_yield f b w js fun k hk => h k (by simp [hk])

/-- An array of bytes equals itself. -/
theorem eq26 (d : Nat) (ls : List Int) (h16 : ls.length = 16) (w : World) : (Op.equalIn (d + 2) 26 (.agg (bv ls).toArray) (.agg (bv ls).toArray)).run Ybaf.prog w = .ok true w := by
  obtain ⟨i, hi, _, hs, _⟩ := info_parts info5
  have hpart : ∀ (x : Int) (xs : Array Value) (k : Nat), xs[k]? = some (.int .u8 x) → (part 5 xs k).run Ybaf.prog w = .ok (.int .u8 x) w := by
    intro x xs k hx
    simp [part, isAgg, run_underlying Ybaf.underlying5, hx]
  unfold Op.equalIn
  simp only [Sem.run_bind, run_underlying Ybaf.underlying26, Result.andThen_ok]
  simp only [sizeOf, typeInfo, Sem.run_bind, run_program, hi, hs, Result.andThen_ok, Sem.run_pure, Std.Legacy.Range.forIn_eq_forIn_range']
  rw [forIn_yield]
  · rfl
  · intro j hj
    have hj16 : j < 16 := by
      simp [Std.Legacy.Range.size] at hj
      omega
    obtain ⟨x, hx⟩ : ∃ x, ls[j]? = some x := ⟨ls[j], by simp⟩
    have hx' : (bv ls).toArray[j * 1]? = some (.int .u8 x) := by simp [bv, hx]
    simp only [Sem.run_bind, hpart x _ _ hx', Result.andThen_ok, run_equalIn_int w d 5 .u8 .u8 x x Ybaf.underlying5]
    simp

theorem list16 {ls : List Int} (h : ls.length = 16) : ∃ a0 a1 a2 a3 a4 a5 a6 a7 a8 a9 a10 a11 a12 a13 a14 a15, ls = [a0, a1, a2, a3, a4, a5, a6, a7, a8, a9, a10, a11, a12, a13, a14, a15] := by
  match ls, h with
  | [a0, a1, a2, a3, a4, a5, a6, a7, a8, a9, a10, a11, a12, a13, a14, a15], _ => exact ⟨a0, a1, a2, a3, a4, a5, a6, a7, a8, a9, a10, a11, a12, a13, a14, a15, rfl⟩

theorem build28 (ls : List Int) (ly : Int) (h16 : ls.length = 16) (w : World) :
    (Instr.build 28 #[(0, .agg (bv ls).toArray), (1, .int .u8 ly)]).run Ybaf.prog w = .ok (.agg (hd ls ly 0).toArray) w := by
  obtain ⟨a0, a1, a2, a3, a4, a5, a6, a7, a8, a9, a10, a11, a12, a13, a14, a15, rfl⟩ := list16 h16
  kernel_rfl

theorem build2_yields {P : Program} {a : Act} {w : World} {o : Oper} (t : TypeId) (x0 x1 : Operand) (ho : o.op = .build t #[(0, x0), (1, x1)]) (v0 v1 : Value) (h0 : a.eval x0 = v0) (h1 : a.eval x1 = v1) (v : Value) (hr : (Instr.build t #[(0, v0), (1, v1)]).run P w = .ok v w) : (execOp a.eval o).run P w = .ok (.value v) w := by
  unfold execOp
  simp only [ho, List.map_toArray, List.map_cons, List.map_nil, h0, h1, hr, Sem.run_bind, Result.andThen_ok, Sem.run_pure]

theorem hd_one (ls : List Int) (ly ca : Int) : ∀ v ∈ hd ls ly ca, v.oneCell' = true := by
  intro v hv
  rcases List.mem_append.1 hv with hv | hv
  · exact bv_one ls v hv
  · simp only [List.mem_cons, List.not_mem_nil, or_false] at hv
    rcases hv with rfl | rfl <;> rfl

theorem size28 : (Ybaf.prog.info? 28).map (·.size) = some 18 := by kernel_rfl

theorem take_at {P : Program} {ops : Array Oper} {Q : Exit → Act → World → Prop} {md : Region.Mode} {S : World → Prop} {oi : Oper} {fuel : Nat} {listed : Array Bool} {a : Act} {w : World} (i : Nat) (d : Nat) (v : Value) (hi : ops[i]? = some oi) (hd : oi.dst = some d)
    (hs : Region.noSelect ops = true) (hf : Region.free md ops listed i = true) (hr : (Region.ready md ops listed).contains i = true)
    (hQ : ∀ c a w, Q (.panic c) (a.put oi.dst v) w → Q (.panic c) a w) (hy : YieldsIf P ops S oi v a) (hS : S w)
    (h : wpAnyH P md ops Q S fuel (listed.setIfInBounds i true) (a.put (some d) v) w) : wpAnyH P md ops Q S (fuel + 1) listed a w :=
  wpAnyH_take hi hs hf hr hQ hy hS (hd ▸ h)

theorem ready_at {P : Program} {ops : Array Oper} {Q : Exit → Act → World → Prop} {md : Region.Mode} {S : World → Prop} {oi : Oper} {fuel : Nat} {listed : Array Bool} {a : Act} {w : World} (i : Nat) (d : Option Nat) (v : Value) (w' : World) (hr : Region.ready md ops listed = [i]) (hi : ops[i]? = some oi)
    (hw : Region.wanted oi (yielded ops a.tmps) = true) (hrun : ∀ K' : Act → World → Prop, K' (a.put d v) w' → Oper.wp P oi a w K' Q) (hS : S w')
    (h : wpAnyH P md ops Q S fuel (listed.setIfInBounds i true) (a.put d v) w') : wpAnyH P md ops Q S (fuel + 1) listed a w :=
  wpAnyH_ready hr (by simp) (AllReadyH.cons hi (fun K hK => by rw [if_pos hw]; exact hrun K (hK.out _ _ hS fun _ => h)) AllReadyH.nil)

theorem Bytes.at {w w' : World} {g o m : Nat} {xs : List Int} (h : Bytes w (some ⟨g, o, none⟩) m xs) (hb : Below w.heap.size w w') {j : Nat} {y : Int} (hy : xs[j]? = some y) : w'.cell? ⟨g, o + j, none⟩ = some (.int .u8 y) := by
  obtain ⟨b, o', e, hc⟩ := h.2 j y hy
  cases e
  exact (hb.cell (p := ⟨g, o + j, none⟩) (block_lt_of_cell (a := ⟨g, o + j, none⟩) hc)).trans hc

theorem Bytes.below {w w' : World} {g o m : Nat} {xs : List Int} (h : Bytes w (some ⟨g, o, none⟩) m xs) (hb : Below w.heap.size w w') : Bytes w' (some ⟨g, o, none⟩) m xs :=
  ⟨h.1, fun _ _ hy => ⟨g, o, rfl, h.at hb hy⟩⟩

theorem Bytes.tail {w : World} {g o m : Nat} {ls : List Int} {ly : Int} {t : List Int} (h : Bytes w (some ⟨g, o, none⟩) m (opened ls ([ly] ++ t))) (h16 : ls.length = 16) : Bytes w (some ⟨g, o + 22, none⟩) (m - 22) t := by
  refine ⟨by have := h.1; simp [opened] at this; omega, fun j y hy => ⟨g, o + 22, rfl, ?_⟩⟩
  rw [Nat.add_assoc]
  refine h.at (Below.refl _ w) (j := 22 + j) ?_
  unfold opened
  rw [List.getElem?_append_right (by simp; omega)]
  simp only [List.length_append, List.length_cons, List.length_nil, h16]
  rw [List.getElem?_append_right (by simp; omega)]
  simp only [List.length_cons, List.length_nil]
  rw [show 22 + j - (0 + 1 + 1 + 1 + 1 + 1 + 16) - (0 + 1) = j from by omega]
  exact hy

set_option maxRecDepth 100000 in
set_option maxHeartbeats 2000000 in
theorem parse_even (g o m cap kb : Nat) (a0 a1 a2 a3 a4 a5 a6 a7 a8 a9 a10 a11 a12 a13 a14 a15 : Int) (w : World) (hb : Bytes w (some ⟨g, o, none⟩) m (opened [a0, a1, a2, a3, a4, a5, a6, a7, a8, a9, a10, a11, a12, a13, a14, a15] ([2] ++ []))) (hgw : g < w.heap.size) (hm : m ≤ 100000) (hmc : m ≤ cap)
    (hK : w.heap[kb]? = some (.cells (bv [a0, a1, a2, a3, a4, a5, a6, a7, a8, a9, a10, a11, a12, a13, a14, a15]).toArray 26 (0, 0))) :
    Calls Ybaf.prog 6 #[.slice (some ⟨g, o, none⟩) m cap, .pointer (some ⟨kb, 0, none⟩), .int .u64 18446744073709551615] w fun e w' => e = .returned (.tuple #[.agg (hd [a0, a1, a2, a3, a4, a5, a6, a7, a8, a9, a10, a11, a12, a13, a14, a15] 2 0).toArray, .int .i64 (m : Int), .nilIface]) ∧ Below w.heap.size w w' := by
  have hl : 22 ≤ m := by have := hb.1; simp [opened] at this; omega
  have HM := hid hb.1
  have HB := hid hb
  have HK := hid hK
  clear hb hK
  have hKw : kb < w.heap.size := (Array.getElem?_eq_some_iff.1 HK.out).1
  have hsz : (Ybaf.prog.info? 26).map (·.size) = some (bv [a0, a1, a2, a3, a4, a5, a6, a7, a8, a9, a10, a11, a12, a13, a14, a15]).toArray.size := size26
  have heq := eq26 9998 [a0, a1, a2, a3, a4, a5, a6, a7, a8, a9, a10, a11, a12, a13, a14, a15] rfl
  go_enter Ybaf.func6, Ybaf.ntmps6
  go_wp2_with (first
    | (go_at_call 9; refine (open_any g o m cap [a0, a1, a2, a3, a4, a5, a6, a7, a8, a9, a10, a11, a12, a13, a14, a15] ([2] ++ []) _ ?_ ?_ rfl hm hmc).mono ?_; exact HB.out.below ((Below.refl _ w).alloc (Nat.le_refl _) _); (simp; omega); rintro e w1 ⟨rfl, hb1⟩)
    | (refine wpList_store_row rfl 26 (.tmp 9) (.tmp 18) rfl w1.heap.size (bv [a0, a1, a2, a3, a4, a5, a6, a7, a8, a9, a10, a11, a12, a13, a14, a15]).toArray rfl rfl 26 #[.int .u8 0, .int .u8 0, .int .u8 0, .int .u8 0, .int .u8 0, .int .u8 0, .int .u8 0, .int .u8 0, .int .u8 0, .int .u8 0, .int .u8 0, .int .u8 0, .int .u8 0, .int .u8 0, .int .u8 0, .int .u8 0] (Deep.blk_alloc_new w1 _) hsz rfl (all_oneCell_toArray (bv_one [a0, a1, a2, a3, a4, a5, a6, a7, a8, a9, a10, a11, a12, a13, a14, a15])) ?_))
  obtain ⟨W, hW, hR, hI, hBW, hzW⟩ : ∃ W, (w1.alloc (.cells #[.int .u8 0, .int .u8 0, .int .u8 0, .int .u8 0, .int .u8 0, .int .u8 0, .int .u8 0, .int .u8 0, .int .u8 0, .int .u8 0, .int .u8 0, .int .u8 0, .int .u8 0, .int .u8 0, .int .u8 0, .int .u8 0] 26)).setRow w1.heap.size (bv [a0, a1, a2, a3, a4, a5, a6, a7, a8, a9, a10, a11, a12, a13, a14, a15]).toArray = W ∧ W.heap[w.heap.size]? = some (.cells #[.int .u8 0, .int .u8 0, .int .u8 0, .int .u8 0, .int .u8 0, .int .u8 0, .int .u8 0, .int .u8 0, .int .u8 0, .int .u8 0, .int .u8 0, .int .u8 0, .int .u8 0, .int .u8 0, .int .u8 0, .int .u8 0, .int .u8 0, .int .u64 0] 28 (0, 0)) ∧ W.heap[w1.heap.size]? = some (.cells (bv [a0, a1, a2, a3, a4, a5, a6, a7, a8, a9, a10, a11, a12, a13, a14, a15]).toArray 26 (0, 0)) ∧ Below w.heap.size w W ∧ w.heap.size < w1.heap.size :=
    ⟨_, rfl, by rw [setRow_other _ _ _ _ (by have := hb1.size; simp at this; omega)]; exact al ((hb1.block _ (by simp)).trans (Deep.blk_alloc_new w _)), setRow_heap _ _ _ _ 26 _ (Deep.blk_alloc_new w1 _),
      below_setRow (Below.alloc (Below.trans ((Below.refl _ w).alloc (Nat.le_refl _) _) (hb1.mono (by simp))) (by have := hb1.size; simp at this; omega) _) (by have := hb1.size; simp at this; omega) _, by have := hb1.size; simp at this; omega⟩
  rw [hW]
  clear hW hb1
  have HI := hid hI
  have HR := hid hR
  have HW := hid hBW
  have hIr : W.rangeAt w1.heap.size 0 (bv [a0, a1, a2, a3, a4, a5, a6, a7, a8, a9, a10, a11, a12, a13, a14, a15]) := (World.rangeAt_of_block hI 0 16)
  have hKr : W.rangeAt kb 0 (bv [a0, a1, a2, a3, a4, a5, a6, a7, a8, a9, a10, a11, a12, a13, a14, a15]) := (World.rangeAt_of_block ((hBW.block kb hKw).trans HK.out) 0 16)
  clear hI hR hBW
  have hu := Ybaf.underlying26
  have hi : (Ybaf.prog.info? 26).map (·.size) = some (bv [a0, a1, a2, a3, a4, a5, a6, a7, a8, a9, a10, a11, a12, a13, a14, a15]).length := size26
  have hS0 : (W.drew).rangeAt w1.heap.size 0 (bv [a0, a1, a2, a3, a4, a5, a6, a7, a8, a9, a10, a11, a12, a13, a14, a15]) ∧ (W.drew).rangeAt kb 0 (bv [a0, a1, a2, a3, a4, a5, a6, a7, a8, a9, a10, a11, a12, a13, a14, a15]) := ⟨(World.rangeAt_drew _ _ _ _).2 hIr, (World.rangeAt_drew _ _ _ _).2 hKr⟩
  refine wp_region_noPanic ?_
  refine wp_region_held_drew (S := fun w' => w'.rangeAt w1.heap.size 0 (bv [a0, a1, a2, a3, a4, a5, a6, a7, a8, a9, a10, a11, a12, a13, a14, a15]) ∧ w'.rangeAt kb 0 (bv [a0, a1, a2, a3, a4, a5, a6, a7, a8, a9, a10, a11, a12, a13, a14, a15])) (by kernel_rfl) hS0 (fun hHeld => ?_)
  refine take_at 0 25 (.pointer (some ⟨kb, 0, none⟩)) rfl rfl (by kernel_rfl) (by kernel_rfl) (by kernel_rfl) (fun _ _ _ h => h) (Or.inl ⟨by rfl, ?_⟩) (by assumption) ?_
  · intro w' hSw; go_simp
  simp only [Act.put, List.setIfInBounds_toArray, List.set_cons_zero, List.set_cons_succ]
  refine take_at 1 26 (.bool true) rfl rfl (by kernel_rfl) (by kernel_rfl) (by kernel_rfl) (fun _ _ _ h => h) (Or.inl ⟨by rfl, ?_⟩) (by assumption) ?_
  · intro w' hSw; go_simp
  simp only [Act.put, List.setIfInBounds_toArray, List.set_cons_zero, List.set_cons_succ]
  refine take_at 2 27 (.bool true) rfl rfl (by kernel_rfl) (by kernel_rfl) (by kernel_rfl) (fun _ _ _ h => h) (Or.inl ⟨by rfl, ?_⟩) (by assumption) ?_
  · intro w' hSw; go_simp
  simp only [Act.put, List.setIfInBounds_toArray, List.set_cons_zero, List.set_cons_succ]
  refine take_at 3 28 (.agg (bv [a0, a1, a2, a3, a4, a5, a6, a7, a8, a9, a10, a11, a12, a13, a14, a15]).toArray) rfl rfl (by kernel_rfl) (by kernel_rfl) (by kernel_rfl) (fun _ _ _ h => h) (yieldsIf_load_mid (by rfl) _ _ rfl w1.heap.size 0 rfl (bv [a0, a1, a2, a3, a4, a5, a6, a7, a8, a9, a10, a11, a12, a13, a14, a15]) _ (fun _ h => h.1) hu rfl hi) (by assumption) ?_
  simp only [Act.put, List.setIfInBounds_toArray, List.set_cons_zero, List.set_cons_succ]
  refine take_at 4 29 (.pointer (some ⟨kb, 0, none⟩)) rfl rfl (by kernel_rfl) (by kernel_rfl) (by kernel_rfl) (fun _ _ _ h => h) (Or.inl ⟨by rfl, ?_⟩) (by assumption) ?_
  · intro w' hSw; go_simp
  simp only [Act.put, List.setIfInBounds_toArray, List.set_cons_zero, List.set_cons_succ]
  refine take_at 5 30 (.pointer (some ⟨kb, 0, none⟩)) rfl rfl (by kernel_rfl) (by kernel_rfl) (by kernel_rfl) (fun _ _ _ h => h) (Or.inl ⟨by rfl, ?_⟩) (by assumption) ?_
  · intro w' hSw; go_simp
  simp only [Act.put, List.setIfInBounds_toArray, List.set_cons_zero, List.set_cons_succ]
  refine take_at 6 31 (.agg (bv [a0, a1, a2, a3, a4, a5, a6, a7, a8, a9, a10, a11, a12, a13, a14, a15]).toArray) rfl rfl (by kernel_rfl) (by kernel_rfl) (by kernel_rfl) (fun _ _ _ h => h) (yieldsIf_load_mid (by rfl) _ _ rfl kb 0 rfl (bv [a0, a1, a2, a3, a4, a5, a6, a7, a8, a9, a10, a11, a12, a13, a14, a15]) _ (fun _ h => h.2) hu rfl hi) (by assumption) ?_
  simp only [Act.put, List.setIfInBounds_toArray, List.set_cons_zero, List.set_cons_succ]
  refine take_at 7 32 (.bool false) rfl rfl (by kernel_rfl) (by kernel_rfl) (by kernel_rfl) (fun _ _ _ h => h) (Or.inl ⟨by rfl, ?_⟩) (by assumption) ?_
  · intro w' hSw; go_simp
  simp only [Act.put, List.setIfInBounds_toArray, List.set_cons_zero, List.set_cons_succ]
  refine take_at 8 33 (.bool false) rfl rfl (by kernel_rfl) (by kernel_rfl) (by kernel_rfl) (fun _ _ _ h => h) (Or.inl ⟨by rfl, ?_⟩) (by assumption) ?_
  · intro w' hSw; go_simp
  simp only [Act.put, List.setIfInBounds_toArray, List.set_cons_zero, List.set_cons_succ]
  refine wpAnyH_done (by kernel_rfl) ?_ _
  refine NoPanic.normal ?_
  have hn21 : (21 : Int) < (m : Int) := by omega
  go_wp2_with fail
  have hc21 : w.cell? ⟨g, o + 21, none⟩ = some (.int .u8 2) := HB.out.at (Below.refl _ w) rfl
  refine wp_region_noPanic ?_
  refine wp_region_held_drew (S := Below W.heap.size W) (by kernel_rfl) (Below.refl _ W).drew.drew (fun hHeld => ?_)
  refine take_at 0 42 (.agg (bv [a0, a1, a2, a3, a4, a5, a6, a7, a8, a9, a10, a11, a12, a13, a14, a15]).toArray) rfl rfl (by kernel_rfl) (by kernel_rfl) (by kernel_rfl) (fun _ _ _ h => h) (yieldsIf_load_mid (by rfl) _ _ rfl w1.heap.size 0 rfl (bv [a0, a1, a2, a3, a4, a5, a6, a7, a8, a9, a10, a11, a12, a13, a14, a15]) _ (fun _ h => World.rangeAt_of_block ((h.block _ (Array.getElem?_eq_some_iff.1 HI.out).1).trans HI.out) 0 16) hu rfl hi) (by assumption) ?_
  simp only [Act.put, List.setIfInBounds_toArray, List.set_cons_zero, List.set_cons_succ]
  refine take_at 1 43 (.slice (some ⟨g, o, none⟩) m cap) rfl rfl (by kernel_rfl) (by kernel_rfl) (by kernel_rfl) (fun _ _ _ h => h) (Or.inl ⟨by rfl, ?_⟩) (by assumption) ?_
  · intro w' hSw; go_simp
  simp only [Act.put, List.setIfInBounds_toArray, List.set_cons_zero, List.set_cons_succ]
  refine take_at 2 44 (.int .i64 21) rfl rfl (by kernel_rfl) (by kernel_rfl) (by kernel_rfl) (fun _ _ _ h => h) (Or.inl ⟨by rfl, ?_⟩) (by assumption) ?_
  · intro w' hSw; go_simp
  simp only [Act.put, List.setIfInBounds_toArray, List.set_cons_zero, List.set_cons_succ]
  refine take_at 3 45 (.pointer (some ⟨g, o + 21, none⟩)) rfl rfl (by kernel_rfl) (by kernel_rfl) (by kernel_rfl) (fun _ _ _ h => h) (Or.inl ⟨by rfl, ?_⟩) (by assumption) ?_
  · intro w' hSw; go_simp
  simp only [Act.put, List.setIfInBounds_toArray, List.set_cons_zero, List.set_cons_succ]
  refine take_at 4 46 (.int .u8 2) rfl rfl (by kernel_rfl) (by kernel_rfl) (by kernel_rfl) (fun _ _ _ h => h) (Or.inl ⟨by rfl, ?_⟩) (by assumption) ?_
  · intro w' hSw; have hc := ((hSw.cell (p := ⟨g, o + 21, none⟩) (Nat.lt_of_lt_of_le hgw HW.out.size)).trans (HW.out.cell (p := ⟨g, o + 21, none⟩) hgw)).trans hc21; go_simp
  simp only [Act.put, List.setIfInBounds_toArray, List.set_cons_zero, List.set_cons_succ]
  refine take_at 5 47 ((.agg (hd [a0, a1, a2, a3, a4, a5, a6, a7, a8, a9, a10, a11, a12, a13, a14, a15] 2 0).toArray)) rfl rfl (by kernel_rfl) (by kernel_rfl) (by kernel_rfl) (fun _ _ _ h => h) (Or.inl ⟨by rfl, ?_⟩) (by assumption) ?_
  · intro w' hSw; exact build2_yields 28 (.tmp 42) (.tmp 46) rfl _ _ rfl rfl _ (build28 [a0, a1, a2, a3, a4, a5, a6, a7, a8, a9, a10, a11, a12, a13, a14, a15] 2 rfl _)
  simp only [Act.put, List.setIfInBounds_toArray, List.set_cons_zero, List.set_cons_succ]
  refine ready_at 6 (some 12) (.pointer (some ⟨W.heap.size, 0, none⟩)) (W.drew.drew.alloc (.cells #[.int .u8 0, .int .u8 0, .int .u8 0, .int .u8 0, .int .u8 0, .int .u8 0, .int .u8 0, .int .u8 0, .int .u8 0, .int .u8 0, .int .u8 0, .int .u8 0, .int .u8 0, .int .u8 0, .int .u8 0, .int .u8 0, .int .u8 0, .int .u64 0] 28)) (by kernel_rfl) rfl (by rfl) (fun K' hk => ?_) ((Below.refl _ W).drew.drew.alloc (Nat.le_refl _) _) ?_
  · go_simp
    exact hk
  simp only [Act.put, List.setIfInBounds_toArray, List.set_cons_zero, List.set_cons_succ]
  refine ready_at 7 none undef ((W.drew.drew.alloc (.cells #[.int .u8 0, .int .u8 0, .int .u8 0, .int .u8 0, .int .u8 0, .int .u8 0, .int .u8 0, .int .u8 0, .int .u8 0, .int .u8 0, .int .u8 0, .int .u8 0, .int .u8 0, .int .u8 0, .int .u8 0, .int .u8 0, .int .u8 0, .int .u64 0] 28)).setRow W.heap.size (hd [a0, a1, a2, a3, a4, a5, a6, a7, a8, a9, a10, a11, a12, a13, a14, a15] 2 0).toArray) (by kernel_rfl) rfl (by rfl) (fun K' hk => wp_store_row 28 (.tmp 12) (.tmp 47) rfl W.heap.size (hd [a0, a1, a2, a3, a4, a5, a6, a7, a8, a9, a10, a11, a12, a13, a14, a15] 2 0).toArray rfl rfl 28 #[.int .u8 0, .int .u8 0, .int .u8 0, .int .u8 0, .int .u8 0, .int .u8 0, .int .u8 0, .int .u8 0, .int .u8 0, .int .u8 0, .int .u8 0, .int .u8 0, .int .u8 0, .int .u8 0, .int .u8 0, .int .u8 0, .int .u8 0, .int .u64 0] (Deep.blk_alloc_new W.drew.drew _) size28 rfl (all_oneCell_toArray (hd_one _ _ _)) hk) (below_setRow ((Below.refl _ W).drew.drew.alloc (Nat.le_refl _) _) (Nat.le_refl _) _) ?_
  simp only [Act.put]
  refine wpAnyH_done (by kernel_rfl) ?_ _
  refine NoPanic.normal ?_
  obtain ⟨V, hV, hVR, hVH, hBV, hzV⟩ : ∃ V, (W.drew.drew.alloc (.cells #[.int .u8 0, .int .u8 0, .int .u8 0, .int .u8 0, .int .u8 0, .int .u8 0, .int .u8 0, .int .u8 0, .int .u8 0, .int .u8 0, .int .u8 0, .int .u8 0, .int .u8 0, .int .u8 0, .int .u8 0, .int .u8 0, .int .u8 0, .int .u64 0] 28)).setRow W.heap.size (hd [a0, a1, a2, a3, a4, a5, a6, a7, a8, a9, a10, a11, a12, a13, a14, a15] 2 0).toArray = V ∧ V.heap[w.heap.size]? = some (.cells #[.int .u8 0, .int .u8 0, .int .u8 0, .int .u8 0, .int .u8 0, .int .u8 0, .int .u8 0, .int .u8 0, .int .u8 0, .int .u8 0, .int .u8 0, .int .u8 0, .int .u8 0, .int .u8 0, .int .u8 0, .int .u8 0, .int .u8 0, .int .u64 0] 28 (0, 0)) ∧ V.heap[W.heap.size]? = some (.cells (hd [a0, a1, a2, a3, a4, a5, a6, a7, a8, a9, a10, a11, a12, a13, a14, a15] 2 0).toArray 28 (0, 0)) ∧ Below w.heap.size w V ∧ w.heap.size < W.heap.size :=
    ⟨_, rfl, by rw [setRow_other _ _ _ _ (Nat.ne_of_lt (Array.getElem?_eq_some_iff.1 HR.out).1)]; exact al HR.out, setRow_heap _ _ _ _ 28 _ (Deep.blk_alloc_new W.drew.drew _),
      below_setRow ((HW.out.drew.drew).alloc HW.out.size _) HW.out.size _, (Array.getElem?_eq_some_iff.1 HR.out).1⟩
  rw [hV]
  have HME := hid (show m = 22 + ([] : List Int).length from by have := HM.out; simp [opened] at this ⊢; omega)
  clear hV hIr hKr hS0 hHeld hn21 heq hsz hi HM hc21
  have HVR := hid hVR
  have HBV := hid hBV
  have HVH := hid hVH
  have hcl : V.cell? ⟨W.heap.size, 16, none⟩ = some (.int .u8 2) := (hd_reads rfl hVH).2.1
  clear hVR hBV hVH HI HR HW HK hKw
  have hF : Hid (Below w.heap.size w (V.setRow w.heap.size (hd [a0, a1, a2, a3, a4, a5, a6, a7, a8, a9, a10, a11, a12, a13, a14, a15] 2 0).toArray)) := below_setRow HBV.out (Nat.le_refl _) _
  have hQ : Hid ((V.setRow w.heap.size (hd [a0, a1, a2, a3, a4, a5, a6, a7, a8, a9, a10, a11, a12, a13, a14, a15] 2 0).toArray).heap[w.heap.size]? = some (.cells (hd [a0, a1, a2, a3, a4, a5, a6, a7, a8, a9, a10, a11, a12, a13, a14, a15] 2 0).toArray 28 (0, 0))) := setRow_heap V _ _ _ 28 _ HVR.out
  go_wp2_with (first
    | (refine wpList_load_row rfl 28 (.tmp 12) rfl W.heap.size rfl 28 (hd [a0, a1, a2, a3, a4, a5, a6, a7, a8, a9, a10, a11, a12, a13, a14, a15] 2 0).toArray (0, 0) _ HVH.out Ybaf.underlying28 rfl size28 ?_)
    | (refine wpList_store_row rfl 28 (.tmp 6) (.tmp 71) rfl w.heap.size (hd [a0, a1, a2, a3, a4, a5, a6, a7, a8, a9, a10, a11, a12, a13, a14, a15] 2 0).toArray rfl rfl 28 _ HVR.out size28 rfl (all_oneCell_toArray (hd_one _ _ _)) ?_))
  obtain rfl : m = 22 := HME.out
  exact bodyPost_ret (v := .tuple #[.agg (hd [a0, a1, a2, a3, a4, a5, a6, a7, a8, a9, a10, a11, a12, a13, a14, a15] 2 0).toArray, .int .i64 22, .nilIface]) (res3 (p := 6) (u := 7) (v := 8) (ty := 28) (by kernel_rfl) _ _ w.heap.size 28 (hd [a0, a1, a2, a3, a4, a5, a6, a7, a8, a9, a10, a11, a12, a13, a14, a15] 2 0).toArray (0, 0) _ rfl hQ.out Ybaf.underlying28 rfl size28) rfl ⟨rfl, hF.out⟩

set_option maxRecDepth 100000 in
set_option maxHeartbeats 2000000 in
theorem parse_one (g o m cap kb : Nat) (a0 a1 a2 a3 a4 a5 a6 a7 a8 a9 a10 a11 a12 a13 a14 a15 X : Int) (w : World) (hb : Bytes w (some ⟨g, o, none⟩) m (opened [a0, a1, a2, a3, a4, a5, a6, a7, a8, a9, a10, a11, a12, a13, a14, a15] ([1] ++ uv X.toNat))) (hgw : g < w.heap.size) (hm : m ≤ 100000) (hmc : m ≤ cap)
    (hK : w.heap[kb]? = some (.cells (bv [a0, a1, a2, a3, a4, a5, a6, a7, a8, a9, a10, a11, a12, a13, a14, a15]).toArray 26 (0, 0))) (hx0 : 1 ≤ X) (hx1 : X ≤ 18446744073709551615) :
    Calls Ybaf.prog 6 #[.slice (some ⟨g, o, none⟩) m cap, .pointer (some ⟨kb, 0, none⟩), .int .u64 18446744073709551615] w fun e w' => e = .returned (.tuple #[.agg (hd [a0, a1, a2, a3, a4, a5, a6, a7, a8, a9, a10, a11, a12, a13, a14, a15] 1 X).toArray, .int .i64 (m : Int), .nilIface]) ∧ Below w.heap.size w w' := by
  have hl : 22 ≤ m := by have := hb.1; simp [opened] at this; omega
  have HM := hid hb.1
  have HB := hid hb
  have HK := hid hK
  clear hb hK
  have hKw : kb < w.heap.size := (Array.getElem?_eq_some_iff.1 HK.out).1
  have hsz : (Ybaf.prog.info? 26).map (·.size) = some (bv [a0, a1, a2, a3, a4, a5, a6, a7, a8, a9, a10, a11, a12, a13, a14, a15]).toArray.size := size26
  have heq := eq26 9998 [a0, a1, a2, a3, a4, a5, a6, a7, a8, a9, a10, a11, a12, a13, a14, a15] rfl
  go_enter Ybaf.func6, Ybaf.ntmps6
  go_wp2_with (first
    | (go_at_call 9; refine (open_any g o m cap [a0, a1, a2, a3, a4, a5, a6, a7, a8, a9, a10, a11, a12, a13, a14, a15] ([1] ++ uv X.toNat) _ ?_ ?_ rfl hm hmc).mono ?_; exact HB.out.below ((Below.refl _ w).alloc (Nat.le_refl _) _); (simp; omega); rintro e w1 ⟨rfl, hb1⟩)
    | (refine wpList_store_row rfl 26 (.tmp 9) (.tmp 18) rfl w1.heap.size (bv [a0, a1, a2, a3, a4, a5, a6, a7, a8, a9, a10, a11, a12, a13, a14, a15]).toArray rfl rfl 26 #[.int .u8 0, .int .u8 0, .int .u8 0, .int .u8 0, .int .u8 0, .int .u8 0, .int .u8 0, .int .u8 0, .int .u8 0, .int .u8 0, .int .u8 0, .int .u8 0, .int .u8 0, .int .u8 0, .int .u8 0, .int .u8 0] (Deep.blk_alloc_new w1 _) hsz rfl (all_oneCell_toArray (bv_one [a0, a1, a2, a3, a4, a5, a6, a7, a8, a9, a10, a11, a12, a13, a14, a15])) ?_))
  obtain ⟨W, hW, hR, hI, hBW, hzW⟩ : ∃ W, (w1.alloc (.cells #[.int .u8 0, .int .u8 0, .int .u8 0, .int .u8 0, .int .u8 0, .int .u8 0, .int .u8 0, .int .u8 0, .int .u8 0, .int .u8 0, .int .u8 0, .int .u8 0, .int .u8 0, .int .u8 0, .int .u8 0, .int .u8 0] 26)).setRow w1.heap.size (bv [a0, a1, a2, a3, a4, a5, a6, a7, a8, a9, a10, a11, a12, a13, a14, a15]).toArray = W ∧ W.heap[w.heap.size]? = some (.cells #[.int .u8 0, .int .u8 0, .int .u8 0, .int .u8 0, .int .u8 0, .int .u8 0, .int .u8 0, .int .u8 0, .int .u8 0, .int .u8 0, .int .u8 0, .int .u8 0, .int .u8 0, .int .u8 0, .int .u8 0, .int .u8 0, .int .u8 0, .int .u64 0] 28 (0, 0)) ∧ W.heap[w1.heap.size]? = some (.cells (bv [a0, a1, a2, a3, a4, a5, a6, a7, a8, a9, a10, a11, a12, a13, a14, a15]).toArray 26 (0, 0)) ∧ Below w.heap.size w W ∧ w.heap.size < w1.heap.size :=
    ⟨_, rfl, by rw [setRow_other _ _ _ _ (by have := hb1.size; simp at this; omega)]; exact al ((hb1.block _ (by simp)).trans (Deep.blk_alloc_new w _)), setRow_heap _ _ _ _ 26 _ (Deep.blk_alloc_new w1 _),
      below_setRow (Below.alloc (Below.trans ((Below.refl _ w).alloc (Nat.le_refl _) _) (hb1.mono (by simp))) (by have := hb1.size; simp at this; omega) _) (by have := hb1.size; simp at this; omega) _, by have := hb1.size; simp at this; omega⟩
  rw [hW]
  clear hW hb1
  have HI := hid hI
  have HR := hid hR
  have HW := hid hBW
  have hIr : W.rangeAt w1.heap.size 0 (bv [a0, a1, a2, a3, a4, a5, a6, a7, a8, a9, a10, a11, a12, a13, a14, a15]) := (World.rangeAt_of_block hI 0 16)
  have hKr : W.rangeAt kb 0 (bv [a0, a1, a2, a3, a4, a5, a6, a7, a8, a9, a10, a11, a12, a13, a14, a15]) := (World.rangeAt_of_block ((hBW.block kb hKw).trans HK.out) 0 16)
  clear hI hR hBW
  have hu := Ybaf.underlying26
  have hi : (Ybaf.prog.info? 26).map (·.size) = some (bv [a0, a1, a2, a3, a4, a5, a6, a7, a8, a9, a10, a11, a12, a13, a14, a15]).length := size26
  have hS0 : (W.drew).rangeAt w1.heap.size 0 (bv [a0, a1, a2, a3, a4, a5, a6, a7, a8, a9, a10, a11, a12, a13, a14, a15]) ∧ (W.drew).rangeAt kb 0 (bv [a0, a1, a2, a3, a4, a5, a6, a7, a8, a9, a10, a11, a12, a13, a14, a15]) := ⟨(World.rangeAt_drew _ _ _ _).2 hIr, (World.rangeAt_drew _ _ _ _).2 hKr⟩
  refine wp_region_noPanic ?_
  refine wp_region_held_drew (S := fun w' => w'.rangeAt w1.heap.size 0 (bv [a0, a1, a2, a3, a4, a5, a6, a7, a8, a9, a10, a11, a12, a13, a14, a15]) ∧ w'.rangeAt kb 0 (bv [a0, a1, a2, a3, a4, a5, a6, a7, a8, a9, a10, a11, a12, a13, a14, a15])) (by kernel_rfl) hS0 (fun hHeld => ?_)
  refine take_at 0 25 (.pointer (some ⟨kb, 0, none⟩)) rfl rfl (by kernel_rfl) (by kernel_rfl) (by kernel_rfl) (fun _ _ _ h => h) (Or.inl ⟨by rfl, ?_⟩) (by assumption) ?_
  · intro w' hSw; go_simp
  simp only [Act.put, List.setIfInBounds_toArray, List.set_cons_zero, List.set_cons_succ]
  refine take_at 1 26 (.bool true) rfl rfl (by kernel_rfl) (by kernel_rfl) (by kernel_rfl) (fun _ _ _ h => h) (Or.inl ⟨by rfl, ?_⟩) (by assumption) ?_
  · intro w' hSw; go_simp
  simp only [Act.put, List.setIfInBounds_toArray, List.set_cons_zero, List.set_cons_succ]
  refine take_at 2 27 (.bool true) rfl rfl (by kernel_rfl) (by kernel_rfl) (by kernel_rfl) (fun _ _ _ h => h) (Or.inl ⟨by rfl, ?_⟩) (by assumption) ?_
  · intro w' hSw; go_simp
  simp only [Act.put, List.setIfInBounds_toArray, List.set_cons_zero, List.set_cons_succ]
  refine take_at 3 28 (.agg (bv [a0, a1, a2, a3, a4, a5, a6, a7, a8, a9, a10, a11, a12, a13, a14, a15]).toArray) rfl rfl (by kernel_rfl) (by kernel_rfl) (by kernel_rfl) (fun _ _ _ h => h) (yieldsIf_load_mid (by rfl) _ _ rfl w1.heap.size 0 rfl (bv [a0, a1, a2, a3, a4, a5, a6, a7, a8, a9, a10, a11, a12, a13, a14, a15]) _ (fun _ h => h.1) hu rfl hi) (by assumption) ?_
  simp only [Act.put, List.setIfInBounds_toArray, List.set_cons_zero, List.set_cons_succ]
  refine take_at 4 29 (.pointer (some ⟨kb, 0, none⟩)) rfl rfl (by kernel_rfl) (by kernel_rfl) (by kernel_rfl) (fun _ _ _ h => h) (Or.inl ⟨by rfl, ?_⟩) (by assumption) ?_
  · intro w' hSw; go_simp
  simp only [Act.put, List.setIfInBounds_toArray, List.set_cons_zero, List.set_cons_succ]
  refine take_at 5 30 (.pointer (some ⟨kb, 0, none⟩)) rfl rfl (by kernel_rfl) (by kernel_rfl) (by kernel_rfl) (fun _ _ _ h => h) (Or.inl ⟨by rfl, ?_⟩) (by assumption) ?_
  · intro w' hSw; go_simp
  simp only [Act.put, List.setIfInBounds_toArray, List.set_cons_zero, List.set_cons_succ]
  refine take_at 6 31 (.agg (bv [a0, a1, a2, a3, a4, a5, a6, a7, a8, a9, a10, a11, a12, a13, a14, a15]).toArray) rfl rfl (by kernel_rfl) (by kernel_rfl) (by kernel_rfl) (fun _ _ _ h => h) (yieldsIf_load_mid (by rfl) _ _ rfl kb 0 rfl (bv [a0, a1, a2, a3, a4, a5, a6, a7, a8, a9, a10, a11, a12, a13, a14, a15]) _ (fun _ h => h.2) hu rfl hi) (by assumption) ?_
  simp only [Act.put, List.setIfInBounds_toArray, List.set_cons_zero, List.set_cons_succ]
  refine take_at 7 32 (.bool false) rfl rfl (by kernel_rfl) (by kernel_rfl) (by kernel_rfl) (fun _ _ _ h => h) (Or.inl ⟨by rfl, ?_⟩) (by assumption) ?_
  · intro w' hSw; go_simp
  simp only [Act.put, List.setIfInBounds_toArray, List.set_cons_zero, List.set_cons_succ]
  refine take_at 8 33 (.bool false) rfl rfl (by kernel_rfl) (by kernel_rfl) (by kernel_rfl) (fun _ _ _ h => h) (Or.inl ⟨by rfl, ?_⟩) (by assumption) ?_
  · intro w' hSw; go_simp
  simp only [Act.put, List.setIfInBounds_toArray, List.set_cons_zero, List.set_cons_succ]
  refine wpAnyH_done (by kernel_rfl) ?_ _
  refine NoPanic.normal ?_
  have hn21 : (21 : Int) < (m : Int) := by omega
  go_wp2_with fail
  have hc21 : w.cell? ⟨g, o + 21, none⟩ = some (.int .u8 1) := HB.out.at (Below.refl _ w) rfl
  refine wp_region_noPanic ?_
  refine wp_region_held_drew (S := Below W.heap.size W) (by kernel_rfl) (Below.refl _ W).drew.drew (fun hHeld => ?_)
  refine take_at 0 42 (.agg (bv [a0, a1, a2, a3, a4, a5, a6, a7, a8, a9, a10, a11, a12, a13, a14, a15]).toArray) rfl rfl (by kernel_rfl) (by kernel_rfl) (by kernel_rfl) (fun _ _ _ h => h) (yieldsIf_load_mid (by rfl) _ _ rfl w1.heap.size 0 rfl (bv [a0, a1, a2, a3, a4, a5, a6, a7, a8, a9, a10, a11, a12, a13, a14, a15]) _ (fun _ h => World.rangeAt_of_block ((h.block _ (Array.getElem?_eq_some_iff.1 HI.out).1).trans HI.out) 0 16) hu rfl hi) (by assumption) ?_
  simp only [Act.put, List.setIfInBounds_toArray, List.set_cons_zero, List.set_cons_succ]
  refine take_at 1 43 (.slice (some ⟨g, o, none⟩) m cap) rfl rfl (by kernel_rfl) (by kernel_rfl) (by kernel_rfl) (fun _ _ _ h => h) (Or.inl ⟨by rfl, ?_⟩) (by assumption) ?_
  · intro w' hSw; go_simp
  simp only [Act.put, List.setIfInBounds_toArray, List.set_cons_zero, List.set_cons_succ]
  refine take_at 2 44 (.int .i64 21) rfl rfl (by kernel_rfl) (by kernel_rfl) (by kernel_rfl) (fun _ _ _ h => h) (Or.inl ⟨by rfl, ?_⟩) (by assumption) ?_
  · intro w' hSw; go_simp
  simp only [Act.put, List.setIfInBounds_toArray, List.set_cons_zero, List.set_cons_succ]
  refine take_at 3 45 (.pointer (some ⟨g, o + 21, none⟩)) rfl rfl (by kernel_rfl) (by kernel_rfl) (by kernel_rfl) (fun _ _ _ h => h) (Or.inl ⟨by rfl, ?_⟩) (by assumption) ?_
  · intro w' hSw; go_simp
  simp only [Act.put, List.setIfInBounds_toArray, List.set_cons_zero, List.set_cons_succ]
  refine take_at 4 46 (.int .u8 1) rfl rfl (by kernel_rfl) (by kernel_rfl) (by kernel_rfl) (fun _ _ _ h => h) (Or.inl ⟨by rfl, ?_⟩) (by assumption) ?_
  · intro w' hSw; have hc := ((hSw.cell (p := ⟨g, o + 21, none⟩) (Nat.lt_of_lt_of_le hgw HW.out.size)).trans (HW.out.cell (p := ⟨g, o + 21, none⟩) hgw)).trans hc21; go_simp
  simp only [Act.put, List.setIfInBounds_toArray, List.set_cons_zero, List.set_cons_succ]
  refine take_at 5 47 ((.agg (hd [a0, a1, a2, a3, a4, a5, a6, a7, a8, a9, a10, a11, a12, a13, a14, a15] 1 0).toArray)) rfl rfl (by kernel_rfl) (by kernel_rfl) (by kernel_rfl) (fun _ _ _ h => h) (Or.inl ⟨by rfl, ?_⟩) (by assumption) ?_
  · intro w' hSw; exact build2_yields 28 (.tmp 42) (.tmp 46) rfl _ _ rfl rfl _ (build28 [a0, a1, a2, a3, a4, a5, a6, a7, a8, a9, a10, a11, a12, a13, a14, a15] 1 rfl _)
  simp only [Act.put, List.setIfInBounds_toArray, List.set_cons_zero, List.set_cons_succ]
  refine ready_at 6 (some 12) (.pointer (some ⟨W.heap.size, 0, none⟩)) (W.drew.drew.alloc (.cells #[.int .u8 0, .int .u8 0, .int .u8 0, .int .u8 0, .int .u8 0, .int .u8 0, .int .u8 0, .int .u8 0, .int .u8 0, .int .u8 0, .int .u8 0, .int .u8 0, .int .u8 0, .int .u8 0, .int .u8 0, .int .u8 0, .int .u8 0, .int .u64 0] 28)) (by kernel_rfl) rfl (by rfl) (fun K' hk => ?_) ((Below.refl _ W).drew.drew.alloc (Nat.le_refl _) _) ?_
  · go_simp
    exact hk
  simp only [Act.put, List.setIfInBounds_toArray, List.set_cons_zero, List.set_cons_succ]
  refine ready_at 7 none undef ((W.drew.drew.alloc (.cells #[.int .u8 0, .int .u8 0, .int .u8 0, .int .u8 0, .int .u8 0, .int .u8 0, .int .u8 0, .int .u8 0, .int .u8 0, .int .u8 0, .int .u8 0, .int .u8 0, .int .u8 0, .int .u8 0, .int .u8 0, .int .u8 0, .int .u8 0, .int .u64 0] 28)).setRow W.heap.size (hd [a0, a1, a2, a3, a4, a5, a6, a7, a8, a9, a10, a11, a12, a13, a14, a15] 1 0).toArray) (by kernel_rfl) rfl (by rfl) (fun K' hk => wp_store_row 28 (.tmp 12) (.tmp 47) rfl W.heap.size (hd [a0, a1, a2, a3, a4, a5, a6, a7, a8, a9, a10, a11, a12, a13, a14, a15] 1 0).toArray rfl rfl 28 #[.int .u8 0, .int .u8 0, .int .u8 0, .int .u8 0, .int .u8 0, .int .u8 0, .int .u8 0, .int .u8 0, .int .u8 0, .int .u8 0, .int .u8 0, .int .u8 0, .int .u8 0, .int .u8 0, .int .u8 0, .int .u8 0, .int .u8 0, .int .u64 0] (Deep.blk_alloc_new W.drew.drew _) size28 rfl (all_oneCell_toArray (hd_one _ _ _)) hk) (below_setRow ((Below.refl _ W).drew.drew.alloc (Nat.le_refl _) _) (Nat.le_refl _) _) ?_
  simp only [Act.put]
  refine wpAnyH_done (by kernel_rfl) ?_ _
  refine NoPanic.normal ?_
  obtain ⟨V, hV, hVR, hVH, hBV, hzV⟩ : ∃ V, (W.drew.drew.alloc (.cells #[.int .u8 0, .int .u8 0, .int .u8 0, .int .u8 0, .int .u8 0, .int .u8 0, .int .u8 0, .int .u8 0, .int .u8 0, .int .u8 0, .int .u8 0, .int .u8 0, .int .u8 0, .int .u8 0, .int .u8 0, .int .u8 0, .int .u8 0, .int .u64 0] 28)).setRow W.heap.size (hd [a0, a1, a2, a3, a4, a5, a6, a7, a8, a9, a10, a11, a12, a13, a14, a15] 1 0).toArray = V ∧ V.heap[w.heap.size]? = some (.cells #[.int .u8 0, .int .u8 0, .int .u8 0, .int .u8 0, .int .u8 0, .int .u8 0, .int .u8 0, .int .u8 0, .int .u8 0, .int .u8 0, .int .u8 0, .int .u8 0, .int .u8 0, .int .u8 0, .int .u8 0, .int .u8 0, .int .u8 0, .int .u64 0] 28 (0, 0)) ∧ V.heap[W.heap.size]? = some (.cells (hd [a0, a1, a2, a3, a4, a5, a6, a7, a8, a9, a10, a11, a12, a13, a14, a15] 1 0).toArray 28 (0, 0)) ∧ Below w.heap.size w V ∧ w.heap.size < W.heap.size :=
    ⟨_, rfl, by rw [setRow_other _ _ _ _ (Nat.ne_of_lt (Array.getElem?_eq_some_iff.1 HR.out).1)]; exact al HR.out, setRow_heap _ _ _ _ 28 _ (Deep.blk_alloc_new W.drew.drew _),
      below_setRow ((HW.out.drew.drew).alloc HW.out.size _) HW.out.size _, (Array.getElem?_eq_some_iff.1 HR.out).1⟩
  rw [hV]
  have HME := hid (show m = 22 + (uv X.toNat : List Int).length from by have := HM.out; simp [opened] at this ⊢; omega)
  clear hV hIr hKr hS0 hHeld hn21 heq hsz hi HM hc21
  have HVR := hid hVR
  have HBV := hid hBV
  have HVH := hid hVH
  have hcl : V.cell? ⟨W.heap.size, 16, none⟩ = some (.int .u8 1) := (hd_reads rfl hVH).2.1
  clear hVR hBV hVH HI HR HW HK hKw
  have hlu : 1 ≤ (uv X.toNat).length := (uv_length X.toNat).2
  have f1 : (22 : Int) ≤ (m : Int) := by omega
  have f2 : (m : Int) ≤ (cap : Int) := by omega
  have f3 : ¬ cap = 22 := by have := HME.out; omega
  have hxa : ¬ X < 1 := by omega
  have hxb : ¬ (18446744073709551615 : Int) < X := by omega
  have hxc : ¬ X = 0 := by omega
  have HT := hid ((HB.out.below HBV.out).tail rfl)
  have hcc : V.cell? ⟨W.heap.size, 17, none⟩ = some (.int .u64 0) := (hd_reads rfl HVH.out).2.2
  have hff : V.frozen? ⟨W.heap.size, 17, none⟩ = false := frozen_of_row V W.heap.size 17 _ 28 HVH.out
  have hx0b : (X == 0) = false := by simp; omega
  have H2 : Hid ((V.setCell ⟨W.heap.size, 17, none⟩ (.int .u64 X)).heap[W.heap.size]? = some (.cells (hd [a0, a1, a2, a3, a4, a5, a6, a7, a8, a9, a10, a11, a12, a13, a14, a15] 1 X).toArray 28 (0, 0))) := heap_setCell_same V W.heap.size 17 _ 28 _ HVH.out
  have H3 : Hid ((V.setCell ⟨W.heap.size, 17, none⟩ (.int .u64 X)).heap[w.heap.size]? = some (.cells #[.int .u8 0, .int .u8 0, .int .u8 0, .int .u8 0, .int .u8 0, .int .u8 0, .int .u8 0, .int .u8 0, .int .u8 0, .int .u8 0, .int .u8 0, .int .u8 0, .int .u8 0, .int .u8 0, .int .u8 0, .int .u8 0, .int .u8 0, .int .u64 0] 28 (0, 0))) := (Deep.blk_setCell_other V _ _ _ (by show w.heap.size ≠ W.heap.size; omega)).trans HVR.out
  have hF : Hid (Below w.heap.size w ((V.setCell ⟨W.heap.size, 17, none⟩ (.int .u64 X)).setRow w.heap.size (hd [a0, a1, a2, a3, a4, a5, a6, a7, a8, a9, a10, a11, a12, a13, a14, a15] 1 X).toArray)) := below_setRow (HBV.out.setCell (by show w.heap.size ≤ W.heap.size; omega) _) (Nat.le_refl _) _
  have hQ : Hid (((V.setCell ⟨W.heap.size, 17, none⟩ (.int .u64 X)).setRow w.heap.size (hd [a0, a1, a2, a3, a4, a5, a6, a7, a8, a9, a10, a11, a12, a13, a14, a15] 1 X).toArray).heap[w.heap.size]? = some (.cells (hd [a0, a1, a2, a3, a4, a5, a6, a7, a8, a9, a10, a11, a12, a13, a14, a15] 1 X).toArray 28 (0, 0))) := setRow_heap _ _ _ _ 28 _ H3.out
  clear hHeld
  go_wp2_with (first
    | (go_at_call 12; refine (uvarintP_any g (o + 22) (m - 22) (cap - 22) X V HT.out (by omega) hx1).mono ?_; rintro e w2 ⟨rfl, hw2⟩; subst w2)
    | (refine wpList_load_row rfl 28 (.tmp 12) rfl W.heap.size rfl 28 (hd [a0, a1, a2, a3, a4, a5, a6, a7, a8, a9, a10, a11, a12, a13, a14, a15] 1 X).toArray (0, 0) _ H2.out Ybaf.underlying28 rfl size28 ?_)
    | (refine wpList_store_row rfl 28 (.tmp 6) (.tmp 101) rfl w.heap.size (hd [a0, a1, a2, a3, a4, a5, a6, a7, a8, a9, a10, a11, a12, a13, a14, a15] 1 X).toArray rfl rfl 28 _ H3.out size28 rfl (all_oneCell_toArray (hd_one _ _ _)) ?_))
  rw [show (22 : Int) + ((m - 22 : Nat) : Int) = (m : Int) from by omega]
  exact bodyPost_ret (v := .tuple #[.agg (hd [a0, a1, a2, a3, a4, a5, a6, a7, a8, a9, a10, a11, a12, a13, a14, a15] 1 X).toArray, .int .i64 (m : Int), .nilIface]) (res3 (p := 6) (u := 7) (v := 8) (ty := 28) (by kernel_rfl) _ _ w.heap.size 28 (hd [a0, a1, a2, a3, a4, a5, a6, a7, a8, a9, a10, a11, a12, a13, a14, a15] 1 X).toArray (0, 0) _ rfl hQ.out Ybaf.underlying28 rfl size28) rfl ⟨rfl, hF.out⟩

set_option maxRecDepth 100000 in
set_option maxHeartbeats 2000000 in
theorem parse_three (g o m cap kb : Nat) (a0 a1 a2 a3 a4 a5 a6 a7 a8 a9 a10 a11 a12 a13 a14 a15 X : Int) (w : World) (hb : Bytes w (some ⟨g, o, none⟩) m (opened [a0, a1, a2, a3, a4, a5, a6, a7, a8, a9, a10, a11, a12, a13, a14, a15] ([3] ++ uv X.toNat))) (hgw : g < w.heap.size) (hm : m ≤ 100000) (hmc : m ≤ cap)
    (hK : w.heap[kb]? = some (.cells (bv [a0, a1, a2, a3, a4, a5, a6, a7, a8, a9, a10, a11, a12, a13, a14, a15]).toArray 26 (0, 0))) (hx0 : 1 ≤ X) (hx1 : X ≤ 18446744073709551615) :
    Calls Ybaf.prog 6 #[.slice (some ⟨g, o, none⟩) m cap, .pointer (some ⟨kb, 0, none⟩), .int .u64 18446744073709551615] w fun e w' => e = .returned (.tuple #[.agg (hd [a0, a1, a2, a3, a4, a5, a6, a7, a8, a9, a10, a11, a12, a13, a14, a15] 3 X).toArray, .int .i64 (m : Int), .nilIface]) ∧ Below w.heap.size w w' := by
  have hl : 22 ≤ m := by have := hb.1; simp [opened] at this; omega
  have HM := hid hb.1
  have HB := hid hb
  have HK := hid hK
  clear hb hK
  have hKw : kb < w.heap.size := (Array.getElem?_eq_some_iff.1 HK.out).1
  have hsz : (Ybaf.prog.info? 26).map (·.size) = some (bv [a0, a1, a2, a3, a4, a5, a6, a7, a8, a9, a10, a11, a12, a13, a14, a15]).toArray.size := size26
  have heq := eq26 9998 [a0, a1, a2, a3, a4, a5, a6, a7, a8, a9, a10, a11, a12, a13, a14, a15] rfl
  go_enter Ybaf.func6, Ybaf.ntmps6
  go_wp2_with (first
    | (go_at_call 9; refine (open_any g o m cap [a0, a1, a2, a3, a4, a5, a6, a7, a8, a9, a10, a11, a12, a13, a14, a15] ([3] ++ uv X.toNat) _ ?_ ?_ rfl hm hmc).mono ?_; exact HB.out.below ((Below.refl _ w).alloc (Nat.le_refl _) _); (simp; omega); rintro e w1 ⟨rfl, hb1⟩)
    | (refine wpList_store_row rfl 26 (.tmp 9) (.tmp 18) rfl w1.heap.size (bv [a0, a1, a2, a3, a4, a5, a6, a7, a8, a9, a10, a11, a12, a13, a14, a15]).toArray rfl rfl 26 #[.int .u8 0, .int .u8 0, .int .u8 0, .int .u8 0, .int .u8 0, .int .u8 0, .int .u8 0, .int .u8 0, .int .u8 0, .int .u8 0, .int .u8 0, .int .u8 0, .int .u8 0, .int .u8 0, .int .u8 0, .int .u8 0] (Deep.blk_alloc_new w1 _) hsz rfl (all_oneCell_toArray (bv_one [a0, a1, a2, a3, a4, a5, a6, a7, a8, a9, a10, a11, a12, a13, a14, a15])) ?_))
  obtain ⟨W, hW, hR, hI, hBW, hzW⟩ : ∃ W, (w1.alloc (.cells #[.int .u8 0, .int .u8 0, .int .u8 0, .int .u8 0, .int .u8 0, .int .u8 0, .int .u8 0, .int .u8 0, .int .u8 0, .int .u8 0, .int .u8 0, .int .u8 0, .int .u8 0, .int .u8 0, .int .u8 0, .int .u8 0] 26)).setRow w1.heap.size (bv [a0, a1, a2, a3, a4, a5, a6, a7, a8, a9, a10, a11, a12, a13, a14, a15]).toArray = W ∧ W.heap[w.heap.size]? = some (.cells #[.int .u8 0, .int .u8 0, .int .u8 0, .int .u8 0, .int .u8 0, .int .u8 0, .int .u8 0, .int .u8 0, .int .u8 0, .int .u8 0, .int .u8 0, .int .u8 0, .int .u8 0, .int .u8 0, .int .u8 0, .int .u8 0, .int .u8 0, .int .u64 0] 28 (0, 0)) ∧ W.heap[w1.heap.size]? = some (.cells (bv [a0, a1, a2, a3, a4, a5, a6, a7, a8, a9, a10, a11, a12, a13, a14, a15]).toArray 26 (0, 0)) ∧ Below w.heap.size w W ∧ w.heap.size < w1.heap.size :=
    ⟨_, rfl, by rw [setRow_other _ _ _ _ (by have := hb1.size; simp at this; omega)]; exact al ((hb1.block _ (by simp)).trans (Deep.blk_alloc_new w _)), setRow_heap _ _ _ _ 26 _ (Deep.blk_alloc_new w1 _),
      below_setRow (Below.alloc (Below.trans ((Below.refl _ w).alloc (Nat.le_refl _) _) (hb1.mono (by simp))) (by have := hb1.size; simp at this; omega) _) (by have := hb1.size; simp at this; omega) _, by have := hb1.size; simp at this; omega⟩
  rw [hW]
  clear hW hb1
  have HI := hid hI
  have HR := hid hR
  have HW := hid hBW
  have hIr : W.rangeAt w1.heap.size 0 (bv [a0, a1, a2, a3, a4, a5, a6, a7, a8, a9, a10, a11, a12, a13, a14, a15]) := (World.rangeAt_of_block hI 0 16)
  have hKr : W.rangeAt kb 0 (bv [a0, a1, a2, a3, a4, a5, a6, a7, a8, a9, a10, a11, a12, a13, a14, a15]) := (World.rangeAt_of_block ((hBW.block kb hKw).trans HK.out) 0 16)
  clear hI hR hBW
  have hu := Ybaf.underlying26
  have hi : (Ybaf.prog.info? 26).map (·.size) = some (bv [a0, a1, a2, a3, a4, a5, a6, a7, a8, a9, a10, a11, a12, a13, a14, a15]).length := size26
  have hS0 : (W.drew).rangeAt w1.heap.size 0 (bv [a0, a1, a2, a3, a4, a5, a6, a7, a8, a9, a10, a11, a12, a13, a14, a15]) ∧ (W.drew).rangeAt kb 0 (bv [a0, a1, a2, a3, a4, a5, a6, a7, a8, a9, a10, a11, a12, a13, a14, a15]) := ⟨(World.rangeAt_drew _ _ _ _).2 hIr, (World.rangeAt_drew _ _ _ _).2 hKr⟩
  refine wp_region_noPanic ?_
  refine wp_region_held_drew (S := fun w' => w'.rangeAt w1.heap.size 0 (bv [a0, a1, a2, a3, a4, a5, a6, a7, a8, a9, a10, a11, a12, a13, a14, a15]) ∧ w'.rangeAt kb 0 (bv [a0, a1, a2, a3, a4, a5, a6, a7, a8, a9, a10, a11, a12, a13, a14, a15])) (by kernel_rfl) hS0 (fun hHeld => ?_)
  refine take_at 0 25 (.pointer (some ⟨kb, 0, none⟩)) rfl rfl (by kernel_rfl) (by kernel_rfl) (by kernel_rfl) (fun _ _ _ h => h) (Or.inl ⟨by rfl, ?_⟩) (by assumption) ?_
  · intro w' hSw; go_simp
  simp only [Act.put, List.setIfInBounds_toArray, List.set_cons_zero, List.set_cons_succ]
  refine take_at 1 26 (.bool true) rfl rfl (by kernel_rfl) (by kernel_rfl) (by kernel_rfl) (fun _ _ _ h => h) (Or.inl ⟨by rfl, ?_⟩) (by assumption) ?_
  · intro w' hSw; go_simp
  simp only [Act.put, List.setIfInBounds_toArray, List.set_cons_zero, List.set_cons_succ]
  refine take_at 2 27 (.bool true) rfl rfl (by kernel_rfl) (by kernel_rfl) (by kernel_rfl) (fun _ _ _ h => h) (Or.inl ⟨by rfl, ?_⟩) (by assumption) ?_
  · intro w' hSw; go_simp
  simp only [Act.put, List.setIfInBounds_toArray, List.set_cons_zero, List.set_cons_succ]
  refine take_at 3 28 (.agg (bv [a0, a1, a2, a3, a4, a5, a6, a7, a8, a9, a10, a11, a12, a13, a14, a15]).toArray) rfl rfl (by kernel_rfl) (by kernel_rfl) (by kernel_rfl) (fun _ _ _ h => h) (yieldsIf_load_mid (by rfl) _ _ rfl w1.heap.size 0 rfl (bv [a0, a1, a2, a3, a4, a5, a6, a7, a8, a9, a10, a11, a12, a13, a14, a15]) _ (fun _ h => h.1) hu rfl hi) (by assumption) ?_
  simp only [Act.put, List.setIfInBounds_toArray, List.set_cons_zero, List.set_cons_succ]
  refine take_at 4 29 (.pointer (some ⟨kb, 0, none⟩)) rfl rfl (by kernel_rfl) (by kernel_rfl) (by kernel_rfl) (fun _ _ _ h => h) (Or.inl ⟨by rfl, ?_⟩) (by assumption) ?_
  · intro w' hSw; go_simp
  simp only [Act.put, List.setIfInBounds_toArray, List.set_cons_zero, List.set_cons_succ]
  refine take_at 5 30 (.pointer (some ⟨kb, 0, none⟩)) rfl rfl (by kernel_rfl) (by kernel_rfl) (by kernel_rfl) (fun _ _ _ h => h) (Or.inl ⟨by rfl, ?_⟩) (by assumption) ?_
  · intro w' hSw; go_simp
  simp only [Act.put, List.setIfInBounds_toArray, List.set_cons_zero, List.set_cons_succ]
  refine take_at 6 31 (.agg (bv [a0, a1, a2, a3, a4, a5, a6, a7, a8, a9, a10, a11, a12, a13, a14, a15]).toArray) rfl rfl (by kernel_rfl) (by kernel_rfl) (by kernel_rfl) (fun _ _ _ h => h) (yieldsIf_load_mid (by rfl) _ _ rfl kb 0 rfl (bv [a0, a1, a2, a3, a4, a5, a6, a7, a8, a9, a10, a11, a12, a13, a14, a15]) _ (fun _ h => h.2) hu rfl hi) (by assumption) ?_
  simp only [Act.put, List.setIfInBounds_toArray, List.set_cons_zero, List.set_cons_succ]
  refine take_at 7 32 (.bool false) rfl rfl (by kernel_rfl) (by kernel_rfl) (by kernel_rfl) (fun _ _ _ h => h) (Or.inl ⟨by rfl, ?_⟩) (by assumption) ?_
  · intro w' hSw; go_simp
  simp only [Act.put, List.setIfInBounds_toArray, List.set_cons_zero, List.set_cons_succ]
  refine take_at 8 33 (.bool false) rfl rfl (by kernel_rfl) (by kernel_rfl) (by kernel_rfl) (fun _ _ _ h => h) (Or.inl ⟨by rfl, ?_⟩) (by assumption) ?_
  · intro w' hSw; go_simp
  simp only [Act.put, List.setIfInBounds_toArray, List.set_cons_zero, List.set_cons_succ]
  refine wpAnyH_done (by kernel_rfl) ?_ _
  refine NoPanic.normal ?_
  have hn21 : (21 : Int) < (m : Int) := by omega
  go_wp2_with fail
  have hc21 : w.cell? ⟨g, o + 21, none⟩ = some (.int .u8 3) := HB.out.at (Below.refl _ w) rfl
  refine wp_region_noPanic ?_
  refine wp_region_held_drew (S := Below W.heap.size W) (by kernel_rfl) (Below.refl _ W).drew.drew (fun hHeld => ?_)
  refine take_at 0 42 (.agg (bv [a0, a1, a2, a3, a4, a5, a6, a7, a8, a9, a10, a11, a12, a13, a14, a15]).toArray) rfl rfl (by kernel_rfl) (by kernel_rfl) (by kernel_rfl) (fun _ _ _ h => h) (yieldsIf_load_mid (by rfl) _ _ rfl w1.heap.size 0 rfl (bv [a0, a1, a2, a3, a4, a5, a6, a7, a8, a9, a10, a11, a12, a13, a14, a15]) _ (fun _ h => World.rangeAt_of_block ((h.block _ (Array.getElem?_eq_some_iff.1 HI.out).1).trans HI.out) 0 16) hu rfl hi) (by assumption) ?_
  simp only [Act.put, List.setIfInBounds_toArray, List.set_cons_zero, List.set_cons_succ]
  refine take_at 1 43 (.slice (some ⟨g, o, none⟩) m cap) rfl rfl (by kernel_rfl) (by kernel_rfl) (by kernel_rfl) (fun _ _ _ h => h) (Or.inl ⟨by rfl, ?_⟩) (by assumption) ?_
  · intro w' hSw; go_simp
  simp only [Act.put, List.setIfInBounds_toArray, List.set_cons_zero, List.set_cons_succ]
  refine take_at 2 44 (.int .i64 21) rfl rfl (by kernel_rfl) (by kernel_rfl) (by kernel_rfl) (fun _ _ _ h => h) (Or.inl ⟨by rfl, ?_⟩) (by assumption) ?_
  · intro w' hSw; go_simp
  simp only [Act.put, List.setIfInBounds_toArray, List.set_cons_zero, List.set_cons_succ]
  refine take_at 3 45 (.pointer (some ⟨g, o + 21, none⟩)) rfl rfl (by kernel_rfl) (by kernel_rfl) (by kernel_rfl) (fun _ _ _ h => h) (Or.inl ⟨by rfl, ?_⟩) (by assumption) ?_
  · intro w' hSw; go_simp
  simp only [Act.put, List.setIfInBounds_toArray, List.set_cons_zero, List.set_cons_succ]
  refine take_at 4 46 (.int .u8 3) rfl rfl (by kernel_rfl) (by kernel_rfl) (by kernel_rfl) (fun _ _ _ h => h) (Or.inl ⟨by rfl, ?_⟩) (by assumption) ?_
  · intro w' hSw; have hc := ((hSw.cell (p := ⟨g, o + 21, none⟩) (Nat.lt_of_lt_of_le hgw HW.out.size)).trans (HW.out.cell (p := ⟨g, o + 21, none⟩) hgw)).trans hc21; go_simp
  simp only [Act.put, List.setIfInBounds_toArray, List.set_cons_zero, List.set_cons_succ]
  refine take_at 5 47 ((.agg (hd [a0, a1, a2, a3, a4, a5, a6, a7, a8, a9, a10, a11, a12, a13, a14, a15] 3 0).toArray)) rfl rfl (by kernel_rfl) (by kernel_rfl) (by kernel_rfl) (fun _ _ _ h => h) (Or.inl ⟨by rfl, ?_⟩) (by assumption) ?_
  · intro w' hSw; exact build2_yields 28 (.tmp 42) (.tmp 46) rfl _ _ rfl rfl _ (build28 [a0, a1, a2, a3, a4, a5, a6, a7, a8, a9, a10, a11, a12, a13, a14, a15] 3 rfl _)
  simp only [Act.put, List.setIfInBounds_toArray, List.set_cons_zero, List.set_cons_succ]
  refine ready_at 6 (some 12) (.pointer (some ⟨W.heap.size, 0, none⟩)) (W.drew.drew.alloc (.cells #[.int .u8 0, .int .u8 0, .int .u8 0, .int .u8 0, .int .u8 0, .int .u8 0, .int .u8 0, .int .u8 0, .int .u8 0, .int .u8 0, .int .u8 0, .int .u8 0, .int .u8 0, .int .u8 0, .int .u8 0, .int .u8 0, .int .u8 0, .int .u64 0] 28)) (by kernel_rfl) rfl (by rfl) (fun K' hk => ?_) ((Below.refl _ W).drew.drew.alloc (Nat.le_refl _) _) ?_
  · go_simp
    exact hk
  simp only [Act.put, List.setIfInBounds_toArray, List.set_cons_zero, List.set_cons_succ]
  refine ready_at 7 none undef ((W.drew.drew.alloc (.cells #[.int .u8 0, .int .u8 0, .int .u8 0, .int .u8 0, .int .u8 0, .int .u8 0, .int .u8 0, .int .u8 0, .int .u8 0, .int .u8 0, .int .u8 0, .int .u8 0, .int .u8 0, .int .u8 0, .int .u8 0, .int .u8 0, .int .u8 0, .int .u64 0] 28)).setRow W.heap.size (hd [a0, a1, a2, a3, a4, a5, a6, a7, a8, a9, a10, a11, a12, a13, a14, a15] 3 0).toArray) (by kernel_rfl) rfl (by rfl) (fun K' hk => wp_store_row 28 (.tmp 12) (.tmp 47) rfl W.heap.size (hd [a0, a1, a2, a3, a4, a5, a6, a7, a8, a9, a10, a11, a12, a13, a14, a15] 3 0).toArray rfl rfl 28 #[.int .u8 0, .int .u8 0, .int .u8 0, .int .u8 0, .int .u8 0, .int .u8 0, .int .u8 0, .int .u8 0, .int .u8 0, .int .u8 0, .int .u8 0, .int .u8 0, .int .u8 0, .int .u8 0, .int .u8 0, .int .u8 0, .int .u8 0, .int .u64 0] (Deep.blk_alloc_new W.drew.drew _) size28 rfl (all_oneCell_toArray (hd_one _ _ _)) hk) (below_setRow ((Below.refl _ W).drew.drew.alloc (Nat.le_refl _) _) (Nat.le_refl _) _) ?_
  simp only [Act.put]
  refine wpAnyH_done (by kernel_rfl) ?_ _
  refine NoPanic.normal ?_
  obtain ⟨V, hV, hVR, hVH, hBV, hzV⟩ : ∃ V, (W.drew.drew.alloc (.cells #[.int .u8 0, .int .u8 0, .int .u8 0, .int .u8 0, .int .u8 0, .int .u8 0, .int .u8 0, .int .u8 0, .int .u8 0, .int .u8 0, .int .u8 0, .int .u8 0, .int .u8 0, .int .u8 0, .int .u8 0, .int .u8 0, .int .u8 0, .int .u64 0] 28)).setRow W.heap.size (hd [a0, a1, a2, a3, a4, a5, a6, a7, a8, a9, a10, a11, a12, a13, a14, a15] 3 0).toArray = V ∧ V.heap[w.heap.size]? = some (.cells #[.int .u8 0, .int .u8 0, .int .u8 0, .int .u8 0, .int .u8 0, .int .u8 0, .int .u8 0, .int .u8 0, .int .u8 0, .int .u8 0, .int .u8 0, .int .u8 0, .int .u8 0, .int .u8 0, .int .u8 0, .int .u8 0, .int .u8 0, .int .u64 0] 28 (0, 0)) ∧ V.heap[W.heap.size]? = some (.cells (hd [a0, a1, a2, a3, a4, a5, a6, a7, a8, a9, a10, a11, a12, a13, a14, a15] 3 0).toArray 28 (0, 0)) ∧ Below w.heap.size w V ∧ w.heap.size < W.heap.size :=
    ⟨_, rfl, by rw [setRow_other _ _ _ _ (Nat.ne_of_lt (Array.getElem?_eq_some_iff.1 HR.out).1)]; exact al HR.out, setRow_heap _ _ _ _ 28 _ (Deep.blk_alloc_new W.drew.drew _),
      below_setRow ((HW.out.drew.drew).alloc HW.out.size _) HW.out.size _, (Array.getElem?_eq_some_iff.1 HR.out).1⟩
  rw [hV]
  have HME := hid (show m = 22 + (uv X.toNat : List Int).length from by have := HM.out; simp [opened] at this ⊢; omega)
  clear hV hIr hKr hS0 hHeld hn21 heq hsz hi HM hc21
  have HVR := hid hVR
  have HBV := hid hBV
  have HVH := hid hVH
  have hcl : V.cell? ⟨W.heap.size, 16, none⟩ = some (.int .u8 3) := (hd_reads rfl hVH).2.1
  clear hVR hBV hVH HI HR HW HK hKw
  have hlu : 1 ≤ (uv X.toNat).length := (uv_length X.toNat).2
  have f1 : (22 : Int) ≤ (m : Int) := by omega
  have f2 : (m : Int) ≤ (cap : Int) := by omega
  have f3 : ¬ cap = 22 := by have := HME.out; omega
  have hxa : ¬ X < 1 := by omega
  have hxb : ¬ (18446744073709551615 : Int) < X := by omega
  have hxc : ¬ X = 0 := by omega
  have HT := hid ((HB.out.below HBV.out).tail rfl)
  have hcc : V.cell? ⟨W.heap.size, 17, none⟩ = some (.int .u64 0) := (hd_reads rfl HVH.out).2.2
  have hff : V.frozen? ⟨W.heap.size, 17, none⟩ = false := frozen_of_row V W.heap.size 17 _ 28 HVH.out
  have hx0b : (X == 0) = false := by simp; omega
  have H2 : Hid ((V.setCell ⟨W.heap.size, 17, none⟩ (.int .u64 X)).heap[W.heap.size]? = some (.cells (hd [a0, a1, a2, a3, a4, a5, a6, a7, a8, a9, a10, a11, a12, a13, a14, a15] 3 X).toArray 28 (0, 0))) := heap_setCell_same V W.heap.size 17 _ 28 _ HVH.out
  have H3 : Hid ((V.setCell ⟨W.heap.size, 17, none⟩ (.int .u64 X)).heap[w.heap.size]? = some (.cells #[.int .u8 0, .int .u8 0, .int .u8 0, .int .u8 0, .int .u8 0, .int .u8 0, .int .u8 0, .int .u8 0, .int .u8 0, .int .u8 0, .int .u8 0, .int .u8 0, .int .u8 0, .int .u8 0, .int .u8 0, .int .u8 0, .int .u8 0, .int .u64 0] 28 (0, 0))) := (Deep.blk_setCell_other V _ _ _ (by show w.heap.size ≠ W.heap.size; omega)).trans HVR.out
  have hF : Hid (Below w.heap.size w ((V.setCell ⟨W.heap.size, 17, none⟩ (.int .u64 X)).setRow w.heap.size (hd [a0, a1, a2, a3, a4, a5, a6, a7, a8, a9, a10, a11, a12, a13, a14, a15] 3 X).toArray)) := below_setRow (HBV.out.setCell (by show w.heap.size ≤ W.heap.size; omega) _) (Nat.le_refl _) _
  have hQ : Hid (((V.setCell ⟨W.heap.size, 17, none⟩ (.int .u64 X)).setRow w.heap.size (hd [a0, a1, a2, a3, a4, a5, a6, a7, a8, a9, a10, a11, a12, a13, a14, a15] 3 X).toArray).heap[w.heap.size]? = some (.cells (hd [a0, a1, a2, a3, a4, a5, a6, a7, a8, a9, a10, a11, a12, a13, a14, a15] 3 X).toArray 28 (0, 0))) := setRow_heap _ _ _ _ 28 _ H3.out
  clear hHeld
  go_wp2_with (first
    | (go_at_call 12; refine (uvarintP_any g (o + 22) (m - 22) (cap - 22) X V HT.out (by omega) hx1).mono ?_; rintro e w2 ⟨rfl, hw2⟩; subst w2)
    | (refine wpList_load_row rfl 28 (.tmp 12) rfl W.heap.size rfl 28 (hd [a0, a1, a2, a3, a4, a5, a6, a7, a8, a9, a10, a11, a12, a13, a14, a15] 3 X).toArray (0, 0) _ H2.out Ybaf.underlying28 rfl size28 ?_)
    | (refine wpList_store_row rfl 28 (.tmp 6) (.tmp 101) rfl w.heap.size (hd [a0, a1, a2, a3, a4, a5, a6, a7, a8, a9, a10, a11, a12, a13, a14, a15] 3 X).toArray rfl rfl 28 _ H3.out size28 rfl (all_oneCell_toArray (hd_one _ _ _)) ?_))
  rw [show (22 : Int) + ((m - 22 : Nat) : Int) = (m : Int) from by omega]
  exact bodyPost_ret (v := .tuple #[.agg (hd [a0, a1, a2, a3, a4, a5, a6, a7, a8, a9, a10, a11, a12, a13, a14, a15] 3 X).toArray, .int .i64 (m : Int), .nilIface]) (res3 (p := 6) (u := 7) (v := 8) (ty := 28) (by kernel_rfl) _ _ w.heap.size 28 (hd [a0, a1, a2, a3, a4, a5, a6, a7, a8, a9, a10, a11, a12, a13, a14, a15] 3 X).toArray (0, 0) _ rfl hQ.out Ybaf.underlying28 rfl size28) rfl ⟨rfl, hF.out⟩

/-- What appendHeader writes, parseHeader reads back: the same eighteen cells, all bytes taken, no error. -/
theorem parse_any (g o m cap kb : Nat) (ls : List Int) (ly ca : Int) (w : World) (hb : Bytes w (some ⟨g, o, none⟩) m (headBytes [] ls ly ca)) (hgw : g < w.heap.size) (hm : m ≤ 100000) (hmc : m ≤ cap)
    (hK : w.heap[kb]? = some (.cells (bv ls).toArray 26 (0, 0))) (h16 : ls.length = 16) (hly : (ly = 2 ∧ ca = 0) ∨ ((ly = 1 ∨ ly = 3) ∧ 1 ≤ ca ∧ ca ≤ 18446744073709551615)) :
    Calls Ybaf.prog 6 #[.slice (some ⟨g, o, none⟩) m cap, .pointer (some ⟨kb, 0, none⟩), .int .u64 18446744073709551615] w fun e w' => e = .returned (.tuple #[.agg (hd ls ly ca).toArray, .int .i64 (m : Int), .nilIface]) ∧ Below w.heap.size w w' := by
  obtain ⟨a0, a1, a2, a3, a4, a5, a6, a7, a8, a9, a10, a11, a12, a13, a14, a15, rfl⟩ := list16 h16
  rcases hly with ⟨rfl, rfl⟩ | ⟨rfl | rfl, h1, h2⟩
  · exact parse_even g o m cap kb a0 a1 a2 a3 a4 a5 a6 a7 a8 a9 a10 a11 a12 a13 a14 a15 w hb hgw hm hmc hK
  · exact parse_one g o m cap kb a0 a1 a2 a3 a4 a5 a6 a7 a8 a9 a10 a11 a12 a13 a14 a15 ca w hb hgw hm hmc hK h1 h2
  · exact parse_three g o m cap kb a0 a1 a2 a3 a4 a5 a6 a7 a8 a9 a10 a11 a12 a13 a14 a15 ca w hb hgw hm hmc hK h1 h2

end Go.Proofs.YbulkbcfcFmt
