/-
  The law wire.LawS2667CRoundTrip, walked over the contracts.
-/
import Derived.Test.YbulkbcfcFmtParse
namespace Go.Proofs.YbulkbcfcFmt
open Go.RowKit

theorem size23 : (Ybaf.prog.info? 23).map (·.size) = some 16 := by kernel_rfl

theorem make22 (n : Nat) (hn : n ≤ 2000) (w : World) :
    (Instr.makeSlice 22 (.int .i64 (n : Int)) (.int .i64 (n : Int))).run Ybaf.prog w = .ok (.slice (some ⟨w.heap.size, 0, none⟩) n n) (w.alloc (.cells (madeCells #[.int .u8 0] n) 5)) := by
  obtain ⟨i, hi, hz0, hz1, hz2⟩ := info_parts info5
  have hr := run_make (P := Ybaf.prog) w 22 5 i _ Ybaf.underlying22 hi hz0 .i64 .i64 n n (by omega) (Int.le_refl _) (by rw [hz2]; omega) (by omega)
  rw [hz1] at hr
  simpa [Value.cells] using hr

theorem made_list (n : Nat) : madeCells #[Value.int .u8 0] n = (List.replicate n (Value.int .u8 0)).toArray := by
  apply Array.ext'
  rw [toList_madeCells_one]

theorem splice_full {cur cs : List Value} (h : cs.length = cur.length) : splice cur 0 cs = cs := by
  simp [splice, h]

theorem block_lt {w : World} {x : Addr} {v : Value} (h : w.cell? x = some v) : x.block < w.heap.size := by
  unfold World.cell? at h
  by_cases hb : x.block < w.heap.size
  · exact hb
  · rw [Array.getElem?_eq_none (by omega)] at h
    cases h

/-- The bytes of a slice that came in are there as long as what was there is. -/
theorem cells_kept {w w' : World} {x : Addr} {xs : List Int} (h : ∀ j y, xs[j]? = some y → w.cell? (x.add j) = some (.int .u8 y)) (hb : Below w.heap.size w w') : ∀ j y, xs[j]? = some y → w'.cell? (x.add j) = some (.int .u8 y) :=
  fun j y hy => (hb.cell (p := x.add j) (block_lt (h j y hy))).trans (h j y hy)

theorem wpList_build3 {P : Program} {w : World} {ops : Array Oper} {rest : List Oper} {o : Oper} {a : Act} {Q : Exit → Act → World → Prop} (hgd : o.guard = none) (t : TypeId) (x0 x1 x2 : Operand) (ho : o.op = .build t #[(0, x0), (1, x1), (2, x2)])
    (v0 v1 v2 : Value) (h0 : a.eval x0 = v0) (h1 : a.eval x1 = v1) (h2 : a.eval x2 = v2) (v : Value) (hr : (Instr.build t #[(0, v0), (1, v1), (2, v2)]).run P w = .ok v w) (h : wpList P ops Q rest (a.put o.dst v) w) : wpList P ops Q (o :: rest) a w := by
  refine wpList_plain hgd fun K hK => ?_
  unfold Oper.wp execOp
  simp only [ho, List.map_toArray, List.map_cons, List.map_nil, h0, h1, h2, hr, Sem.run_bind, Result.andThen_ok, Sem.run_pure]
  exact hK _ _ h

theorem build28c (ls : List Int) (ly ca : Int) (h16 : ls.length = 16) (w : World) :
    (Instr.build 28 #[(0, .agg (bv ls).toArray), (1, .int .u8 ly), (2, .int .u64 ca)]).run Ybaf.prog w = .ok (.agg (hd ls ly ca).toArray) w := by
  obtain ⟨a0, a1, a2, a3, a4, a5, a6, a7, a8, a9, a10, a11, a12, a13, a14, a15, rfl⟩ := list16 h16
  kernel_rfl

theorem wpList_load_guard {P : Program} {w : World} {ops : Array Oper} {rest : List Oper} {o : Oper} {a : Act} {Q : Exit → Act → World → Prop} (hw : Region.wanted o (yielded ops a.tmps) = true) (ty : TypeId) (x : Operand) (ho : o.op = .load ty x)
    (g : Nat) (hx : a.eval x = .pointer (some ⟨g, 0, none⟩)) (t : TypeId) (cs : Array Value) (fr : Nat × Nat) (d : TypeDesc) (hg : w.heap[g]? = some (.cells cs t fr))
    (hu : P.underlying ty = some d) (hd : (match d with | .struct _ | .array _ _ => true | _ => false) = true) (hi : (P.info? ty).map (·.size) = some cs.size)
    (h : wpList P ops Q rest (a.put o.dst (.agg cs)) w) : wpList P ops Q (o :: rest) a w :=
  wpList_step fun K hK => by rw [if_pos hw]; exact wp_load_row ty x ho g hx t cs fr d hg hu hd hi (hK _ _ h)

theorem size28h (ls : List Int) (ly ca : Int) (h16 : ls.length = 16) : (Ybaf.prog.info? 28).map (·.size) = some (hd ls ly ca).toArray.size := by
  rw [size28, List.size_toArray, hd, List.length_append, bv_length, h16]
  rfl

theorem fields28 : Ybaf.prog.underlying 28 = some (.struct (Ybaf.prog.fieldsOf 28)) := by simp [Program.fieldsOf, Ybaf.underlying28]
theorem eqOpen28 (w : World) (d : Nat) (xs ys : Array Value) : (Op.equalIn (d + 3) 28 (.agg xs) (.agg ys)).run Ybaf.prog w = (Op.eqFields (d + 2) xs ys (Ybaf.prog.fieldsOf 28).toList).run Ybaf.prog w := run_equalIn_agg (w := w) (d + 2) 28 _ _ fields28 Ybaf.stoodInHeld28
theorem part25 (xs : Array Value) (w : World) (ly : Int) (h : xs[16]? = some (.int .u8 ly)) : (part 25 xs 16).run Ybaf.prog w = .ok (.int .u8 ly) w := by
  simp [part, isAgg, run_underlying Ybaf.underlying25, h]
theorem part24 (xs : Array Value) (w : World) (ca : Int) (h : xs[17]? = some (.int .u64 ca)) : (part 24 xs 17).run Ybaf.prog w = .ok (.int .u64 ca) w := by
  simp [part, isAgg, run_underlying Ybaf.underlying24, h]
theorem part26 (xs : Array Value) (w : World) : (part 26 xs 0).run Ybaf.prog w = .ok (.agg (xs.extract 0 16)) w := by
  obtain ⟨i, hi, e⟩ : ∃ i, Ybaf.prog.info? 26 = some i ∧ i.size = 16 := by
    have := size26
    cases h : Ybaf.prog.info? 26 with
    | none => rw [h] at this; cases this
    | some i => rw [h] at this; exact ⟨i, rfl, by simpa using this⟩
  simp [part, isAgg, run_underlying Ybaf.underlying26, sizeOf, typeInfo, hi, e]
theorem eqFields28 (w : World) (d : Nat) (xs : Array Value) (v : Value) (ly ca : Int) (p0 : (part 26 xs 0).run Ybaf.prog w = .ok v w) (p1 : (part 25 xs 16).run Ybaf.prog w = .ok (.int .u8 ly) w) (p2 : (part 24 xs 17).run Ybaf.prog w = .ok (.int .u64 ca) w)
    (e1 : (Op.equalIn (d + 2) 26 v v).run Ybaf.prog w = .ok true w) (i1 : (Op.equalIn (d + 2) 25 (.int .u8 ly) (.int .u8 ly)).run Ybaf.prog w = .ok true w) (i2 : (Op.equalIn (d + 2) 24 (.int .u64 ca) (.int .u64 ca)).run Ybaf.prog w = .ok true w) :
    (Op.eqFields (d + 2) xs xs (Ybaf.prog.fieldsOf 28).toList).run Ybaf.prog w = .ok true w := by
  simp [Program.fieldsOf, Ybaf.underlying28, Op.eqFields, p0, p1, p2, e1, i1, i2]

/-- A header equals itself. -/
theorem eq28 (d : Nat) (ls : List Int) (ly ca : Int) (h16 : ls.length = 16) (w : World) : (Op.equalIn (d + 3) 28 (.agg (hd ls ly ca).toArray) (.agg (hd ls ly ca).toArray)).run Ybaf.prog w = .ok true w := by
  have hl : (bv ls).length = 16 := by rw [bv_length, h16]
  rw [eqOpen28]
  refine eqFields28 w d _ (.agg (bv ls).toArray) ly ca ?_ (part25 _ w ly ?_) (part24 _ w ca ?_) (eq26 d ls h16 w) ?_ ?_
  · rw [part26]
    simp [hd, hl]
  · simp only [List.getElem?_toArray, hd]
    rw [List.getElem?_append_right (by omega), hl]
    rfl
  · simp only [List.getElem?_toArray, hd]
    rw [List.getElem?_append_right (by omega), hl]
    rfl
  · rw [run_equalIn_int (P := Ybaf.prog) w (d + 1) 25 .u8 .u8 ly ly Ybaf.underlying25]
    simp
  · rw [run_equalIn_int (P := Ybaf.prog) w (d + 1) 24 .u64 .u64 ca ca Ybaf.underlying24]
    simp

theorem headBytes_app (xs ls : List Int) (ly ca : Int) : headBytes xs ls ly ca = xs ++ headBytes [] ls ly ca := by
  simp [headBytes]

theorem headBytes_len (xs ls : List Int) (ly ca : Int) (h16 : ls.length = 16) : xs.length + 22 ≤ (headBytes xs ls ly ca).length ∧ (headBytes xs ls ly ca).length ≤ xs.length + 32 := by
  have := uv_length ca.toNat
  unfold headBytes
  split <;> simp <;> omega

theorem Bytes.pre {w : World} {a : Option Addr} {n k : Nat} {xs ys : List Int} (h : Bytes w a n (xs ++ ys)) (hk : xs.length = k) : Bytes w a k xs :=
  ⟨hk, fun j y hy => h.2 j y (by rw [List.getElem?_append_left (List.getElem?_eq_some_iff.1 hy).1]; exact hy)⟩

theorem Bytes.post {w : World} {g n k : Nat} {xs ys : List Int} (h : Bytes w (some ⟨g, 0, none⟩) n (xs ++ ys)) (hk : xs.length = k) : Bytes w (some ⟨g, k, none⟩) (n - k) ys := by
  refine ⟨by have := h.1; rw [List.length_append] at this; omega, fun j y hy => ⟨g, k, rfl, ?_⟩⟩
  obtain ⟨b, o, e, hc⟩ := h.2 (k + j) y (by rw [List.getElem?_append_right (by omega), show k + j - xs.length = j from by omega]; exact hy)
  cases e
  rw [Nat.zero_add] at hc
  exact hc

theorem bytes_of_cells {w : World} {x : Addr} {n : Nat} {xs : List Int} (h : xs.length = n ∧ ∀ j y, xs[j]? = some y → w.cell? (x.add j) = some (.int .u8 y)) : Bytes w (some x) n xs := by
  refine ⟨h.1, fun j y hy => ?_⟩
  have hc := h.2 j y hy
  obtain ⟨b, o, sp⟩ := x
  cases sp with
  | none => exact ⟨b, o, rfl, by rw [Addr.add_lit] at hc; exact hc⟩
  | some s =>
    exfalso
    have h0 : 0 < xs.length := by have := (List.getElem?_eq_some_iff.1 hy).1; omega
    have hc0 := h.2 0 xs[0] (by simp)
    unfold World.cell? Addr.add at hc0
    simp only [if_true, Option.isSome_some] at hc0
    split at hc0 <;> cases hc0

set_option maxRecDepth 100000 in
set_option maxHeartbeats 1000000 in
theorem rt_A (x : Addr) (len cap : Nat) (bs ls : List Int) (sel ca : Int) (w : World) (hb : bs.length = len ∧ ∀ j y, bs[j]? = some y → w.cell? (x.add j) = some (.int .u8 y)) (hl : len ≤ 1024) (h16 : ls.length = 16) (hs0 : 0 ≤ sel) (hs1 : sel ≤ 255) (hs : sel % 3 = 1) :
    Calls Ybaf.prog 3 #[.slice (some x) len cap, .agg (bv ls).toArray, .int .u8 sel, .int .u64 ca] w fun e w' => e = .returned (.bool true) ∧ Below w.heap.size w w' := by
  have HB := hid hb
  have H16 := hid h16
  clear hb h16
  have hmk := make22 len (by omega)
  have heq := eq28 9997 ls 2 0 H16.out
  go_enter Ybaf.func3, Ybaf.ntmps3
  have HCP : Hid (∀ j v, (bv bs)[j]? = some v → ((w.alloc (.cells (bv ls).toArray 23)).alloc (.cells (madeCells #[.int .u8 0] len) 5)).cell? (x.add j) = some v) := by
    intro j v hv
    obtain ⟨y, hy, rfl⟩ := bv_get hv
    exact cells_kept HB.out.2 (((Below.refl _ w).alloc (Nat.le_refl _) _).alloc (by simp) _) j y hy
  go_wp2_with (first
    | (refine wpList_copy_splice rfl (.tmp 32) (.tmp 33) 22 22 rfl 5 Ybaf.underlying22 size5 (some ⟨w.heap.size + 1, 0, none⟩) (some x) len len len cap rfl rfl (w.heap.size + 1) 0 (List.replicate len (.int .u8 0)) 5 (by rw [← made_list]; exact heap_alloc2_new _ _ _) (bv bs) (by rw [bv_length, HB.out.1]; exact (Nat.min_self len).symm) (fun _ => ⟨rfl, _, rfl, HCP.out⟩) (by rw [bv_length, HB.out.1]; simp) (bv_one bs) (w.heap.size + 1) _ (Below.refl _ _) (Nat.le_refl _) ?_; intro w2 hg2 hb2; have hbox2 : w2.heap[w.heap.size]? = some (.cells (bv ls).toArray 23 (0, 0)) := (hb2.block w.heap.size (by omega)).trans (al (Deep.blk_alloc_new w _)); have hrow2 : Row w2 (w.heap.size + 1) len len bs := Row.full (by rw [← splice_full (cur := List.replicate len (.int .u8 0)) (cs := bv bs) (by rw [bv_length, HB.out.1]; simp)]; exact hg2.out) HB.out.1 (by unfold maxLen; omega); have hW2 : Below w.heap.size w w2 := (Below.trans (((Below.refl _ w).alloc (Nat.le_refl _) _).alloc (by simp) _) (hb2.mono (by omega))); have hz2 := hrow2.lt; clear hg2 hb2)
    | (refine wpList_load_row rfl 23 (.tmp 5) rfl w.heap.size rfl 23 (bv ls).toArray (0, 0) _ hbox2 Ybaf.underlying23 rfl (by rw [size23]; simp [bv_length, H16.out]) ?_)
    | (refine wpList_build3 rfl 28 (.tmp 35) (.tmp 36) (.tmp 37) rfl (.agg (bv ls).toArray) (.int .u8 2) (.int .u64 0) rfl rfl rfl _ (build28c ls 2 0 H16.out _) ?_)
    | (refine wpList_store_row rfl 28 (.tmp 11) (.tmp 38) rfl w2.heap.size (hd ls 2 0).toArray rfl rfl 28 #[.int .u8 0, .int .u8 0, .int .u8 0, .int .u8 0, .int .u8 0, .int .u8 0, .int .u8 0, .int .u8 0, .int .u8 0, .int .u8 0, .int .u8 0, .int .u8 0, .int .u8 0, .int .u8 0, .int .u8 0, .int .u8 0, .int .u8 0, .int .u64 0] (Deep.blk_alloc_new w2 _) (size28h ls _ _ H16.out) (by have := size28h ls 2 0 H16.out; rw [size28] at this; exact Option.some.inj this) (all_oneCell_toArray (hd_one _ _ _)) ?_; obtain ⟨wH, eH, hH⟩ : ∃ wH, (w2.alloc (.cells #[.int .u8 0, .int .u8 0, .int .u8 0, .int .u8 0, .int .u8 0, .int .u8 0, .int .u8 0, .int .u8 0, .int .u8 0, .int .u8 0, .int .u8 0, .int .u8 0, .int .u8 0, .int .u8 0, .int .u8 0, .int .u8 0, .int .u8 0, .int .u64 0] 28)).setRow w2.heap.size (hd ls 2 0).toArray = wH ∧ (wH.heap[w2.heap.size]? = some (.cells (hd ls 2 0).toArray 28 (0, 0)) ∧ Below w2.heap.size w2 wH) := ⟨_, rfl, setRow_heap _ _ _ _ 28 _ (Deep.blk_alloc_new w2 _), below_setRow ((Below.refl _ w2).alloc (Nat.le_refl _) _) (Nat.le_refl _) _⟩; rw [eH]; clear eH)
    | (refine wpList_load_row rfl 28 (.tmp 11) rfl w2.heap.size rfl 28 (hd ls 2 0).toArray (0, 0) _ hH.1 Ybaf.underlying28 rfl (size28h ls _ _ H16.out) ?_))
  refine (header_any (w.heap.size + 1) len len bs ls 2 0 wH (hrow2.of_block (hH.2.block _ hz2)) (by omega) H16.out (by omega) (by omega) (by omega) (by omega)).mono ?_
  rintro e w3 ⟨g3, n3, cap3, rfl, hrow3, hgr3⟩
  have hzH := hH.2.size
  have hW3 : Below w.heap.size w w3 := (hW2.trans (hH.2.mono (by omega))).trans (hgr3.below (by omega) (by omega))
  have hbox3 := gr hgr3 ((hH.2.block _ (by omega)).trans hbox2) (by omega)
  have hhd3 := gr hgr3 hH.1 (by omega)
  have hn3 := headBytes_len bs ls 2 0 H16.out
  rw [hrow3.len, HB.out.1] at hn3
  have hc3 : n3 ≤ cap3 := by obtain ⟨_, _, hq, _⟩ := hrow3.block; exact hq
  have f1 : (len : Int) ≤ (n3 : Int) := by omega
  have f2 : (len : Int) ≤ (cap3 : Int) := by omega
  have f3 : (n3 : Int) ≤ (cap3 : Int) := by omega
  have f4 : ¬ cap3 = len := by omega
  have hz3 : w2.heap.size < w3.heap.size := (Array.getElem?_eq_some_iff.1 hhd3).1
  have HB3 := hid hrow3.bytes
  rw [headBytes_app] at HB3
  have hg3 := hrow3.lt
  clear hgr3 hH hbox2 hrow2 hW2 hrow3 hzH
  go_wp2_with (first
    | (go_at_call 5; refine (eq_any (some ⟨g3, 0, none⟩) (some x) len cap3 cap bs w3 (HB3.out.pre HB.out.1) (bytes_of_cells ⟨HB.out.1, cells_kept HB.out.2 hW3⟩) (by omega)).mono ?_; rintro e w4 ⟨q, rfl, hw4⟩; have hb4 : Below w3.heap.size w3 w4 := (by rw [hw4]; exact below_drewN (Below.refl _ w3) q); have hz4 := hb4.size; have hbox4 : w4.heap[w.heap.size]? = some (.cells (bv ls).toArray 23 (0, 0)) := (hb4.block _ (by omega)).trans hbox3; clear hw4)
    | (refine wpList_load_row rfl 23 (.tmp 5) rfl w.heap.size rfl 23 (bv ls).toArray (0, 0) _ hbox4 Ybaf.underlying23 rfl (by rw [size23]; simp [bv_length, H16.out]) ?_)
    | (refine wpList_store_row rfl 26 (.tmp 14) (.tmp 60) rfl w4.heap.size (bv ls).toArray rfl rfl 26 #[.int .u8 0, .int .u8 0, .int .u8 0, .int .u8 0, .int .u8 0, .int .u8 0, .int .u8 0, .int .u8 0, .int .u8 0, .int .u8 0, .int .u8 0, .int .u8 0, .int .u8 0, .int .u8 0, .int .u8 0, .int .u8 0] (Deep.blk_alloc_new w4 _) (by rw [size26, List.size_toArray, bv_length, H16.out]) (by simp [bv_length, H16.out]) (all_oneCell_toArray (bv_one ls)) ?_; obtain ⟨wL, eL, hL⟩ : ∃ wL, (w4.alloc (.cells #[.int .u8 0, .int .u8 0, .int .u8 0, .int .u8 0, .int .u8 0, .int .u8 0, .int .u8 0, .int .u8 0, .int .u8 0, .int .u8 0, .int .u8 0, .int .u8 0, .int .u8 0, .int .u8 0, .int .u8 0, .int .u8 0] 26)).setRow w4.heap.size (bv ls).toArray = wL ∧ (wL.heap[w4.heap.size]? = some (.cells (bv ls).toArray 26 (0, 0)) ∧ Below w3.heap.size w3 wL) := ⟨_, rfl, setRow_heap _ _ _ _ 26 _ (Deep.blk_alloc_new w4 _), below_setRow (hb4.alloc (by omega) _) (by omega) _⟩; rw [eL]; clear eL))
  have hzL := hL.2.size
  have hLl : w4.heap.size < wL.heap.size := (Array.getElem?_eq_some_iff.1 hL.1).1
  refine (parse_any g3 len (n3 - len) (cap3 - len) w4.heap.size ls 2 0 wL ((HB3.out.post HB.out.1).below hL.2) (by omega) (by omega) (by omega) hL.1 H16.out (.inl ⟨rfl, rfl⟩)).mono ?_
  rintro e w6 ⟨rfl, hb6⟩
  have hhd6 : w6.heap[w2.heap.size]? = some (.cells (hd ls 2 0).toArray 28 (0, 0)) := (hb6.block _ (by omega)).trans ((hL.2.block _ hz3).trans hhd3)
  have hW6 : Below w.heap.size w w6 := (hW3.trans (hL.2.mono (by omega))).trans (hb6.mono (by omega))
  have hz6 := hb6.size
  clear hb6 hL hb4 hW3 hhd3 hbox3 hbox4 HB3
  go_wp2_with (first
    | (refine wpList_store_row rfl 28 (.tmp 15) (.tmp 64) rfl w6.heap.size (hd ls 2 0).toArray rfl rfl 28 #[.int .u8 0, .int .u8 0, .int .u8 0, .int .u8 0, .int .u8 0, .int .u8 0, .int .u8 0, .int .u8 0, .int .u8 0, .int .u8 0, .int .u8 0, .int .u8 0, .int .u8 0, .int .u8 0, .int .u8 0, .int .u8 0, .int .u8 0, .int .u64 0] (Deep.blk_alloc_new w6 _) (size28h ls _ _ H16.out) (by have := size28h ls 2 0 H16.out; rw [size28] at this; exact Option.some.inj this) (all_oneCell_toArray (hd_one _ _ _)) ?_; obtain ⟨wF, eF, hF⟩ : ∃ wF, (w6.alloc (.cells #[.int .u8 0, .int .u8 0, .int .u8 0, .int .u8 0, .int .u8 0, .int .u8 0, .int .u8 0, .int .u8 0, .int .u8 0, .int .u8 0, .int .u8 0, .int .u8 0, .int .u8 0, .int .u8 0, .int .u8 0, .int .u8 0, .int .u8 0, .int .u64 0] 28)).setRow w6.heap.size (hd ls 2 0).toArray = wF ∧ (wF.heap[w6.heap.size]? = some (.cells (hd ls 2 0).toArray 28 (0, 0)) ∧ wF.heap[w2.heap.size]? = some (.cells (hd ls 2 0).toArray 28 (0, 0)) ∧ Below w.heap.size w wF) := ⟨_, rfl, setRow_heap _ _ _ _ 28 _ (Deep.blk_alloc_new w6 _), by rw [setRow_other _ _ _ _ (by omega)]; exact al hhd6, below_setRow (hW6.alloc (by omega) _) (by omega) _⟩; rw [eF]; clear eF)
    | (refine wpList_load_guard (by rfl) 28 (.tmp 15) rfl w6.heap.size rfl 28 (hd ls 2 0).toArray (0, 0) _ hF.1 Ybaf.underlying28 rfl (size28h ls _ _ H16.out) ?_)
    | (refine wpList_load_guard (by rfl) 28 (.tmp 11) rfl w2.heap.size rfl 28 (hd ls 2 0).toArray (0, 0) _ hF.2.1 Ybaf.underlying28 rfl (size28h ls _ _ H16.out) ?_))
  go_ret
  exact ⟨rfl, hF.2.2⟩

set_option maxRecDepth 100000 in
set_option maxHeartbeats 1000000 in
theorem rt_B (x : Addr) (len cap : Nat) (bs ls : List Int) (sel ly ca : Int) (w : World) (hb : bs.length = len ∧ ∀ j y, bs[j]? = some y → w.cell? (x.add j) = some (.int .u8 y)) (hl : len ≤ 1024) (h16 : ls.length = 16) (hs0 : 0 ≤ sel) (hs1 : sel ≤ 255) (hs : sel % 3 + 1 = ly) (hly : ly = 1 ∨ ly = 3) (hc0 : ca = 0) :
    Calls Ybaf.prog 3 #[.slice (some x) len cap, .agg (bv ls).toArray, .int .u8 sel, .int .u64 ca] w fun e w' => e = .returned (.bool true) ∧ Below w.heap.size w w' := by
  have HB := hid hb
  have H16 := hid h16
  clear hb h16
  have ha : bits BinOp.and IntKind.u8 ly 1 = 1 := (and1' ly (by omega) (by omega)).trans (by omega)
  have HL := hid hly
  have hl1 : 1 ≤ ly := by omega
  have hl2 : ly ≤ 3 := by omega
  clear hly
  subst hc0
  have hmk := make22 len (by omega)
  have heq := eq28 9997 ls ly 1 H16.out
  go_enter Ybaf.func3, Ybaf.ntmps3
  have HCP : Hid (∀ j v, (bv bs)[j]? = some v → ((w.alloc (.cells (bv ls).toArray 23)).alloc (.cells (madeCells #[.int .u8 0] len) 5)).cell? (x.add j) = some v) := by
    intro j v hv
    obtain ⟨y, hy, rfl⟩ := bv_get hv
    exact cells_kept HB.out.2 (((Below.refl _ w).alloc (Nat.le_refl _) _).alloc (by simp) _) j y hy
  go_wp2_with (first
    | (refine wpList_copy_splice rfl (.tmp 32) (.tmp 33) 22 22 rfl 5 Ybaf.underlying22 size5 (some ⟨w.heap.size + 1, 0, none⟩) (some x) len len len cap rfl rfl (w.heap.size + 1) 0 (List.replicate len (.int .u8 0)) 5 (by rw [← made_list]; exact heap_alloc2_new _ _ _) (bv bs) (by rw [bv_length, HB.out.1]; exact (Nat.min_self len).symm) (fun _ => ⟨rfl, _, rfl, HCP.out⟩) (by rw [bv_length, HB.out.1]; simp) (bv_one bs) (w.heap.size + 1) _ (Below.refl _ _) (Nat.le_refl _) ?_; intro w2 hg2 hb2; have hbox2 : w2.heap[w.heap.size]? = some (.cells (bv ls).toArray 23 (0, 0)) := (hb2.block w.heap.size (by omega)).trans (al (Deep.blk_alloc_new w _)); have hrow2 : Row w2 (w.heap.size + 1) len len bs := Row.full (by rw [← splice_full (cur := List.replicate len (.int .u8 0)) (cs := bv bs) (by rw [bv_length, HB.out.1]; simp)]; exact hg2.out) HB.out.1 (by unfold maxLen; omega); have hW2 : Below w.heap.size w w2 := (Below.trans (((Below.refl _ w).alloc (Nat.le_refl _) _).alloc (by simp) _) (hb2.mono (by omega))); have hz2 := hrow2.lt; clear hg2 hb2)
    | (refine wpList_load_row rfl 23 (.tmp 5) rfl w.heap.size rfl 23 (bv ls).toArray (0, 0) _ hbox2 Ybaf.underlying23 rfl (by rw [size23]; simp [bv_length, H16.out]) ?_)
    | (refine wpList_build3 rfl 28 (.tmp 35) (.tmp 36) (.tmp 37) rfl (.agg (bv ls).toArray) (.int .u8 ly) (.int .u64 1) rfl rfl rfl _ (build28c ls ly 1 H16.out _) ?_)
    | (refine wpList_store_row rfl 28 (.tmp 11) (.tmp 38) rfl w2.heap.size (hd ls ly 1).toArray rfl rfl 28 #[.int .u8 0, .int .u8 0, .int .u8 0, .int .u8 0, .int .u8 0, .int .u8 0, .int .u8 0, .int .u8 0, .int .u8 0, .int .u8 0, .int .u8 0, .int .u8 0, .int .u8 0, .int .u8 0, .int .u8 0, .int .u8 0, .int .u8 0, .int .u64 0] (Deep.blk_alloc_new w2 _) (size28h ls _ _ H16.out) (by have := size28h ls ly 1 H16.out; rw [size28] at this; exact Option.some.inj this) (all_oneCell_toArray (hd_one _ _ _)) ?_; obtain ⟨wH, eH, hH⟩ : ∃ wH, (w2.alloc (.cells #[.int .u8 0, .int .u8 0, .int .u8 0, .int .u8 0, .int .u8 0, .int .u8 0, .int .u8 0, .int .u8 0, .int .u8 0, .int .u8 0, .int .u8 0, .int .u8 0, .int .u8 0, .int .u8 0, .int .u8 0, .int .u8 0, .int .u8 0, .int .u64 0] 28)).setRow w2.heap.size (hd ls ly 1).toArray = wH ∧ (wH.heap[w2.heap.size]? = some (.cells (hd ls ly 1).toArray 28 (0, 0)) ∧ Below w2.heap.size w2 wH) := ⟨_, rfl, setRow_heap _ _ _ _ 28 _ (Deep.blk_alloc_new w2 _), below_setRow ((Below.refl _ w2).alloc (Nat.le_refl _) _) (Nat.le_refl _) _⟩; rw [eH]; clear eH)
    | (refine wpList_load_row rfl 28 (.tmp 11) rfl w2.heap.size rfl 28 (hd ls ly 1).toArray (0, 0) _ hH.1 Ybaf.underlying28 rfl (size28h ls _ _ H16.out) ?_))
  refine (header_any (w.heap.size + 1) len len bs ls ly 1 wH (hrow2.of_block (hH.2.block _ hz2)) (by omega) H16.out (by omega) (by omega) (by omega) (by omega)).mono ?_
  rintro e w3 ⟨g3, n3, cap3, rfl, hrow3, hgr3⟩
  have hzH := hH.2.size
  have hW3 : Below w.heap.size w w3 := (hW2.trans (hH.2.mono (by omega))).trans (hgr3.below (by omega) (by omega))
  have hbox3 := gr hgr3 ((hH.2.block _ (by omega)).trans hbox2) (by omega)
  have hhd3 := gr hgr3 hH.1 (by omega)
  have hn3 := headBytes_len bs ls ly 1 H16.out
  rw [hrow3.len, HB.out.1] at hn3
  have hc3 : n3 ≤ cap3 := by obtain ⟨_, _, hq, _⟩ := hrow3.block; exact hq
  have f1 : (len : Int) ≤ (n3 : Int) := by omega
  have f2 : (len : Int) ≤ (cap3 : Int) := by omega
  have f3 : (n3 : Int) ≤ (cap3 : Int) := by omega
  have f4 : ¬ cap3 = len := by omega
  have hz3 : w2.heap.size < w3.heap.size := (Array.getElem?_eq_some_iff.1 hhd3).1
  have HB3 := hid hrow3.bytes
  rw [headBytes_app] at HB3
  have hg3 := hrow3.lt
  clear hgr3 hH hbox2 hrow2 hW2 hrow3 hzH
  go_wp2_with (first
    | (go_at_call 5; refine (eq_any (some ⟨g3, 0, none⟩) (some x) len cap3 cap bs w3 (HB3.out.pre HB.out.1) (bytes_of_cells ⟨HB.out.1, cells_kept HB.out.2 hW3⟩) (by omega)).mono ?_; rintro e w4 ⟨q, rfl, hw4⟩; have hb4 : Below w3.heap.size w3 w4 := (by rw [hw4]; exact below_drewN (Below.refl _ w3) q); have hz4 := hb4.size; have hbox4 : w4.heap[w.heap.size]? = some (.cells (bv ls).toArray 23 (0, 0)) := (hb4.block _ (by omega)).trans hbox3; clear hw4)
    | (refine wpList_load_row rfl 23 (.tmp 5) rfl w.heap.size rfl 23 (bv ls).toArray (0, 0) _ hbox4 Ybaf.underlying23 rfl (by rw [size23]; simp [bv_length, H16.out]) ?_)
    | (refine wpList_store_row rfl 26 (.tmp 14) (.tmp 60) rfl w4.heap.size (bv ls).toArray rfl rfl 26 #[.int .u8 0, .int .u8 0, .int .u8 0, .int .u8 0, .int .u8 0, .int .u8 0, .int .u8 0, .int .u8 0, .int .u8 0, .int .u8 0, .int .u8 0, .int .u8 0, .int .u8 0, .int .u8 0, .int .u8 0, .int .u8 0] (Deep.blk_alloc_new w4 _) (by rw [size26, List.size_toArray, bv_length, H16.out]) (by simp [bv_length, H16.out]) (all_oneCell_toArray (bv_one ls)) ?_; obtain ⟨wL, eL, hL⟩ : ∃ wL, (w4.alloc (.cells #[.int .u8 0, .int .u8 0, .int .u8 0, .int .u8 0, .int .u8 0, .int .u8 0, .int .u8 0, .int .u8 0, .int .u8 0, .int .u8 0, .int .u8 0, .int .u8 0, .int .u8 0, .int .u8 0, .int .u8 0, .int .u8 0] 26)).setRow w4.heap.size (bv ls).toArray = wL ∧ (wL.heap[w4.heap.size]? = some (.cells (bv ls).toArray 26 (0, 0)) ∧ Below w3.heap.size w3 wL) := ⟨_, rfl, setRow_heap _ _ _ _ 26 _ (Deep.blk_alloc_new w4 _), below_setRow (hb4.alloc (by omega) _) (by omega) _⟩; rw [eL]; clear eL))
  have hzL := hL.2.size
  have hLl : w4.heap.size < wL.heap.size := (Array.getElem?_eq_some_iff.1 hL.1).1
  refine (parse_any g3 len (n3 - len) (cap3 - len) w4.heap.size ls ly 1 wL ((HB3.out.post HB.out.1).below hL.2) (by omega) (by omega) (by omega) hL.1 H16.out (.inr ⟨HL.out, by omega, by omega⟩)).mono ?_
  rintro e w6 ⟨rfl, hb6⟩
  have hhd6 : w6.heap[w2.heap.size]? = some (.cells (hd ls ly 1).toArray 28 (0, 0)) := (hb6.block _ (by omega)).trans ((hL.2.block _ hz3).trans hhd3)
  have hW6 : Below w.heap.size w w6 := (hW3.trans (hL.2.mono (by omega))).trans (hb6.mono (by omega))
  have hz6 := hb6.size
  clear hb6 hL hb4 hW3 hhd3 hbox3 hbox4 HB3
  go_wp2_with (first
    | (refine wpList_store_row rfl 28 (.tmp 15) (.tmp 64) rfl w6.heap.size (hd ls ly 1).toArray rfl rfl 28 #[.int .u8 0, .int .u8 0, .int .u8 0, .int .u8 0, .int .u8 0, .int .u8 0, .int .u8 0, .int .u8 0, .int .u8 0, .int .u8 0, .int .u8 0, .int .u8 0, .int .u8 0, .int .u8 0, .int .u8 0, .int .u8 0, .int .u8 0, .int .u64 0] (Deep.blk_alloc_new w6 _) (size28h ls _ _ H16.out) (by have := size28h ls ly 1 H16.out; rw [size28] at this; exact Option.some.inj this) (all_oneCell_toArray (hd_one _ _ _)) ?_; obtain ⟨wF, eF, hF⟩ : ∃ wF, (w6.alloc (.cells #[.int .u8 0, .int .u8 0, .int .u8 0, .int .u8 0, .int .u8 0, .int .u8 0, .int .u8 0, .int .u8 0, .int .u8 0, .int .u8 0, .int .u8 0, .int .u8 0, .int .u8 0, .int .u8 0, .int .u8 0, .int .u8 0, .int .u8 0, .int .u64 0] 28)).setRow w6.heap.size (hd ls ly 1).toArray = wF ∧ (wF.heap[w6.heap.size]? = some (.cells (hd ls ly 1).toArray 28 (0, 0)) ∧ wF.heap[w2.heap.size]? = some (.cells (hd ls ly 1).toArray 28 (0, 0)) ∧ Below w.heap.size w wF) := ⟨_, rfl, setRow_heap _ _ _ _ 28 _ (Deep.blk_alloc_new w6 _), by rw [setRow_other _ _ _ _ (by omega)]; exact al hhd6, below_setRow (hW6.alloc (by omega) _) (by omega) _⟩; rw [eF]; clear eF)
    | (refine wpList_load_guard (by rfl) 28 (.tmp 15) rfl w6.heap.size rfl 28 (hd ls ly 1).toArray (0, 0) _ hF.1 Ybaf.underlying28 rfl (size28h ls _ _ H16.out) ?_)
    | (refine wpList_load_guard (by rfl) 28 (.tmp 11) rfl w2.heap.size rfl 28 (hd ls ly 1).toArray (0, 0) _ hF.2.1 Ybaf.underlying28 rfl (size28h ls _ _ H16.out) ?_))
  go_ret
  exact ⟨rfl, hF.2.2⟩

set_option maxRecDepth 100000 in
set_option maxHeartbeats 1000000 in
theorem rt_C (x : Addr) (len cap : Nat) (bs ls : List Int) (sel ly ca : Int) (w : World) (hb : bs.length = len ∧ ∀ j y, bs[j]? = some y → w.cell? (x.add j) = some (.int .u8 y)) (hl : len ≤ 1024) (h16 : ls.length = 16) (hs0 : 0 ≤ sel) (hs1 : sel ≤ 255) (hs : sel % 3 + 1 = ly) (hly : ly = 1 ∨ ly = 3) (hc0 : 1 ≤ ca) (hc1 : ca ≤ 18446744073709551615) :
    Calls Ybaf.prog 3 #[.slice (some x) len cap, .agg (bv ls).toArray, .int .u8 sel, .int .u64 ca] w fun e w' => e = .returned (.bool true) ∧ Below w.heap.size w w' := by
  have HB := hid hb
  have H16 := hid h16
  clear hb h16
  have ha : bits BinOp.and IntKind.u8 ly 1 = 1 := (and1' ly (by omega) (by omega)).trans (by omega)
  have HL := hid hly
  have hl1 : 1 ≤ ly := by omega
  have hl2 : ly ≤ 3 := by omega
  clear hly
  have hc0b : (ca == 0) = false := by simp; omega
  have hmk := make22 len (by omega)
  have heq := eq28 9997 ls ly ca H16.out
  go_enter Ybaf.func3, Ybaf.ntmps3
  have HCP : Hid (∀ j v, (bv bs)[j]? = some v → ((w.alloc (.cells (bv ls).toArray 23)).alloc (.cells (madeCells #[.int .u8 0] len) 5)).cell? (x.add j) = some v) := by
    intro j v hv
    obtain ⟨y, hy, rfl⟩ := bv_get hv
    exact cells_kept HB.out.2 (((Below.refl _ w).alloc (Nat.le_refl _) _).alloc (by simp) _) j y hy
  go_wp2_with (first
    | (refine wpList_copy_splice rfl (.tmp 32) (.tmp 33) 22 22 rfl 5 Ybaf.underlying22 size5 (some ⟨w.heap.size + 1, 0, none⟩) (some x) len len len cap rfl rfl (w.heap.size + 1) 0 (List.replicate len (.int .u8 0)) 5 (by rw [← made_list]; exact heap_alloc2_new _ _ _) (bv bs) (by rw [bv_length, HB.out.1]; exact (Nat.min_self len).symm) (fun _ => ⟨rfl, _, rfl, HCP.out⟩) (by rw [bv_length, HB.out.1]; simp) (bv_one bs) (w.heap.size + 1) _ (Below.refl _ _) (Nat.le_refl _) ?_; intro w2 hg2 hb2; have hbox2 : w2.heap[w.heap.size]? = some (.cells (bv ls).toArray 23 (0, 0)) := (hb2.block w.heap.size (by omega)).trans (al (Deep.blk_alloc_new w _)); have hrow2 : Row w2 (w.heap.size + 1) len len bs := Row.full (by rw [← splice_full (cur := List.replicate len (.int .u8 0)) (cs := bv bs) (by rw [bv_length, HB.out.1]; simp)]; exact hg2.out) HB.out.1 (by unfold maxLen; omega); have hW2 : Below w.heap.size w w2 := (Below.trans (((Below.refl _ w).alloc (Nat.le_refl _) _).alloc (by simp) _) (hb2.mono (by omega))); have hz2 := hrow2.lt; clear hg2 hb2)
    | (refine wpList_load_row rfl 23 (.tmp 5) rfl w.heap.size rfl 23 (bv ls).toArray (0, 0) _ hbox2 Ybaf.underlying23 rfl (by rw [size23]; simp [bv_length, H16.out]) ?_)
    | (refine wpList_build3 rfl 28 (.tmp 35) (.tmp 36) (.tmp 37) rfl (.agg (bv ls).toArray) (.int .u8 ly) (.int .u64 ca) rfl rfl rfl _ (build28c ls ly ca H16.out _) ?_)
    | (refine wpList_store_row rfl 28 (.tmp 11) (.tmp 38) rfl w2.heap.size (hd ls ly ca).toArray rfl rfl 28 #[.int .u8 0, .int .u8 0, .int .u8 0, .int .u8 0, .int .u8 0, .int .u8 0, .int .u8 0, .int .u8 0, .int .u8 0, .int .u8 0, .int .u8 0, .int .u8 0, .int .u8 0, .int .u8 0, .int .u8 0, .int .u8 0, .int .u8 0, .int .u64 0] (Deep.blk_alloc_new w2 _) (size28h ls _ _ H16.out) (by have := size28h ls ly ca H16.out; rw [size28] at this; exact Option.some.inj this) (all_oneCell_toArray (hd_one _ _ _)) ?_; obtain ⟨wH, eH, hH⟩ : ∃ wH, (w2.alloc (.cells #[.int .u8 0, .int .u8 0, .int .u8 0, .int .u8 0, .int .u8 0, .int .u8 0, .int .u8 0, .int .u8 0, .int .u8 0, .int .u8 0, .int .u8 0, .int .u8 0, .int .u8 0, .int .u8 0, .int .u8 0, .int .u8 0, .int .u8 0, .int .u64 0] 28)).setRow w2.heap.size (hd ls ly ca).toArray = wH ∧ (wH.heap[w2.heap.size]? = some (.cells (hd ls ly ca).toArray 28 (0, 0)) ∧ Below w2.heap.size w2 wH) := ⟨_, rfl, setRow_heap _ _ _ _ 28 _ (Deep.blk_alloc_new w2 _), below_setRow ((Below.refl _ w2).alloc (Nat.le_refl _) _) (Nat.le_refl _) _⟩; rw [eH]; clear eH)
    | (refine wpList_load_row rfl 28 (.tmp 11) rfl w2.heap.size rfl 28 (hd ls ly ca).toArray (0, 0) _ hH.1 Ybaf.underlying28 rfl (size28h ls _ _ H16.out) ?_))
  refine (header_any (w.heap.size + 1) len len bs ls ly ca wH (hrow2.of_block (hH.2.block _ hz2)) (by omega) H16.out (by omega) (by omega) (by omega) hc1).mono ?_
  rintro e w3 ⟨g3, n3, cap3, rfl, hrow3, hgr3⟩
  have hzH := hH.2.size
  have hW3 : Below w.heap.size w w3 := (hW2.trans (hH.2.mono (by omega))).trans (hgr3.below (by omega) (by omega))
  have hbox3 := gr hgr3 ((hH.2.block _ (by omega)).trans hbox2) (by omega)
  have hhd3 := gr hgr3 hH.1 (by omega)
  have hn3 := headBytes_len bs ls ly ca H16.out
  rw [hrow3.len, HB.out.1] at hn3
  have hc3 : n3 ≤ cap3 := by obtain ⟨_, _, hq, _⟩ := hrow3.block; exact hq
  have f1 : (len : Int) ≤ (n3 : Int) := by omega
  have f2 : (len : Int) ≤ (cap3 : Int) := by omega
  have f3 : (n3 : Int) ≤ (cap3 : Int) := by omega
  have f4 : ¬ cap3 = len := by omega
  have hz3 : w2.heap.size < w3.heap.size := (Array.getElem?_eq_some_iff.1 hhd3).1
  have HB3 := hid hrow3.bytes
  rw [headBytes_app] at HB3
  have hg3 := hrow3.lt
  clear hgr3 hH hbox2 hrow2 hW2 hrow3 hzH
  go_wp2_with (first
    | (go_at_call 5; refine (eq_any (some ⟨g3, 0, none⟩) (some x) len cap3 cap bs w3 (HB3.out.pre HB.out.1) (bytes_of_cells ⟨HB.out.1, cells_kept HB.out.2 hW3⟩) (by omega)).mono ?_; rintro e w4 ⟨q, rfl, hw4⟩; have hb4 : Below w3.heap.size w3 w4 := (by rw [hw4]; exact below_drewN (Below.refl _ w3) q); have hz4 := hb4.size; have hbox4 : w4.heap[w.heap.size]? = some (.cells (bv ls).toArray 23 (0, 0)) := (hb4.block _ (by omega)).trans hbox3; clear hw4)
    | (refine wpList_load_row rfl 23 (.tmp 5) rfl w.heap.size rfl 23 (bv ls).toArray (0, 0) _ hbox4 Ybaf.underlying23 rfl (by rw [size23]; simp [bv_length, H16.out]) ?_)
    | (refine wpList_store_row rfl 26 (.tmp 14) (.tmp 60) rfl w4.heap.size (bv ls).toArray rfl rfl 26 #[.int .u8 0, .int .u8 0, .int .u8 0, .int .u8 0, .int .u8 0, .int .u8 0, .int .u8 0, .int .u8 0, .int .u8 0, .int .u8 0, .int .u8 0, .int .u8 0, .int .u8 0, .int .u8 0, .int .u8 0, .int .u8 0] (Deep.blk_alloc_new w4 _) (by rw [size26, List.size_toArray, bv_length, H16.out]) (by simp [bv_length, H16.out]) (all_oneCell_toArray (bv_one ls)) ?_; obtain ⟨wL, eL, hL⟩ : ∃ wL, (w4.alloc (.cells #[.int .u8 0, .int .u8 0, .int .u8 0, .int .u8 0, .int .u8 0, .int .u8 0, .int .u8 0, .int .u8 0, .int .u8 0, .int .u8 0, .int .u8 0, .int .u8 0, .int .u8 0, .int .u8 0, .int .u8 0, .int .u8 0] 26)).setRow w4.heap.size (bv ls).toArray = wL ∧ (wL.heap[w4.heap.size]? = some (.cells (bv ls).toArray 26 (0, 0)) ∧ Below w3.heap.size w3 wL) := ⟨_, rfl, setRow_heap _ _ _ _ 26 _ (Deep.blk_alloc_new w4 _), below_setRow (hb4.alloc (by omega) _) (by omega) _⟩; rw [eL]; clear eL))
  have hzL := hL.2.size
  have hLl : w4.heap.size < wL.heap.size := (Array.getElem?_eq_some_iff.1 hL.1).1
  refine (parse_any g3 len (n3 - len) (cap3 - len) w4.heap.size ls ly ca wL ((HB3.out.post HB.out.1).below hL.2) (by omega) (by omega) (by omega) hL.1 H16.out (.inr ⟨HL.out, hc0, hc1⟩)).mono ?_
  rintro e w6 ⟨rfl, hb6⟩
  have hhd6 : w6.heap[w2.heap.size]? = some (.cells (hd ls ly ca).toArray 28 (0, 0)) := (hb6.block _ (by omega)).trans ((hL.2.block _ hz3).trans hhd3)
  have hW6 : Below w.heap.size w w6 := (hW3.trans (hL.2.mono (by omega))).trans (hb6.mono (by omega))
  have hz6 := hb6.size
  clear hb6 hL hb4 hW3 hhd3 hbox3 hbox4 HB3
  go_wp2_with (first
    | (refine wpList_store_row rfl 28 (.tmp 15) (.tmp 64) rfl w6.heap.size (hd ls ly ca).toArray rfl rfl 28 #[.int .u8 0, .int .u8 0, .int .u8 0, .int .u8 0, .int .u8 0, .int .u8 0, .int .u8 0, .int .u8 0, .int .u8 0, .int .u8 0, .int .u8 0, .int .u8 0, .int .u8 0, .int .u8 0, .int .u8 0, .int .u8 0, .int .u8 0, .int .u64 0] (Deep.blk_alloc_new w6 _) (size28h ls _ _ H16.out) (by have := size28h ls ly ca H16.out; rw [size28] at this; exact Option.some.inj this) (all_oneCell_toArray (hd_one _ _ _)) ?_; obtain ⟨wF, eF, hF⟩ : ∃ wF, (w6.alloc (.cells #[.int .u8 0, .int .u8 0, .int .u8 0, .int .u8 0, .int .u8 0, .int .u8 0, .int .u8 0, .int .u8 0, .int .u8 0, .int .u8 0, .int .u8 0, .int .u8 0, .int .u8 0, .int .u8 0, .int .u8 0, .int .u8 0, .int .u8 0, .int .u64 0] 28)).setRow w6.heap.size (hd ls ly ca).toArray = wF ∧ (wF.heap[w6.heap.size]? = some (.cells (hd ls ly ca).toArray 28 (0, 0)) ∧ wF.heap[w2.heap.size]? = some (.cells (hd ls ly ca).toArray 28 (0, 0)) ∧ Below w.heap.size w wF) := ⟨_, rfl, setRow_heap _ _ _ _ 28 _ (Deep.blk_alloc_new w6 _), by rw [setRow_other _ _ _ _ (by omega)]; exact al hhd6, below_setRow (hW6.alloc (by omega) _) (by omega) _⟩; rw [eF]; clear eF)
    | (refine wpList_load_guard (by rfl) 28 (.tmp 15) rfl w6.heap.size rfl 28 (hd ls ly ca).toArray (0, 0) _ hF.1 Ybaf.underlying28 rfl (size28h ls _ _ H16.out) ?_)
    | (refine wpList_load_guard (by rfl) 28 (.tmp 11) rfl w2.heap.size rfl 28 (hd ls ly ca).toArray (0, 0) _ hF.2.1 Ybaf.underlying28 rfl (size28h ls _ _ H16.out) ?_))
  go_ret
  exact ⟨rfl, hF.2.2⟩

set_option maxRecDepth 100000 in
set_option maxHeartbeats 1000000 in
theorem rt_A_nil (len cap : Nat) (bs ls : List Int) (sel ca : Int) (w : World) (hb : bs.length = len) (h0 : len = 0) (h1 : cap = 0) (hl : len ≤ 1024) (h16 : ls.length = 16) (hs0 : 0 ≤ sel) (hs1 : sel ≤ 255) (hs : sel % 3 = 1) :
    Calls Ybaf.prog 3 #[.slice none len cap, .agg (bv ls).toArray, .int .u8 sel, .int .u64 ca] w fun e w' => e = .returned (.bool true) ∧ Below w.heap.size w w' := by
  have HB := hid hb
  have H16 := hid h16
  have H0 := hid h0
  have H1 := hid h1
  clear h0 h1
  clear hb h16
  have hmk := make22 len (by omega)
  have heq := eq28 9997 ls 2 0 H16.out
  go_enter Ybaf.func3, Ybaf.ntmps3
  go_wp2_with (first
    | (refine wpList_copy_splice rfl (.tmp 32) (.tmp 33) 22 22 rfl 5 Ybaf.underlying22 size5 (some ⟨w.heap.size + 1, 0, none⟩) none len len len cap rfl rfl (w.heap.size + 1) 0 (List.replicate len (.int .u8 0)) 5 (by rw [← made_list]; exact heap_alloc2_new _ _ _) (bv bs) (by rw [bv_length, HB.out]; exact (Nat.min_self len).symm) (fun h => absurd h (by rw [bv_length, HB.out, H0.out]; exact Nat.lt_irrefl 0)) (by rw [bv_length, HB.out]; simp) (bv_one bs) (w.heap.size + 1) _ (Below.refl _ _) (Nat.le_refl _) ?_; intro w2 hg2 hb2; have hbox2 : w2.heap[w.heap.size]? = some (.cells (bv ls).toArray 23 (0, 0)) := (hb2.block w.heap.size (by omega)).trans (al (Deep.blk_alloc_new w _)); have hrow2 : Row w2 (w.heap.size + 1) len len bs := Row.full (by rw [← splice_full (cur := List.replicate len (.int .u8 0)) (cs := bv bs) (by rw [bv_length, HB.out]; simp)]; exact hg2.out) HB.out (by unfold maxLen; omega); have hW2 : Below w.heap.size w w2 := (Below.trans (((Below.refl _ w).alloc (Nat.le_refl _) _).alloc (by simp) _) (hb2.mono (by omega))); have hz2 := hrow2.lt; clear hg2 hb2)
    | (refine wpList_load_row rfl 23 (.tmp 5) rfl w.heap.size rfl 23 (bv ls).toArray (0, 0) _ hbox2 Ybaf.underlying23 rfl (by rw [size23]; simp [bv_length, H16.out]) ?_)
    | (refine wpList_build3 rfl 28 (.tmp 35) (.tmp 36) (.tmp 37) rfl (.agg (bv ls).toArray) (.int .u8 2) (.int .u64 0) rfl rfl rfl _ (build28c ls 2 0 H16.out _) ?_)
    | (refine wpList_store_row rfl 28 (.tmp 11) (.tmp 38) rfl w2.heap.size (hd ls 2 0).toArray rfl rfl 28 #[.int .u8 0, .int .u8 0, .int .u8 0, .int .u8 0, .int .u8 0, .int .u8 0, .int .u8 0, .int .u8 0, .int .u8 0, .int .u8 0, .int .u8 0, .int .u8 0, .int .u8 0, .int .u8 0, .int .u8 0, .int .u8 0, .int .u8 0, .int .u64 0] (Deep.blk_alloc_new w2 _) (size28h ls _ _ H16.out) (by have := size28h ls 2 0 H16.out; rw [size28] at this; exact Option.some.inj this) (all_oneCell_toArray (hd_one _ _ _)) ?_; obtain ⟨wH, eH, hH⟩ : ∃ wH, (w2.alloc (.cells #[.int .u8 0, .int .u8 0, .int .u8 0, .int .u8 0, .int .u8 0, .int .u8 0, .int .u8 0, .int .u8 0, .int .u8 0, .int .u8 0, .int .u8 0, .int .u8 0, .int .u8 0, .int .u8 0, .int .u8 0, .int .u8 0, .int .u8 0, .int .u64 0] 28)).setRow w2.heap.size (hd ls 2 0).toArray = wH ∧ (wH.heap[w2.heap.size]? = some (.cells (hd ls 2 0).toArray 28 (0, 0)) ∧ Below w2.heap.size w2 wH) := ⟨_, rfl, setRow_heap _ _ _ _ 28 _ (Deep.blk_alloc_new w2 _), below_setRow ((Below.refl _ w2).alloc (Nat.le_refl _) _) (Nat.le_refl _) _⟩; rw [eH]; clear eH)
    | (refine wpList_load_row rfl 28 (.tmp 11) rfl w2.heap.size rfl 28 (hd ls 2 0).toArray (0, 0) _ hH.1 Ybaf.underlying28 rfl (size28h ls _ _ H16.out) ?_))
  refine (header_any (w.heap.size + 1) len len bs ls 2 0 wH (hrow2.of_block (hH.2.block _ hz2)) (by omega) H16.out (by omega) (by omega) (by omega) (by omega)).mono ?_
  rintro e w3 ⟨g3, n3, cap3, rfl, hrow3, hgr3⟩
  have hzH := hH.2.size
  have hW3 : Below w.heap.size w w3 := (hW2.trans (hH.2.mono (by omega))).trans (hgr3.below (by omega) (by omega))
  have hbox3 := gr hgr3 ((hH.2.block _ (by omega)).trans hbox2) (by omega)
  have hhd3 := gr hgr3 hH.1 (by omega)
  have hn3 := headBytes_len bs ls 2 0 H16.out
  rw [hrow3.len, HB.out] at hn3
  have hc3 : n3 ≤ cap3 := by obtain ⟨_, _, hq, _⟩ := hrow3.block; exact hq
  have f1 : (len : Int) ≤ (n3 : Int) := by omega
  have f2 : (len : Int) ≤ (cap3 : Int) := by omega
  have f3 : (n3 : Int) ≤ (cap3 : Int) := by omega
  have f4 : ¬ cap3 = len := by omega
  have hz3 : w2.heap.size < w3.heap.size := (Array.getElem?_eq_some_iff.1 hhd3).1
  have HB3 := hid hrow3.bytes
  rw [headBytes_app] at HB3
  have hg3 := hrow3.lt
  clear hgr3 hH hbox2 hrow2 hW2 hrow3 hzH
  go_wp2_with (first
    | (go_at_call 5; refine (eq_any (some ⟨g3, 0, none⟩) none len cap3 cap bs w3 (HB3.out.pre HB.out) ⟨HB.out, fun j y hy => absurd (List.getElem?_eq_some_iff.1 hy).1 (by rw [HB.out, H0.out]; exact Nat.not_lt_zero _)⟩ (by omega)).mono ?_; rintro e w4 ⟨q, rfl, hw4⟩; have hb4 : Below w3.heap.size w3 w4 := (by rw [hw4]; exact below_drewN (Below.refl _ w3) q); have hz4 := hb4.size; have hbox4 : w4.heap[w.heap.size]? = some (.cells (bv ls).toArray 23 (0, 0)) := (hb4.block _ (by omega)).trans hbox3; clear hw4)
    | (refine wpList_load_row rfl 23 (.tmp 5) rfl w.heap.size rfl 23 (bv ls).toArray (0, 0) _ hbox4 Ybaf.underlying23 rfl (by rw [size23]; simp [bv_length, H16.out]) ?_)
    | (refine wpList_store_row rfl 26 (.tmp 14) (.tmp 60) rfl w4.heap.size (bv ls).toArray rfl rfl 26 #[.int .u8 0, .int .u8 0, .int .u8 0, .int .u8 0, .int .u8 0, .int .u8 0, .int .u8 0, .int .u8 0, .int .u8 0, .int .u8 0, .int .u8 0, .int .u8 0, .int .u8 0, .int .u8 0, .int .u8 0, .int .u8 0] (Deep.blk_alloc_new w4 _) (by rw [size26, List.size_toArray, bv_length, H16.out]) (by simp [bv_length, H16.out]) (all_oneCell_toArray (bv_one ls)) ?_; obtain ⟨wL, eL, hL⟩ : ∃ wL, (w4.alloc (.cells #[.int .u8 0, .int .u8 0, .int .u8 0, .int .u8 0, .int .u8 0, .int .u8 0, .int .u8 0, .int .u8 0, .int .u8 0, .int .u8 0, .int .u8 0, .int .u8 0, .int .u8 0, .int .u8 0, .int .u8 0, .int .u8 0] 26)).setRow w4.heap.size (bv ls).toArray = wL ∧ (wL.heap[w4.heap.size]? = some (.cells (bv ls).toArray 26 (0, 0)) ∧ Below w3.heap.size w3 wL) := ⟨_, rfl, setRow_heap _ _ _ _ 26 _ (Deep.blk_alloc_new w4 _), below_setRow (hb4.alloc (by omega) _) (by omega) _⟩; rw [eL]; clear eL))
  have hzL := hL.2.size
  have hLl : w4.heap.size < wL.heap.size := (Array.getElem?_eq_some_iff.1 hL.1).1
  refine (parse_any g3 len (n3 - len) (cap3 - len) w4.heap.size ls 2 0 wL ((HB3.out.post HB.out).below hL.2) (by omega) (by omega) (by omega) hL.1 H16.out (.inl ⟨rfl, rfl⟩)).mono ?_
  rintro e w6 ⟨rfl, hb6⟩
  have hhd6 : w6.heap[w2.heap.size]? = some (.cells (hd ls 2 0).toArray 28 (0, 0)) := (hb6.block _ (by omega)).trans ((hL.2.block _ hz3).trans hhd3)
  have hW6 : Below w.heap.size w w6 := (hW3.trans (hL.2.mono (by omega))).trans (hb6.mono (by omega))
  have hz6 := hb6.size
  clear hb6 hL hb4 hW3 hhd3 hbox3 hbox4 HB3
  go_wp2_with (first
    | (refine wpList_store_row rfl 28 (.tmp 15) (.tmp 64) rfl w6.heap.size (hd ls 2 0).toArray rfl rfl 28 #[.int .u8 0, .int .u8 0, .int .u8 0, .int .u8 0, .int .u8 0, .int .u8 0, .int .u8 0, .int .u8 0, .int .u8 0, .int .u8 0, .int .u8 0, .int .u8 0, .int .u8 0, .int .u8 0, .int .u8 0, .int .u8 0, .int .u8 0, .int .u64 0] (Deep.blk_alloc_new w6 _) (size28h ls _ _ H16.out) (by have := size28h ls 2 0 H16.out; rw [size28] at this; exact Option.some.inj this) (all_oneCell_toArray (hd_one _ _ _)) ?_; obtain ⟨wF, eF, hF⟩ : ∃ wF, (w6.alloc (.cells #[.int .u8 0, .int .u8 0, .int .u8 0, .int .u8 0, .int .u8 0, .int .u8 0, .int .u8 0, .int .u8 0, .int .u8 0, .int .u8 0, .int .u8 0, .int .u8 0, .int .u8 0, .int .u8 0, .int .u8 0, .int .u8 0, .int .u8 0, .int .u64 0] 28)).setRow w6.heap.size (hd ls 2 0).toArray = wF ∧ (wF.heap[w6.heap.size]? = some (.cells (hd ls 2 0).toArray 28 (0, 0)) ∧ wF.heap[w2.heap.size]? = some (.cells (hd ls 2 0).toArray 28 (0, 0)) ∧ Below w.heap.size w wF) := ⟨_, rfl, setRow_heap _ _ _ _ 28 _ (Deep.blk_alloc_new w6 _), by rw [setRow_other _ _ _ _ (by omega)]; exact al hhd6, below_setRow (hW6.alloc (by omega) _) (by omega) _⟩; rw [eF]; clear eF)
    | (refine wpList_load_guard (by rfl) 28 (.tmp 15) rfl w6.heap.size rfl 28 (hd ls 2 0).toArray (0, 0) _ hF.1 Ybaf.underlying28 rfl (size28h ls _ _ H16.out) ?_)
    | (refine wpList_load_guard (by rfl) 28 (.tmp 11) rfl w2.heap.size rfl 28 (hd ls 2 0).toArray (0, 0) _ hF.2.1 Ybaf.underlying28 rfl (size28h ls _ _ H16.out) ?_))
  go_ret
  exact ⟨rfl, hF.2.2⟩

set_option maxRecDepth 100000 in
set_option maxHeartbeats 1000000 in
theorem rt_B_nil (len cap : Nat) (bs ls : List Int) (sel ly ca : Int) (w : World) (hb : bs.length = len) (h0 : len = 0) (h1 : cap = 0) (hl : len ≤ 1024) (h16 : ls.length = 16) (hs0 : 0 ≤ sel) (hs1 : sel ≤ 255) (hs : sel % 3 + 1 = ly) (hly : ly = 1 ∨ ly = 3) (hc0 : ca = 0) :
    Calls Ybaf.prog 3 #[.slice none len cap, .agg (bv ls).toArray, .int .u8 sel, .int .u64 ca] w fun e w' => e = .returned (.bool true) ∧ Below w.heap.size w w' := by
  have HB := hid hb
  have H16 := hid h16
  have H0 := hid h0
  have H1 := hid h1
  clear h0 h1
  clear hb h16
  have ha : bits BinOp.and IntKind.u8 ly 1 = 1 := (and1' ly (by omega) (by omega)).trans (by omega)
  have HL := hid hly
  have hl1 : 1 ≤ ly := by omega
  have hl2 : ly ≤ 3 := by omega
  clear hly
  subst hc0
  have hmk := make22 len (by omega)
  have heq := eq28 9997 ls ly 1 H16.out
  go_enter Ybaf.func3, Ybaf.ntmps3
  go_wp2_with (first
    | (refine wpList_copy_splice rfl (.tmp 32) (.tmp 33) 22 22 rfl 5 Ybaf.underlying22 size5 (some ⟨w.heap.size + 1, 0, none⟩) none len len len cap rfl rfl (w.heap.size + 1) 0 (List.replicate len (.int .u8 0)) 5 (by rw [← made_list]; exact heap_alloc2_new _ _ _) (bv bs) (by rw [bv_length, HB.out]; exact (Nat.min_self len).symm) (fun h => absurd h (by rw [bv_length, HB.out, H0.out]; exact Nat.lt_irrefl 0)) (by rw [bv_length, HB.out]; simp) (bv_one bs) (w.heap.size + 1) _ (Below.refl _ _) (Nat.le_refl _) ?_; intro w2 hg2 hb2; have hbox2 : w2.heap[w.heap.size]? = some (.cells (bv ls).toArray 23 (0, 0)) := (hb2.block w.heap.size (by omega)).trans (al (Deep.blk_alloc_new w _)); have hrow2 : Row w2 (w.heap.size + 1) len len bs := Row.full (by rw [← splice_full (cur := List.replicate len (.int .u8 0)) (cs := bv bs) (by rw [bv_length, HB.out]; simp)]; exact hg2.out) HB.out (by unfold maxLen; omega); have hW2 : Below w.heap.size w w2 := (Below.trans (((Below.refl _ w).alloc (Nat.le_refl _) _).alloc (by simp) _) (hb2.mono (by omega))); have hz2 := hrow2.lt; clear hg2 hb2)
    | (refine wpList_load_row rfl 23 (.tmp 5) rfl w.heap.size rfl 23 (bv ls).toArray (0, 0) _ hbox2 Ybaf.underlying23 rfl (by rw [size23]; simp [bv_length, H16.out]) ?_)
    | (refine wpList_build3 rfl 28 (.tmp 35) (.tmp 36) (.tmp 37) rfl (.agg (bv ls).toArray) (.int .u8 ly) (.int .u64 1) rfl rfl rfl _ (build28c ls ly 1 H16.out _) ?_)
    | (refine wpList_store_row rfl 28 (.tmp 11) (.tmp 38) rfl w2.heap.size (hd ls ly 1).toArray rfl rfl 28 #[.int .u8 0, .int .u8 0, .int .u8 0, .int .u8 0, .int .u8 0, .int .u8 0, .int .u8 0, .int .u8 0, .int .u8 0, .int .u8 0, .int .u8 0, .int .u8 0, .int .u8 0, .int .u8 0, .int .u8 0, .int .u8 0, .int .u8 0, .int .u64 0] (Deep.blk_alloc_new w2 _) (size28h ls _ _ H16.out) (by have := size28h ls ly 1 H16.out; rw [size28] at this; exact Option.some.inj this) (all_oneCell_toArray (hd_one _ _ _)) ?_; obtain ⟨wH, eH, hH⟩ : ∃ wH, (w2.alloc (.cells #[.int .u8 0, .int .u8 0, .int .u8 0, .int .u8 0, .int .u8 0, .int .u8 0, .int .u8 0, .int .u8 0, .int .u8 0, .int .u8 0, .int .u8 0, .int .u8 0, .int .u8 0, .int .u8 0, .int .u8 0, .int .u8 0, .int .u8 0, .int .u64 0] 28)).setRow w2.heap.size (hd ls ly 1).toArray = wH ∧ (wH.heap[w2.heap.size]? = some (.cells (hd ls ly 1).toArray 28 (0, 0)) ∧ Below w2.heap.size w2 wH) := ⟨_, rfl, setRow_heap _ _ _ _ 28 _ (Deep.blk_alloc_new w2 _), below_setRow ((Below.refl _ w2).alloc (Nat.le_refl _) _) (Nat.le_refl _) _⟩; rw [eH]; clear eH)
    | (refine wpList_load_row rfl 28 (.tmp 11) rfl w2.heap.size rfl 28 (hd ls ly 1).toArray (0, 0) _ hH.1 Ybaf.underlying28 rfl (size28h ls _ _ H16.out) ?_))
  refine (header_any (w.heap.size + 1) len len bs ls ly 1 wH (hrow2.of_block (hH.2.block _ hz2)) (by omega) H16.out (by omega) (by omega) (by omega) (by omega)).mono ?_
  rintro e w3 ⟨g3, n3, cap3, rfl, hrow3, hgr3⟩
  have hzH := hH.2.size
  have hW3 : Below w.heap.size w w3 := (hW2.trans (hH.2.mono (by omega))).trans (hgr3.below (by omega) (by omega))
  have hbox3 := gr hgr3 ((hH.2.block _ (by omega)).trans hbox2) (by omega)
  have hhd3 := gr hgr3 hH.1 (by omega)
  have hn3 := headBytes_len bs ls ly 1 H16.out
  rw [hrow3.len, HB.out] at hn3
  have hc3 : n3 ≤ cap3 := by obtain ⟨_, _, hq, _⟩ := hrow3.block; exact hq
  have f1 : (len : Int) ≤ (n3 : Int) := by omega
  have f2 : (len : Int) ≤ (cap3 : Int) := by omega
  have f3 : (n3 : Int) ≤ (cap3 : Int) := by omega
  have f4 : ¬ cap3 = len := by omega
  have hz3 : w2.heap.size < w3.heap.size := (Array.getElem?_eq_some_iff.1 hhd3).1
  have HB3 := hid hrow3.bytes
  rw [headBytes_app] at HB3
  have hg3 := hrow3.lt
  clear hgr3 hH hbox2 hrow2 hW2 hrow3 hzH
  go_wp2_with (first
    | (go_at_call 5; refine (eq_any (some ⟨g3, 0, none⟩) none len cap3 cap bs w3 (HB3.out.pre HB.out) ⟨HB.out, fun j y hy => absurd (List.getElem?_eq_some_iff.1 hy).1 (by rw [HB.out, H0.out]; exact Nat.not_lt_zero _)⟩ (by omega)).mono ?_; rintro e w4 ⟨q, rfl, hw4⟩; have hb4 : Below w3.heap.size w3 w4 := (by rw [hw4]; exact below_drewN (Below.refl _ w3) q); have hz4 := hb4.size; have hbox4 : w4.heap[w.heap.size]? = some (.cells (bv ls).toArray 23 (0, 0)) := (hb4.block _ (by omega)).trans hbox3; clear hw4)
    | (refine wpList_load_row rfl 23 (.tmp 5) rfl w.heap.size rfl 23 (bv ls).toArray (0, 0) _ hbox4 Ybaf.underlying23 rfl (by rw [size23]; simp [bv_length, H16.out]) ?_)
    | (refine wpList_store_row rfl 26 (.tmp 14) (.tmp 60) rfl w4.heap.size (bv ls).toArray rfl rfl 26 #[.int .u8 0, .int .u8 0, .int .u8 0, .int .u8 0, .int .u8 0, .int .u8 0, .int .u8 0, .int .u8 0, .int .u8 0, .int .u8 0, .int .u8 0, .int .u8 0, .int .u8 0, .int .u8 0, .int .u8 0, .int .u8 0] (Deep.blk_alloc_new w4 _) (by rw [size26, List.size_toArray, bv_length, H16.out]) (by simp [bv_length, H16.out]) (all_oneCell_toArray (bv_one ls)) ?_; obtain ⟨wL, eL, hL⟩ : ∃ wL, (w4.alloc (.cells #[.int .u8 0, .int .u8 0, .int .u8 0, .int .u8 0, .int .u8 0, .int .u8 0, .int .u8 0, .int .u8 0, .int .u8 0, .int .u8 0, .int .u8 0, .int .u8 0, .int .u8 0, .int .u8 0, .int .u8 0, .int .u8 0] 26)).setRow w4.heap.size (bv ls).toArray = wL ∧ (wL.heap[w4.heap.size]? = some (.cells (bv ls).toArray 26 (0, 0)) ∧ Below w3.heap.size w3 wL) := ⟨_, rfl, setRow_heap _ _ _ _ 26 _ (Deep.blk_alloc_new w4 _), below_setRow (hb4.alloc (by omega) _) (by omega) _⟩; rw [eL]; clear eL))
  have hzL := hL.2.size
  have hLl : w4.heap.size < wL.heap.size := (Array.getElem?_eq_some_iff.1 hL.1).1
  refine (parse_any g3 len (n3 - len) (cap3 - len) w4.heap.size ls ly 1 wL ((HB3.out.post HB.out).below hL.2) (by omega) (by omega) (by omega) hL.1 H16.out (.inr ⟨HL.out, by omega, by omega⟩)).mono ?_
  rintro e w6 ⟨rfl, hb6⟩
  have hhd6 : w6.heap[w2.heap.size]? = some (.cells (hd ls ly 1).toArray 28 (0, 0)) := (hb6.block _ (by omega)).trans ((hL.2.block _ hz3).trans hhd3)
  have hW6 : Below w.heap.size w w6 := (hW3.trans (hL.2.mono (by omega))).trans (hb6.mono (by omega))
  have hz6 := hb6.size
  clear hb6 hL hb4 hW3 hhd3 hbox3 hbox4 HB3
  go_wp2_with (first
    | (refine wpList_store_row rfl 28 (.tmp 15) (.tmp 64) rfl w6.heap.size (hd ls ly 1).toArray rfl rfl 28 #[.int .u8 0, .int .u8 0, .int .u8 0, .int .u8 0, .int .u8 0, .int .u8 0, .int .u8 0, .int .u8 0, .int .u8 0, .int .u8 0, .int .u8 0, .int .u8 0, .int .u8 0, .int .u8 0, .int .u8 0, .int .u8 0, .int .u8 0, .int .u64 0] (Deep.blk_alloc_new w6 _) (size28h ls _ _ H16.out) (by have := size28h ls ly 1 H16.out; rw [size28] at this; exact Option.some.inj this) (all_oneCell_toArray (hd_one _ _ _)) ?_; obtain ⟨wF, eF, hF⟩ : ∃ wF, (w6.alloc (.cells #[.int .u8 0, .int .u8 0, .int .u8 0, .int .u8 0, .int .u8 0, .int .u8 0, .int .u8 0, .int .u8 0, .int .u8 0, .int .u8 0, .int .u8 0, .int .u8 0, .int .u8 0, .int .u8 0, .int .u8 0, .int .u8 0, .int .u8 0, .int .u64 0] 28)).setRow w6.heap.size (hd ls ly 1).toArray = wF ∧ (wF.heap[w6.heap.size]? = some (.cells (hd ls ly 1).toArray 28 (0, 0)) ∧ wF.heap[w2.heap.size]? = some (.cells (hd ls ly 1).toArray 28 (0, 0)) ∧ Below w.heap.size w wF) := ⟨_, rfl, setRow_heap _ _ _ _ 28 _ (Deep.blk_alloc_new w6 _), by rw [setRow_other _ _ _ _ (by omega)]; exact al hhd6, below_setRow (hW6.alloc (by omega) _) (by omega) _⟩; rw [eF]; clear eF)
    | (refine wpList_load_guard (by rfl) 28 (.tmp 15) rfl w6.heap.size rfl 28 (hd ls ly 1).toArray (0, 0) _ hF.1 Ybaf.underlying28 rfl (size28h ls _ _ H16.out) ?_)
    | (refine wpList_load_guard (by rfl) 28 (.tmp 11) rfl w2.heap.size rfl 28 (hd ls ly 1).toArray (0, 0) _ hF.2.1 Ybaf.underlying28 rfl (size28h ls _ _ H16.out) ?_))
  go_ret
  exact ⟨rfl, hF.2.2⟩

set_option maxRecDepth 100000 in
set_option maxHeartbeats 1000000 in
theorem rt_C_nil (len cap : Nat) (bs ls : List Int) (sel ly ca : Int) (w : World) (hb : bs.length = len) (h0 : len = 0) (h1 : cap = 0) (hl : len ≤ 1024) (h16 : ls.length = 16) (hs0 : 0 ≤ sel) (hs1 : sel ≤ 255) (hs : sel % 3 + 1 = ly) (hly : ly = 1 ∨ ly = 3) (hc0 : 1 ≤ ca) (hc1 : ca ≤ 18446744073709551615) :
    Calls Ybaf.prog 3 #[.slice none len cap, .agg (bv ls).toArray, .int .u8 sel, .int .u64 ca] w fun e w' => e = .returned (.bool true) ∧ Below w.heap.size w w' := by
  have HB := hid hb
  have H16 := hid h16
  have H0 := hid h0
  have H1 := hid h1
  clear h0 h1
  clear hb h16
  have ha : bits BinOp.and IntKind.u8 ly 1 = 1 := (and1' ly (by omega) (by omega)).trans (by omega)
  have HL := hid hly
  have hl1 : 1 ≤ ly := by omega
  have hl2 : ly ≤ 3 := by omega
  clear hly
  have hc0b : (ca == 0) = false := by simp; omega
  have hmk := make22 len (by omega)
  have heq := eq28 9997 ls ly ca H16.out
  go_enter Ybaf.func3, Ybaf.ntmps3
  go_wp2_with (first
    | (refine wpList_copy_splice rfl (.tmp 32) (.tmp 33) 22 22 rfl 5 Ybaf.underlying22 size5 (some ⟨w.heap.size + 1, 0, none⟩) none len len len cap rfl rfl (w.heap.size + 1) 0 (List.replicate len (.int .u8 0)) 5 (by rw [← made_list]; exact heap_alloc2_new _ _ _) (bv bs) (by rw [bv_length, HB.out]; exact (Nat.min_self len).symm) (fun h => absurd h (by rw [bv_length, HB.out, H0.out]; exact Nat.lt_irrefl 0)) (by rw [bv_length, HB.out]; simp) (bv_one bs) (w.heap.size + 1) _ (Below.refl _ _) (Nat.le_refl _) ?_; intro w2 hg2 hb2; have hbox2 : w2.heap[w.heap.size]? = some (.cells (bv ls).toArray 23 (0, 0)) := (hb2.block w.heap.size (by omega)).trans (al (Deep.blk_alloc_new w _)); have hrow2 : Row w2 (w.heap.size + 1) len len bs := Row.full (by rw [← splice_full (cur := List.replicate len (.int .u8 0)) (cs := bv bs) (by rw [bv_length, HB.out]; simp)]; exact hg2.out) HB.out (by unfold maxLen; omega); have hW2 : Below w.heap.size w w2 := (Below.trans (((Below.refl _ w).alloc (Nat.le_refl _) _).alloc (by simp) _) (hb2.mono (by omega))); have hz2 := hrow2.lt; clear hg2 hb2)
    | (refine wpList_load_row rfl 23 (.tmp 5) rfl w.heap.size rfl 23 (bv ls).toArray (0, 0) _ hbox2 Ybaf.underlying23 rfl (by rw [size23]; simp [bv_length, H16.out]) ?_)
    | (refine wpList_build3 rfl 28 (.tmp 35) (.tmp 36) (.tmp 37) rfl (.agg (bv ls).toArray) (.int .u8 ly) (.int .u64 ca) rfl rfl rfl _ (build28c ls ly ca H16.out _) ?_)
    | (refine wpList_store_row rfl 28 (.tmp 11) (.tmp 38) rfl w2.heap.size (hd ls ly ca).toArray rfl rfl 28 #[.int .u8 0, .int .u8 0, .int .u8 0, .int .u8 0, .int .u8 0, .int .u8 0, .int .u8 0, .int .u8 0, .int .u8 0, .int .u8 0, .int .u8 0, .int .u8 0, .int .u8 0, .int .u8 0, .int .u8 0, .int .u8 0, .int .u8 0, .int .u64 0] (Deep.blk_alloc_new w2 _) (size28h ls _ _ H16.out) (by have := size28h ls ly ca H16.out; rw [size28] at this; exact Option.some.inj this) (all_oneCell_toArray (hd_one _ _ _)) ?_; obtain ⟨wH, eH, hH⟩ : ∃ wH, (w2.alloc (.cells #[.int .u8 0, .int .u8 0, .int .u8 0, .int .u8 0, .int .u8 0, .int .u8 0, .int .u8 0, .int .u8 0, .int .u8 0, .int .u8 0, .int .u8 0, .int .u8 0, .int .u8 0, .int .u8 0, .int .u8 0, .int .u8 0, .int .u8 0, .int .u64 0] 28)).setRow w2.heap.size (hd ls ly ca).toArray = wH ∧ (wH.heap[w2.heap.size]? = some (.cells (hd ls ly ca).toArray 28 (0, 0)) ∧ Below w2.heap.size w2 wH) := ⟨_, rfl, setRow_heap _ _ _ _ 28 _ (Deep.blk_alloc_new w2 _), below_setRow ((Below.refl _ w2).alloc (Nat.le_refl _) _) (Nat.le_refl _) _⟩; rw [eH]; clear eH)
    | (refine wpList_load_row rfl 28 (.tmp 11) rfl w2.heap.size rfl 28 (hd ls ly ca).toArray (0, 0) _ hH.1 Ybaf.underlying28 rfl (size28h ls _ _ H16.out) ?_))
  refine (header_any (w.heap.size + 1) len len bs ls ly ca wH (hrow2.of_block (hH.2.block _ hz2)) (by omega) H16.out (by omega) (by omega) (by omega) hc1).mono ?_
  rintro e w3 ⟨g3, n3, cap3, rfl, hrow3, hgr3⟩
  have hzH := hH.2.size
  have hW3 : Below w.heap.size w w3 := (hW2.trans (hH.2.mono (by omega))).trans (hgr3.below (by omega) (by omega))
  have hbox3 := gr hgr3 ((hH.2.block _ (by omega)).trans hbox2) (by omega)
  have hhd3 := gr hgr3 hH.1 (by omega)
  have hn3 := headBytes_len bs ls ly ca H16.out
  rw [hrow3.len, HB.out] at hn3
  have hc3 : n3 ≤ cap3 := by obtain ⟨_, _, hq, _⟩ := hrow3.block; exact hq
  have f1 : (len : Int) ≤ (n3 : Int) := by omega
  have f2 : (len : Int) ≤ (cap3 : Int) := by omega
  have f3 : (n3 : Int) ≤ (cap3 : Int) := by omega
  have f4 : ¬ cap3 = len := by omega
  have hz3 : w2.heap.size < w3.heap.size := (Array.getElem?_eq_some_iff.1 hhd3).1
  have HB3 := hid hrow3.bytes
  rw [headBytes_app] at HB3
  have hg3 := hrow3.lt
  clear hgr3 hH hbox2 hrow2 hW2 hrow3 hzH
  go_wp2_with (first
    | (go_at_call 5; refine (eq_any (some ⟨g3, 0, none⟩) none len cap3 cap bs w3 (HB3.out.pre HB.out) ⟨HB.out, fun j y hy => absurd (List.getElem?_eq_some_iff.1 hy).1 (by rw [HB.out, H0.out]; exact Nat.not_lt_zero _)⟩ (by omega)).mono ?_; rintro e w4 ⟨q, rfl, hw4⟩; have hb4 : Below w3.heap.size w3 w4 := (by rw [hw4]; exact below_drewN (Below.refl _ w3) q); have hz4 := hb4.size; have hbox4 : w4.heap[w.heap.size]? = some (.cells (bv ls).toArray 23 (0, 0)) := (hb4.block _ (by omega)).trans hbox3; clear hw4)
    | (refine wpList_load_row rfl 23 (.tmp 5) rfl w.heap.size rfl 23 (bv ls).toArray (0, 0) _ hbox4 Ybaf.underlying23 rfl (by rw [size23]; simp [bv_length, H16.out]) ?_)
    | (refine wpList_store_row rfl 26 (.tmp 14) (.tmp 60) rfl w4.heap.size (bv ls).toArray rfl rfl 26 #[.int .u8 0, .int .u8 0, .int .u8 0, .int .u8 0, .int .u8 0, .int .u8 0, .int .u8 0, .int .u8 0, .int .u8 0, .int .u8 0, .int .u8 0, .int .u8 0, .int .u8 0, .int .u8 0, .int .u8 0, .int .u8 0] (Deep.blk_alloc_new w4 _) (by rw [size26, List.size_toArray, bv_length, H16.out]) (by simp [bv_length, H16.out]) (all_oneCell_toArray (bv_one ls)) ?_; obtain ⟨wL, eL, hL⟩ : ∃ wL, (w4.alloc (.cells #[.int .u8 0, .int .u8 0, .int .u8 0, .int .u8 0, .int .u8 0, .int .u8 0, .int .u8 0, .int .u8 0, .int .u8 0, .int .u8 0, .int .u8 0, .int .u8 0, .int .u8 0, .int .u8 0, .int .u8 0, .int .u8 0] 26)).setRow w4.heap.size (bv ls).toArray = wL ∧ (wL.heap[w4.heap.size]? = some (.cells (bv ls).toArray 26 (0, 0)) ∧ Below w3.heap.size w3 wL) := ⟨_, rfl, setRow_heap _ _ _ _ 26 _ (Deep.blk_alloc_new w4 _), below_setRow (hb4.alloc (by omega) _) (by omega) _⟩; rw [eL]; clear eL))
  have hzL := hL.2.size
  have hLl : w4.heap.size < wL.heap.size := (Array.getElem?_eq_some_iff.1 hL.1).1
  refine (parse_any g3 len (n3 - len) (cap3 - len) w4.heap.size ls ly ca wL ((HB3.out.post HB.out).below hL.2) (by omega) (by omega) (by omega) hL.1 H16.out (.inr ⟨HL.out, hc0, hc1⟩)).mono ?_
  rintro e w6 ⟨rfl, hb6⟩
  have hhd6 : w6.heap[w2.heap.size]? = some (.cells (hd ls ly ca).toArray 28 (0, 0)) := (hb6.block _ (by omega)).trans ((hL.2.block _ hz3).trans hhd3)
  have hW6 : Below w.heap.size w w6 := (hW3.trans (hL.2.mono (by omega))).trans (hb6.mono (by omega))
  have hz6 := hb6.size
  clear hb6 hL hb4 hW3 hhd3 hbox3 hbox4 HB3
  go_wp2_with (first
    | (refine wpList_store_row rfl 28 (.tmp 15) (.tmp 64) rfl w6.heap.size (hd ls ly ca).toArray rfl rfl 28 #[.int .u8 0, .int .u8 0, .int .u8 0, .int .u8 0, .int .u8 0, .int .u8 0, .int .u8 0, .int .u8 0, .int .u8 0, .int .u8 0, .int .u8 0, .int .u8 0, .int .u8 0, .int .u8 0, .int .u8 0, .int .u8 0, .int .u8 0, .int .u64 0] (Deep.blk_alloc_new w6 _) (size28h ls _ _ H16.out) (by have := size28h ls ly ca H16.out; rw [size28] at this; exact Option.some.inj this) (all_oneCell_toArray (hd_one _ _ _)) ?_; obtain ⟨wF, eF, hF⟩ : ∃ wF, (w6.alloc (.cells #[.int .u8 0, .int .u8 0, .int .u8 0, .int .u8 0, .int .u8 0, .int .u8 0, .int .u8 0, .int .u8 0, .int .u8 0, .int .u8 0, .int .u8 0, .int .u8 0, .int .u8 0, .int .u8 0, .int .u8 0, .int .u8 0, .int .u8 0, .int .u64 0] 28)).setRow w6.heap.size (hd ls ly ca).toArray = wF ∧ (wF.heap[w6.heap.size]? = some (.cells (hd ls ly ca).toArray 28 (0, 0)) ∧ wF.heap[w2.heap.size]? = some (.cells (hd ls ly ca).toArray 28 (0, 0)) ∧ Below w.heap.size w wF) := ⟨_, rfl, setRow_heap _ _ _ _ 28 _ (Deep.blk_alloc_new w6 _), by rw [setRow_other _ _ _ _ (by omega)]; exact al hhd6, below_setRow (hW6.alloc (by omega) _) (by omega) _⟩; rw [eF]; clear eF)
    | (refine wpList_load_guard (by rfl) 28 (.tmp 15) rfl w6.heap.size rfl 28 (hd ls ly ca).toArray (0, 0) _ hF.1 Ybaf.underlying28 rfl (size28h ls _ _ H16.out) ?_)
    | (refine wpList_load_guard (by rfl) 28 (.tmp 11) rfl w2.heap.size rfl 28 (hd ls ly ca).toArray (0, 0) _ hF.2.1 Ybaf.underlying28 rfl (size28h ls _ _ H16.out) ?_))
  go_ret
  exact ⟨rfl, hF.2.2⟩

set_option maxHeartbeats 400000 in
theorem rt_long (x : Option Addr) (len cap : Nat) (ls : List Int) (sel ca : Int) (w : World) (hl : 1024 < len) :
    Calls Ybaf.prog 3 #[.slice x len cap, .agg (bv ls).toArray, .int .u8 sel, .int .u64 ca] w fun e w' => e = .returned (.bool true) ∧ Below w.heap.size w w' := by
  have hf : (1024 : Int) < (len : Int) := by omega
  go_enter Ybaf.func3, Ybaf.ntmps3
  go_wp2_with fail
  go_ret
  exact ⟨rfl, (Below.refl _ w).alloc (Nat.le_refl _) _⟩

end Go.Proofs.YbulkbcfcFmt
