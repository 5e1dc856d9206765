/-
  The law wire.LawS2667CBytes, walked over the contracts.
-/
import Derived.Test.YbulkbcfcHead
import Derived.Test.YbulkbcfcEq
namespace Go.Proofs.Ybulkbcfc
open Go.RowKit

theorem size5 : (Yba.prog.info? 5).map (·.size) = some 1 := by kernel_rfl
theorem size57 : (Yba.prog.info? 57).map (·.size) = some 16 := by kernel_rfl

theorem make56 (n : Nat) (hn : n ≤ 2000) (w : World) :
    (Instr.makeSlice 56 (.int .i64 (n : Int)) (.int .i64 (n : Int))).run Yba.prog w = .ok (.slice (some ⟨w.heap.size, 0, none⟩) n n) (w.alloc (.cells (madeCells #[.int .u8 0] n) 5)) := by
  obtain ⟨i, hi, hz0, hz1, hz2⟩ := info_parts info5
  have hr := run_make (P := Yba.prog) w 56 5 i _ Yba.underlying56 hi hz0 .i64 .i64 n n (by omega) (Int.le_refl _) (by rw [hz2]; omega) (by omega)
  rw [hz1] at hr
  simpa [Value.cells] using hr

theorem make56z (n : Nat) (hn : n ≤ 2000) (w : World) :
    (Instr.makeSlice 56 (.int .i64 0) (.int .i64 ((n : Int) + 40))).run Yba.prog w = .ok (.slice (some ⟨w.heap.size, 0, none⟩) 0 (n + 40)) (w.alloc (.cells (madeCells #[.int .u8 0] (n + 40)) 5)) := by
  obtain ⟨i, hi, hz0, hz1, hz2⟩ := info_parts info5
  have hr := run_make (P := Yba.prog) w 56 5 i _ Yba.underlying56 hi hz0 .i64 .i64 0 ((n + 40 : Nat) : Int) (by omega) (by omega) (by rw [hz2]; omega) (by omega)
  have e : ((n : Int) + 40).toNat = n + 40 := by omega
  rw [hz1] at hr
  simpa [Value.cells, e] using hr

theorem made_list (n : Nat) : madeCells #[Value.int .u8 0] n = (List.replicate n (Value.int .u8 0)).toArray := by
  apply Array.ext'
  rw [toList_madeCells_one]

theorem splice_full {cur cs : List Value} (h : cs.length = cur.length) : splice cur 0 cs = cs := by
  simp [splice, h]

theorem block_lt {w : World} {x : Addr} {v : Value} (h : w.cell? x = some v) : x.block < w.heap.size := by
  unfold World.cell? at h
  by_cases hb : x.block < w.heap.size
  · exact hb
  · rw [Array.getElem?_eq_none (by omega)] at h
    cases h

/-- The bytes of a slice that came in are there as long as what was there is. -/
theorem cells_kept {w w' : World} {x : Addr} {xs : List Int} (h : ∀ j y, xs[j]? = some y → w.cell? (x.add j) = some (.int .u8 y)) (hb : Below w.heap.size w w') : ∀ j y, xs[j]? = some y → w'.cell? (x.add j) = some (.int .u8 y) :=
  fun j y hy => (hb.cell (p := x.add j) (block_lt (h j y hy))).trans (h j y hy)

theorem list16 {ls : List Int} (h : ls.length = 16) : ∃ a0 a1 a2 a3 a4 a5 a6 a7 a8 a9 a10 a11 a12 a13 a14 a15, ls = [a0, a1, a2, a3, a4, a5, a6, a7, a8, a9, a10, a11, a12, a13, a14, a15] := by
  match ls, h with
  | [a0, a1, a2, a3, a4, a5, a6, a7, a8, a9, a10, a11, a12, a13, a14, a15], _ => exact ⟨a0, a1, a2, a3, a4, a5, a6, a7, a8, a9, a10, a11, a12, a13, a14, a15, rfl⟩

theorem build63 (ls : List Int) (ly ca : Int) (h16 : ls.length = 16) (w : World) :
    (Instr.build 63 #[(0, .agg (bv ls).toArray), (1, .int .u8 ly), (2, .int .u64 ca)]).run Yba.prog w = .ok (.agg (hd ls ly ca).toArray) w := by
  obtain ⟨a0, a1, a2, a3, a4, a5, a6, a7, a8, a9, a10, a11, a12, a13, a14, a15, rfl⟩ := list16 h16
  kernel_rfl

theorem wpList_build3 {P : Program} {w : World} {ops : Array Oper} {rest : List Oper} {o : Oper} {a : Act} {Q : Exit → Act → World → Prop} (hgd : o.guard = none) (t : TypeId) (x0 x1 x2 : Operand) (ho : o.op = .build t #[(0, x0), (1, x1), (2, x2)])
    (v0 v1 v2 : Value) (h0 : a.eval x0 = v0) (h1 : a.eval x1 = v1) (h2 : a.eval x2 = v2) (v : Value) (hr : (Instr.build t #[(0, v0), (1, v1), (2, v2)]).run P w = .ok v w) (h : wpList P ops Q rest (a.put o.dst v) w) : wpList P ops Q (o :: rest) a w := by
  refine wpList_plain hgd fun K hK => ?_
  unfold Oper.wp execOp
  simp only [ho, List.map_toArray, List.map_cons, List.map_nil, h0, h1, h2, hr, Sem.run_bind, Result.andThen_ok, Sem.run_pure]
  exact hK _ _ h

set_option maxHeartbeats 400000 in
set_option maxRecDepth 100000 in
theorem c_even (x : Addr) (len cap : Nat) (bs ls : List Int) (ly ca : Int) (w : World) (hb : bs.length = len ∧ ∀ j y, bs[j]? = some y → w.cell? (x.add j) = some (.int .u8 y)) (hl : len ≤ 1024) (h16 : ls.length = 16) (hly : 0 ≤ ly) (hly2 : ly ≤ 255) (hca : 0 ≤ ca) (hca2 : ca ≤ 18446744073709551615) (hp : ¬ ly % 2 = 1) :
    Calls Yba.prog 8 #[.slice (some x) len cap, .agg (bv ls).toArray, .int .u8 ly, .int .u64 ca] w fun e w' => e = .returned (.bool true) ∧ Below w.heap.size w w' := by
  have HB := hid hb
  have H16 := hid h16
  have HP := hid hp
  have ha : bits BinOp.and IntKind.u8 ly 1 = 0 := (and1' ly hly hly2).trans (by omega)
  clear hb h16 hp
  have hmk := make56 len (by omega)
  have hmz := make56z len (by omega)
  go_enter Yba.func8, Yba.ntmps8
  have HCP : Hid (∀ j v, (bv bs)[j]? = some v → ((w.alloc (.cells (bv ls).toArray 57)).alloc (.cells (madeCells #[.int .u8 0] len) 5)).cell? (x.add j) = some v) := by
    intro j v hv
    obtain ⟨y, hy, rfl⟩ := bv_get hv
    exact cells_kept HB.out.2 (((Below.refl _ w).alloc (Nat.le_refl _) _).alloc (by simp) _) j y hy
  go_wp2_with (first
    | (refine wpList_copy_splice rfl (.tmp 19) (.tmp 20) 56 56 rfl 5 Yba.underlying56 size5 (some ⟨w.heap.size + 1, 0, none⟩) (some x) len len len cap rfl rfl (w.heap.size + 1) 0 (List.replicate len (.int .u8 0)) 5 (by rw [← made_list]; exact heap_alloc2_new _ _ _) (bv bs) (by rw [bv_length, HB.out.1]; exact (Nat.min_self len).symm) (fun _ => ⟨rfl, _, rfl, HCP.out⟩) (by rw [bv_length, HB.out.1]; simp) (bv_one bs) (w.heap.size + 1) _ (Below.refl _ _) (Nat.le_refl _) ?_; intro w2 hg2 hb2; have hbox2 : w2.heap[w.heap.size]? = some (.cells (bv ls).toArray 57 (0, 0)) := (hb2.block w.heap.size (by omega)).trans (al (Deep.blk_alloc_new w _)))
    | (refine wpList_load_row rfl 57 (.tmp 5) rfl w.heap.size rfl 57 (bv ls).toArray (0, 0) _ hbox2 Yba.underlying57 rfl (by rw [size57]; simp [bv_length, H16.out]) ?_)
    | (refine wpList_build3 rfl 63 (.tmp 23) (.tmp 24) (.tmp 25) rfl (.agg (bv ls).toArray) (.int .u8 ly) (.int .u64 ca) rfl rfl rfl _ (build63 ls ly ca H16.out _) ?_)
    | (go_at_call 14; refine (header_any (w.heap.size + 1) len len bs ls ly ca w2 (Row.full (by rw [← splice_full (cur := List.replicate len (.int .u8 0)) (cs := bv bs) (by rw [bv_length, HB.out.1]; simp)]; exact hg2.out) HB.out.1 (by unfold maxLen; omega)) (by omega) H16.out hly hly2 hca hca2).mono ?_; rintro e w3 ⟨g3, n3, cap3, rfl, hrow3, hgr3⟩; have hW3 : Below w.heap.size w w3 := (Below.trans (((Below.refl _ w).alloc (Nat.le_refl _) _).alloc (by simp) _) (hb2.mono (by omega))).trans (hgr3.below (by omega) (by have := hb2.size; simp at this; omega)); have hx3 := gr hgr3 hbox2 (by omega); have hg3 := hrow3.lt; have hz3 : w.heap.size < w3.heap.size := (Array.getElem?_eq_some_iff.1 hx3).1; clear hg2 hb2 hbox2 hgr3 hmk)
    | (at_builtin; refine wpList_app _ rfl (.tmp 32) (.tmp 33) rfl Yba.underlying56 info5 w3.heap.size 0 (len + 40) [] rfl (Row.made w3 _ _ (size_madeCells _ _) (by unfold maxLen; omega)) x len cap bs rfl HB.out.1 (cells_kept HB.out.2 (hW3.alloc (by omega) _)) (by omega) ?_; intro g4 n4 cap4 w4 hrow4 hG4; have e4 := hrow4.len; simp only [List.length_append, List.length_nil, HB.out.1] at e4)
    | (at_builtin; refine wpList_app _ rfl (.tmp 35) (.tmp 36) rfl Yba.underlying56 info5 g4 n4 cap4 _ rfl (hrow4.alloc _) ⟨w4.heap.size, 0, none⟩ 5 5 [79, 78, 67, 87, 16] rfl rfl (box_cells (t := 5) (Deep.blk_alloc_new _ _)) (by omega) ?_; intro g5 n5 cap5 w5 hrow5 hgr5; have e5 := hrow5.len; simp only [List.length_append, List.length_nil, List.length_cons, HB.out.1] at e5; have hG5 := (hG4.alloc _).trans hgr5; clear hgr5 hG4 hrow4)
    | (at_builtin; refine wpList_app _ rfl (.tmp 38) (.tmp 39) rfl Yba.underlying56 info5 g5 n5 cap5 _ rfl hrow5 ⟨w.heap.size, 0, none⟩ 16 16 ls rfl H16.out (box_cells (t := 57) (gr hG5 (al hx3) (by omega))) (by omega) ?_; intro g6 n6 cap6 w6 hrow6 hgr6; have e6 := hrow6.len; simp only [List.length_append, List.length_nil, List.length_cons, HB.out.1, H16.out] at e6; have hG6 := hG5.trans hgr6; clear hgr6 hG5 hrow5)
    | (at_builtin; refine wpList_app _ rfl (.tmp 41) (.tmp 43) rfl Yba.underlying56 info5 g6 n6 cap6 _ rfl (hrow6.alloc _) ⟨w6.heap.size, 0, none⟩ 1 1 [ly] rfl rfl (one_cell (Deep.blk_alloc_new _ _)) (by omega) ?_; intro g7 n7 cap7 w7 hrow7 hgr7; have e7 := hrow7.len; simp only [List.length_append, List.length_nil, List.length_cons, HB.out.1, H16.out] at e7; have hG7 := (hG6.alloc _).trans hgr7; clear hgr7 hG6 hrow6))
  have hR3 : Row w7 g3 n3 cap3 (headBytes bs ls ly ca) := (hrow3.alloc _).of_block (hG7.keep (by simp; omega) (by omega))
  have hR7 : Row w7 g7 n7 cap7 (headBytes bs ls ly ca) := by
    have e : headBytes bs ls ly ca = [] ++ bs ++ [79, 78, 67, 87, 16] ++ ls ++ [ly] := by unfold headBytes; rw [if_neg HP.out]; simp
    rw [e]
    exact hrow7
  obtain rfl : n3 = n7 := hR3.len.symm.trans hR7.len
  refine (eq_any _ _ n3 cap3 cap7 (headBytes bs ls ly ca) w7 hR3.bytes hR7.bytes (by omega)).mono ?_
  rintro e w8 ⟨q, rfl, rfl⟩
  have hF := hid (below_drewN (hW3.trans ((((Grew.refl w3 w3.heap.size).alloc _).trans hG7).below (by omega) (by omega))) q)
  clear hR3 hR7 hrow3 hrow7 hG7 hW3 hx3
  go_wp2
  go_ret
  exact ⟨rfl, hF.out⟩

set_option maxHeartbeats 400000 in
set_option maxRecDepth 100000 in
theorem c_odd (x : Addr) (len cap : Nat) (bs ls : List Int) (ly ca : Int) (w : World) (hb : bs.length = len ∧ ∀ j y, bs[j]? = some y → w.cell? (x.add j) = some (.int .u8 y)) (hl : len ≤ 1024) (h16 : ls.length = 16) (hly : 0 ≤ ly) (hly2 : ly ≤ 255) (hca : 0 ≤ ca) (hca2 : ca ≤ 18446744073709551615) (hp : ly % 2 = 1) :
    Calls Yba.prog 8 #[.slice (some x) len cap, .agg (bv ls).toArray, .int .u8 ly, .int .u64 ca] w fun e w' => e = .returned (.bool true) ∧ Below w.heap.size w w' := by
  have HB := hid hb
  have H16 := hid h16
  have HP := hid hp
  have ha : bits BinOp.and IntKind.u8 ly 1 = 1 := (and1' ly hly hly2).trans hp
  clear hb h16 hp
  have hmk := make56 len (by omega)
  have hmz := make56z len (by omega)
  go_enter Yba.func8, Yba.ntmps8
  have HCP : Hid (∀ j v, (bv bs)[j]? = some v → ((w.alloc (.cells (bv ls).toArray 57)).alloc (.cells (madeCells #[.int .u8 0] len) 5)).cell? (x.add j) = some v) := by
    intro j v hv
    obtain ⟨y, hy, rfl⟩ := bv_get hv
    exact cells_kept HB.out.2 (((Below.refl _ w).alloc (Nat.le_refl _) _).alloc (by simp) _) j y hy
  go_wp2_with (first
    | (refine wpList_copy_splice rfl (.tmp 19) (.tmp 20) 56 56 rfl 5 Yba.underlying56 size5 (some ⟨w.heap.size + 1, 0, none⟩) (some x) len len len cap rfl rfl (w.heap.size + 1) 0 (List.replicate len (.int .u8 0)) 5 (by rw [← made_list]; exact heap_alloc2_new _ _ _) (bv bs) (by rw [bv_length, HB.out.1]; exact (Nat.min_self len).symm) (fun _ => ⟨rfl, _, rfl, HCP.out⟩) (by rw [bv_length, HB.out.1]; simp) (bv_one bs) (w.heap.size + 1) _ (Below.refl _ _) (Nat.le_refl _) ?_; intro w2 hg2 hb2; have hbox2 : w2.heap[w.heap.size]? = some (.cells (bv ls).toArray 57 (0, 0)) := (hb2.block w.heap.size (by omega)).trans (al (Deep.blk_alloc_new w _)))
    | (refine wpList_load_row rfl 57 (.tmp 5) rfl w.heap.size rfl 57 (bv ls).toArray (0, 0) _ hbox2 Yba.underlying57 rfl (by rw [size57]; simp [bv_length, H16.out]) ?_)
    | (refine wpList_build3 rfl 63 (.tmp 23) (.tmp 24) (.tmp 25) rfl (.agg (bv ls).toArray) (.int .u8 ly) (.int .u64 ca) rfl rfl rfl _ (build63 ls ly ca H16.out _) ?_)
    | (go_at_call 14; refine (header_any (w.heap.size + 1) len len bs ls ly ca w2 (Row.full (by rw [← splice_full (cur := List.replicate len (.int .u8 0)) (cs := bv bs) (by rw [bv_length, HB.out.1]; simp)]; exact hg2.out) HB.out.1 (by unfold maxLen; omega)) (by omega) H16.out hly hly2 hca hca2).mono ?_; rintro e w3 ⟨g3, n3, cap3, rfl, hrow3, hgr3⟩; have hW3 : Below w.heap.size w w3 := (Below.trans (((Below.refl _ w).alloc (Nat.le_refl _) _).alloc (by simp) _) (hb2.mono (by omega))).trans (hgr3.below (by omega) (by have := hb2.size; simp at this; omega)); have hx3 := gr hgr3 hbox2 (by omega); have hg3 := hrow3.lt; have hz3 : w.heap.size < w3.heap.size := (Array.getElem?_eq_some_iff.1 hx3).1; clear hg2 hb2 hbox2 hgr3 hmk)
    | (at_builtin; refine wpList_app _ rfl (.tmp 32) (.tmp 33) rfl Yba.underlying56 info5 w3.heap.size 0 (len + 40) [] rfl (Row.made w3 _ _ (size_madeCells _ _) (by unfold maxLen; omega)) x len cap bs rfl HB.out.1 (cells_kept HB.out.2 (hW3.alloc (by omega) _)) (by omega) ?_; intro g4 n4 cap4 w4 hrow4 hG4; have e4 := hrow4.len; simp only [List.length_append, List.length_nil, HB.out.1] at e4)
    | (at_builtin; refine wpList_app _ rfl (.tmp 35) (.tmp 36) rfl Yba.underlying56 info5 g4 n4 cap4 _ rfl (hrow4.alloc _) ⟨w4.heap.size, 0, none⟩ 5 5 [79, 78, 67, 87, 16] rfl rfl (box_cells (t := 5) (Deep.blk_alloc_new _ _)) (by omega) ?_; intro g5 n5 cap5 w5 hrow5 hgr5; have e5 := hrow5.len; simp only [List.length_append, List.length_nil, List.length_cons, HB.out.1] at e5; have hG5 := (hG4.alloc _).trans hgr5; clear hgr5 hG4 hrow4)
    | (at_builtin; refine wpList_app _ rfl (.tmp 38) (.tmp 39) rfl Yba.underlying56 info5 g5 n5 cap5 _ rfl hrow5 ⟨w.heap.size, 0, none⟩ 16 16 ls rfl H16.out (box_cells (t := 57) (gr hG5 (al hx3) (by omega))) (by omega) ?_; intro g6 n6 cap6 w6 hrow6 hgr6; have e6 := hrow6.len; simp only [List.length_append, List.length_nil, List.length_cons, HB.out.1, H16.out] at e6; have hG6 := hG5.trans hgr6; clear hgr6 hG5 hrow5)
    | (at_builtin; refine wpList_app _ rfl (.tmp 41) (.tmp 43) rfl Yba.underlying56 info5 g6 n6 cap6 _ rfl (hrow6.alloc _) ⟨w6.heap.size, 0, none⟩ 1 1 [ly] rfl rfl (one_cell (Deep.blk_alloc_new _ _)) (by omega) ?_; intro g7 n7 cap7 w7 hrow7 hgr7; have e7 := hrow7.len; simp only [List.length_append, List.length_nil, List.length_cons, HB.out.1, H16.out] at e7; have hG7 := (hG6.alloc _).trans hgr7; clear hgr7 hG6 hrow6))
  have HR3 := hid (hrow3.alloc (.cells (madeCells #[.int .u8 0] (len + 40)) 5))
  have HW3 := hid hW3
  have HG7 := hid hG7
  have HR7 := hid hrow7
  clear hrow3 hW3 hG7 hrow7 hx3
  go_loopw [11, 12] (fun b y wr => ∃ (g1 n1 cap1 : Nat) (ys : List Int) (z : Int) (k : Nat), b = .slice (some ⟨g1, 0, none⟩) n1 cap1 ∧ y = .int .u64 z ∧ 0 ≤ z ∧ z ≤ 18446744073709551615 ∧ Hid (z.toNat < 128 ^ (k + 1)) ∧ k ≤ 9 ∧ n1 + k ≤ 3000 ∧ Hid (ys ++ uvF k z.toNat = headBytes bs ls ly ca) ∧ Hid (Row wr g1 n1 cap1 ys) ∧ Hid (Grew (w3.alloc (.cells (madeCells #[.int .u8 0] (len + 40)) 5)) w3.heap.size wr g1)) (fun _ y _ => (intOf y).toNat)
  case atStart =>
    refine ⟨g7, n7, cap7, _, ca, 9, rfl, rfl, hca, hca2, hid (by omega), by omega, by omega, ?_, HR7, HG7⟩
    show _ = _
    unfold headBytes
    rw [if_pos HP.out]
    simp [uv]
  case round =>
    obtain ⟨g1, n1, cap1, ys, z, k, rfl, rfl, hz0, hz, hzn, hk, hlen, heq, hrow, hgr⟩ := hrel
    by_cases hlt : z < 128
    · go_wp2_with (first | (at_builtin; refine wpList_app _ rfl (.tmp 59) (.tmp 62) rfl Yba.underlying56 info5 g1 n1 cap1 ys rfl (hrow.out.alloc _) ⟨wr.heap.size, 0, none⟩ 1 1 [z] rfl rfl (one_cell (Deep.blk_alloc_new _ _)) (by omega) ?_; intro g2 n2 cap2 w8 hrow2 hgr2))
      have hGF := (hgr.out.alloc _).trans hgr2
      have hR3 : Row w8 g3 n3 cap3 (headBytes bs ls ly ca) := HR3.out.of_block (hGF.keep (by simp; omega) (by omega))
      have hR8 : Row w8 g2 n2 cap2 (headBytes bs ls ly ca) := by
        rw [← heq.out, uvF_small (by omega), Int.toNat_of_nonneg hz0]
        exact hrow2
      have eb := hrow.out.len
      have ec := hrow2.len
      simp only [List.length_append, List.length_cons, List.length_nil] at ec
      obtain rfl : n3 = n2 := hR3.len.symm.trans hR8.len
      refine (eq_any _ _ n3 cap3 cap2 (headBytes bs ls ly ca) w8 hR3.bytes hR8.bytes (by omega)).mono ?_
      rintro e w9 ⟨q, rfl, rfl⟩
      have hF := hid (below_drewN (HW3.out.trans ((((Grew.refl w3 w3.heap.size).alloc _).trans hGF).below (by omega) (by omega))) q)
      clear hR3 hR8 hrow2 hgr2 hGF
      go_wp2
      go_ret
      exact ⟨rfl, hF.out⟩
    · have ho := or128' z hz0
      go_wp2_with (first | (at_builtin; refine wpList_app _ rfl (.tmp 51) (.tmp 55) rfl Yba.underlying56 info5 g1 n1 cap1 ys rfl (hrow.out.alloc _) ⟨wr.heap.size, 0, none⟩ 1 1 [_] rfl rfl (one_cell (Deep.blk_alloc_new _ _)) (by omega) ?_; intro g2 n2 cap2 w8 hrow2 hgr2))
      obtain ⟨m, e, hm, hq⟩ := uv_round (by omega) hzn.out heq.out
      have ec := hrow2.len
      have eb := hrow.out.len
      go_roundw
      case rel => exact ⟨g2, n2, cap2, _, z / 128, m, rfl, rfl, by omega, by omega, hm, by omega, by simp at ec; omega, hq, hrow2, (hgr.out.alloc _).trans hgr2⟩
      case measure => simp [intOf]; omega
end Go.Proofs.Ybulkbcfc
