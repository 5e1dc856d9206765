/-
  The law wire.LawS2667CBytes at a nil slice.
-/
import Derived.Test.YbulkbcfcC
namespace Go.Proofs.Ybulkbcfc
open Go.RowKit

set_option maxHeartbeats 400000 in
set_option maxRecDepth 100000 in
theorem c_nil_even (len cap : Nat) (bs ls : List Int) (ly ca : Int) (w : World) (hb : bs.length = len) (h0 : len = 0) (h1 : cap = 0) (hl : len ≤ 1024) (h16 : ls.length = 16) (hly : 0 ≤ ly) (hly2 : ly ≤ 255) (hca : 0 ≤ ca) (hca2 : ca ≤ 18446744073709551615) (hp : ¬ ly % 2 = 1) :
    Calls Yba.prog 8 #[.slice none len cap, .agg (bv ls).toArray, .int .u8 ly, .int .u64 ca] w fun e w' => e = .returned (.bool true) ∧ Below w.heap.size w w' := by
  have HB := hid hb
  have H16 := hid h16
  have HP := hid hp
  have ha : bits BinOp.and IntKind.u8 ly 1 = 0 := (and1' ly hly hly2).trans (by omega)
  have H0 := hid h0
  have H1 := hid h1
  clear hb h16 hp h0 h1
  have hmk := make56 len (by omega)
  have hmz := make56z len (by omega)
  go_enter Yba.func8, Yba.ntmps8
  go_wp2_with (first
    | (refine wpList_copy_splice rfl (.tmp 19) (.tmp 20) 56 56 rfl 5 Yba.underlying56 size5 (some ⟨w.heap.size + 1, 0, none⟩) none len len len cap rfl rfl (w.heap.size + 1) 0 (List.replicate len (.int .u8 0)) 5 (by rw [← made_list]; exact heap_alloc2_new _ _ _) (bv bs) (by rw [bv_length, HB.out]; exact (Nat.min_self len).symm) (fun h => absurd h (by rw [bv_length, HB.out, H0.out]; exact Nat.lt_irrefl 0)) (by rw [bv_length, HB.out]; simp) (bv_one bs) (w.heap.size + 1) _ (Below.refl _ _) (Nat.le_refl _) ?_; intro w2 hg2 hb2; have hbox2 : w2.heap[w.heap.size]? = some (.cells (bv ls).toArray 57 (0, 0)) := (hb2.block w.heap.size (by omega)).trans (al (Deep.blk_alloc_new w _)))
    | (refine wpList_load_row rfl 57 (.tmp 5) rfl w.heap.size rfl 57 (bv ls).toArray (0, 0) _ hbox2 Yba.underlying57 rfl (by rw [size57]; simp [bv_length, H16.out]) ?_)
    | (refine wpList_build3 rfl 63 (.tmp 23) (.tmp 24) (.tmp 25) rfl (.agg (bv ls).toArray) (.int .u8 ly) (.int .u64 ca) rfl rfl rfl _ (build63 ls ly ca H16.out _) ?_)
    | (go_at_call 14; refine (header_any (w.heap.size + 1) len len bs ls ly ca w2 (Row.full (by rw [← splice_full (cur := List.replicate len (.int .u8 0)) (cs := bv bs) (by rw [bv_length, HB.out]; simp)]; exact hg2.out) HB.out (by unfold maxLen; omega)) (by omega) H16.out hly hly2 hca hca2).mono ?_; rintro e w3 ⟨g3, n3, cap3, rfl, hrow3, hgr3⟩; have hW3 : Below w.heap.size w w3 := (Below.trans (((Below.refl _ w).alloc (Nat.le_refl _) _).alloc (by simp) _) (hb2.mono (by omega))).trans (hgr3.below (by omega) (by have := hb2.size; simp at this; omega)); have hx3 := gr hgr3 hbox2 (by omega); have hg3 := hrow3.lt; have hz3 : w.heap.size < w3.heap.size := (Array.getElem?_eq_some_iff.1 hx3).1; clear hg2 hb2 hbox2 hgr3 hmk)
    | (at_builtin; refine wpList_app_nil _ rfl (.tmp 32) (.tmp 33) rfl Yba.underlying56 info5 w3.heap.size 0 (len + 40) [] rfl (Row.made w3 _ _ (size_madeCells _ _) (by unfold maxLen; omega)) len cap rfl H0.out H1.out ?_)
    | (at_builtin; refine wpList_app _ rfl (.tmp 35) (.tmp 36) rfl Yba.underlying56 info5 w3.heap.size 0 (len + 40) [] rfl ((Row.made w3 _ _ (size_madeCells _ _) (by unfold maxLen; omega)).alloc _) ⟨w3.heap.size + 1, 0, none⟩ 5 5 [79, 78, 67, 87, 16] rfl rfl (box_cells (t := 5) (heap_alloc2_new w3 _ _)) (by omega) ?_; intro g5 n5 cap5 w5 hrow5 hgr5; have e5 := hrow5.len; simp only [List.length_append, List.length_nil, List.length_cons] at e5; have hG5 := ((Grew.refl (w3.alloc (.cells (madeCells #[.int .u8 0] (len + 40)) 5)) w3.heap.size).alloc _).trans hgr5; clear hgr5)
    | (at_builtin; refine wpList_app _ rfl (.tmp 38) (.tmp 39) rfl Yba.underlying56 info5 g5 n5 cap5 _ rfl hrow5 ⟨w.heap.size, 0, none⟩ 16 16 ls rfl H16.out (box_cells (t := 57) (gr hG5 (al hx3) (by omega))) (by omega) ?_; intro g6 n6 cap6 w6 hrow6 hgr6; have e6 := hrow6.len; simp only [List.length_append, List.length_nil, List.length_cons, H16.out] at e6; have hG6 := hG5.trans hgr6; clear hgr6 hG5 hrow5)
    | (at_builtin; refine wpList_app _ rfl (.tmp 41) (.tmp 43) rfl Yba.underlying56 info5 g6 n6 cap6 _ rfl (hrow6.alloc _) ⟨w6.heap.size, 0, none⟩ 1 1 [ly] rfl rfl (one_cell (Deep.blk_alloc_new _ _)) (by omega) ?_; intro g7 n7 cap7 w7 hrow7 hgr7; have e7 := hrow7.len; simp only [List.length_append, List.length_nil, List.length_cons, H16.out] at e7; have hG7 := (hG6.alloc _).trans hgr7; clear hgr7 hG6 hrow6))
  have hR3 : Row w7 g3 n3 cap3 (headBytes bs ls ly ca) := (hrow3.alloc _).of_block (hG7.keep (by simp; omega) (by omega))
  have hR7 : Row w7 g7 n7 cap7 (headBytes bs ls ly ca) := by
    have e : headBytes bs ls ly ca = [] ++ [79, 78, 67, 87, 16] ++ ls ++ [ly] := by unfold headBytes; rw [if_neg HP.out, List.eq_nil_of_length_eq_zero (HB.out.trans H0.out)]; simp
    rw [e]
    exact hrow7
  obtain rfl : n3 = n7 := hR3.len.symm.trans hR7.len
  refine (eq_any _ _ n3 cap3 cap7 (headBytes bs ls ly ca) w7 hR3.bytes hR7.bytes (by omega)).mono ?_
  rintro e w8 ⟨q, rfl, rfl⟩
  have hF := hid (below_drewN (hW3.trans ((((Grew.refl w3 w3.heap.size).alloc _).trans hG7).below (by omega) (by omega))) q)
  clear hR3 hR7 hrow3 hrow7 hG7 hW3 hx3
  go_wp2
  go_ret
  exact ⟨rfl, hF.out⟩

set_option maxHeartbeats 400000 in
set_option maxRecDepth 100000 in
theorem c_nil_odd (len cap : Nat) (bs ls : List Int) (ly ca : Int) (w : World) (hb : bs.length = len) (h0 : len = 0) (h1 : cap = 0) (hl : len ≤ 1024) (h16 : ls.length = 16) (hly : 0 ≤ ly) (hly2 : ly ≤ 255) (hca : 0 ≤ ca) (hca2 : ca ≤ 18446744073709551615) (hp : ly % 2 = 1) :
    Calls Yba.prog 8 #[.slice none len cap, .agg (bv ls).toArray, .int .u8 ly, .int .u64 ca] w fun e w' => e = .returned (.bool true) ∧ Below w.heap.size w w' := by
  have HB := hid hb
  have H16 := hid h16
  have HP := hid hp
  have ha : bits BinOp.and IntKind.u8 ly 1 = 1 := (and1' ly hly hly2).trans hp
  have H0 := hid h0
  have H1 := hid h1
  clear hb h16 hp h0 h1
  have hmk := make56 len (by omega)
  have hmz := make56z len (by omega)
  go_enter Yba.func8, Yba.ntmps8
  go_wp2_with (first
    | (refine wpList_copy_splice rfl (.tmp 19) (.tmp 20) 56 56 rfl 5 Yba.underlying56 size5 (some ⟨w.heap.size + 1, 0, none⟩) none len len len cap rfl rfl (w.heap.size + 1) 0 (List.replicate len (.int .u8 0)) 5 (by rw [← made_list]; exact heap_alloc2_new _ _ _) (bv bs) (by rw [bv_length, HB.out]; exact (Nat.min_self len).symm) (fun h => absurd h (by rw [bv_length, HB.out, H0.out]; exact Nat.lt_irrefl 0)) (by rw [bv_length, HB.out]; simp) (bv_one bs) (w.heap.size + 1) _ (Below.refl _ _) (Nat.le_refl _) ?_; intro w2 hg2 hb2; have hbox2 : w2.heap[w.heap.size]? = some (.cells (bv ls).toArray 57 (0, 0)) := (hb2.block w.heap.size (by omega)).trans (al (Deep.blk_alloc_new w _)))
    | (refine wpList_load_row rfl 57 (.tmp 5) rfl w.heap.size rfl 57 (bv ls).toArray (0, 0) _ hbox2 Yba.underlying57 rfl (by rw [size57]; simp [bv_length, H16.out]) ?_)
    | (refine wpList_build3 rfl 63 (.tmp 23) (.tmp 24) (.tmp 25) rfl (.agg (bv ls).toArray) (.int .u8 ly) (.int .u64 ca) rfl rfl rfl _ (build63 ls ly ca H16.out _) ?_)
    | (go_at_call 14; refine (header_any (w.heap.size + 1) len len bs ls ly ca w2 (Row.full (by rw [← splice_full (cur := List.replicate len (.int .u8 0)) (cs := bv bs) (by rw [bv_length, HB.out]; simp)]; exact hg2.out) HB.out (by unfold maxLen; omega)) (by omega) H16.out hly hly2 hca hca2).mono ?_; rintro e w3 ⟨g3, n3, cap3, rfl, hrow3, hgr3⟩; have hW3 : Below w.heap.size w w3 := (Below.trans (((Below.refl _ w).alloc (Nat.le_refl _) _).alloc (by simp) _) (hb2.mono (by omega))).trans (hgr3.below (by omega) (by have := hb2.size; simp at this; omega)); have hx3 := gr hgr3 hbox2 (by omega); have hg3 := hrow3.lt; have hz3 : w.heap.size < w3.heap.size := (Array.getElem?_eq_some_iff.1 hx3).1; clear hg2 hb2 hbox2 hgr3 hmk)
    | (at_builtin; refine wpList_app_nil _ rfl (.tmp 32) (.tmp 33) rfl Yba.underlying56 info5 w3.heap.size 0 (len + 40) [] rfl (Row.made w3 _ _ (size_madeCells _ _) (by unfold maxLen; omega)) len cap rfl H0.out H1.out ?_)
    | (at_builtin; refine wpList_app _ rfl (.tmp 35) (.tmp 36) rfl Yba.underlying56 info5 w3.heap.size 0 (len + 40) [] rfl ((Row.made w3 _ _ (size_madeCells _ _) (by unfold maxLen; omega)).alloc _) ⟨w3.heap.size + 1, 0, none⟩ 5 5 [79, 78, 67, 87, 16] rfl rfl (box_cells (t := 5) (heap_alloc2_new w3 _ _)) (by omega) ?_; intro g5 n5 cap5 w5 hrow5 hgr5; have e5 := hrow5.len; simp only [List.length_append, List.length_nil, List.length_cons] at e5; have hG5 := ((Grew.refl (w3.alloc (.cells (madeCells #[.int .u8 0] (len + 40)) 5)) w3.heap.size).alloc _).trans hgr5; clear hgr5)
    | (at_builtin; refine wpList_app _ rfl (.tmp 38) (.tmp 39) rfl Yba.underlying56 info5 g5 n5 cap5 _ rfl hrow5 ⟨w.heap.size, 0, none⟩ 16 16 ls rfl H16.out (box_cells (t := 57) (gr hG5 (al hx3) (by omega))) (by omega) ?_; intro g6 n6 cap6 w6 hrow6 hgr6; have e6 := hrow6.len; simp only [List.length_append, List.length_nil, List.length_cons, H16.out] at e6; have hG6 := hG5.trans hgr6; clear hgr6 hG5 hrow5)
    | (at_builtin; refine wpList_app _ rfl (.tmp 41) (.tmp 43) rfl Yba.underlying56 info5 g6 n6 cap6 _ rfl (hrow6.alloc _) ⟨w6.heap.size, 0, none⟩ 1 1 [ly] rfl rfl (one_cell (Deep.blk_alloc_new _ _)) (by omega) ?_; intro g7 n7 cap7 w7 hrow7 hgr7; have e7 := hrow7.len; simp only [List.length_append, List.length_nil, List.length_cons, H16.out] at e7; have hG7 := (hG6.alloc _).trans hgr7; clear hgr7 hG6 hrow6))
  have HR3 := hid (hrow3.alloc (.cells (madeCells #[.int .u8 0] (len + 40)) 5))
  have HW3 := hid hW3
  have HG7 := hid hG7
  have HR7 := hid hrow7
  clear hrow3 hW3 hG7 hrow7 hx3
  go_loopw [11, 12] (fun b y wr => ∃ (g1 n1 cap1 : Nat) (ys : List Int) (z : Int) (k : Nat), b = .slice (some ⟨g1, 0, none⟩) n1 cap1 ∧ y = .int .u64 z ∧ 0 ≤ z ∧ z ≤ 18446744073709551615 ∧ Hid (z.toNat < 128 ^ (k + 1)) ∧ k ≤ 9 ∧ n1 + k ≤ 3000 ∧ Hid (ys ++ uvF k z.toNat = headBytes bs ls ly ca) ∧ Hid (Row wr g1 n1 cap1 ys) ∧ Hid (Grew (w3.alloc (.cells (madeCells #[.int .u8 0] (len + 40)) 5)) w3.heap.size wr g1)) (fun _ y _ => (intOf y).toNat)
  case atStart =>
    refine ⟨g7, n7, cap7, _, ca, 9, rfl, rfl, hca, hca2, hid (by omega), by omega, by omega, ?_, HR7, HG7⟩
    show _ = _
    unfold headBytes
    rw [if_pos HP.out, List.eq_nil_of_length_eq_zero (HB.out.trans H0.out)]
    simp [uv]
  case round =>
    obtain ⟨g1, n1, cap1, ys, z, k, rfl, rfl, hz0, hz, hzn, hk, hlen, heq, hrow, hgr⟩ := hrel
    by_cases hlt : z < 128
    · go_wp2_with (first | (at_builtin; refine wpList_app _ rfl (.tmp 59) (.tmp 62) rfl Yba.underlying56 info5 g1 n1 cap1 ys rfl (hrow.out.alloc _) ⟨wr.heap.size, 0, none⟩ 1 1 [z] rfl rfl (one_cell (Deep.blk_alloc_new _ _)) (by omega) ?_; intro g2 n2 cap2 w8 hrow2 hgr2))
      have hGF := (hgr.out.alloc _).trans hgr2
      have hR3 : Row w8 g3 n3 cap3 (headBytes bs ls ly ca) := HR3.out.of_block (hGF.keep (by simp; omega) (by omega))
      have hR8 : Row w8 g2 n2 cap2 (headBytes bs ls ly ca) := by
        rw [← heq.out, uvF_small (by omega), Int.toNat_of_nonneg hz0]
        exact hrow2
      have eb := hrow.out.len
      have ec := hrow2.len
      simp only [List.length_append, List.length_cons, List.length_nil] at ec
      obtain rfl : n3 = n2 := hR3.len.symm.trans hR8.len
      refine (eq_any _ _ n3 cap3 cap2 (headBytes bs ls ly ca) w8 hR3.bytes hR8.bytes (by omega)).mono ?_
      rintro e w9 ⟨q, rfl, rfl⟩
      have hF := hid (below_drewN (HW3.out.trans ((((Grew.refl w3 w3.heap.size).alloc _).trans hGF).below (by omega) (by omega))) q)
      clear hR3 hR8 hrow2 hgr2 hGF
      go_wp2
      go_ret
      exact ⟨rfl, hF.out⟩
    · have ho := or128' z hz0
      go_wp2_with (first | (at_builtin; refine wpList_app _ rfl (.tmp 51) (.tmp 55) rfl Yba.underlying56 info5 g1 n1 cap1 ys rfl (hrow.out.alloc _) ⟨wr.heap.size, 0, none⟩ 1 1 [_] rfl rfl (one_cell (Deep.blk_alloc_new _ _)) (by omega) ?_; intro g2 n2 cap2 w8 hrow2 hgr2))
      obtain ⟨m, e, hm, hq⟩ := uv_round (by omega) hzn.out heq.out
      have ec := hrow2.len
      have eb := hrow.out.len
      go_roundw
      case rel => exact ⟨g2, n2, cap2, _, z / 128, m, rfl, rfl, by omega, by omega, hm, by omega, by simp at ec; omega, hq, hrow2, (hgr.out.alloc _).trans hgr2⟩
      case measure => simp [intOf]; omega

theorem c_long (a : Option Addr) (len cap : Nat) (ls : List Int) (ly ca : Int) (w : World) (hl : 1024 < len) (hm : len ≤ 9223372036854775807) :
    Calls Yba.prog 8 #[.slice a len cap, .agg (bv ls).toArray, .int .u8 ly, .int .u64 ca] w fun e w' => e = .returned (.bool true) ∧ Below w.heap.size w w' := by
  go_enter Yba.func8, Yba.ntmps8
  go_wp2
  go_ret
  exact ⟨rfl, (Below.refl _ _).alloc (Nat.le_refl _) _⟩
end Go.Proofs.Ybulkbcfc
