/-
  wire.appendHeader, onto a slice of the call's own.
-/
import Derived.Test.YbulkbcfcFmtUv
import Derived.Deep.RegionHeld3
import Derived.Deep.MidRow
import Derived.Deep.DrawnRows
namespace Go.Proofs.YbulkbcfcFmt
open Go.RowKit
attribute [local go_sem ↓] Go.wp_at_zero Go.wp_at_succ

/-- The cells of a header: the link's sixteen bytes, the layers, the cache size. -/
def hd (ls : List Int) (ly ca : Int) : List Value := bv ls ++ [.int .u8 ly, .int .u64 ca]

/-- The bytes of a header behind the bytes xs. -/
def headBytes (xs ls : List Int) (ly ca : Int) : List Int := xs ++ [79, 78, 67, 87] ++ [16] ++ ls ++ [ly] ++ (if ly % 2 = 1 then uv ca.toNat else [])

theorem size26 : (Ybaf.prog.info? 26).map (·.size) = some 16 := by kernel_rfl

/-- What the region reads of the boxed header. -/
theorem hd_reads {w : World} {k : Nat} {ls : List Int} {ly ca : Int} (h16 : ls.length = 16) (h : w.heap[k]? = some (.cells (hd ls ly ca).toArray 28 (0, 0))) :
    w.rangeAt k 0 (bv ls) ∧ w.cell? ⟨k, 16, none⟩ = some (.int .u8 ly) ∧ w.cell? ⟨k, 17, none⟩ = some (.int .u64 ca) := by
  have hl : (bv ls).length = 16 := by rw [bv_length, h16]
  refine ⟨fun j v hv => ?_, ?_, ?_⟩
  · rw [cell_of_row w k (0 + j) _ 28 (0, 0) h]
    have hj : j < (bv ls).length := (List.getElem?_eq_some_iff.1 hv).1
    simp only [Nat.zero_add, List.getElem?_toArray, hd]
    rw [List.getElem?_append_left hj]
    exact hv
  · rw [cell_of_row w k 16 _ 28 (0, 0) h]
    simp only [List.getElem?_toArray, hd]
    rw [List.getElem?_append_right (by omega), hl]
    rfl
  · rw [cell_of_row w k 17 _ 28 (0, 0) h]
    simp only [List.getElem?_toArray, hd]
    rw [List.getElem?_append_right (by omega), hl]
    rfl

theorem hd_S {w : World} {k : Nat} {ls : List Int} {ly ca : Int} (h16 : ls.length = 16) (h : w.heap[k]? = some (.cells (hd ls ly ca).toArray 28 (0, 0))) :
    w.rangeAt k 0 (bv ls) ∧ w.cell? ⟨k, 16, none⟩ = some (.int .u8 ly) := ⟨(hd_reads h16 h).1, (hd_reads h16 h).2.1⟩
theorem al {w : World} {o x : Obj} {k : Nat} (h : w.heap[k]? = some x) : (w.alloc o).heap[k]? = some x := (Below.heap_alloc w o k (Array.getElem?_eq_some_iff.1 h).1).trans h
theorem dr {w : World} {x : Obj} {k : Nat} (h : w.heap[k]? = some x) : w.drew.heap[k]? = some x := h
theorem gr {w w' : World} {g g' : Nat} {x : Obj} {k : Nat} (hg : Grew w g w' g') (h : w.heap[k]? = some x) (hne : k ≠ g) : w'.heap[k]? = some x := (hg.keep (Array.getElem?_eq_some_iff.1 h).1 hne).trans h

set_option maxRecDepth 100000 in
set_option maxHeartbeats 800000 in
theorem header_any (g n cap : Nat) (xs ls : List Int) (ly ca : Int) (w : World) (hown : Row w g n cap xs) (hl : n ≤ 1800) (h16 : ls.length = 16) (hly : 0 ≤ ly) (hly2 : ly ≤ 255) (hca : 0 ≤ ca) (hca2 : ca ≤ 18446744073709551615) :
    Calls Ybaf.prog 4 #[.slice (some ⟨g, 0, none⟩) n cap, .agg (hd ls ly ca).toArray] w fun e w' => Gives w g (headBytes xs ls ly ca) e w' := by
  have HO := hid hown
  have H16 := hid h16
  have hlt := hown.lt
  have hn := hown.len
  clear hown h16
  have hu := Ybaf.underlying26
  have hi : (Ybaf.prog.info? 26).map (·.size) = some (bv ls).length := by rw [size26, bv_length, H16.out]
  have hbl : (bv ls).length = 16 := by rw [bv_length, H16.out]
  have h1 := bv_one ls
  go_enter Ybaf.func4, Ybaf.ntmps4
  go_wp2_with fail
  have hb0 := Deep.blk_alloc_new w (.cells (hd ls ly ca).toArray 28)
  obtain ⟨s1, s2, s3⟩ := hd_reads H16.out hb0
  go_region_held3 (fun w' => w'.rangeAt w.heap.size 0 (bv ls) ∧ w'.cell? ⟨w.heap.size, 16, none⟩ = some (.int .u8 ly))
    ((apply hd_S H16.out; repeat (first | assumption | apply al | apply dr)))
    (first
      | (go_at_call 7; refine (opening_any g n cap xs ls _ ?_ (by omega) H16.out).mono ?_; (first | apply Row.drew | skip); (repeat apply Row.alloc); apply HO.out; rintro e w1 ⟨g1, n1, cap1, rfl, hrow1, hgr1⟩; have hb1 : w1.heap[w.heap.size]? = some (.cells (hd ls ly ca).toArray 28 (0, 0)) := gr hgr1 (by repeat (first | assumption | apply al | apply dr)) (by omega); have e1 := hrow1.len; simp only [List.length_append, List.length_cons, List.length_nil, H16.out] at e1; have hg1 : Grew w g w1 g1 := Grew.trans (by repeat (first | apply Grew.refl | apply Grew.drew | apply Grew.alloc)) hgr1)
      | (refine step_app _ (by rfl) _ _ (by rfl) Ybaf.underlying22 info5 g1 n1 cap1 _ (by rfl) (hrow1.alloc _) ⟨w1.heap.size, 0, none⟩ 1 1 [ly] (by rfl) (by rfl) (one_cell (Deep.blk_alloc_new _ _)) (by omega) ?_; intro g2 n2 cap2 w2 hrow2 hgr2; have hb2 : w2.heap[w.heap.size]? = some (.cells (hd ls ly ca).toArray 28 (0, 0)) := gr hgr2 (al hb1) (hgr1.ne (by simp) (by omega)); have hg2 : Grew w g w2 g2 := (hg1.alloc _).trans hgr2)
      | (refine step_app _ (by rfl) _ _ (by rfl) Ybaf.underlying22 info5 g1 n1 cap1 _ (by rfl) hrow1 ⟨w.heap.size + 1, 0, none⟩ 1 1 [ly] (by rfl) (by rfl) (one_cell (t := 5) (gr hgr1 (by first | exact heap_alloc2_new w _ _ | exact dr (heap_alloc2_new w _ _)) (by omega))) (by omega) ?_; intro g2 n2 cap2 w2 hrow2 hgr2; have hb2 : w2.heap[w.heap.size]? = some (.cells (hd ls ly ca).toArray 28 (0, 0)) := gr hgr2 hb1 (hgr1.ne (by simp; omega) (by omega)); have hg2 : Grew w g w2 g2 := hg1.trans hgr2))
  all_goals
    obtain ⟨_, t2, t3⟩ := hd_reads H16.out hb2
    have e2 := hrow2.len
    simp only [List.length_append, List.length_cons, List.length_nil, H16.out] at e2
    have HR := hid hrow2
    have HG := hid hg2
    clear s1 s2 s3 hb0 hb1 hrow1 hgr1 hg1 hgr2 hb2 hrow2 hg2 hu hi hbl h1
    by_cases hp : ly % 2 = 1
    · have ha : bits BinOp.and IntKind.u8 ly 1 = 1 := (and1' ly hly hly2).trans hp
      have HP := hid hp
      clear hp
      go_wp2_with (first | (go_at_call 8; refine (uvarint_any g2 n2 cap2 _ ca w2 HR.out hca hca2 (by omega)).mono ?_; rintro e w3 ⟨g3, n3, cap3, rfl, hrow3, hgr3⟩))
      go_ret
      exact ⟨g3, n3, cap3, rfl, by unfold headBytes; rw [if_pos HP.out]; exact hrow3, HG.out.trans hgr3⟩
    · have ha : bits BinOp.and IntKind.u8 ly 1 = 0 := (and1' ly hly hly2).trans (by omega)
      have HP := hid hp
      clear hp
      go_wp2
      go_ret
      exact ⟨g2, n2, cap2, rfl, by unfold headBytes; rw [if_neg HP.out, List.append_nil]; exact HR.out, HG.out⟩
end Go.Proofs.YbulkbcfcFmt
