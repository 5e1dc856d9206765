/-
  encoding/binary.AppendUvarint, wire.appendOpening: onto a slice of the call's own.
-/
import Derived.Test.YbulkbcfcFmtRows
import Derived.Test.YbulkbcfcFmtOwn
import Derived.WalkLawsBesides
import Derived.WalkSpells
import Derived.Deep.Heap
namespace Go.Proofs.YbulkbcfcFmt
open Go.RowKit

theorem info5 : (Ybaf.prog.info? 5).map (fun i => (i.zero, i.size, i.bytes)) = some (some (.int .u8 0), 1, 1) := by kernel_rfl

/-- A call has handed back the slice at g with the bytes zs. -/
def Gives (w : World) (g : Nat) (zs : List Int) (e : Ending) (w' : World) : Prop := ∃ g' n' cap', e = .returned (.slice (some ⟨g', 0, none⟩) n' cap') ∧ Row w' g' n' cap' zs ∧ Grew w g w' g'

set_option maxHeartbeats 400000 in
theorem uvarint_any (g n cap : Nat) (xs : List Int) (x : Int) (w : World) (hown : Row w g n cap xs) (h0 : 0 ≤ x) (hx : x ≤ 18446744073709551615) (hl : n ≤ 2000) :
    Calls Ybaf.prog 8 #[.slice (some ⟨g, 0, none⟩) n cap, .int .u64 x] w fun e w' => Gives w g (xs ++ uv x.toNat) e w' := by
  have HO := hid hown
  clear hown
  go_enter Ybaf.func8, Ybaf.ntmps8
  go_wp2
  go_loopw [0, 1] (fun b y wr => ∃ (g1 n1 cap1 : Nat) (ys : List Int) (z : Int) (k : Nat), b = .slice (some ⟨g1, 0, none⟩) n1 cap1 ∧ y = .int .u64 z ∧ 0 ≤ z ∧ z ≤ 18446744073709551615 ∧ Hid (z.toNat < 128 ^ (k + 1)) ∧ k ≤ 9 ∧ n1 + k ≤ 2009 ∧ Hid (ys ++ uvF k z.toNat = xs ++ uv x.toNat) ∧ Hid (Row wr g1 n1 cap1 ys) ∧ Hid (Grew w g wr g1)) (fun _ y _ => (intOf y).toNat)
  case atStart => exact ⟨g, n, cap, xs, x, 9, rfl, rfl, h0, hx, hid (by omega), by omega, by omega, rfl, HO, Grew.refl _ _⟩
  case round =>
    obtain ⟨g1, n1, cap1, ys, z, k, rfl, rfl, hz0, hz, hzn, hk, hlen, heq, hrow, hgr⟩ := hrel
    by_cases hlt : z < 128
    · go_wp2_with (first | (at_builtin; refine wpList_app _ rfl (.tmp 15) (.tmp 18) rfl Ybaf.underlying22 info5 g1 n1 cap1 ys rfl (hrow.out.alloc _) ⟨wr.heap.size, 0, none⟩ 1 1 [z] rfl rfl (one_cell (Deep.blk_alloc_new _ _)) (by omega) ?_; intro g2 n2 cap2 w2 hrow2 hgr2))
      go_ret
      refine ⟨g2, n2, cap2, rfl, ?_, (hgr.out.alloc _).trans hgr2⟩
      rw [← heq.out, uvF_small (by omega), Int.toNat_of_nonneg hz0]
      exact hrow2
    · have ho := or128' z hz0
      go_wp2_with (first | (at_builtin; refine wpList_app _ rfl (.tmp 7) (.tmp 11) rfl Ybaf.underlying22 info5 g1 n1 cap1 ys rfl (hrow.out.alloc _) ⟨wr.heap.size, 0, none⟩ 1 1 [_] rfl rfl (one_cell (Deep.blk_alloc_new _ _)) (by omega) ?_; intro g2 n2 cap2 w2 hrow2 hgr2))
      obtain ⟨m, e, hm, hq⟩ := uv_round (by omega) hzn.out heq.out
      have e1 := hrow2.len
      have e2 := hrow.out.len
      go_roundw
      case rel => exact ⟨g2, n2, cap2, _, z / 128, m, rfl, rfl, by omega, by omega, hm, by omega, by simp at e1; omega, hq, hrow2, (hgr.out.alloc _).trans hgr2⟩
      case measure => simp [intOf]; omega

set_option maxHeartbeats 400000 in
theorem opening_any (g n cap : Nat) (xs ls : List Int) (w : World) (hown : Row w g n cap xs) (hl : n ≤ 1900) (h16 : ls.length = 16) :
    Calls Ybaf.prog 7 #[.slice (some ⟨g, 0, none⟩) n cap, .agg (bv ls).toArray] w fun e w' => Gives w g (xs ++ [79, 78, 67, 87] ++ [16] ++ ls) e w' := by
  have HO := hid hown
  have H16 := hid h16
  have hlt := hown.lt
  have hn := hown.len
  clear hown h16
  go_enter Ybaf.func7, Ybaf.ntmps7
  go_wp2_with (first
    | (at_builtin; refine wpList_app_string _ rfl (.tmp 5) _ 9 rfl Ybaf.underlying22 Ybaf.underlying9 info5 g n cap xs rfl (HO.out.alloc _) _ [79, 78, 67, 87] rfl rfl (by simp; omega) ?_; intro g1 n1 cap1 w1 hrow1 hgr1; have e1 := hrow1.len; simp only [List.length_append, List.length_cons, List.length_nil] at e1)
    | (at_builtin; refine wpList_app _ rfl (.tmp 7) (.tmp 8) rfl Ybaf.underlying22 info5 g1 n1 cap1 _ rfl (hrow1.alloc _) ⟨w1.heap.size, 0, none⟩ 1 1 [16] rfl rfl (one_cell (Deep.blk_alloc_new _ _)) (by omega) ?_; intro g2 n2 cap2 w2 hrow2 hgr2; have e2 := hrow2.len; simp only [List.length_append, List.length_cons, List.length_nil] at e2)
    | (at_builtin; refine wpList_app _ rfl (.tmp 10) (.tmp 11) rfl Ybaf.underlying22 info5 g2 n2 cap2 _ rfl hrow2 ⟨w.heap.size, 0, none⟩ 16 16 ls rfl H16.out (box_cells (((((hgr1.alloc _).trans hgr2).keep (k := w.heap.size) (by simp) (by omega)).trans (Deep.blk_alloc_new w _)))) (by omega) ?_; intro g3 n3 cap3 w3 hrow3 hgr3))
  go_ret
  exact ⟨g3, n3, cap3, rfl, hrow3, ((((Grew.refl w g).alloc _).trans hgr1).alloc _).trans (hgr2.trans hgr3)⟩
end Go.Proofs.YbulkbcfcFmt
