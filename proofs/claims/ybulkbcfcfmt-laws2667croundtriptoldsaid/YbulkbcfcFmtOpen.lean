/-
  wire.parseOpening at the bytes that appendOpening writes.
-/
import Derived.Test.YbulkbcfcFmtDec
import Derived.Test.YbulkbcfcFmtHead
namespace Go.Proofs.YbulkbcfcFmt
open Go.RowKit

/-- What a function hands back whose first result lies in memory. -/
theorem res3 {P : Program} {fn : Func} {p u v : Tmp} {ty : TypeId} (h : fn.results = #[.cell p ty, .tmp u, .tmp v]) (tmps : Array Value) (w : World) (k : Nat) (t : TypeId) (cs : Array Value) (fr : Nat × Nat) (d : TypeDesc)
    (hp : tmps.getD p undef = .pointer (some ⟨k, 0, none⟩)) (hg : w.heap[k]? = some (.cells cs t fr))
    (hu : P.underlying ty = some d) (hd : (match d with | .struct _ | .array _ _ => true | _ => false) = true) (hi : (P.info? ty).map (·.size) = some cs.size) :
    (results fn tmps).run P w = .ok (.tuple #[.agg cs, tmps.getD u undef, tmps.getD v undef]) w := by
  have hp' : tmps[p]?.getD undef = .pointer (some ⟨k, 0, none⟩) := by simpa using hp
  simp [results, h, hp', asAddr, run_loadVar_row w k t ty cs fr d hg hu hd hi]

theorem size5 : (Ybaf.prog.info? 5).map (·.size) = some 1 := by kernel_rfl

/-- The opening's five bytes, the link, whatever follows. -/
def opened (ls rest : List Int) : List Int := [79, 78, 67, 87, 16] ++ ls ++ rest

set_option maxRecDepth 100000 in
set_option maxHeartbeats 1000000 in
theorem open_any (g o m cap : Nat) (ls rest : List Int) (w : World) (hb : Bytes w (some ⟨g, o, none⟩) m (opened ls rest)) (hgw : g < w.heap.size) (h16 : ls.length = 16) (hm : m ≤ 100000) (hmc : m ≤ cap) :
    Calls Ybaf.prog 9 #[.slice (some ⟨g, o, none⟩) m cap] w fun e w' => e = .returned (.tuple #[.agg (bv ls).toArray, .int .i64 21, .nilIface]) ∧ Below w.heap.size w w' := by
  have HB := hid hb
  have H16 := hid h16
  have hl : 21 ≤ m := by have := hb.1; simp [opened, h16] at this; omega
  have hc : ∀ j y, (opened ls rest)[j]? = some y → w.cell? ⟨g, o + j, none⟩ = some (.int .u8 y) := fun j y hy => by
    obtain ⟨b, o', e, h⟩ := hb.2 j y hy
    cases e
    exact h
  have c0 := hc 0 79 rfl
  rw [Nat.add_zero] at c0
  have c1 := hc 1 78 rfl
  have c2 := hc 2 67 rfl
  have c3 := hc 3 87 rfl
  have c4 := hc 4 16 rfl
  have HC := hid hc
  clear hb h16 hc
  have i1 : (0 : Int) < (m : Int) := by omega
  have i2 : (1 : Int) < (m : Int) := by omega
  have i3 : (2 : Int) < (m : Int) := by omega
  have i4 : (3 : Int) < (m : Int) := by omega
  have i5 : (4 : Int) < (m : Int) := by omega
  go_enter Ybaf.func9, Ybaf.ntmps9
  go_wp2
  go_loopw [5] (fun i wr => ∃ k q : Nat, k ≤ 4 ∧ i = .int .i64 k ∧ wr = (w.alloc (.cells #[.int .u8 0, .int .u8 0, .int .u8 0, .int .u8 0, .int .u8 0, .int .u8 0, .int .u8 0, .int .u8 0, .int .u8 0, .int .u8 0, .int .u8 0, .int .u8 0, .int .u8 0, .int .u8 0, .int .u8 0, .int .u8 0] 26)).drewN q) (fun i _ => 4 - (intOf i).toNat)
  case atStart => exact ⟨0, 0, by omega, rfl, rfl⟩
  case round =>
    obtain ⟨k, q, hk, rfl, rfl⟩ := hrel
    have hks : k = 0 ∨ k = 1 ∨ k = 2 ∨ k = 3 ∨ k = 4 := by omega
    rcases hks with rfl | rfl | rfl | rfl | rfl
    · go_wp2_with fail
      go_quiet (fail)
      go_wp2
      go_roundw
      case rel => exact ⟨1, _, by omega, rfl, rfl⟩
      case measure => simp [intOf]
    · go_wp2_with fail
      go_quiet (fail)
      go_wp2
      go_roundw
      case rel => exact ⟨2, _, by omega, rfl, rfl⟩
      case measure => simp [intOf]
    · go_wp2_with fail
      go_quiet (fail)
      go_wp2
      go_roundw
      case rel => exact ⟨3, _, by omega, rfl, rfl⟩
      case measure => simp [intOf]
    · go_wp2_with fail
      go_quiet (fail)
      go_wp2
      go_roundw
      case rel => exact ⟨4, _, by omega, rfl, rfl⟩
      case measure => simp [intOf]
    · clear c0 c1 c2 c3
      go_wp2_with fail
      have f1 : (5 : Int) ≤ (m : Int) := by omega
      have f2 : (m : Int) ≤ (cap : Int) := by omega
      have f3 : ¬ cap = 5 := by omega
      obtain ⟨W, hW, hR, hL, hBW⟩ : ∃ W, (((w.alloc (.cells #[.int .u8 0, .int .u8 0, .int .u8 0, .int .u8 0, .int .u8 0, .int .u8 0, .int .u8 0, .int .u8 0, .int .u8 0, .int .u8 0, .int .u8 0, .int .u8 0, .int .u8 0, .int .u8 0, .int .u8 0, .int .u8 0] 26)).drewN q).alloc (.cells #[.int .u8 0, .int .u8 0, .int .u8 0, .int .u8 0, .int .u8 0, .int .u8 0, .int .u8 0, .int .u8 0, .int .u8 0, .int .u8 0, .int .u8 0, .int .u8 0, .int .u8 0, .int .u8 0, .int .u8 0, .int .u8 0] 26)) = W ∧ W.heap[w.heap.size]? = some (.cells (bv (List.replicate 16 0)).toArray 26 (0, 0)) ∧ W.heap[w.heap.size + 1]? = some (.cells (bv (List.replicate 16 0)).toArray 26 (0, 0)) ∧ Below w.heap.size w W :=
        ⟨_, rfl, al (Deep.blk_alloc_new w _), heap_alloc2_new w _ _, (below_drewN ((Below.refl _ w).alloc (Nat.le_refl _) _) q).alloc (by simp) _⟩
      rw [hW]
      clear hW
      have HR := hid hR
      have HL := hid hL
      have HW := hid hBW
      clear hR hL hBW
      have hcp : ∀ j v, (bv ls)[j]? = some v → W.cell? ((⟨g, o + 5, none⟩ : Addr).add j) = some v := by
        intro j v hv
        obtain ⟨x, hx, rfl⟩ := bv_get hv
        rw [Addr.add_lit]
        refine (HW.out.cell (p := ⟨g, o + 5 + j, none⟩) hgw).trans ?_
        rw [Nat.add_assoc]
        refine HC.out (5 + j) x ?_
        have hj : j < ls.length := (List.getElem?_eq_some_iff.1 hx).1
        unfold opened
        rw [List.append_assoc, List.getElem?_append_right (by simp)]
        simp only [List.length_cons, List.length_nil]
        rw [show 5 + j - (0 + 1 + 1 + 1 + 1 + 1) = j from by omega, List.getElem?_append_left hj]
        exact hx
      have HCP := hid hcp
      clear hcp c4
      go_region_held3 (fun _ => True) (trivial)
        ((refine step_copy_splice (by rfl) (.tmp 48) (.tmp 50) 22 22 (by rfl) 5 Ybaf.underlying22 size5 (some ⟨w.heap.size + 1, 0, none⟩) (some ⟨g, o + 5, none⟩) 16 16 (m - 5) (cap - 5) (by rfl) (by rfl) (w.heap.size + 1) 0 (bv (List.replicate 16 0)) 26 (by exact HL.out) (bv ls) (by rw [bv_length, H16.out]; show 16 = min (m - 5) 16; omega) (fun _ => ⟨rfl, _, rfl, by exact HCP.out⟩) (by rw [bv_length, bv_length, H16.out]; simp) (bv_one ls) (w.heap.size + 1) W (Below.refl _ W).drew (Nat.le_refl _) ?_; intro w2 hg2 hb2))
      have hs2 : splice (bv (List.replicate 16 0)) 0 (bv ls) = bv ls := by simp [splice, bv_length, H16.out]
      have hk2 : w2.heap[w.heap.size + 1]? = some (.cells (bv ls).toArray 26 (0, 0)) := by rw [← hs2]; exact hg2.out
      have hr2 : w2.heap[w.heap.size]? = some (.cells (bv (List.replicate 16 0)).toArray 26 (0, 0)) := (hb2.block _ (by omega)).trans HR.out
      have HF : Hid (Below w.heap.size w (w2.setRow w.heap.size (bv ls).toArray)) := below_setRow (HW.out.trans (hb2.mono (by omega))) (Nat.le_refl _) _
      have HQ : Hid ((w2.setRow w.heap.size (bv ls).toArray).heap[w.heap.size]? = some (.cells (bv ls).toArray 26 (0, 0))) := setRow_heap w2 _ _ _ 26 _ hr2
      have hsz : (Ybaf.prog.info? 26).map (·.size) = some (bv ls).toArray.size := by rw [size26, List.size_toArray, bv_length, H16.out]
      clear hg2 hb2 hs2 HCP HL HR
      go_wp2_with (first
        | (refine wpList_load_row rfl 26 (.tmp 7) rfl (w.heap.size + 1) rfl 26 (bv ls).toArray (0, 0) _ hk2 Ybaf.underlying26 rfl hsz ?_)
        | (refine wpList_store_row rfl 26 (.tmp 2) (.tmp 52) rfl w.heap.size (bv ls).toArray rfl rfl 26 _ hr2 hsz (by rw [List.size_toArray, List.size_toArray, bv_length, bv_length, H16.out]; rfl) (all_oneCell_toArray (bv_one ls)) ?_))
      exact bodyPost_ret (v := .tuple #[.agg (bv ls).toArray, .int .i64 21, .nilIface]) (res3 (p := 2) (u := 3) (v := 4) (ty := 26) (by kernel_rfl) _ _ w.heap.size 26 (bv ls).toArray (0, 0) _ rfl HQ.out Ybaf.underlying26 rfl hsz) rfl ⟨rfl, HF.out⟩
end Go.Proofs.YbulkbcfcFmt
