/-
  store.zzs2667astore: the store that the law builds: its segments, their newest and serial.
-/
import Derived.Test.YbulkbcfcSeen
import Derived.Deep.OwnRows
namespace Go.Proofs.Ybulkbcfc
open Go.RowKit

/-- At block st a store whose segments' row lies at block R: segment k's newest is f k, its serial k. -/
structure StoreIs (w : World) (st R : Nat) (f : Nat → Int) (len : Nat) : Prop where
  segs : w.cell? ⟨st, 8, none⟩ = some (.slice (some ⟨R, 0, none⟩) len len)
  seg : ∀ k, k < len → ∃ g, w.cell? ⟨R, k, none⟩ = some (.pointer (some ⟨g, 0, none⟩)) ∧ w.cell? ⟨g, 5, none⟩ = some (.int .i64 (f k)) ∧ w.cell? ⟨g, 6, none⟩ = some (.int .i64 k)

theorem info31 : (Yba.prog.info? 31).map (fun i => (i.zero, i.size, i.bytes)) = some (some (.pointer none), 1, 8) := by kernel_rfl

theorem run_make31 (n : Nat) (hn : n ≤ 1024) (w : World) :
    (Instr.makeSlice 43 (.int .i64 (n : Int)) (.int .i64 (n : Int))).run Yba.prog w = .ok (.slice (some ⟨w.heap.size, 0, none⟩) n n) (w.alloc (.cells (madeCells #[.pointer none] n) 31)) :=
  run_make_row' 43 31 (.pointer none) 8 Yba.underlying43 info31 rfl .i64 .i64 n (by omega) (by omega) w

def ptrs (B k j : Nat) : Value := if j < k then .pointer (some ⟨B + 1 + j, 0, none⟩) else .pointer none

/-- What the loop knows behind k rounds. -/
def Built (w : World) (f : Nat → Int) (len k : Nat) (wr : World) : Prop :=
  wr.rowIs w.heap.size 31 len (ptrs w.heap.size k) ∧ wr.heap.size = w.heap.size + 1 + k ∧ (∀ j, j < k → wr.cell? ⟨w.heap.size + 1 + j, 5, none⟩ = some (.int .i64 (f j)) ∧ wr.cell? ⟨w.heap.size + 1 + j, 6, none⟩ = some (.int .i64 j)) ∧ Below w.heap.size w wr

theorem built_start (w : World) (f : Nat → Int) (len : Nat) : Built w f len 0 (w.alloc (.cells (madeCells #[.pointer none] len) 31)) :=
  ⟨(World.rowIs_made w _ len 31).congr fun i _ => rfl, by simp, fun j hj => absurd hj (by omega), (Below.refl _ _).alloc (Nat.le_refl _) _⟩

theorem built_step {w wr : World} {f : Nat → Int} {len k : Nat} (hb : Built w f len k wr) (v0 v1 v2 v3 v4 : Value) :
    Built w f len (k + 1) ((wr.setCell ⟨w.heap.size, k, none⟩ (.pointer (some ⟨wr.heap.size, 0, none⟩))).alloc (.cells #[v0, v1, v2, v3, v4, .int .i64 (f k), .int .i64 (k : Int)] 30)) := by
  obtain ⟨hrow, hsz, hseg, hbel⟩ := hb
  have hs2 : (wr.setCell ⟨w.heap.size, k, none⟩ (.pointer (some ⟨wr.heap.size, 0, none⟩))).heap.size = wr.heap.size := by simp [World.setCell]
  refine ⟨((hrow.set k _).alloc _).congr fun i hi => ?_, by simp [hs2]; omega, fun j hj => ?_, (hbel.setCell (Nat.le_refl _) _).alloc (by rw [hs2]; exact hbel.size) _⟩
  · unfold ptrs
    by_cases e : i = k
    · subst e
      rw [if_pos rfl, if_pos (by omega), hsz]
    · rw [if_neg e]
      by_cases e2 : i < k
      · rw [if_pos e2, if_pos (by omega)]
      · rw [if_neg e2, if_neg (by omega)]
  · by_cases e : j = k
    · subst e
      have e3 : w.heap.size + 1 + j = (wr.setCell ⟨w.heap.size, j, none⟩ (.pointer (some ⟨wr.heap.size, 0, none⟩))).heap.size := by rw [hs2, hsz]
      rw [World.cell?_alloc_at _ _ _ _ e3, World.cell?_alloc_at _ _ _ _ e3]
      exact ⟨rfl, rfl⟩
    · obtain ⟨q1, q2⟩ := hseg j (by omega)
      have l1 : w.heap.size + 1 + j < (wr.setCell ⟨w.heap.size, k, none⟩ (.pointer (some ⟨wr.heap.size, 0, none⟩))).heap.size := by rw [hs2, hsz]; omega
      rw [World.cell?_alloc_past _ _ _ l1, World.cell?_alloc_past _ _ _ l1]
      have o1 : ∀ x, (wr.setCell ⟨w.heap.size, k, none⟩ (.pointer (some ⟨wr.heap.size, 0, none⟩))).cell? ⟨w.heap.size + 1 + j, x, none⟩ = wr.cell? ⟨w.heap.size + 1 + j, x, none⟩ := fun x =>
        World.cell?_of_block (w := wr) (Deep.blk_setCell_other _ _ _ _ (by show w.heap.size + 1 + j ≠ w.heap.size; omega))
      rw [o1, o1]
      exact ⟨q1, q2⟩

theorem built_end {w wr : World} {f : Nat → Int} {len : Nat} (hb : Built w f len len wr) (c : Array Value) (t : TypeId) (h8 : c[8]? = some (.slice (some ⟨w.heap.size, 0, none⟩) len len)) :
    StoreIs (wr.alloc (.cells c t)) wr.heap.size w.heap.size f len ∧ Below w.heap.size w (wr.alloc (.cells c t)) := by
  obtain ⟨hrow, hsz, hseg, hbel⟩ := hb
  refine ⟨⟨?_, fun k hk => ⟨w.heap.size + 1 + k, ?_, ?_, ?_⟩⟩, hbel.alloc hbel.size _⟩
  · rw [World.cell?_alloc_at _ _ _ _ rfl]; exact h8
  · rw [World.cell?_alloc_past _ _ _ hrow.lt, hrow.cell hk]; unfold ptrs; rw [if_pos hk]
  · rw [World.cell?_alloc_past _ _ _ (by omega)]; exact (hseg k hk).1
  · rw [World.cell?_alloc_past _ _ _ (by omega)]; exact (hseg k hk).2

set_option maxHeartbeats 400000 in
theorem store_any (a : Option Addr) (len cap : Nat) (f : Nat → Int) (w : World) (h : SR .i64 w a len f) (hl : len ≤ 1024) :
    Calls Yba.prog 9 #[.slice a len cap] w fun e w' => ∃ st R, e = .returned (.pointer (some ⟨st, 0, none⟩)) ∧ StoreIs w' st R f len ∧ Below w.heap.size w w' := by
  have H := hid h
  clear h
  have hmk := run_make31 len hl
  go_enter Yba.func9, Yba.ntmps9
  go_wp2
  go_loopw [4] (fun i wr => ∃ k : Nat, k ≤ len ∧ i = .int .i64 k ∧ Built w f len k wr) (fun i _ => len - (intOf i).toNat)
  case atStart => exact ⟨0, Nat.zero_le _, rfl, built_start w f len⟩
  case round =>
    obtain ⟨k, hk, rfl, hbt⟩ := hrel
    by_cases hlt : k < len
    · obtain ⟨b, o, rfl, hb, hc⟩ := H.out k hlt
      have d0 := (hbt.2.2.2.cell (p := ⟨b, o + k, none⟩) hb).trans hc
      have r0 := hbt.1.cell (i := k) hlt
      have z0 := hbt.1.frozen k
      have lt0 := hbt.1.lt
      clear hc hmk
      go_wp2
      go_roundw
      case rel => exact ⟨k + 1, by omega, by go_num, built_step hbt _ _ _ _ _⟩
      case measure => simp [intOf]; omega
    · obtain rfl : len = k := by omega
      clear hmk
      go_wp2
      go_ret
      exact ⟨_, _, rfl, built_end hbt _ _ rfl⟩
end Go.Proofs.Ybulkbcfc
