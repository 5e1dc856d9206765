import Derived.Test.YbulkbcckOver
namespace Go.Proofs.Ybulkbcck
open Go.RowKit

attribute [local go_sem] run_store_float

theorem Yba.info28 : (Yba.prog.info? 28).map (fun i => (i.zero, i.size, i.bytes)) = some (some (.agg #[.float .f64 0, .float .f64 0]), 2, 16) := by kernel_rfl

theorem run_make28 (m : Nat) (hm : m ≤ 1024) (w : World) :
    (Instr.makeSlice 24 (.int .i64 (m : Int)) (.int .i64 (m : Int))).run Yba.prog w = .ok (.slice (some ⟨w.heap.size, 0, none⟩) m m) (w.alloc (.cells (madeCells #[.float .f64 0, .float .f64 0] (m * 2)) 28)) := by
  obtain ⟨i, hi, hz, hs, hb⟩ := info_parts Yba.info28
  have hr := run_make (P := Yba.prog) w 24 28 i _ Yba.underlying24 hi hz .i64 .i64 m m (by omega) (Int.le_refl _) (by rw [hb]; omega) (by omega)
  rw [hs] at hr
  simpa [Value.cells] using hr

theorem hid {p : Prop} (h : p) : Hid p := h

/-- What the made row holds behind k rounds. -/
def row (f g : Nat → Nat) (k j : Nat) : Value := if j < k * 2 then (if j % 2 = 0 then .float .f64 (fw (f (j / 2))) else .float .f64 (fw (g (j / 2)))) else .float .f64 0

theorem row_start (f g : Nat → Nat) (m : Nat) (w : World) : (w.alloc (.cells (madeCells #[.float .f64 0, .float .f64 0] (m * 2)) 28)).rowIs w.heap.size 28 (m * 2) (row f g 0) := by
  refine ⟨_, Deep.blk_alloc_new _ _, size_madeCells _ _, fun i hi => ?_⟩
  have : i % 2 = 0 ∨ i % 2 = 1 := by omega
  rcases this with h | h <;> simp [madeCells, hi, row, h]

theorem row_step {f g : Nat → Nat} {m k B : Nat} {wr : World} (hr : wr.rowIs B 28 (m * 2) (row f g k)) :
    ((wr.setCell ⟨B, k * 2, none⟩ (.float .f64 (fw (f k)))).setCell ⟨B, k * 2 + 1, none⟩ (.float .f64 (fw (g k)))).rowIs B 28 (m * 2) (row f g (k + 1)) := by
  refine ((hr.set (k * 2) _).set (k * 2 + 1) _).congr fun i hi => ?_
  unfold row
  by_cases e1 : i = k * 2 + 1
  · subst e1
    rw [if_pos rfl, if_pos (by omega), if_neg (by omega), show (k * 2 + 1) / 2 = k from by omega]
  · rw [if_neg e1]
    by_cases e2 : i = k * 2
    · subst e2
      rw [if_pos rfl, if_pos (by omega), if_pos (by omega), show (k * 2) / 2 = k from by omega]
    · rw [if_neg e2]
      by_cases e3 : i < k * 2
      · rw [if_pos e3, if_pos (show i < (k + 1) * 2 by omega)]
      · rw [if_neg e3, if_neg (by omega)]

theorem rem_nat (sel : Int) (m : Nat) (hm : m ≤ 1024) : ∃ n : Nat, wrap64 (sel % ((m : Int) + 1)) = (n : Int) ∧ n ≤ m := by
  have h1 := Int.emod_nonneg sel (b := (m : Int) + 1) (by omega)
  have h2 := Int.emod_lt_of_pos sel (b := (m : Int) + 1) (by omega)
  refine ⟨(sel % ((m : Int) + 1)).toNat, ?_, by omega⟩
  generalize sel % ((m : Int) + 1) = x at h1 h2 ⊢
  unfold wrap64
  omega

set_option maxHeartbeats 400000 in
theorem walkA (a0 : Option Addr) (len0 cap0 : Nat) (a1 : Option Addr) (len1 cap1 : Nat) (sel : Int) (w : World) (f g : Nat → Nat)
    (h0 : ∀ k, k < len0 → ∃ b o, a0 = some ⟨b, o, none⟩ ∧ b < w.heap.size ∧ w.cell? ⟨b, o + k, none⟩ = some (.int .u16 (f k)))
    (h1 : ∀ k, k < len1 → ∃ b o, a1 = some ⟨b, o, none⟩ ∧ b < w.heap.size ∧ w.cell? ⟨b, o + k, none⟩ = some (.int .u16 (g k)))
    (bf : ∀ k, f k ≤ 65535) (bg : ∀ k, g k ≤ 65535) (l0 : len0 ≤ 1024) (l1 : len1 ≤ 1024) (s0 : 0 ≤ sel) (s1 : sel ≤ 18446744073709551615) (hlt : len1 < len0) :
    Calls Yba.prog 3 #[.slice a0 len0 cap0, .slice a1 len1 cap1, .int .u64 sel] w fun e w' => e = .returned (.bool true) ∧ Below w.heap.size w w' := by
  have hmk := run_make28 len1 (by omega)
  obtain ⟨n, hN, hn⟩ := rem_nat sel len1 (by omega)
  have H0 := hid h0
  have H1 := hid h1
  clear h0 h1
  go_enter Yba.func3, Yba.ntmps3
  go_wp2
  rw [hN]
  clear hN
  have e0 := fun k => ofInt_fw (n := f k) (by have := bf k; omega)
  have e1 := fun k => ofInt_fw (n := g k) (by have := bg k; omega)
  go_loopw [10] (fun i wr => ∃ k : Nat, k ≤ len1 ∧ i = .int .i64 k ∧ wr.rowIs w.heap.size 28 (len1 * 2) (row f g k) ∧ Below w.heap.size w wr) (fun i _ => len1 - (intOf i).toNat)
  case atStart => exact ⟨0, Nat.zero_le _, rfl, row_start f g _ _, (Below.refl _ _).alloc (Nat.le_refl _) _⟩
  case round =>
    obtain ⟨k, hk, rfl, hrow, hbel⟩ := hrel
    by_cases hkm : k < len1
    · obtain ⟨b0, o0, rfl, hb0, c0⟩ := H0.out k (by omega)
      obtain ⟨b1, o1, rfl, hb1, c1⟩ := H1.out k (by omega)
      have d0 := (hbel.cell (p := ⟨b0, o0 + k, none⟩) hb0).trans c0
      have d1 := (hbel.cell (p := ⟨b1, o1 + k, none⟩) hb1).trans c1
      have r0 := hrow.cell (i := k * 2) (by omega)
      have r1 := hrow.cell (i := k * 2 + 1) (by omega)
      have z0 := hrow.frozen (k * 2)
      have z1 := hrow.frozen (k * 2 + 1)
      have R := hid (row_step hrow)
      clear c0 c1 hmk
      go_wp2
      go_roundw
      case rel => exact ⟨k + 1, by omega, by go_num, R.out, (hbel.setCell (Nat.le_refl _) _).setCell (Nat.le_refl _) _⟩
      case measure => simp [intOf]; omega
    · obtain rfl : len1 = k := by omega
      have hrw := hid hrow
      have hsz := hrow.lt
      have g0 : ∀ j, j < len1 → wr.cell? ⟨w.heap.size, j * 2, none⟩ = some (.float .f64 (fw (f j))) := fun j hj => by
        rw [hrow.cell (by omega)]; unfold row; rw [if_pos (by omega), if_pos (by omega), show j * 2 / 2 = j from by omega]
      have g1 : ∀ j, j < len1 → wr.cell? ⟨w.heap.size, j * 2 + 1, none⟩ = some (.float .f64 (fw (g j))) := fun j hj => by
        rw [hrow.cell (by omega)]; unfold row; rw [if_pos (by omega), if_neg (by omega), show (j * 2 + 1) / 2 = j from by omega]
      have G0 := hid g0
      have G1 := hid g1
      clear hrow hmk hk hkm g0 g1
      go_wp2_with fail
      refine (over_any _ _ n f g _ hn (by omega) (by simp; omega) ?_ ?_ bf bg).mono ?_
      case refine_1 => intro j hj; rw [← G0.out j hj]; exact World.cell?_alloc_lt _ _ _ hsz
      case refine_2 => intro j hj; rw [← G1.out j hj]; exact World.cell?_alloc_lt _ _ _ hsz
      rintro e w1 ⟨r, rfl, hq, hb1⟩
      have HQ := hid hq
      have hbw : Below w.heap.size w w1 := (hbel.alloc hbel.size _).trans (hb1.mono (by simp; omega))
      clear hb1 hbel hrw G0 G1 hq
      go_wp2
      clear hsz
      go_loop [13, 14, 15] (fun x y i => ∃ k : Nat, k ≤ n ∧ i = .int .i64 k ∧ x = .int .i64 (S f k : Nat) ∧ y = .int .i64 (S g k : Nat)) (fun _ _ i => n - (intOf i).toNat)
      case atStart => exact ⟨0, Nat.zero_le _, rfl, rfl, rfl⟩
      case round =>
        obtain ⟨k, hk, rfl, rfl, rfl⟩ := hrel
        have t1 := S_le f bf k
        have t2 := S_le g bg k
        have t3 := bf k
        have t4 := bg k
        by_cases hkn : k < n
        · obtain ⟨b0, o0, rfl, hb0, c0⟩ := H0.out k (by omega)
          obtain ⟨b1, o1, rfl, hb1, c1⟩ := H1.out k (by omega)
          have d0 := (hbw.cell (p := ⟨b0, o0 + k, none⟩) hb0).trans c0
          have d1 := (hbw.cell (p := ⟨b1, o1 + k, none⟩) hb1).trans c1
          clear c0 c1 e0 e1
          go_wp2
          go_round
          case rel => exact ⟨k + 1, by omega, by go_num, by simp only [S]; go_num, by simp only [S]; go_num⟩
          case measure => simp [intOf]; omega
        · obtain rfl : n = k := by omega
          clear e0 e1 hkn hk
          have e2 := ofInt_fw (n := S f n) (by omega)
          have e3 := ofInt_fw (n := S g n) (by omega)
          have mm := fun t w => fmul8 (P := Yba.prog) (n := S f n) (by omega) t w
          rcases HQ.out with hq | ⟨hq, s, t, hr⟩
          · have dd := fun t w => fdiv_some (P := Yba.prog) hq t w
            have oo : FloatKind.f64.format.order r r = some .eq := order_self (div_ok hq)
            clear hq
            go_wp2
            go_ret
            exact ⟨rfl, hbw⟩
          · have dd := fun t w => fdiv_none (P := Yba.prog) hq t w
            have oo : ∀ y, FloatKind.f64.format.order r y = none := fun y => order_nan s t hr
            have on : ∀ x z v y, FloatKind.f64.format.order (nanw x z v) y = none := fun x z v y => by
              obtain ⟨s', t', h'⟩ := nan_cut x z (v.tape v.drawn (.nanBits .f64 x z))
              exact order_nan s' t' h'
            clear hq hr
            go_wp2
            go_ret
            exact ⟨rfl, hbw.drew⟩

set_option maxHeartbeats 400000 in
theorem walkB (a0 : Option Addr) (len0 cap0 : Nat) (a1 : Option Addr) (len1 cap1 : Nat) (sel : Int) (w : World) (f g : Nat → Nat)
    (h0 : ∀ k, k < len0 → ∃ b o, a0 = some ⟨b, o, none⟩ ∧ b < w.heap.size ∧ w.cell? ⟨b, o + k, none⟩ = some (.int .u16 (f k)))
    (h1 : ∀ k, k < len1 → ∃ b o, a1 = some ⟨b, o, none⟩ ∧ b < w.heap.size ∧ w.cell? ⟨b, o + k, none⟩ = some (.int .u16 (g k)))
    (bf : ∀ k, f k ≤ 65535) (bg : ∀ k, g k ≤ 65535) (l0 : len0 ≤ 1024) (l1 : len1 ≤ 1024) (s0 : 0 ≤ sel) (s1 : sel ≤ 18446744073709551615) (hlt : len0 ≤ len1) :
    Calls Yba.prog 3 #[.slice a0 len0 cap0, .slice a1 len1 cap1, .int .u64 sel] w fun e w' => e = .returned (.bool true) ∧ Below w.heap.size w w' := by
  have hmk := run_make28 len0 (by omega)
  obtain ⟨n, hN, hn⟩ := rem_nat sel len0 (by omega)
  have H0 := hid h0
  have H1 := hid h1
  clear h0 h1
  go_enter Yba.func3, Yba.ntmps3
  go_wp2
  rw [hN]
  clear hN
  have e0 := fun k => ofInt_fw (n := f k) (by have := bf k; omega)
  have e1 := fun k => ofInt_fw (n := g k) (by have := bg k; omega)
  go_loopw [10] (fun i wr => ∃ k : Nat, k ≤ len0 ∧ i = .int .i64 k ∧ wr.rowIs w.heap.size 28 (len0 * 2) (row f g k) ∧ Below w.heap.size w wr) (fun i _ => len0 - (intOf i).toNat)
  case atStart => exact ⟨0, Nat.zero_le _, rfl, row_start f g _ _, (Below.refl _ _).alloc (Nat.le_refl _) _⟩
  case round =>
    obtain ⟨k, hk, rfl, hrow, hbel⟩ := hrel
    by_cases hkm : k < len0
    · obtain ⟨b0, o0, rfl, hb0, c0⟩ := H0.out k (by omega)
      obtain ⟨b1, o1, rfl, hb1, c1⟩ := H1.out k (by omega)
      have d0 := (hbel.cell (p := ⟨b0, o0 + k, none⟩) hb0).trans c0
      have d1 := (hbel.cell (p := ⟨b1, o1 + k, none⟩) hb1).trans c1
      have r0 := hrow.cell (i := k * 2) (by omega)
      have r1 := hrow.cell (i := k * 2 + 1) (by omega)
      have z0 := hrow.frozen (k * 2)
      have z1 := hrow.frozen (k * 2 + 1)
      have R := hid (row_step hrow)
      clear c0 c1 hmk
      go_wp2
      go_roundw
      case rel => exact ⟨k + 1, by omega, by go_num, R.out, (hbel.setCell (Nat.le_refl _) _).setCell (Nat.le_refl _) _⟩
      case measure => simp [intOf]; omega
    · obtain rfl : len0 = k := by omega
      have hrw := hid hrow
      have hsz := hrow.lt
      have g0 : ∀ j, j < len0 → wr.cell? ⟨w.heap.size, j * 2, none⟩ = some (.float .f64 (fw (f j))) := fun j hj => by
        rw [hrow.cell (by omega)]; unfold row; rw [if_pos (by omega), if_pos (by omega), show j * 2 / 2 = j from by omega]
      have g1 : ∀ j, j < len0 → wr.cell? ⟨w.heap.size, j * 2 + 1, none⟩ = some (.float .f64 (fw (g j))) := fun j hj => by
        rw [hrow.cell (by omega)]; unfold row; rw [if_pos (by omega), if_neg (by omega), show (j * 2 + 1) / 2 = j from by omega]
      have G0 := hid g0
      have G1 := hid g1
      clear hrow hmk hk hkm g0 g1
      go_wp2_with fail
      refine (over_any _ _ n f g _ hn (by omega) (by simp; omega) ?_ ?_ bf bg).mono ?_
      case refine_1 => intro j hj; rw [← G0.out j hj]; exact World.cell?_alloc_lt _ _ _ hsz
      case refine_2 => intro j hj; rw [← G1.out j hj]; exact World.cell?_alloc_lt _ _ _ hsz
      rintro e w1 ⟨r, rfl, hq, hb1⟩
      have HQ := hid hq
      have hbw : Below w.heap.size w w1 := (hbel.alloc hbel.size _).trans (hb1.mono (by simp; omega))
      clear hb1 hbel hrw G0 G1 hq
      go_wp2
      clear hsz
      go_loop [13, 14, 15] (fun x y i => ∃ k : Nat, k ≤ n ∧ i = .int .i64 k ∧ x = .int .i64 (S f k : Nat) ∧ y = .int .i64 (S g k : Nat)) (fun _ _ i => n - (intOf i).toNat)
      case atStart => exact ⟨0, Nat.zero_le _, rfl, rfl, rfl⟩
      case round =>
        obtain ⟨k, hk, rfl, rfl, rfl⟩ := hrel
        have t1 := S_le f bf k
        have t2 := S_le g bg k
        have t3 := bf k
        have t4 := bg k
        by_cases hkn : k < n
        · obtain ⟨b0, o0, rfl, hb0, c0⟩ := H0.out k (by omega)
          obtain ⟨b1, o1, rfl, hb1, c1⟩ := H1.out k (by omega)
          have d0 := (hbw.cell (p := ⟨b0, o0 + k, none⟩) hb0).trans c0
          have d1 := (hbw.cell (p := ⟨b1, o1 + k, none⟩) hb1).trans c1
          clear c0 c1 e0 e1
          go_wp2
          go_round
          case rel => exact ⟨k + 1, by omega, by go_num, by simp only [S]; go_num, by simp only [S]; go_num⟩
          case measure => simp [intOf]; omega
        · obtain rfl : n = k := by omega
          clear e0 e1 hkn hk
          have e2 := ofInt_fw (n := S f n) (by omega)
          have e3 := ofInt_fw (n := S g n) (by omega)
          have mm := fun t w => fmul8 (P := Yba.prog) (n := S f n) (by omega) t w
          rcases HQ.out with hq | ⟨hq, s, t, hr⟩
          · have dd := fun t w => fdiv_some (P := Yba.prog) hq t w
            have oo : FloatKind.f64.format.order r r = some .eq := order_self (div_ok hq)
            clear hq
            go_wp2
            go_ret
            exact ⟨rfl, hbw⟩
          · have dd := fun t w => fdiv_none (P := Yba.prog) hq t w
            have oo : ∀ y, FloatKind.f64.format.order r y = none := fun y => order_nan s t hr
            have on : ∀ x z v y, FloatKind.f64.format.order (nanw x z v) y = none := fun x z v y => by
              obtain ⟨s', t', h'⟩ := nan_cut x z (v.tape v.drawn (.nanBits .f64 x z))
              exact order_nan s' t' h'
            clear hq hr
            go_wp2
            go_ret
            exact ⟨rfl, hbw.drew⟩
end Go.Proofs.Ybulkbcck
