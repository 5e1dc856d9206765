/-
  The law store.LawS2667ALeastBelowAll, walked over the contracts.
-/
import Derived.Test.YbulkbcfcA
namespace Go.Proofs.Ybulkbcfc
open Go.RowKit

theorem a_long4 (a : Option Addr) (len cap : Nat) (w : World) (hl : 1024 < len) (hm : len ≤ 9223372036854775807) :
    Calls Yba.prog 4 #[.slice a len cap] w fun e w' => e = .returned (.bool true) ∧ Below w.heap.size w w' := by
  go_enter Yba.func4, Yba.ntmps4
  go_wp2
  go_ret
  exact ⟨rfl, Below.refl _ _⟩

theorem a_none4 (a : Option Addr) (cap : Nat) (w : World) :
    Calls Yba.prog 4 #[.slice a 0 cap] w fun e w' => e = .returned (.bool true) ∧ Below w.heap.size w w' := by
  go_enter Yba.func4, Yba.ntmps4
  go_wp2
  go_ret
  exact ⟨rfl, Below.refl _ _⟩

set_option maxHeartbeats 400000 in
theorem a_least (a : Option Addr) (len cap : Nat) (f : Nat → Int) (w : World) (h : SR .i64 w a len f) (h0 : 0 < len) (hl : len ≤ 1024) :
    Calls Yba.prog 4 #[.slice a len cap] w fun e w' => e = .returned (.bool true) ∧ Below w.heap.size w w' := by
  obtain ⟨b, o, rfl, hb, _⟩ := h 0 h0
  have H := hid h
  clear h
  have hz : ((len : Int) == 0) = false := by simp; omega
  go_enter Yba.func4, Yba.ntmps4
  go_wp2_with fail
  refine (store_any _ len cap f w H.out hl).mono ?_
  rintro e w1 ⟨st, R, rfl, hst, hbel⟩
  go_wp2_with fail
  refine (toDrop_any st R len f w1 hst hl).mono ?_
  rintro e w2 ⟨v, q, rfl, hv, rfl⟩
  obtain ⟨hvl, hfl⟩ : v < len ∧ ∀ j, j < len → f v ≤ f j ∧ (j < v → f v < f j) := by
    rcases hv with ⟨h, _⟩ | h
    · omega
    · exact h
  have HF := hid hfl
  have HS := hid hst.seg
  have hs := hst.segs
  have HC : Hid (∀ i, i < len → w1.cell? ⟨b, o + i, none⟩ = some (.int .i64 (f i))) := fun i hi => by
    obtain ⟨b', o', e, hlt, hc⟩ := H.out i hi
    simp only [Option.some.injEq, Addr.mk.injEq, and_true] at e
    obtain ⟨rfl, rfl⟩ := e
    exact (hbel.cell (p := ⟨b, o + i, none⟩) hlt).trans hc
  have cv := HC.out v hvl
  have i2 : (v : Int) < (len : Int) := by omega
  have e1 : decide (len ≤ v) = false := decide_eq_false (by omega)
  have e2 : decide ((v : Int) < 0) = false := decide_eq_false (by omega)
  clear hst hv hfl H hz
  go_wp2
  go_loopw [5] (fun i wr => ∃ k q : Nat, k ≤ len ∧ i = .int .i64 k ∧ wr = w1.drewN q) (fun i _ => len - (intOf i).toNat)
  case atStart => exact ⟨0, q, Nat.zero_le _, rfl, rfl⟩
  case round =>
    obtain ⟨k, q, hk, rfl, rfl⟩ := hrel
    by_cases hlt : k < len
    · have ck := HC.out k hlt
      obtain ⟨g, c1, c2, c3⟩ := HS.out k hlt
      have i1 : (k : Int) < (len : Int) := by omega
      have t1 : ¬ f k < f v := by have := (HF.out k hlt).1; omega
      by_cases hkv : k < v
      · have t2 : ¬ f k ≤ f v := by have := (HF.out k hlt).2 hkv; omega
        go_wp2_with fail
        go_quiet (fail)
        go_wp2_with fail
        go_quiet (fail)
        go_wp2_with fail
        go_quiet (fail)
        go_wp2
        go_roundw
        case rel => exact ⟨k + 1, _, by omega, by go_num, rfl⟩
        case measure => simp [intOf]; omega
      · have hd : decide ((k : Int) < (v : Int)) = false := decide_eq_false (by omega)
        have hd2 : decide (k < v) = false := decide_eq_false (by omega)
        clear hkv
        go_wp2_with fail
        go_quiet (fail)
        go_wp2_with fail
        go_quiet (fail)
        go_wp2_with fail
        go_quiet (fail)
        go_wp2
        go_roundw
        case rel => exact ⟨k + 1, _, by omega, by go_num, rfl⟩
        case measure => simp [intOf]; omega
    · go_wp2
      go_ret
      exact ⟨rfl, below_drewN hbel q⟩
end Go.Proofs.Ybulkbcfc
