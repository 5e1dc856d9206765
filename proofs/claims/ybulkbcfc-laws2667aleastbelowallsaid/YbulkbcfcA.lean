/-
  The laws store.LawS2667AFirstLeast and store.LawS2667ALeastBelowAll, walked over the contracts.
-/
import Derived.Test.YbulkbcfcLeast
namespace Go.Proofs.Ybulkbcfc
open Go.RowKit

theorem a_long3 (a : Option Addr) (len cap : Nat) (w : World) (hl : 1024 < len) (hm : len ≤ 9223372036854775807) :
    Calls Yba.prog 3 #[.slice a len cap] w fun e w' => e = .returned (.bool true) ∧ Below w.heap.size w w' := by
  go_enter Yba.func3, Yba.ntmps3
  go_wp2
  go_ret
  exact ⟨rfl, Below.refl _ _⟩

theorem SR.below {k : IntKind} {w w1 : World} {a : Option Addr} {len : Nat} {f : Nat → Int} (h : SR k w a len f) (hb : Below w.heap.size w w1) : SR k w1 a len f := by
  intro i hi
  obtain ⟨b, o, e, hlt, hc⟩ := h i hi
  exact ⟨b, o, e, Nat.lt_of_lt_of_le hlt hb.size, (hb.cell (p := ⟨b, o + i, none⟩) hlt).trans hc⟩

theorem StoreIs.drewN {w : World} {st R len : Nat} {f : Nat → Int} (h : StoreIs w st R f len) (q : Nat) : StoreIs (w.drewN q) st R f len := ⟨h.segs, h.seg⟩

theorem a_first (a : Option Addr) (len cap : Nat) (f : Nat → Int) (w : World) (h : SR .i64 w a len f) (hl : len ≤ 1024) :
    Calls Yba.prog 3 #[.slice a len cap] w fun e w' => e = .returned (.bool true) ∧ Below w.heap.size w w' := by
  have H := hid h
  clear h
  go_enter Yba.func3, Yba.ntmps3
  go_wp2_with fail
  refine (store_any a len cap f w H.out hl).mono ?_
  rintro e w1 ⟨st, R, rfl, hst, hbel⟩
  go_wp2_with fail
  refine (toDrop_any st R len f w1 hst hl).mono ?_
  rintro e w2 ⟨v, q, rfl, hv, rfl⟩
  go_wp2_with fail
  refine (expect_any a len cap f _ (SR.below H.out (below_drewN hbel q)) hl).mono ?_
  rintro e w3 ⟨u, rfl, hu, rfl⟩
  obtain rfl : v = u := hv.unique hu
  go_wp2
  go_ret
  exact ⟨rfl, below_drewN hbel q⟩
end Go.Proofs.Ybulkbcfc
