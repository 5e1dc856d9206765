/-
  The laws wire.LawS2667BModel and wire.LawS2667BMember, walked over the contracts of seen and of the model.
-/
import Derived.Test.YbulkbcfcSeen
namespace Go.Proofs.Ybulkbcfc
open Go.RowKit

theorem b_long5 (a : Option Addr) (len cap : Nat) (d : Int) (w : World) (hl : 4096 < len) (hm : len ≤ 9223372036854775807) :
    Calls Yba.prog 5 #[.slice a len cap, .int .u32 d] w fun e w' => e = .returned (.bool true) ∧ w' = w := by
  go_enter Yba.func5, Yba.ntmps5
  go_wp2
  go_ret
  exact ⟨rfl, rfl⟩

theorem b_model (a : Option Addr) (len cap : Nat) (d : Int) (f : Nat → Int) (w : World) (h : SR .u32 w a len f) (hl : len ≤ 4096) :
    Calls Yba.prog 5 #[.slice a len cap, .int .u32 d] w fun e w' => e = .returned (.bool true) ∧ w' = w := by
  have H := hid h
  clear h
  go_enter Yba.func5, Yba.ntmps5
  go_wp2_with fail
  refine (seen_any a len cap d f w H.out hl).mono ?_
  rintro e w' ⟨r, rfl, hr, rfl⟩
  have HR := hid hr
  clear hr
  go_wp2_with fail
  refine (model_any a len cap d f _ H.out hl).mono ?_
  rintro e w' ⟨r', rfl, hr', rfl⟩
  obtain rfl : r = r' := by
    have := HR.out.trans hr'.symm
    cases r <;> cases r' <;> simp at this <;> rfl
  clear hr'
  go_wp2
  go_ret
  exact ⟨rfl, rfl⟩

theorem b_long6 (a : Option Addr) (len cap : Nat) (p d : Int) (w : World) (hl : 4096 < len) (hm : len ≤ 9223372036854775807) :
    Calls Yba.prog 6 #[.slice a len cap, .int .u8 p, .int .u32 d] w fun e w' => e = .returned (.bool true) ∧ w' = w := by
  go_enter Yba.func6, Yba.ntmps6
  go_wp2
  go_ret
  exact ⟨rfl, rfl⟩

theorem b_empty (a : Option Addr) (cap : Nat) (p d : Int) (f : Nat → Int) (w : World) :
    Calls Yba.prog 6 #[.slice a 0 cap, .int .u8 p, .int .u32 d] w fun e w' => e = .returned (.bool true) ∧ w' = w := by
  go_enter Yba.func6, Yba.ntmps6
  go_wp2_with fail
  refine (seen_any a 0 cap d f w (fun i hi => absurd hi (by omega)) (by omega)).mono ?_
  rintro e w' ⟨r, rfl, hr, rfl⟩
  obtain rfl : r = false := by
    cases r
    · rfl
    · obtain ⟨i, hi, _⟩ := hr.1 rfl
      omega
  clear hr
  go_wp2
  go_ret
  exact ⟨rfl, rfl⟩

theorem b_member (a : Option Addr) (len cap : Nat) (p d : Int) (f : Nat → Int) (w : World) (h : SR .u32 w a len f) (h0 : 0 < len) (hl : len ≤ 4096) (p0 : 0 ≤ p) (p1 : p ≤ 255) :
    Calls Yba.prog 6 #[.slice a len cap, .int .u8 p, .int .u32 d] w fun e w' => e = .returned (.bool true) ∧ w' = w := by
  obtain ⟨j, hj, hlt⟩ : ∃ j : Nat, p % (len : Int) = (j : Int) ∧ j < len := by
    have h1 := Int.emod_nonneg p (b := (len : Int)) (by omega)
    have h2 := Int.emod_lt_of_pos p (b := (len : Int)) (by omega)
    exact ⟨(p % (len : Int)).toNat, by omega, by omega⟩
  obtain ⟨b, o, rfl, hb, hc⟩ := h j hlt
  have H := hid h
  clear h
  go_enter Yba.func6, Yba.ntmps6
  go_wp2_with fail
  refine (seen_any _ len cap (f j) f w H.out hl).mono ?_
  rintro e w' ⟨r, rfl, hr, rfl⟩
  obtain rfl : r = true := hr.2 ⟨j, hlt, rfl⟩
  clear hr
  go_wp2
  go_ret
  exact ⟨rfl, rfl⟩
end Go.Proofs.Ybulkbcfc
