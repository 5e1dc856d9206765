/-
  wire.zzs2667ceq: two slices of the same bytes are found equal.
-/
import Derived.Test.YbulkbcfcFmtUv
import Derived.Deep.QuietTactic
import Derived.BigQuiet
namespace Go.Proofs.YbulkbcfcFmt
open Go.RowKit

/-- A slice of n bytes, wherever it lies: the bytes xs. -/
def Bytes (w : World) (a : Option Addr) (n : Nat) (xs : List Int) : Prop := xs.length = n ∧ ∀ j x, xs[j]? = some x → ∃ b o, a = some ⟨b, o, none⟩ ∧ w.cell? ⟨b, o + j, none⟩ = some (.int .u8 x)

theorem Row.bytes {w : World} {g n cap : Nat} {xs : List Int} (h : Row w g n cap xs) : Bytes w (some ⟨g, 0, none⟩) n xs :=
  ⟨h.1, fun j x hx => ⟨g, 0, rfl, by rw [Nat.zero_add]; exact h.cell hx⟩⟩

set_option maxHeartbeats 400000 in
theorem eq_any (a b : Option Addr) (n ca cb : Nat) (xs : List Int) (w : World) (ha : Bytes w a n xs) (hb : Bytes w b n xs) (hn : n ≤ 100000) :
    Calls Ybaf.prog 5 #[.slice a n ca, .slice b n cb] w fun e w' => ∃ q, e = .returned (.bool true) ∧ w' = w.drewN q := by
  have HA := hid ha
  have HB := hid hb
  clear ha hb
  have hne : ((n : Int) != (n : Int)) = false := by simp
  go_enter Ybaf.func5, Ybaf.ntmps5
  go_wp2
  go_loopw [5] (fun i wr => ∃ k q : Nat, k ≤ n ∧ i = .int .i64 k ∧ wr = w.drewN q) (fun i _ => n - (intOf i).toNat)
  case atStart => exact ⟨0, 0, Nat.zero_le _, rfl, rfl⟩
  case round =>
    obtain ⟨k, q, hk, rfl, rfl⟩ := hrel
    by_cases hlt : k < n
    · obtain ⟨x, hx⟩ : ∃ x, xs[k]? = some x := ⟨xs[k]'(by rw [HA.out.1]; exact hlt), by simp⟩
      obtain ⟨b1, o1, rfl, c1⟩ := HA.out.2 k x hx
      obtain ⟨b2, o2, rfl, c2⟩ := HB.out.2 k x hx
      have i1 : (k : Int) < (n : Int) := by omega
      clear hx
      go_wp2_with fail
      go_quiet (fail)
      go_wp2
      go_roundw
      case rel => exact ⟨k + 1, _, by omega, by go_num, rfl⟩
      case measure => simp [intOf]; omega
    · go_wp2
      go_ret
      exact ⟨q, rfl, rfl⟩
end Go.Proofs.YbulkbcfcFmt
