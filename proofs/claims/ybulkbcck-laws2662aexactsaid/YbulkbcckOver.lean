import Derived.Test.YbulkbcckRows
import Derived.Test.YbulkbcckFloat
import Derived.WalkKit
import Derived.WalkLawsBesides
import Derived.Deep.OwnRows
namespace Go.Proofs.Ybulkbcck
open Go.RowKit

def S (f : Nat → Nat) : Nat → Nat
  | 0 => 0
  | n + 1 => S f n + f n

theorem S_le (f : Nat → Nat) (bf : ∀ k, f k ≤ 65535) (n : Nat) : S f n ≤ 65535 * n := by
  induction n with
  | zero => exact Nat.le_refl _
  | succ n ih => have := bf n; simp only [S]; omega

def nanw (x y : Nat) (w : World) : Nat := Question.cut (.nanBits .f64 x y) (w.tape w.drawn (.nanBits .f64 x y))

def QuoIs (x y r : Nat) : Prop := Ieee.double.div x y = some r ∨ (Ieee.double.div x y = none ∧ ∃ s t, Ieee.double.read r = .nan s t)

theorem run_store_float (P : Program) (w : World) (a : Addr) (m : Mode) (k : FloatKind) (x : Nat) : (store a (.float k x) m).run P w = stored P w a (.float k x) m := run_store P w a _ m rfl
attribute [local go_sem] run_store_float

theorem fadd {P : Program} {a b : Nat} (h : a + b < 2 ^ 53) (t : TypeId) (w : World) :
    (binOp .add t (.float .f64 (fw a)) (.float .f64 (fw b))).run P w = .ok (.float .f64 (fw (a + b))) w :=
  run_float_arith w .add t .f64 _ _ _ (add_fw h)

theorem fmul8 {P : Program} {n : Nat} (h : 8 * n < 2 ^ 53) (t : TypeId) (w : World) :
    (binOp .mul t (.float .f64 4620693217682128896) (.float .f64 (fw n))).run P w = .ok (.float .f64 (fw (8 * n))) w :=
  run_float_arith w .mul t .f64 4620693217682128896 _ _ (mul_fw (m := 8) (by omega) (by omega) h)

theorem fdiv_some {P : Program} {x y r : Nat} (h : Ieee.double.div x y = some r) (t : TypeId) (w : World) :
    (binOp .quo t (.float .f64 x) (.float .f64 y)).run P w = .ok (.float .f64 r) w :=
  run_float_arith w .quo t .f64 _ _ _ h

theorem fdiv_none {P : Program} {x y : Nat} (h : Ieee.double.div x y = none) (t : TypeId) (w : World) :
    (binOp .quo t (.float .f64 x) (.float .f64 y)).run P w = .ok (.float .f64 (nanw x y w)) w.drew := by
  have h' : FloatKind.f64.format.div x y = none := h
  simp only [binOp, Op.floatArith]
  simp [h', Question.forced, nanw]

set_option maxHeartbeats 400000 in
theorem over_any (b m n : Nat) (f g : Nat → Nat) (w : World) (hn : n ≤ m) (hm : m ≤ 1024) (hb : b < w.heap.size)
    (hf : ∀ k, k < m → w.cell? ⟨b, k * 2, none⟩ = some (.float .f64 (fw (f k)))) (hg : ∀ k, k < m → w.cell? ⟨b, k * 2 + 1, none⟩ = some (.float .f64 (fw (g k))))
    (bf : ∀ k, f k ≤ 65535) (bg : ∀ k, g k ≤ 65535) :
    Calls Yba.prog 4 #[.agg #[.slice (some ⟨b, 0, none⟩) m m, .float .f64 0], .int .i64 (n : Int)] w fun e w' => ∃ r, e = .returned (.float .f64 r) ∧ QuoIs (fw (8 * S f n)) (fw (S g n)) r ∧ Below w.heap.size w w' := by
  go_enter Yba.func4, Yba.ntmps4
  go_wp2
  go_loopw [5, 6, 14] (fun x y i wr => ∃ k : Nat, k ≤ n ∧ i = .int .i64 k ∧ x = .float .f64 (fw (S f k)) ∧ y = .float .f64 (fw (S g k)) ∧ Below w.heap.size w wr) (fun _ _ i _ => n - (intOf i).toNat)
  case atStart => exact ⟨0, Nat.zero_le _, rfl, rfl, rfl, (Below.refl _ _).alloc (Nat.le_refl _) _⟩
  case round =>
    obtain ⟨k, hk, rfl, rfl, rfl, hbel⟩ := hrel
    have s1 := S_le f bf k
    have s2 := S_le g bg k
    have h1 := bf k
    have h2 := bg k
    by_cases hlt : k < n
    · have c1 : wr.cell? ⟨b, k * 2, none⟩ = some (.float .f64 (fw (f k))) := (hbel.cell (by exact hb)).trans (hf k (by omega))
      have c2 : wr.cell? ⟨b, k * 2 + 1, none⟩ = some (.float .f64 (fw (g k))) := (hbel.cell (by exact hb)).trans (hg k (by omega))
      have a1 := fun t w => fadd (P := Yba.prog) (a := S f k) (b := f k) (by omega) t w
      have a2 := fun t w => fadd (P := Yba.prog) (a := S g k) (b := g k) (by omega) t w
      go_wp2
      go_roundw
      case rel => exact ⟨k + 1, by omega, by go_num, rfl, rfl, hbel.alloc hbel.size _⟩
      case measure => simp [intOf]; omega
    · obtain rfl : k = n := by omega
      clear hf hg hlt
      have mm := fun t w => fmul8 (P := Yba.prog) (n := S f k) (by omega) t w
      cases hq : Ieee.double.div (fw (8 * S f k)) (fw (S g k)) with
      | some r =>
        have dd := fun t w => fdiv_some (P := Yba.prog) hq t w
        have HQ : Hid (Ieee.double.div (fw (8 * S f k)) (fw (S g k)) = some r) := hq
        clear hq
        go_wp2
        go_ret
        exact ⟨r, rfl, .inl HQ.out, hbel⟩
      | none =>
        have dd := fun t w => fdiv_none (P := Yba.prog) hq t w
        have HQ : Hid (Ieee.double.div (fw (8 * S f k)) (fw (S g k)) = none) := hq
        clear hq
        go_wp2
        go_ret
        exact ⟨_, rfl, .inr ⟨HQ.out, nan_cut _ _ _⟩, hbel.drew⟩
end Go.Proofs.Ybulkbcck
