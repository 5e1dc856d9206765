/-
  wire.seen and wire.zzs2667bmodel: each answers whether the number is among the slice's elements.
-/
import Derived.Test.YbulkbcfcRows
import Derived.WalkKit
import Derived.WalkLawsBesides
import Derived.WideShapes
namespace Go.Proofs.Ybulkbcfc
open Go.RowKit

theorem hid {p : Prop} (h : p) : Hid p := h

/-- A slice of len integers of kind k that came in, its elements by the index. -/
def SR (k : IntKind) (w : World) (a : Option Addr) (len : Nat) (f : Nat → Int) : Prop :=
  ∀ i, i < len → ∃ b o, a = some ⟨b, o, none⟩ ∧ b < w.heap.size ∧ w.cell? ⟨b, o + i, none⟩ = some (.int k (f i))

theorem block_lt {w : World} {x : Addr} {v : Value} (h : w.cell? x = some v) : x.block < w.heap.size := by
  unfold World.cell? at h
  by_cases hb : x.block < w.heap.size
  · exact hb
  · rw [Array.getElem?_eq_none (by omega)] at h
    cases h

/-- What the frame hands the walk of a slice of integers, said by the index. -/
theorem SR.of {k : IntKind} {w : World} {a : Option Addr} {len cap : Nat} {zs : List Int}
    (h : (a = none ∧ len = 0 ∧ cap = 0 ∧ zs = []) ∨ ∃ x, a = some x ∧ len ≤ cap ∧ cap ≤ maxLen ∧ zs.length = cap ∧ (∀ i, i < zs.length → w.cell? (x.add i) = some (.int k (zs.getD i 0))) ∧ ∀ n ∈ zs, (Lit.int k n).wf = true) :
    SR k w a len (fun i => zs.getD i 0) ∧ len ≤ 9223372036854775807 ∧ ∀ i, i < len → (Lit.int k (zs.getD i 0)).wf = true := by
  rcases h with ⟨rfl, rfl, rfl, rfl⟩ | ⟨x, rfl, hl, hm, hz, hcell, hwf⟩
  · exact ⟨fun i hi => absurd hi (by omega), by omega, fun i hi => absurd hi (by omega)⟩
  · refine ⟨fun i hi => ?_, by unfold maxLen at hm; omega, fun i hi => hwf _ ?_⟩
    · have hc := hcell i (by omega)
      obtain ⟨b, o, sp⟩ := x
      obtain rfl : sp = none := by
        have := World.cell?_spot (hcell 0 (by omega))
        simpa [Addr.add] using this
      rw [Go.WideShapes.add_plain] at hc
      exact ⟨b, o, rfl, block_lt hc, hc⟩
    · have : i < zs.length := by omega
      simp [this]

/-- The call has answered whether d is among the first len of f; the world is as it was. -/
def Told (f : Nat → Int) (d : Int) (len : Nat) (w : World) (e : Ending) (w' : World) : Prop :=
  ∃ r : Bool, e = .returned (.bool r) ∧ (r = true ↔ ∃ i, i < len ∧ f i = d) ∧ w' = w

/-- The bool r says whether d is among f k .. f (len - 1). -/
def Rest (f : Nat → Int) (d : Int) (k len : Nat) (r : Bool) : Prop := r = true ↔ ∃ i, k ≤ i ∧ i < len ∧ f i = d

set_option maxHeartbeats 400000 in
theorem seen_any (a : Option Addr) (len cap : Nat) (d : Int) (f : Nat → Int) (w : World) (h : SR .u32 w a len f) (hl : len ≤ 4096) :
    Calls Yba.prog 12 #[.slice a len cap, .int .u32 d] w fun e w' => Told f d len w e w' := by
  have H := hid h
  clear h
  go_enter Yba.func12, Yba.ntmps12
  go_wp2
  go_loop [9] (fun i => ∃ k : Nat, k ≤ len ∧ i = .int .i64 k ∧ ∀ j, j < k → f j ≠ d) (fun i => len - (intOf i).toNat)
  case atStart => exact ⟨0, Nat.zero_le _, rfl, fun j hj => absurd hj (by omega)⟩
  case round =>
    obtain ⟨k, hk, rfl, hno⟩ := hrel
    have HN := hid hno
    clear hno
    by_cases hlt : k < len
    · obtain ⟨b, o, rfl, hb, hc⟩ := H.out k hlt
      by_cases he : (f k == d) = true
      · go_wp2
        go_ret
        exact ⟨true, rfl, ⟨fun _ => ⟨k, hlt, by simpa using he⟩, fun _ => rfl⟩, rfl⟩
      · have hf : (f k == d) = false := by simpa using he
        clear he
        go_wp2
        go_round
        case rel =>
          refine ⟨k + 1, by omega, by go_num, fun j hj => ?_⟩
          by_cases e : j = k
          · subst e; simpa using hf
          · exact HN.out j (by omega)
        case measure => simp [intOf]; omega
    · go_wp2
      go_ret
      refine ⟨false, rfl, ⟨fun h => (by cases h), fun ⟨i, hi, e⟩ => absurd e (HN.out i (by omega))⟩, rfl⟩

set_option maxHeartbeats 400000 in
theorem model_any (a : Option Addr) (len cap : Nat) (d : Int) (f : Nat → Int) (w : World) (h : SR .u32 w a len f) (hl : len ≤ 4096) :
    Calls Yba.prog 13 #[.slice a len cap, .int .u32 d] w fun e w' => Told f d len w e w' := by
  have H := hid h
  clear h
  go_enter Yba.func13, Yba.ntmps13
  go_wp2
  go_loop [5, 6] (fun x i => ∃ (k : Nat) (r : Bool), k ≤ len ∧ i = .int .i64 ((k : Int) - 1) ∧ x = .bool r ∧ Rest f d k len r) (fun _ i => (intOf i + 1).toNat)
  case atStart => exact ⟨len, false, Nat.le_refl _, rfl, rfl, ⟨fun h => (by cases h), fun ⟨i, h1, h2, _⟩ => by omega⟩⟩
  case round =>
    obtain ⟨k, r, hk, rfl, rfl, hr⟩ := hrel
    by_cases hlt : 0 < k
    · obtain ⟨j, rfl⟩ : ∃ j, k = j + 1 := ⟨k - 1, by omega⟩
      obtain ⟨b, o, rfl, hb, hc⟩ := H.out j (by omega)
      have ej : (((j + 1 : Nat) : Int) - 1) = (j : Int) := by omega
      rw [ej]
      clear ej
      by_cases he : (f j == d) = true
      · go_wp2
        go_round
        case rel => exact ⟨j, true, by omega, by go_num, rfl, ⟨fun _ => ⟨j, by omega, by omega, by simpa using he⟩, fun _ => rfl⟩⟩
        case measure => simp [intOf]
      · have hf : (f j == d) = false := by simpa using he
        clear he
        go_wp2
        go_round
        case rel =>
          refine ⟨j, r, by omega, by go_num, rfl, Iff.trans hr ⟨fun ⟨i, h1, h2, h3⟩ => ⟨i, by omega, h2, h3⟩, fun ⟨i, h1, h2, h3⟩ => ⟨i, ?_, h2, h3⟩⟩⟩
          by_cases e : i = j
          · subst e; rw [h3] at hf; simp at hf
          · omega
        case measure => simp [intOf]
    · obtain rfl : k = 0 := by omega
      go_wp2
      go_ret
      exact ⟨r, rfl, Iff.trans hr ⟨fun ⟨i, _, h2, h3⟩ => ⟨i, h2, h3⟩, fun ⟨i, h2, h3⟩ => ⟨i, by omega, h2, h3⟩⟩, rfl⟩
end Go.Proofs.Ybulkbcfc
