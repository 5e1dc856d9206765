/-
  store.toDrop and store.zzs2667aexpect: each answers the first index of the least.
-/
import Derived.Test.YbulkbcfcStore
import Derived.Deep.QuietTactic
import Derived.BigQuiet
namespace Go.Proofs.Ybulkbcfc
open Go.RowKit

/-- v is the first index of the least among the first len of f (0 where there is none). -/
def FL (f : Nat → Int) (len v : Nat) : Prop := (len = 0 ∧ v = 0) ∨ (v < len ∧ ∀ j, j < len → f v ≤ f j ∧ (j < v → f v < f j))

theorem FL.unique {f : Nat → Int} {len v u : Nat} (h : FL f len v) (k : FL f len u) : v = u := by
  rcases h with ⟨h0, rfl⟩ | ⟨hv, h⟩
  · rcases k with ⟨_, rfl⟩ | ⟨hu, _⟩
    · rfl
    · omega
  · rcases k with ⟨k0, _⟩ | ⟨hu, k⟩
    · omega
    · rcases Nat.lt_trichotomy v u with e | e | e
      · have := (k v hv).2 e; have := (h u hu).1; omega
      · exact e
      · have := (h u hu).2 e; have := (k v hv).1; omega

theorem FL.less {f : Nat → Int} {k v : Nat} (h : FL f k v) (hl : f k < f v) : FL f (k + 1) k := by
  refine .inr ⟨by omega, fun j hj => ?_⟩
  rcases h with ⟨rfl, rfl⟩ | ⟨hv, h⟩
  · omega
  · by_cases e : j = k
    · subst e; exact ⟨Int.le_refl _, fun h => by omega⟩
    · have := (h j (by omega)).1; exact ⟨by omega, fun _ => by omega⟩

theorem FL.more {f : Nat → Int} {k v : Nat} (h : FL f k v) (hl : ¬ f k < f v) : FL f (k + 1) v := by
  rcases h with ⟨rfl, rfl⟩ | ⟨hv, h⟩
  · refine .inr ⟨by omega, fun j hj => ?_⟩
    obtain rfl : j = 0 := by omega
    exact ⟨Int.le_refl _, fun h => by omega⟩
  · refine .inr ⟨by omega, fun j hj => ?_⟩
    by_cases e : j = k
    · subst e; exact ⟨by omega, fun h => by omega⟩
    · exact h j (by omega)

set_option maxHeartbeats 400000 in
theorem toDrop_any (st R len : Nat) (f : Nat → Int) (w : World) (h : StoreIs w st R f len) (hl : len ≤ 1024) :
    Calls Yba.prog 10 #[.pointer (some ⟨st, 0, none⟩)] w fun e w' => ∃ v q : Nat, e = .returned (.int .i64 (v : Int)) ∧ FL f len v ∧ w' = w.drewN q := by
  have H := hid h.seg
  have hs := h.segs
  clear h
  go_enter Yba.func10, Yba.ntmps10
  go_wp2
  go_loopw [3, 11] (fun x i wr => ∃ k v q : Nat, k ≤ len ∧ i = .int .i64 k ∧ x = .int .i64 v ∧ FL f k v ∧ wr = w.drewN q) (fun _ i _ => len - (intOf i).toNat)
  case atStart => exact ⟨0, 0, 0, Nat.zero_le _, rfl, rfl, .inl ⟨rfl, rfl⟩, rfl⟩
  case round =>
    obtain ⟨k, v, q, hk, rfl, rfl, hfl, rfl⟩ := hrel
    by_cases hlt : k < len
    · have hv : v < len := by rcases hfl with ⟨_, rfl⟩ | ⟨h, _⟩ <;> omega
      obtain ⟨g, c1, c2, _⟩ := H.out k hlt
      obtain ⟨g', c3, c4, _⟩ := H.out v hv
      have i1 : (k : Int) < (len : Int) := by omega
      have i2 : (v : Int) < (len : Int) := by omega
      by_cases ht : f k < f v
      · go_wp2_with fail
        go_quiet (fail)
        go_wp2
        go_roundw
        case rel => exact ⟨k + 1, k, _, by omega, by go_num, rfl, hfl.less ht, rfl⟩
        case measure => simp [intOf]; omega
      · go_wp2_with fail
        go_quiet (fail)
        go_wp2
        go_roundw
        case rel => exact ⟨k + 1, v, _, by omega, by go_num, rfl, hfl.more (by omega), rfl⟩
        case measure => simp [intOf]; omega
    · go_wp2
      go_ret
      obtain rfl : k = len := by omega
      exact ⟨v, q, rfl, hfl, rfl⟩

/-- m is the least among the first k of f. -/
def Least (f : Nat → Int) (k : Nat) (m : Int) : Prop := (∃ j, j < k ∧ f j = m) ∧ ∀ j, j < k → m ≤ f j

theorem Least.less {f : Nat → Int} {k : Nat} {m : Int} (h : Least f k m) (hl : f k < m) : Least f (k + 1) (f k) :=
  ⟨⟨k, by omega, rfl⟩, fun j hj => by
    by_cases e : j = k
    · subst e; exact Int.le_refl _
    · have := h.2 j (by omega); omega⟩

theorem Least.more {f : Nat → Int} {k : Nat} {m : Int} (h : Least f k m) (hl : ¬ f k < m) : Least f (k + 1) m := by
  obtain ⟨⟨i, hi, e⟩, h2⟩ := h
  refine ⟨⟨i, by omega, e⟩, fun j hj => ?_⟩
  by_cases e : j = k
  · subst e; omega
  · exact h2 j (by omega)

theorem Least.one (f : Nat → Int) : Least f 1 (f 0) := by
  refine ⟨⟨0, by omega, rfl⟩, fun j hj => ?_⟩
  obtain rfl : j = 0 := by omega
  exact Int.le_refl _

theorem Least.first {f : Nat → Int} {len k : Nat} (h : Least f len (f k)) (hk : k < len) (hn : ∀ j, j < k → f j ≠ f k) : FL f len k :=
  .inr ⟨hk, fun j hj => ⟨h.2 j hj, fun hjk => by have := h.2 j hj; have := hn j hjk; omega⟩⟩

set_option maxHeartbeats 400000 in
theorem expect_any (a : Option Addr) (len cap : Nat) (f : Nat → Int) (w : World) (h : SR .i64 w a len f) (hl : len ≤ 1024) :
    Calls Yba.prog 11 #[.slice a len cap] w fun e w' => ∃ v : Nat, e = .returned (.int .i64 (v : Int)) ∧ FL f len v ∧ w' = w := by
  have H := hid h
  clear h
  by_cases h0 : len = 0
  · subst h0
    go_enter Yba.func11, Yba.ntmps11
    go_wp2
    go_ret
    exact ⟨0, rfl, .inl ⟨rfl, rfl⟩, rfl⟩
  · have hp : 0 < len := by omega
    clear h0
    obtain ⟨b, o, rfl, _, hc0⟩ := H.out 0 hp
    rw [Nat.add_zero] at hc0
    go_enter Yba.func11, Yba.ntmps11
    go_wp2
    clear hc0
    go_loop [3, 4] (fun x i => ∃ (k : Nat) (m : Int), k ≤ len ∧ i = .int .i64 k ∧ x = .int .i64 m ∧ Least f k m) (fun _ i => len - (intOf i).toNat)
    case atStart => exact ⟨1, f 0, by omega, rfl, rfl, Least.one f⟩
    case round =>
      obtain ⟨k, m, hk, rfl, rfl, hm⟩ := hrel
      by_cases hlt : k < len
      · obtain ⟨b', o', e, _, hc⟩ := H.out k hlt
        simp only [Option.some.injEq, Addr.mk.injEq, and_true] at e
        obtain ⟨rfl, rfl⟩ := e
        by_cases ht : f k < m
        · go_wp2
          go_round
          case rel => exact ⟨k + 1, f k, by omega, by go_num, rfl, hm.less ht⟩
          case measure => simp [intOf]; omega
        · go_wp2
          go_round
          case rel => exact ⟨k + 1, m, by omega, by go_num, rfl, hm.more (by omega)⟩
          case measure => simp [intOf]; omega
      · obtain rfl : len = k := by omega
        clear hk hlt
        go_wp2
        go_loop [5] (fun i => ∃ k : Nat, k ≤ len ∧ i = .int .i64 k ∧ ∀ j, j < k → f j ≠ m) (fun i => len - (intOf i).toNat)
        case atStart => exact ⟨0, Nat.zero_le _, rfl, fun j hj => absurd hj (by omega)⟩
        case round =>
          obtain ⟨k, hk, rfl, hno⟩ := hrel
          have HN := hid hno
          clear hno
          by_cases hlt : k < len
          · obtain ⟨b', o', e, _, hc⟩ := H.out k hlt
            simp only [Option.some.injEq, Addr.mk.injEq, and_true] at e
            obtain ⟨rfl, rfl⟩ := e
            by_cases he : (f k == m) = true
            · go_wp2
              go_ret
              have e : f k = m := by simpa using he
              subst e
              exact ⟨k, rfl, hm.first hlt HN.out, rfl⟩
            · have hf : (f k == m) = false := by simpa using he
              clear he
              go_wp2
              go_round
              case rel =>
                refine ⟨k + 1, by omega, by go_num, fun j hj => ?_⟩
                by_cases e : j = k
                · subst e; simpa using hf
                · exact HN.out j (by omega)
              case measure => simp [intOf]; omega
          · exfalso
            obtain ⟨j, hj, e⟩ := hm.1
            exact HN.out j (by omega) e
end Go.Proofs.Ybulkbcfc
