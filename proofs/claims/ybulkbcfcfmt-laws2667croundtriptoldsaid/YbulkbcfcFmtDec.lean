/-
  encoding/binary.Uvarint and wire.uvarint at the bytes that AppendUvarint writes.
-/
import Derived.Test.YbulkbcfcFmtEq
import Derived.Lib.VarintBits
namespace Go.Proofs.YbulkbcfcFmt
open Go.RowKit

theorem and127 (z : Int) : bits BinOp.and IntKind.u8 (z % 128 + 128) 127 = z % 128 := by
  rw [u8_and127 _ (by omega) (by omega)]
  omega

/-- Where the reader of a varint stands behind k bytes: what it has gathered, what is left. -/
structure At (X : Int) (l : List Int) (k : Nat) (acc z : Int) : Prop where
  a0 : 0 ≤ acc
  a1 : acc < 128 ^ k
  z0 : 0 ≤ z
  sum : acc + z * 128 ^ k = X
  left : l.drop k = uvF (9 - k) z.toNat
  fits : z.toNat < 128 ^ (9 - k + 1)

theorem At.start {X : Int} (h0 : 0 ≤ X) (h1 : X ≤ 18446744073709551615) : At X (uv X.toNat) 0 0 X :=
  ⟨by omega, by simp, h0, by simp, rfl, by omega⟩

theorem At.last {X acc z : Int} {l : List Int} {k : Nat} (h : At X l k acc z) (hz : z < 128) : l[k]? = some z ∧ l.length = k + 1 := by
  have e := h.left
  have := h.z0
  rw [uvF_small (by omega)] at e
  have e1 : (l.drop k)[0]? = some z := by rw [e]; simp; omega
  have e2 : (l.drop k).length = 1 := by rw [e]; rfl
  rw [List.getElem?_drop] at e1
  rw [List.length_drop] at e2
  exact ⟨by simpa using e1, by omega⟩

theorem At.next {X acc z : Int} {l : List Int} {k : Nat} (h : At X l k acc z) (hz : ¬ z < 128) (hk : k ≤ 9) :
    l[k]? = some (z % 128 + 128) ∧ k < l.length ∧ k < 9 ∧ At X l (k + 1) (acc + z % 128 * 128 ^ k) (z / 128) := by
  have e := h.left
  have f := h.fits
  have := h.z0
  have hk9 : k < 9 := by
    by_cases e9 : k = 9
    · subst e9; simp at f; omega
    · omega
  obtain ⟨m, hm⟩ : ∃ m, 9 - k = m + 1 := ⟨8 - k, by omega⟩
  have hm' : 9 - (k + 1) = m := by omega
  rw [hm, uvF_step (by omega)] at e
  have e1 : (l.drop k)[0]? = some (z % 128 + 128) := by rw [e]; simp; omega
  have e2 : l.drop (k + 1) = uvF m (z.toNat / 128) := by
    rw [← List.drop_drop, e]; rfl
  rw [List.getElem?_drop, Nat.add_zero] at e1
  refine ⟨e1, (List.getElem?_eq_some_iff.1 e1).1, hk9, ?_⟩
  have hp : (0 : Int) < 128 ^ k := Int.pow_pos (by omega)
  refine ⟨?_, ?_, by omega, ?_, ?_, ?_⟩
  · have := Int.mul_nonneg (show 0 ≤ z % 128 by omega) (Int.le_of_lt hp)
    have := h.a0
    omega
  · have h2 : z % 128 * 128 ^ k ≤ 127 * 128 ^ k := Int.mul_le_mul_of_nonneg_right (by omega) (Int.le_of_lt hp)
    have := h.a1
    rw [Int.pow_succ]
    omega
  · rw [Int.pow_succ, ← h.sum, Int.add_assoc]
    congr 1
    have ez : z = z % 128 + z / 128 * 128 := by omega
    calc z % 128 * 128 ^ k + z / 128 * (128 ^ k * 128) = (z % 128 + z / 128 * 128) * 128 ^ k := by
          rw [Int.add_mul, Int.mul_assoc (z / 128) 128, Int.mul_comm 128 (128 ^ k)]
      _ = z * 128 ^ k := by rw [← ez]
  · rw [hm', e2]
    congr 1
    omega
  · rw [hm'] 
    rw [hm, Nat.pow_succ 128 (m + 1)] at f
    rw [show (z / 128).toNat = z.toNat / 128 from by omega]
    exact Nat.div_lt_of_lt_mul (by rw [Nat.mul_comm]; exact f)

set_option maxRecDepth 100000 in
set_option maxHeartbeats 4000000 in
theorem dec_any (g o n cap : Nat) (X : Int) (w : World) (hb : Bytes w (some ⟨g, o, none⟩) n (uv X.toNat)) (h0 : 0 ≤ X) (h1 : X ≤ 18446744073709551615) :
    Calls Ybaf.prog 14 #[.slice (some ⟨g, o, none⟩) n cap] w fun e w' => e = .returned (.tuple #[.int .u64 X, .int .i64 (n : Int)]) ∧ w' = w := by
  have HB := hid hb
  have hn : n ≤ 10 := by have := hb.1; have := (uv_length X.toNat).1; omega
  clear hb
  go_enter Ybaf.func14, Ybaf.ntmps14
  go_wp2
  go_loop [4, 5, 10] (fun vx vs vi => ∃ (k : Nat) (acc z : Int), vi = .int .i64 k ∧ vs = .int .u64 ((7 * k : Nat) : Int) ∧ vx = .int .u64 acc ∧ k ≤ 9 ∧ At X (uv X.toNat) k acc z) (fun _ _ vi => 10 - (intOf vi).toNat)
  case atStart => exact ⟨0, 0, X, rfl, rfl, rfl, by omega, At.start h0 h1⟩
  case round =>
    obtain ⟨k, acc, z, rfl, rfl, rfl, hk9, hat⟩ := hrel
    have ha0 := hat.a0
    have hz0 := hat.z0
    by_cases hz : z < 128
    · obtain ⟨hl, hlen⟩ := hat.last hz
      obtain ⟨b', o', e, hc⟩ := HB.out.2 k z hl
      cases e
      obtain rfl : n = k + 1 := HB.out.1.symm.trans hlen
      clear hl hlen
      have hks : k = 0 ∨ k = 1 ∨ k = 2 ∨ k = 3 ∨ k = 4 ∨ k = 5 ∨ k = 6 ∨ k = 7 ∨ k = 8 ∨ k = 9 := by omega
      rcases hks with rfl | rfl | rfl | rfl | rfl | rfl | rfl | rfl | rfl | rfl
      · have hs : acc + z * 1 = X := by have := hat.sum; simpa using this
        have ha : acc < 1 := by have := hat.a1; simpa using this
        have hor : bits .or .u64 acc (z) = X := by
          rw [u64_orv0 _ _ (by omega) (by omega) (by omega) (by omega) (by omega)]
          omega
        have HS := hid hs
        clear hs hat
        rw [Nat.add_zero] at hc
        go_wp2
        go_ret2
        exact ⟨rfl, rfl⟩
      · have hs : acc + z * 128 = X := by have := hat.sum; simpa using this
        have ha : acc < 128 := by have := hat.a1; simpa using this
        have hor : bits .or .u64 acc (z * 128) = X := by
          rw [u64_orv7 _ _ (by omega) (by omega) (by omega) (by omega) (by omega)]
          omega
        have HS := hid hs
        clear hs hat
        go_wp2
        go_ret2
        exact ⟨rfl, rfl⟩
      · have hs : acc + z * 16384 = X := by have := hat.sum; simpa using this
        have ha : acc < 16384 := by have := hat.a1; simpa using this
        have hor : bits .or .u64 acc (z * 16384) = X := by
          rw [u64_orv14 _ _ (by omega) (by omega) (by omega) (by omega) (by omega)]
          omega
        have HS := hid hs
        clear hs hat
        go_wp2
        go_ret2
        exact ⟨rfl, rfl⟩
      · have hs : acc + z * 2097152 = X := by have := hat.sum; simpa using this
        have ha : acc < 2097152 := by have := hat.a1; simpa using this
        have hor : bits .or .u64 acc (z * 2097152) = X := by
          rw [u64_orv21 _ _ (by omega) (by omega) (by omega) (by omega) (by omega)]
          omega
        have HS := hid hs
        clear hs hat
        go_wp2
        go_ret2
        exact ⟨rfl, rfl⟩
      · have hs : acc + z * 268435456 = X := by have := hat.sum; simpa using this
        have ha : acc < 268435456 := by have := hat.a1; simpa using this
        have hor : bits .or .u64 acc (z * 268435456) = X := by
          rw [u64_orv28 _ _ (by omega) (by omega) (by omega) (by omega) (by omega)]
          omega
        have HS := hid hs
        clear hs hat
        go_wp2
        go_ret2
        exact ⟨rfl, rfl⟩
      · have hs : acc + z * 34359738368 = X := by have := hat.sum; simpa using this
        have ha : acc < 34359738368 := by have := hat.a1; simpa using this
        have hor : bits .or .u64 acc (z * 34359738368) = X := by
          rw [u64_orv35 _ _ (by omega) (by omega) (by omega) (by omega) (by omega)]
          omega
        have HS := hid hs
        clear hs hat
        go_wp2
        go_ret2
        exact ⟨rfl, rfl⟩
      · have hs : acc + z * 4398046511104 = X := by have := hat.sum; simpa using this
        have ha : acc < 4398046511104 := by have := hat.a1; simpa using this
        have hor : bits .or .u64 acc (z * 4398046511104) = X := by
          rw [u64_orv42 _ _ (by omega) (by omega) (by omega) (by omega) (by omega)]
          omega
        have HS := hid hs
        clear hs hat
        go_wp2
        go_ret2
        exact ⟨rfl, rfl⟩
      · have hs : acc + z * 562949953421312 = X := by have := hat.sum; simpa using this
        have ha : acc < 562949953421312 := by have := hat.a1; simpa using this
        have hor : bits .or .u64 acc (z * 562949953421312) = X := by
          rw [u64_orv49 _ _ (by omega) (by omega) (by omega) (by omega) (by omega)]
          omega
        have HS := hid hs
        clear hs hat
        go_wp2
        go_ret2
        exact ⟨rfl, rfl⟩
      · have hs : acc + z * 72057594037927936 = X := by have := hat.sum; simpa using this
        have ha : acc < 72057594037927936 := by have := hat.a1; simpa using this
        have hor : bits .or .u64 acc (z * 72057594037927936) = X := by
          rw [u64_orv56 _ _ (by omega) (by omega) (by omega) (by omega) (by omega)]
          omega
        have HS := hid hs
        clear hs hat
        go_wp2
        go_ret2
        exact ⟨rfl, rfl⟩
      · have hs : acc + z * 9223372036854775808 = X := by have := hat.sum; simpa using this
        have ha : acc < 9223372036854775808 := by have := hat.a1; simpa using this
        have hor : bits .or .u64 acc (z * 9223372036854775808) = X := by
          rw [u64_orv63 _ _ (by omega) (by omega) (by omega) (by omega) (by omega)]
          omega
        have HS := hid hs
        clear hs hat
        have hz1 : z ≤ 1 := by have := HS.out; omega
        go_wp2
        go_ret2
        exact ⟨rfl, rfl⟩
    · obtain ⟨hl, hlt, hk, hnx⟩ := hat.next hz hk9
      obtain ⟨b', o', e, hc⟩ := HB.out.2 k _ hl
      cases e
      have hkn : k < n := by have := HB.out.1; omega
      have h127 := and127 z
      clear hl hlt
      have hks : k = 0 ∨ k = 1 ∨ k = 2 ∨ k = 3 ∨ k = 4 ∨ k = 5 ∨ k = 6 ∨ k = 7 ∨ k = 8 := by omega
      rcases hks with rfl | rfl | rfl | rfl | rfl | rfl | rfl | rfl | rfl
      · have hs : acc + z * 1 = X := by have := hat.sum; simpa using this
        have ha : acc < 1 := by have := hat.a1; simpa using this
        have hor : bits .or .u64 acc (z % 128) = acc + z % 128 := by
          rw [u64_orv0 _ _ (by omega) (by omega) (by omega) (by omega) (by omega)]
        have HS := hid hs
        have HN := hid hnx
        clear hs hat hnx
        rw [Nat.add_zero] at hc
        go_wp2
        go_round
        case rel => exact ⟨1, _, z / 128, rfl, rfl, rfl, by omega, by simpa using HN.out⟩
        case measure => simp [intOf]
      · have hs : acc + z * 128 = X := by have := hat.sum; simpa using this
        have ha : acc < 128 := by have := hat.a1; simpa using this
        have hor : bits .or .u64 acc (z % 128 * 128) = acc + z % 128 * 128 := by
          rw [u64_orv7 _ _ (by omega) (by omega) (by omega) (by omega) (by omega)]
        have HS := hid hs
        have HN := hid hnx
        clear hs hat hnx
        go_wp2
        go_round
        case rel => exact ⟨2, _, z / 128, rfl, rfl, rfl, by omega, by simpa using HN.out⟩
        case measure => simp [intOf]
      · have hs : acc + z * 16384 = X := by have := hat.sum; simpa using this
        have ha : acc < 16384 := by have := hat.a1; simpa using this
        have hor : bits .or .u64 acc (z % 128 * 16384) = acc + z % 128 * 16384 := by
          rw [u64_orv14 _ _ (by omega) (by omega) (by omega) (by omega) (by omega)]
        have HS := hid hs
        have HN := hid hnx
        clear hs hat hnx
        go_wp2
        go_round
        case rel => exact ⟨3, _, z / 128, rfl, rfl, rfl, by omega, by simpa using HN.out⟩
        case measure => simp [intOf]
      · have hs : acc + z * 2097152 = X := by have := hat.sum; simpa using this
        have ha : acc < 2097152 := by have := hat.a1; simpa using this
        have hor : bits .or .u64 acc (z % 128 * 2097152) = acc + z % 128 * 2097152 := by
          rw [u64_orv21 _ _ (by omega) (by omega) (by omega) (by omega) (by omega)]
        have HS := hid hs
        have HN := hid hnx
        clear hs hat hnx
        go_wp2
        go_round
        case rel => exact ⟨4, _, z / 128, rfl, rfl, rfl, by omega, by simpa using HN.out⟩
        case measure => simp [intOf]
      · have hs : acc + z * 268435456 = X := by have := hat.sum; simpa using this
        have ha : acc < 268435456 := by have := hat.a1; simpa using this
        have hor : bits .or .u64 acc (z % 128 * 268435456) = acc + z % 128 * 268435456 := by
          rw [u64_orv28 _ _ (by omega) (by omega) (by omega) (by omega) (by omega)]
        have HS := hid hs
        have HN := hid hnx
        clear hs hat hnx
        go_wp2
        go_round
        case rel => exact ⟨5, _, z / 128, rfl, rfl, rfl, by omega, by simpa using HN.out⟩
        case measure => simp [intOf]
      · have hs : acc + z * 34359738368 = X := by have := hat.sum; simpa using this
        have ha : acc < 34359738368 := by have := hat.a1; simpa using this
        have hor : bits .or .u64 acc (z % 128 * 34359738368) = acc + z % 128 * 34359738368 := by
          rw [u64_orv35 _ _ (by omega) (by omega) (by omega) (by omega) (by omega)]
        have HS := hid hs
        have HN := hid hnx
        clear hs hat hnx
        go_wp2
        go_round
        case rel => exact ⟨6, _, z / 128, rfl, rfl, rfl, by omega, by simpa using HN.out⟩
        case measure => simp [intOf]
      · have hs : acc + z * 4398046511104 = X := by have := hat.sum; simpa using this
        have ha : acc < 4398046511104 := by have := hat.a1; simpa using this
        have hor : bits .or .u64 acc (z % 128 * 4398046511104) = acc + z % 128 * 4398046511104 := by
          rw [u64_orv42 _ _ (by omega) (by omega) (by omega) (by omega) (by omega)]
        have HS := hid hs
        have HN := hid hnx
        clear hs hat hnx
        go_wp2
        go_round
        case rel => exact ⟨7, _, z / 128, rfl, rfl, rfl, by omega, by simpa using HN.out⟩
        case measure => simp [intOf]
      · have hs : acc + z * 562949953421312 = X := by have := hat.sum; simpa using this
        have ha : acc < 562949953421312 := by have := hat.a1; simpa using this
        have hor : bits .or .u64 acc (z % 128 * 562949953421312) = acc + z % 128 * 562949953421312 := by
          rw [u64_orv49 _ _ (by omega) (by omega) (by omega) (by omega) (by omega)]
        have HS := hid hs
        have HN := hid hnx
        clear hs hat hnx
        go_wp2
        go_round
        case rel => exact ⟨8, _, z / 128, rfl, rfl, rfl, by omega, by simpa using HN.out⟩
        case measure => simp [intOf]
      · have hs : acc + z * 72057594037927936 = X := by have := hat.sum; simpa using this
        have ha : acc < 72057594037927936 := by have := hat.a1; simpa using this
        have hor : bits .or .u64 acc (z % 128 * 72057594037927936) = acc + z % 128 * 72057594037927936 := by
          rw [u64_orv56 _ _ (by omega) (by omega) (by omega) (by omega) (by omega)]
        have HS := hid hs
        have HN := hid hnx
        clear hs hat hnx
        go_wp2
        go_round
        case rel => exact ⟨9, _, z / 128, rfl, rfl, rfl, by omega, by simpa using HN.out⟩
        case measure => simp [intOf]

theorem uvarintP_any (g o n cap : Nat) (X : Int) (w : World) (hb : Bytes w (some ⟨g, o, none⟩) n (uv X.toNat)) (h0 : 0 ≤ X) (h1 : X ≤ 18446744073709551615) :
    Calls Ybaf.prog 12 #[.slice (some ⟨g, o, none⟩) n cap] w fun e w' => e = .returned (.tuple #[.int .u64 X, .int .i64 (n : Int), .nilIface]) ∧ w' = w := by
  have hn : 1 ≤ n := by have := hb.1; have := (uv_length X.toNat).2; omega
  have hn2 : n ≤ 10 := by have := hb.1; have := (uv_length X.toNat).1; omega
  have HB := hid hb
  clear hb
  have e1 : ((n : Int) == 0) = false := by simp; omega
  have e2 : decide ((n : Int) < 0) = false := decide_eq_false (by omega)
  go_enter Ybaf.func12, Ybaf.ntmps12
  go_wp2_with fail
  refine (dec_any g o n cap X w HB.out h0 h1).mono ?_
  rintro e w' ⟨rfl, rfl⟩
  go_wp2
  go_ret3
  exact ⟨rfl, rfl⟩
end Go.Proofs.YbulkbcfcFmt
