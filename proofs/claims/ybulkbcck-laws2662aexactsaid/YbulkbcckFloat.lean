import Derived.Laws.FloatArith
namespace Go.Proofs.Ybulkbcck
open Ieee

/-- The datum d stands for the natural number n: a number that is not negative, written with a place that is not above nought. -/
def Stands (d : Datum) (n : Nat) : Prop := ∃ p : Nat, d = .number false (n * 2 ^ p) (-(p : Int))

/-- The word of a natural number below 2^53. -/
def fw (n : Nat) : Nat := if n = 0 then 0 else (n.log2 + 1022) * 2 ^ 52 + n * 2 ^ (52 - n.log2)

theorem log2_lt {n : Nat} (h0 : n ≠ 0) (h : n < 2 ^ 53) : n.log2 ≤ 52 := by
  have := (Nat.log2_lt h0 (k := 53)).2 h
  omega

theorem log2_mul {n p : Nat} (h0 : n ≠ 0) : (n * 2 ^ p).log2 = n.log2 + p := by
  have h1 : n * 2 ^ p ≠ 0 := Nat.mul_ne_zero h0 (Nat.pos_iff_ne_zero.1 (Nat.two_pow_pos _))
  rw [Nat.log2_eq_iff h1]
  have a := Nat.log2_self_le h0
  have b := @Nat.lt_log2_self n
  constructor
  · rw [Nat.pow_add]; exact Nat.mul_le_mul_right _ a
  · rw [show n.log2 + p + 1 = n.log2 + 1 + p from by omega, Nat.pow_add]
    exact Nat.mul_lt_mul_of_pos_right b (Nat.two_pow_pos _)

theorem cut_exact (neg : Bool) (q d : Nat) (hq : q ≠ 0) : Toward.even.cut neg (q * 2 ^ d) d = q := by
  unfold Toward.cut
  have hl : (q * 2 ^ d).log2 = q.log2 + d := log2_mul hq
  have hm : min d ((q * 2 ^ d).log2 + 2) = d := by rw [hl]; omega
  simp only [hm, Nat.one_shiftLeft]
  have hp := Nat.two_pow_pos d
  rw [Nat.mul_div_cancel _ hp, Nat.mul_mod_left]
  have : (2 ^ d == 2 * 0) = false := by simp
  simp

theorem near {n p : Nat} (h : n < 2 ^ 53) : double.nearest false (n * 2 ^ p) (-(p : Int)) = fw n := by
  by_cases h0 : n = 0
  · subst h0; simp [Format.nearest, fw, Format.word]
  · have hL := log2_lt h0 h
    have h1 : n * 2 ^ p ≠ 0 := Nat.mul_ne_zero h0 (Nat.pos_iff_ne_zero.1 (Nat.two_pow_pos _))
    unfold Format.nearest
    rw [if_neg h1]
    have hlp : double.leastPlace = -1074 := by decide
    have hfb : (double.fractionBits : Int) = 52 := rfl
    have hlast : max (-(p : Int) + ((n * 2 ^ p).log2 : Nat) - (double.fractionBits : Int)) double.leastPlace = (n.log2 : Int) - 52 := by
      rw [log2_mul h0, hlp, hfb]; omega
    simp only [hlast]
    have key : Toward.even.cut false ((n * 2 ^ p) <<< (-(p : Int) - ((n.log2 : Int) - 52)).toNat) (((n.log2 : Int) - 52) - -(p : Int)).toNat = n * 2 ^ (52 - n.log2) := by
      have hne : n * 2 ^ (52 - n.log2) ≠ 0 := Nat.mul_ne_zero h0 (Nat.pos_iff_ne_zero.1 (Nat.two_pow_pos _))
      by_cases hc : p ≤ 52 - n.log2
      · have e1 : (-(p : Int) - ((n.log2 : Int) - 52)).toNat = 52 - n.log2 - p := by omega
        have e2 : (((n.log2 : Int) - 52) - -(p : Int)).toNat = 0 := by omega
        rw [e1, e2, Nat.shiftLeft_eq, Nat.mul_assoc, ← Nat.pow_add]
        rw [show p + (52 - n.log2 - p) = 52 - n.log2 from by omega]
        have := cut_exact false (n * 2 ^ (52 - n.log2)) 0 hne
        simpa using this
      · have e1 : (-(p : Int) - ((n.log2 : Int) - 52)).toNat = 0 := by omega
        have e2 : (((n.log2 : Int) - 52) - -(p : Int)).toNat = p - (52 - n.log2) := by omega
        rw [e1, e2, Nat.shiftLeft_eq, Nat.pow_zero, Nat.mul_one]
        have := cut_exact false (n * 2 ^ (52 - n.log2)) (p - (52 - n.log2)) hne
        rw [Nat.mul_assoc, ← Nat.pow_add, show 52 - n.log2 + (p - (52 - n.log2)) = p from by omega] at this
        exact this
    rw [key, hlp]
    have e3 : ((n.log2 : Int) - 52 - -1074).toNat = n.log2 + 1022 := by omega
    rw [e3]
    have hb : n * 2 ^ (52 - n.log2) < 2 ^ 53 := by
      have b := @Nat.lt_log2_self n
      calc n * 2 ^ (52 - n.log2) < 2 ^ (n.log2 + 1) * 2 ^ (52 - n.log2) := Nat.mul_lt_mul_of_pos_right b (Nat.two_pow_pos _)
        _ = 2 ^ 53 := by rw [← Nat.pow_add]; congr 1; omega
    have hbin : double.binade = 2 ^ 52 := rfl
    have hinf : double.infRung = 2047 * 2 ^ 52 := rfl
    rw [hbin, hinf]
    unfold fw Format.word
    rw [if_neg h0]
    simp only [Bool.false_eq_true, if_false]
    apply Nat.min_eq_left
    omega

theorem write_stands {d : Datum} {n : Nat} (s : Stands d n) (h : n < 2 ^ 53) : double.write d = fw n := by
  obtain ⟨p, rfl⟩ := s
  exact near h

theorem read_fw {n : Nat} (h : n < 2 ^ 53) : Stands (double.read (fw n)) n := by
  have hs : double.signWeight = 2 ^ 63 := rfl
  have hb : double.binade = 2 ^ 52 := rfl
  have hi : double.infRung = 2047 * 2 ^ 52 := rfl
  have hlp : double.leastPlace = -1074 := by decide
  by_cases h0 : n = 0
  · subst h0
    refine ⟨1074, ?_⟩
    have e0 : fw 0 = 0 := rfl
    unfold Format.read
    rw [e0, hs, hb, hlp]
    simp only [Nat.zero_div, Nat.zero_mod, Nat.zero_mul]
    rfl
  · have hL := log2_lt h0 h
    have a := Nat.log2_self_le h0
    have b := @Nat.lt_log2_self n
    have lo : 2 ^ 52 ≤ n * 2 ^ (52 - n.log2) := by
      calc 2 ^ 52 = 2 ^ n.log2 * 2 ^ (52 - n.log2) := by rw [← Nat.pow_add]; congr 1; omega
        _ ≤ n * 2 ^ (52 - n.log2) := Nat.mul_le_mul_right _ a
    have hi2 : n * 2 ^ (52 - n.log2) < 2 ^ 53 := by
      calc n * 2 ^ (52 - n.log2) < 2 ^ (n.log2 + 1) * 2 ^ (52 - n.log2) := Nat.mul_lt_mul_of_pos_right b (Nat.two_pow_pos _)
        _ = 2 ^ 53 := by rw [← Nat.pow_add]; congr 1; omega
    refine ⟨52 - n.log2, ?_⟩
    unfold Format.read fw
    rw [if_neg h0]
    generalize n * 2 ^ (52 - n.log2) = m at lo hi2 ⊢
    simp only [hs, hb, hi, hlp]
    have e1 : ((n.log2 + 1022) * 2 ^ 52 + m) / 2 ^ 63 % 2 = 0 := by omega
    have e2 : ((n.log2 + 1022) * 2 ^ 52 + m) % 2 ^ 63 = (n.log2 + 1022) * 2 ^ 52 + m := by omega
    rw [e1, e2, if_neg (by omega), if_pos (by omega)]
    have e3 : 2 ^ 52 + ((n.log2 + 1022) * 2 ^ 52 + m) % 2 ^ 52 = m := by omega
    have e4 : ((n.log2 + 1022) * 2 ^ 52 + m) / 2 ^ 52 - 1 = n.log2 + 1022 := by omega
    rw [e3, e4]
    have e5 : (-1074 : Int) + ((n.log2 + 1022 : Nat) : Int) = -((52 - n.log2 : Nat) : Int) := by omega
    rw [e5]
    rfl

theorem sum_stands {a b : Datum} {m n : Nat} (ha : Stands a m) (hb : Stands b n) : ∃ c, a.sum b = some c ∧ Stands c (m + n) := by
  obtain ⟨p, rfl⟩ := ha
  obtain ⟨q, rfl⟩ := hb
  refine ⟨_, rfl, max p q, ?_⟩
  have hbase : min (-(p : Int)) (-(q : Int)) = -((max p q : Nat) : Int) := by omega
  simp only [hbase, signed]
  have e1 : (-(p : Int) - -((max p q : Nat) : Int)).toNat = max p q - p := by omega
  have e2 : (-(q : Int) - -((max p q : Nat) : Int)).toNat = max p q - q := by omega
  rw [e1, e2]
  simp only [Bool.false_eq_true, if_false, Nat.shiftLeft_eq, Nat.mul_assoc, ← Nat.pow_add]
  rw [show p + (max p q - p) = max p q from by omega, show q + (max p q - q) = max p q from by omega]
  have e3 : ((m * 2 ^ max p q : Nat) : Int) + ((n * 2 ^ max p q : Nat) : Int) = (((m + n) * 2 ^ max p q : Nat) : Int) := by
    rw [Nat.add_mul]; omega
  rw [e3]
  have e4 : (decide ((((m + n) * 2 ^ max p q : Nat) : Int) < 0)) = false := decide_eq_false (by omega)
  rw [e4, Int.natAbs_natCast]
  simp

theorem product_stands {a b : Datum} {m n : Nat} (ha : Stands a m) (hb : Stands b n) : ∃ c, a.product b = some c ∧ Stands c (m * n) := by
  obtain ⟨p, rfl⟩ := ha
  obtain ⟨q, rfl⟩ := hb
  refine ⟨_, rfl, p + q, ?_⟩
  have e : m * 2 ^ p * (n * 2 ^ q) = m * n * 2 ^ (p + q) := by rw [Nat.pow_add]; ac_rfl
  rw [e]
  congr 1
  omega

theorem add_fw {m n : Nat} (h : m + n < 2 ^ 53) : double.add (fw m) (fw n) = some (fw (m + n)) := by
  obtain ⟨c, hc, sc⟩ := sum_stands (read_fw (n := m) (by omega)) (read_fw (n := n) (by omega))
  unfold Format.add
  rw [hc]
  simp [write_stands sc h]

theorem mul_fw {m n : Nat} (hm : m < 2 ^ 53) (hn : n < 2 ^ 53) (h : m * n < 2 ^ 53) : double.mul (fw m) (fw n) = some (fw (m * n)) := by
  obtain ⟨c, hc, sc⟩ := product_stands (read_fw (n := m) hm) (read_fw (n := n) hn)
  unfold Format.mul
  rw [hc]
  simp [write_stands sc h]

theorem ofInt_fw {n : Nat} (h : n < 2 ^ 53) : floatOfInt .f64 (n : Int) = fw n := by
  have e := near (n := n) (p := 0) h
  simp only [floatOfInt, FloatKind.nearest, FloatKind.encode, FloatKind.format, Format.write]
  have e2 : decide ((n : Int) < 0) = false := decide_eq_false (by omega)
  rw [e2]
  simpa using e

/-- A word that is no NaN. -/
def NotNaN (x : Nat) : Prop := ∀ s t, double.read x ≠ .nan s t

theorem write_ok (d : Datum) (h : ∀ s t, d ≠ .nan s t) : NotNaN (double.write d) := by
  have hs : double.signWeight = 2 ^ 63 := rfl
  have hb : double.binade = 2 ^ 52 := rfl
  have hi : double.infRung = 2047 * 2 ^ 52 := rfl
  have key : ∀ (s : Bool) (r : Nat), r ≤ 2047 * 2 ^ 52 → NotNaN (double.word s r) := by
    intro s r hr s' t'
    unfold Format.word Format.read
    rw [hs, hb, hi]
    cases s
    · simp only [Bool.false_eq_true, if_false]
      rw [show r % 2 ^ 63 = r from by omega]
      split
      · simp
      · split
        · simp
        · rw [if_pos (by omega)]; simp
    · simp only [if_true]
      rw [show (2 ^ 63 + r) % 2 ^ 63 = r from by omega]
      split
      · simp
      · split
        · simp
        · rw [if_pos (by omega)]; simp
  cases d with
  | number neg mag place =>
    show NotNaN (double.nearest neg mag place)
    unfold Format.nearest
    split
    · exact key _ _ (by omega)
    · exact key _ _ (by rw [hi]; exact Nat.min_le_right _ _)
  | infinity neg => exact key _ _ (by rw [hi]; exact Nat.le_refl _)
  | nan s t => exact absurd rfl (h s t)

theorem div_ok {x y r : Nat} (h : double.div x y = some r) : NotNaN r := by
  unfold Format.div at h
  cases hq : (double.read x).quotient (double.fractionBits + 2) (double.read y) with
  | none => rw [hq] at h; cases h
  | some d =>
    rw [hq] at h
    cases h
    refine write_ok d ?_
    intro s t e
    subst e
    unfold Datum.quotient at hq
    split at hq <;> try (cases hq; done)
    split at hq
    · split at hq <;> cases hq
    · cases hq

theorem order_self {x : Nat} (h : NotNaN x) : double.order x x = some .eq := by
  unfold Format.order
  unfold NotNaN at h
  generalize double.read x = d at h
  cases d with
  | number s m p => simp [Datum.order]
  | infinity s => simp [Datum.order]
  | nan s t => exact absurd rfl (h s t)

theorem order_nan {x y : Nat} (s : Bool) (t : Nat) (h : double.read x = .nan s t) : double.order x y = none := by
  unfold Format.order
  rw [h]
  rfl

theorem nan_cut (a b t : Nat) : ∃ s u, double.read (Question.cut (.nanBits .f64 a b) t) = .nan s u := by
  have hs : double.signWeight = 2 ^ 63 := rfl
  have hb : double.binade = 2 ^ 52 := rfl
  have hi : double.infRung = 2047 * 2 ^ 52 := rfl
  unfold Format.read Question.cut
  rw [hs, hb, hi]
  have e : (t % 2 * 2 ^ 63 + 9218868437227405312 + 1 + t / 2 % (2 ^ 52 - 1)) % 2 ^ 63 = 9218868437227405312 + 1 + t / 2 % (2 ^ 52 - 1) := by omega
  rw [e, if_neg (by omega), if_neg (by omega), if_neg (by omega)]
  exact ⟨_, _, rfl⟩
end Go.Proofs.Ybulkbcck
