/- Whole numbers below 2^53 as floating-point numbers: what they stand for, their order, their sums. -/
import GoSem.Core.Float
namespace Go.Fl
open Ieee

/-- The word of a whole number. -/
def enc (n : Int) : Nat := FloatKind.f64.nearest n

theorem log2_lt {m : Nat} (h : m < 2 ^ 53) (h0 : m ≠ 0) : m.log2 ≤ 52 := by
  have := (Nat.log2_lt h0 (k := 53)).2 h
  omega

/-- What a number below 2^53 keeps: its digits, shifted up to 53. -/
theorem cut_zero (neg : Bool) (n : Nat) : Toward.even.cut neg n 0 = n := by
  simp [Toward.cut, Nat.mod_one]

theorem lp : Ieee.double.leastPlace = -1074 := by decide
theorem fb : Ieee.double.fractionBits = 52 := rfl
theorem bin : Ieee.double.binade = 2 ^ 52 := rfl
theorem infr : Ieee.double.infRung = 2047 * 2 ^ 52 := by decide
theorem sw : Ieee.double.signWeight = 2 ^ 63 := by decide

/-- The digits of m, 53 of them. -/
def dig (m : Nat) : Nat := m * 2 ^ (52 - m.log2)

theorem dig_bounds {m : Nat} (h : m < 2 ^ 53) (h0 : m ≠ 0) : 2 ^ 52 ≤ dig m ∧ dig m < 2 ^ 53 := by
  have hl := log2_lt h h0
  have h1 : 2 ^ m.log2 ≤ m := Nat.log2_self_le h0
  have h2 : m < 2 ^ (m.log2 + 1) := Nat.lt_log2_self
  unfold dig
  constructor
  · calc 2 ^ 52 = 2 ^ m.log2 * 2 ^ (52 - m.log2) := by rw [← Nat.pow_add]; congr 1; omega
      _ ≤ m * 2 ^ (52 - m.log2) := Nat.mul_le_mul_right _ h1
  · calc m * 2 ^ (52 - m.log2) < 2 ^ (m.log2 + 1) * 2 ^ (52 - m.log2) := Nat.mul_lt_mul_of_pos_right h2 (Nat.pow_pos (by decide))
      _ = 2 ^ 53 := by rw [← Nat.pow_add]; congr 1; omega

/-- A whole number m * 2^k at the place -k is written as m at the place 0. -/
theorem nearest_scaled (neg : Bool) (m k : Nat) (h : m < 2 ^ 53) (h0 : m ≠ 0) :
    Ieee.double.nearest neg (m * 2 ^ k) (-(k : Int)) = Ieee.double.word neg ((m.log2 + 1022) * 2 ^ 52 + dig m) := by
  have hl := log2_lt h h0
  have hmk : m * 2 ^ k ≠ 0 := Nat.mul_ne_zero h0 (by simp [Nat.pow_eq_zero])
  have hlog : (m * 2 ^ k).log2 = m.log2 + k := by
    rw [Nat.log2_eq_iff hmk]
    have h1 : 2 ^ m.log2 ≤ m := Nat.log2_self_le h0
    have h2 : m < 2 ^ (m.log2 + 1) := Nat.lt_log2_self
    constructor
    · rw [Nat.pow_add]; exact Nat.mul_le_mul_right _ h1
    · calc m * 2 ^ k < 2 ^ (m.log2 + 1) * 2 ^ k := Nat.mul_lt_mul_of_pos_right h2 (Nat.pow_pos (by decide))
        _ = 2 ^ (m.log2 + k + 1) := by rw [← Nat.pow_add]; congr 1; omega
  unfold Format.nearest
  rw [if_neg hmk, hlog, lp, fb]
  have hlast : max (-(k : Int) + ((m.log2 + k : Nat) : Int) - (52 : Nat)) (-1074) = (m.log2 : Int) - 52 := by omega
  simp only [hlast]
  have hkept : Toward.even.cut neg ((m * 2 ^ k) <<< (-(k : Int) - ((m.log2 : Int) - 52)).toNat) (((m.log2 : Int) - 52) - -(k : Int)).toNat = dig m := by
    by_cases hc : 52 ≤ m.log2 + k
    · have e1 : (-(k : Int) - ((m.log2 : Int) - 52)).toNat = 0 := by omega
      have e2 : (((m.log2 : Int) - 52) - -(k : Int)).toNat = m.log2 + k - 52 := by omega
      rw [e1, e2, Nat.shiftLeft_zero]
      have hn : m * 2 ^ k = dig m * 2 ^ (m.log2 + k - 52) := by
        unfold dig
        rw [Nat.mul_assoc, ← Nat.pow_add]
        congr 2
        omega
      have hmin : min (m.log2 + k - 52) ((m * 2 ^ k).log2 + 2) = m.log2 + k - 52 := by rw [hlog]; omega
      unfold Toward.cut
      simp only [hmin]
      rw [hn, Nat.one_shiftLeft]
      rw [Nat.mul_div_cancel _ (Nat.pow_pos (by decide)), Nat.mul_mod_left]
      have hp : 0 < 2 ^ (m.log2 + k - 52) := Nat.pow_pos (by decide)
      have hne : (2 ^ (m.log2 + k - 52) == 0) = false := by simp [Nat.pow_eq_zero]
      simp [hne]
    · have e1 : (-(k : Int) - ((m.log2 : Int) - 52)).toNat = 52 - m.log2 - k := by omega
      have e2 : (((m.log2 : Int) - 52) - -(k : Int)).toNat = 0 := by omega
      rw [e1, e2, cut_zero, Nat.shiftLeft_eq]
      unfold dig
      rw [Nat.mul_assoc, ← Nat.pow_add]
      congr 2
      omega
  rw [hkept, bin, infr]
  have e3 : ((m.log2 : Int) - 52 - -1074).toNat = m.log2 + 1022 := by omega
  rw [e3]
  have hd := dig_bounds h h0
  rw [Nat.min_eq_left]
  omega

theorem enc_zero : enc 0 = 0 := by decide

theorem enc_eq {n : Int} (h : n.natAbs < 2 ^ 53) (h0 : n ≠ 0) : enc n = Ieee.double.word (n < 0) ((n.natAbs.log2 + 1022) * 2 ^ 52 + dig n.natAbs) := by
  have := nearest_scaled (decide (n < 0)) n.natAbs 0 h (by omega)
  simp only [Nat.pow_zero, Nat.mul_one] at this
  simpa [enc, FloatKind.nearest, FloatKind.encode, FloatKind.format, Format.write] using this

theorem p52 : (2 : Nat) ^ 52 = 4503599627370496 := by decide
theorem p53 : (2 : Nat) ^ 53 = 9007199254740992 := by decide
theorem p63 : (2 : Nat) ^ 63 = 9223372036854775808 := by decide

theorem read_rung (neg : Bool) (r q d : Nat) (hq : q ≤ 1074) (hd1 : 4503599627370496 ≤ d) (hd2 : d < 9007199254740992) (hr : r = q * 4503599627370496 + d) :
    Ieee.double.read (Ieee.double.word neg r) = .number neg d ((q : Int) - 1074) := by
  have hneg : ((Ieee.double.word neg r) / 9223372036854775808 % 2 == 1) = neg := by
    unfold Format.word
    rw [sw, p63]
    cases neg
    · simp; omega
    · simp; omega
  have hmod : (Ieee.double.word neg r) % 9223372036854775808 = r := by
    unfold Format.word
    rw [sw, p63]
    cases neg
    · simp; omega
    · simp; omega
  unfold Format.read
  simp only [sw, p63, hneg, hmod, bin, infr, lp, p52]
  have c1 : ¬ r < 4503599627370496 := by omega
  have c2 : r < 2047 * 4503599627370496 := by omega
  rw [if_neg c1, if_pos c2]
  have e1 : 4503599627370496 + r % 4503599627370496 = d := by omega
  have e2 : r / 4503599627370496 - 1 = q := by omega
  rw [e1, e2]
  congr 1

theorem read_word (neg : Bool) (m : Nat) (h : m < 2 ^ 53) (h0 : m ≠ 0) :
    Ieee.double.read (Ieee.double.word neg ((m.log2 + 1022) * 2 ^ 52 + dig m)) = .number neg (dig m) ((m.log2 : Int) - 52) := by
  have hl := log2_lt h h0
  have hd := dig_bounds h h0
  rw [p52, p53] at hd
  rw [p52]
  rw [read_rung neg _ (m.log2 + 1022) (dig m) (by omega) hd.1 hd.2 rfl]
  have e : (((m.log2 + 1022 : Nat) : Int) - 1074) = (m.log2 : Int) - 52 := by omega
  rw [e]

/-- What a word of a whole number stands for. -/
theorem read_enc {n : Int} (h : n.natAbs < 2 ^ 53) : ∃ neg m p, Ieee.double.read (enc n) = .number neg m p ∧ p ≤ 0 ∧ (n = 0 → neg = false) ∧ (n ≠ 0 → neg = decide (n < 0)) ∧
    ∀ base : Int, base ≤ p → signed neg m (p - base).toNat = n * 2 ^ (-base).toNat := by
  by_cases h0 : n = 0
  · subst h0
    refine ⟨false, 0, -1074, by decide, by decide, fun _ => rfl, fun h => absurd rfl h, fun base _ => by simp [signed]⟩
  · refine ⟨decide (n < 0), dig n.natAbs, (n.natAbs.log2 : Int) - 52, ?_, ?_, fun h => absurd h h0, fun _ => rfl, ?_⟩
    · rw [enc_eq h h0]
      exact read_word _ _ h (by omega)
    · have := log2_lt h (m := n.natAbs) (by omega); omega
    · intro base hb
      have hl := log2_lt h (m := n.natAbs) (by omega)
      have hk : dig n.natAbs <<< ((n.natAbs.log2 : Int) - 52 - base).toNat = n.natAbs * 2 ^ (-base).toNat := by
        rw [Nat.shiftLeft_eq]
        unfold dig
        rw [Nat.mul_assoc, ← Nat.pow_add]
        congr 2
        omega
      unfold signed
      rw [hk]
      have hpow : ((2 ^ (-base).toNat : Nat) : Int) = 2 ^ (-base).toNat := by simp
      by_cases hn : n < 0
      · simp only [hn, decide_true, if_true]
        rw [Int.natCast_mul, hpow, ← Int.neg_mul]
        congr 1
        omega
      · simp only [hn, decide_false]
        rw [if_neg (by simp), Int.natCast_mul, hpow]
        congr 1
        omega

theorem compare_mul (a b k : Int) (hk : 0 < k) : compare (a * k) (b * k) = compare a b := by
  rw [Int.compare_eq_ite_lt, Int.compare_eq_ite_lt]
  have h1 : a * k < b * k ↔ a < b := Int.mul_lt_mul_right hk
  have h2 : b * k < a * k ↔ b < a := Int.mul_lt_mul_right hk
  simp only [h1, h2]

/-- The order of the words is that of the whole numbers. -/
theorem order_enc {a b : Int} (ha : a.natAbs < 2 ^ 53) (hb : b.natAbs < 2 ^ 53) : Ieee.double.order (enc a) (enc b) = some (compare a b) := by
  obtain ⟨s, m, i, h1, _, _, _, h2⟩ := read_enc ha
  obtain ⟨t, n, j, h3, _, _, _, h4⟩ := read_enc hb
  unfold Format.order
  rw [h1, h3]
  simp only [Datum.order]
  rw [h2 _ (Int.min_le_left _ _), h4 _ (Int.min_le_right _ _)]
  congr 1
  exact compare_mul _ _ _ (Int.pow_pos (by decide))

/-- The sum of the words is the word of the sum. -/
theorem add_enc {a b : Int} (ha : a.natAbs < 2 ^ 53) (hb : b.natAbs < 2 ^ 53) (hc : (a + b).natAbs < 2 ^ 53) : Ieee.double.add (enc a) (enc b) = some (enc (a + b)) := by
  obtain ⟨s, m, i, h1, hi, s0, s1, h2⟩ := read_enc ha
  obtain ⟨t, n, j, h3, hj, t0, t1, h4⟩ := read_enc hb
  unfold Format.add
  rw [h1, h3]
  simp only [Datum.sum, Option.map_some, Option.some.injEq]
  rw [h2 _ (Int.min_le_left _ _), h4 _ (Int.min_le_right _ _), ← Int.add_mul]
  generalize hbase : min i j = base
  have hb0 : base ≤ 0 := by omega
  obtain ⟨k, rfl⟩ : ∃ k : Nat, base = -(k : Int) := ⟨(-base).toNat, by omega⟩
  have ek : (-(-(k : Int))).toNat = k := by omega
  rw [ek]
  have hp : (0 : Int) < 2 ^ k := Int.pow_pos (by decide)
  by_cases h0 : a + b = 0
  · rw [h0, Int.zero_mul, if_pos rfl]
    have hst : (s && t) = false := by
      by_cases ha0 : a = 0
      · rw [s0 ha0]; rfl
      · by_cases hb0' : b = 0
        · rw [t0 hb0']; simp
        · rw [s1 ha0, t1 hb0']
          by_cases hn : a < 0
          · have : ¬ b < 0 := by omega
            simp [this]
          · simp [hn]
    rw [hst, enc_zero]
    simp [Format.write, Format.nearest, Format.word]
  · have hne : (a + b) * 2 ^ k ≠ 0 := Int.mul_ne_zero h0 (by omega)
    rw [if_neg hne, enc_eq hc h0]
    simp only [Format.write]
    have habs : ((a + b) * 2 ^ k).natAbs = (a + b).natAbs * 2 ^ k := by
      rw [Int.natAbs_mul]
      congr 1
    have hsgn : decide ((a + b) * 2 ^ k < 0) = decide (a + b < 0) := by
      congr 1
      apply propext
      constructor
      · intro h
        rcases Int.lt_trichotomy (a + b) 0 with h' | h' | h'
        · exact h'
        · exact absurd h' h0
        · have := Int.mul_pos h' hp; omega
      · intro h
        exact Int.mul_neg_of_neg_of_pos h hp
    rw [habs, hsgn]
    exact nearest_scaled _ _ _ hc (by omega)

end Go.Fl
