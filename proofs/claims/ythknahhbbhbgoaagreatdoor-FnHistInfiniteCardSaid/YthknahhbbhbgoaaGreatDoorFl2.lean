/- The order of floating-point numbers, by a whole number for each that is not NaN. For every two words. -/
import Derived.Test.YthknahhbbhbgoaaGreatDoorFl1
namespace Go.Fl
open Ieee

/-- A great number, above every finite one at its scale. -/
def te : Nat := 2100
def top : Int := ((2 ^ te : Nat) : Int)

def drank : Datum → Option Int
  | .number s m i => some (signed s m (i + 1074).toNat)
  | .infinity s => some (if s then -top else top)
  | .nan .. => none

/-- The rank of a word; none: it is NaN. -/
def rank (x : Nat) : Option Int := drank (double.read x)

/-- What a word may read as. -/
def Datum.fair : Datum → Prop
  | .number _ m i => m < 2 ^ 53 ∧ -1074 ≤ i ∧ i ≤ 971
  | _ => True

theorem read_fair (x : Nat) : Datum.fair (double.read x) := by
  unfold Format.read
  simp only [bin, infr, lp]
  split
  · rename_i h
    simp only [Datum.fair]
    refine ⟨?_, by omega, by omega⟩
    have : (2 : Nat) ^ 52 < 2 ^ 53 := by decide
    omega
  · rename_i h
    split
    · rename_i h2
      simp only [Datum.fair]
      have p52 : (2 : Nat) ^ 52 = 4503599627370496 := by decide
      have p53 : (2 : Nat) ^ 53 = 9007199254740992 := by decide
      rw [p52] at h h2 ⊢
      rw [p53]
      refine ⟨by omega, by omega, by omega⟩
    · split <;> trivial

theorem signed_mul (s : Bool) (m a k : Nat) : signed s m a * ((2 ^ k : Nat) : Int) = signed s m (a + k) := by
  unfold signed
  have h : m <<< (a + k) = m <<< a * 2 ^ k := by rw [Nat.shiftLeft_add, Nat.shiftLeft_eq (m <<< a)]
  split
  · rw [h, Int.natCast_mul, Int.neg_mul]
  · rw [h, Int.natCast_mul]

theorem signed_lt {s : Bool} {m a : Nat} (hm : m < 2 ^ 53) (ha : a ≤ 2045) : -top < signed s m a ∧ signed s m a < top := by
  have h1 : m <<< a < 2 ^ te := by
    rw [Nat.shiftLeft_eq]
    have h0 : m * 2 ^ a < 2 ^ 53 * 2 ^ a := Nat.mul_lt_mul_of_pos_right hm (Nat.pow_pos (by decide))
    rw [← Nat.pow_add] at h0
    exact Nat.lt_of_lt_of_le h0 (Nat.pow_le_pow_right (by decide) (by unfold te; omega))
  have h3 : ((m <<< a : Nat) : Int) < top := Int.ofNat_lt.2 h1
  have h4 : (0 : Int) ≤ ((m <<< a : Nat) : Int) := Int.natCast_nonneg _
  unfold signed
  generalize ((m <<< a : Nat) : Int) = q at *
  split <;> constructor <;> omega

theorem compare_lt {a b : Int} (h : a < b) : compare a b = .lt := by rw [Int.compare_eq_ite_lt]; simp [h]
theorem compare_gt {a b : Int} (h : b < a) : compare a b = .gt := by
  rw [Int.compare_eq_ite_lt]
  rw [if_neg (by omega), if_pos h]
theorem compare_self (a : Int) : compare a a = .eq := by rw [Int.compare_eq_ite_lt]; simp

theorem top_pos : 0 < top := Int.ofNat_lt.2 (Nat.pow_pos (by decide))

/-- The order of two words is that of their ranks. -/
theorem order_rank (x y : Nat) : double.order x y = match rank x, rank y with | some a, some b => some (compare a b) | _, _ => none := by
  unfold Format.order rank
  have hx := read_fair x
  have hy := read_fair y
  generalize double.read x = d at *
  generalize double.read y = e at *
  have ht := top_pos
  cases d with
  | nan s f => cases e <;> rfl
  | infinity s =>
    cases e with
    | nan t f => rfl
    | infinity t =>
      simp only [Datum.order, drank]
      cases s <;> cases t <;> simp only [Bool.false_eq_true, if_true, if_false, Bool.toNat_true, Bool.toNat_false]
      · rw [compare_self]; rfl
      · rw [compare_gt (by omega)]; rfl
      · rw [compare_lt (by omega)]; rfl
      · rw [compare_self]; rfl
    | number t n j =>
      simp only [Datum.order, drank]
      obtain ⟨h1, h2, h3⟩ := hy
      have := signed_lt (s := t) h1 (a := (j + 1074).toNat) (by omega)
      cases s <;> simp only [Bool.false_eq_true, if_true, if_false]
      · rw [compare_gt (by omega)]
      · rw [compare_lt (by omega)]
  | number s m i =>
    obtain ⟨g1, g2, g3⟩ := hx
    have hs := signed_lt (s := s) g1 (a := (i + 1074).toNat) (by omega)
    cases e with
    | nan t f => rfl
    | infinity t =>
      simp only [Datum.order, drank]
      cases t <;> simp only [Bool.false_eq_true, if_true, if_false]
      · rw [compare_lt (by omega)]
      · rw [compare_gt (by omega)]
    | number t n j =>
      obtain ⟨h1, h2, h3⟩ := hy
      simp only [Datum.order, drank]
      congr 1
      rw [← compare_mul _ _ ((2 ^ (min i j + 1074).toNat : Nat) : Int) (by
        have : 0 < 2 ^ (min i j + 1074).toNat := Nat.pow_pos (by decide)
        omega)]
      rw [signed_mul, signed_mul]
      congr 2 <;> omega

/-- x ≤ y, as Go compares. -/
def fle (x y : Nat) : Bool := double.order x y == some .lt || double.order x y == some .eq
/-- x < y. -/
def flt (x y : Nat) : Bool := double.order x y == some .lt

theorem fle_iff {x y : Nat} : fle x y = true ↔ ∃ a b, rank x = some a ∧ rank y = some b ∧ a ≤ b := by
  unfold fle
  rw [order_rank]
  cases hx : rank x with
  | none => simp
  | some a =>
    cases hy : rank y with
    | none => simp
    | some b =>
      simp only [Bool.or_eq_true, beq_iff_eq, Option.some.injEq, exists_and_left, exists_eq_left']
      rw [Int.compare_eq_ite_lt]
      by_cases h1 : a < b
      · rw [if_pos h1]; simp; omega
      · rw [if_neg h1]
        by_cases h2 : b < a
        · rw [if_pos h2]; simp; omega
        · rw [if_neg h2]; simp; omega

theorem flt_iff {x y : Nat} : flt x y = true ↔ ∃ a b, rank x = some a ∧ rank y = some b ∧ a < b := by
  unfold flt
  rw [order_rank]
  cases hx : rank x with
  | none => simp
  | some a =>
    cases hy : rank y with
    | none => simp
    | some b =>
      simp only [beq_iff_eq, Option.some.injEq, exists_and_left, exists_eq_left']
      rw [Int.compare_eq_ite_lt]
      by_cases h1 : a < b
      · rw [if_pos h1]; simp; omega
      · rw [if_neg h1]
        by_cases h2 : b < a
        · rw [if_pos h2]; simp; omega
        · rw [if_neg h2]; simp; omega

/-- The order turned about. -/
theorem order_swap (x y : Nat) : double.order x y = (double.order y x).map Ordering.swap := by
  rw [order_rank, order_rank]
  cases rank x <;> cases rank y <;> simp
  rename_i a b
  rw [Int.compare_eq_ite_lt, Int.compare_eq_ite_lt]
  by_cases h1 : a < b
  · rw [if_pos h1, if_neg (by omega), if_pos h1]; rfl
  · rw [if_neg h1]
    by_cases h2 : b < a
    · rw [if_pos h2, if_pos h2]; rfl
    · rw [if_neg h2, if_neg h2, if_neg h1]; rfl

/-- x ≥ y, as Go compares. -/
theorem fge_eq (x y : Nat) : (double.order x y == some .gt || double.order x y == some .eq) = fle y x := by
  unfold fle
  rw [order_swap x y]
  cases double.order y x with
  | none => rfl
  | some o => cases o <;> rfl

/-- x > y. -/
theorem fgt_eq (x y : Nat) : (double.order x y == some .gt) = flt y x := by
  unfold flt
  rw [order_swap x y]
  cases double.order y x with
  | none => rfl
  | some o => cases o <;> rfl

theorem fle_lt_trans {x y z : Nat} (h1 : fle x y = true) (h2 : flt y z = true) : fle x z = true := by
  obtain ⟨a, b, ha, hb, hab⟩ := fle_iff.1 h1
  obtain ⟨b', c, hb', hc, hbc⟩ := flt_iff.1 h2
  rw [hb] at hb'
  cases hb'
  exact fle_iff.2 ⟨a, c, ha, hc, by omega⟩

/-- Bounds in increasing order. -/
def Inc (x : Nat → Nat) (n : Nat) : Prop := ∀ i, i + 1 < n → flt (x i) (x (i + 1)) = true

theorem Inc.lt {x : Nat → Nat} {n : Nat} (h : Inc x n) : ∀ {i j : Nat}, i < j → j < n → flt (x i) (x j) = true := by
  intro i j hij hj
  induction j with
  | zero => omega
  | succ j ih =>
    by_cases e : i = j
    · subst e; exact h i hj
    · obtain ⟨a, b, ha, hb, hab⟩ := flt_iff.1 (ih (by omega) (by omega))
      obtain ⟨b', c, hb', hc, hbc⟩ := flt_iff.1 (h j hj)
      rw [hb] at hb'
      cases hb'
      exact flt_iff.2 ⟨a, c, ha, hc, by omega⟩

theorem Inc.le {x : Nat → Nat} {n : Nat} (h : Inc x n) {v i j : Nat} (hij : i ≤ j) (hj : j < n) (hv : fle v (x i) = true) : fle v (x j) = true := by
  by_cases e : i = j
  · subst e; exact hv
  · exact fle_lt_trans hv (h.lt (by omega) hj)

/-- The bucket of a number: the first bound that is not less; n: none. -/
def place (x : Nat → Nat) (v : Nat) : Nat → Nat
  | 0 => 0
  | n + 1 => if place x v n < n then place x v n else if fle v (x n) then n else n + 1

theorem place_le (x : Nat → Nat) (v : Nat) : ∀ n, place x v n ≤ n
  | 0 => Nat.le_refl _
  | n + 1 => by
    have := place_le x v n
    unfold place
    split
    · omega
    · split <;> omega

/-- What the place says. -/
theorem place_spec {x : Nat → Nat} {v : Nat} : ∀ {n : Nat}, (∀ i, i < place x v n → fle v (x i) = false) ∧ (place x v n < n → fle v (x (place x v n)) = true)
  | 0 => ⟨fun i hi => by simp [place] at hi, fun h => by simp [place] at h⟩
  | n + 1 => by
    obtain ⟨h1, h2⟩ := place_spec (x := x) (v := v) (n := n)
    have h3 := place_le x v n
    unfold place
    split
    · rename_i h
      exact ⟨h1, fun _ => h2 h⟩
    · rename_i h
      have e : place x v n = n := by omega
      rw [e] at h1
      split
      · rename_i hv
        exact ⟨h1, fun _ => hv⟩
      · rename_i hv
        refine ⟨fun i hi => ?_, fun h => by omega⟩
        by_cases ei : i = n
        · subst ei; simpa using hv
        · exact h1 i (by omega)

theorem place_eq {x : Nat → Nat} {v n k : Nat} (hk : k ≤ n) (h1 : ∀ i, i < k → fle v (x i) = false) (h2 : k < n → fle v (x k) = true) : place x v n = k := by
  obtain ⟨g1, g2⟩ := place_spec (x := x) (v := v) (n := n)
  have g3 := place_le x v n
  rcases Nat.lt_trichotomy (place x v n) k with h | h | h
  · have := h1 _ h
    rw [g2 (by omega)] at this
    cases this
  · exact h
  · have := g1 _ h
    rw [h2 (by omega)] at this
    cases this

theorem Inc.place_iff {x : Nat → Nat} {n : Nat} (h : Inc x n) (v : Nat) {i : Nat} (hi : i < n) : place x v n ≤ i ↔ fle v (x i) = true := by
  obtain ⟨g1, g2⟩ := place_spec (x := x) (v := v) (n := n)
  constructor
  · intro hp
    exact h.le hp hi (g2 (by omega))
  · intro hv
    by_cases hp : place x v n ≤ i
    · exact hp
    · have := g1 i (by omega)
      rw [hv] at this
      cases this

end Go.Fl
