/- Plain laws of a histogram's counts, sums and bounds; the contract of histLives: it answers true. For every world in which the separator's slice lies. -/
import Derived.Test.YthknahhbbhbgoaaGreatDoorVRun
import Derived.Test.YthknahhbbhbgoaaGreatDoorVSteps
namespace Go.Fl
open Ieee

/-- Equal, or both NaN. -/
def alike (a b : Nat) : Prop := a = b ∨ (rank a = none ∧ rank b = none)

theorem order_self (a : Nat) : double.order a a = (rank a).map fun _ => .eq := by
  rw [order_rank]
  cases rank a with
  | none => rfl
  | some r => simp

theorem order_none {a : Nat} (b : Nat) (h : rank a = none) : double.order a b = none := by
  rw [order_rank, h]

/-- What SameNum computes. -/
theorem alike_test {a b : Nat} (h : alike a b) : (double.order a b == some .eq || ((double.order a a != some .eq) && (double.order b b != some .eq))) = true := by
  rcases h with rfl | ⟨h1, h2⟩
  · rw [order_self]
    cases rank a <;> rfl
  · rw [order_none b h1, order_none a h1, order_none b h2]
    rfl

theorem add_nan {a b : Nat} (h : rank a = none) : double.add a b = none := by
  unfold rank at h
  unfold Format.add
  cases e : double.read a with
  | nan s f => cases double.read b <;> rfl
  | infinity s => rw [e] at h; simp [drank] at h
  | number s m i => rw [e] at h; simp [drank] at h

theorem rank_max : rank 9218868437227405311 = some (signed false (2 ^ 53 - 1) 2045) := rfl
theorem rank_inf : rank 9218868437227405312 = some top := rfl

theorem rank_le_top {v : Nat} {b : Int} (h : rank v = some b) : b ≤ top := by
  unfold rank at h
  have hf := read_fair v
  have ht := top_pos
  cases e : double.read v with
  | nan s f => rw [e] at h; simp [drank] at h
  | infinity s =>
    rw [e] at h
    simp only [drank, Option.some.injEq] at h
    subst h
    cases s <;> simp <;> omega
  | number s m i =>
    rw [e] at h hf
    obtain ⟨h1, h2, h3⟩ := hf
    simp only [drank, Option.some.injEq] at h
    subst h
    have := (signed_lt (s := s) h1 (a := (i + 1074).toNat) (by omega)).2
    omega

theorem signed_le_max {s : Bool} {m a k : Nat} (hm : m < 2 ^ 53) (ha : a ≤ k) : signed s m a ≤ signed false (2 ^ 53 - 1) k := by
  have h1 : m <<< a ≤ (2 ^ 53 - 1) <<< k := by
    rw [Nat.shiftLeft_eq, Nat.shiftLeft_eq]
    exact Nat.mul_le_mul (by omega) (Nat.pow_le_pow_right (by decide) ha)
  have h3 : ((m <<< a : Nat) : Int) ≤ (((2 ^ 53 - 1) <<< k : Nat) : Int) := Int.ofNat_le.2 h1
  have h4 : (0 : Int) ≤ ((m <<< a : Nat) : Int) := Int.natCast_nonneg _
  unfold signed
  generalize ((m <<< a : Nat) : Int) = q at *
  generalize ((((2 ^ 53 - 1) <<< k : Nat)) : Int) = p at *
  cases s <;> simp <;> omega

/-- Above every finite number: plus infinity. -/
theorem flt_max {v : Nat} (h : flt 9218868437227405311 v = true) : rank v = some top := by
  obtain ⟨a, b, ha, hb, hab⟩ := flt_iff.1 h
  rw [rank_max] at ha
  cases ha
  rw [hb]
  unfold rank at hb
  have hf := read_fair v
  cases e : double.read v with
  | nan s f => rw [e] at hb; simp [drank] at hb
  | infinity s =>
    rw [e] at hb
    simp only [drank, Option.some.injEq] at hb
    cases s
    · simp at hb; rw [hb]
    · simp at hb
      subst hb
      have h0 : (0 : Int) ≤ signed false (2 ^ 53 - 1) 2045 := by
        unfold signed
        simp only [Bool.false_eq_true, if_false]
        exact Int.natCast_nonneg _
      have := top_pos
      omega
  | number s m i =>
    rw [e] at hb hf
    obtain ⟨h1, h2, h3⟩ := hf
    simp only [drank, Option.some.injEq] at hb
    subst hb
    have := signed_le_max (s := s) h1 (a := (i + 1074).toNat) (k := 2045) (by omega)
    omega

theorem fle_enc {a b : Int} (ha : a.natAbs < 2 ^ 53) (hb : b.natAbs < 2 ^ 53) : fle (enc a) (enc b) = decide (a ≤ b) := by
  unfold fle
  rw [order_enc ha hb, Int.compare_eq_ite_lt]
  by_cases h1 : a < b
  · rw [if_pos h1, decide_eq_true (by omega)]; rfl
  · rw [if_neg h1]
    by_cases h2 : b < a
    · rw [if_pos h2, decide_eq_false (by omega)]; rfl
    · rw [if_neg h2, decide_eq_true (by omega)]; rfl

theorem flt_enc {a b : Int} (ha : a.natAbs < 2 ^ 53) (hb : b.natAbs < 2 ^ 53) : flt (enc a) (enc b) = decide (a < b) := by
  unfold flt
  rw [order_enc ha hb, Int.compare_eq_ite_lt]
  by_cases h1 : a < b
  · rw [if_pos h1, decide_eq_true h1]; rfl
  · rw [if_neg h1, decide_eq_false h1]
    by_cases h2 : b < a
    · rw [if_pos h2]; rfl
    · rw [if_neg h2]; rfl

theorem flt_fle {a b : Nat} (h : flt a b = true) : fle b a = false := by
  obtain ⟨p, q, hp, hq, hpq⟩ := flt_iff.1 h
  cases e : fle b a with
  | false => rfl
  | true =>
    obtain ⟨q', p', hq', hp', hqp⟩ := fle_iff.1 e
    rw [hp] at hp'
    rw [hq] at hq'
    cases hp'
    cases hq'
    omega

end Go.Fl

namespace Go.Sx
open Go Go.Proofs Go.Fl

theorem infb_flt (v : Nat) : infb v = flt 9218868437227405311 v := fgt_eq v 9218868437227405311

theorem infb_inf : infb 9218868437227405312 = true := by
  rw [infb_flt]
  exact flt_iff.2 ⟨_, _, rank_max, rank_inf, (signed_lt (by decide) (by decide)).2⟩

theorem infb_lt {a b : Nat} (h : flt a b = true) : infb a = false := by
  cases e : infb a with
  | false => rfl
  | true =>
    rw [infb_flt] at e
    have hr := flt_max e
    obtain ⟨p, q, hp, hq, hpq⟩ := flt_iff.1 h
    rw [hr] at hp
    cases hp
    have := rank_le_top hq
    omega

theorem infb_top {v : Nat} {a : Int} (h : rank v = some a) (ht : infb v = false) : a < top := by
  by_cases e : a < top
  · exact e
  · have h2 := rank_le_top h
    have e2 : a = top := by omega
    subst e2
    have : infb v = true := by
      rw [infb_flt]
      exact flt_iff.2 ⟨_, _, rank_max, h, (signed_lt (by decide) (by decide)).2⟩
    rw [this] at ht
    cases ht

theorem fle_inf {v : Nat} (h : infb v = false) : fle 9218868437227405312 v = false := by
  cases e : fle 9218868437227405312 v with
  | false => rfl
  | true =>
    obtain ⟨a, b, ha, hb, hab⟩ := fle_iff.1 e
    rw [rank_inf] at ha
    cases ha
    have := infb_top hb h
    omega

theorem cum_zero : ∀ j, cum (fun _ => 0) j = 0
  | 0 => rfl
  | j + 1 => by simp [cum, cum_zero j]

/-- How many of the first numbers are at most b. -/
def upto (l : Nat → Nat) (b : Nat) : Nat → Nat
  | 0 => 0
  | j + 1 => upto l b j + (if fle (l j) b = true then 1 else 0)

/-- The cumulated counts are how many numbers are at most the bound. -/
theorem cum_cnts {x l : Nat → Nat} {n : Nat} (h : Inc x n) {i : Nat} (hi : i < n) : ∀ m, cum (cnts x l n m) (i + 1) = upto l (x i) m
  | 0 => cum_zero _
  | m + 1 => by
    simp only [cnts, cum_bump, upto, cum_cnts h hi m]
    congr 1
    have hp := h.place_iff (l m) hi
    by_cases hv : fle (l m) (x i) = true
    · rw [if_pos (by have := hp.2 hv; omega), if_pos hv]
    · rw [if_neg (by intro hc; exact hv (hp.1 (by omega))), if_neg hv]

/-- How many of the first whole numbers are at most b. -/
def tupto (t : Nat → Int) (b : Int) : Nat → Nat
  | 0 => 0
  | j + 1 => tupto t b j + (if t j ≤ b then 1 else 0)

theorem upto_enc (t : Nat → Int) (b : Int) (hb : b.natAbs < 2 ^ 53) : ∀ m, (∀ j, j < m → (t j).natAbs < 2 ^ 53) → upto (fun j => enc (t j)) (enc b) m = tupto t b m
  | 0, _ => rfl
  | m + 1, h => by
    simp only [upto, tupto, upto_enc t b hb m (fun j hj => h j (by omega)), fle_enc (h m (by omega)) hb, decide_eq_true_eq]

theorem tupto_le (t : Nat → Int) (b : Int) : ∀ m, tupto t b m ≤ m
  | 0 => Nat.le_refl 0
  | m + 1 => by
    have := tupto_le t b m
    simp only [tupto]
    split <;> omega

theorem rank_nanOf (t : Nat) : rank (nanOf t) = none := by
  have hlt : (t / 2) % (2 ^ 52 - 1) < 2 ^ 52 - 1 := Nat.mod_lt _ (by decide)
  generalize hq : (t / 2) % (2 ^ 52 - 1) = q at hlt
  have h2 : t % 2 < 2 := Nat.mod_lt _ (by decide)
  have e : nanOf t = (t % 2) * 2 ^ 63 + (2047 * 2 ^ 52 + (1 + q)) := by
    unfold nanOf
    rw [hq]
    omega
  unfold rank
  rw [e]
  unfold Ieee.Format.read
  simp only [bin, infr]
  have hm : ((t % 2) * 2 ^ 63 + (2047 * 2 ^ 52 + (1 + q))) % 2 ^ 63 = 2047 * 2 ^ 52 + (1 + q) := by omega
  simp only [sw, hm]
  rw [if_neg (by omega), if_neg (by omega), if_neg (by omega)]
  rfl

/-- The sums differ at most in which NaN they are. -/
theorem sumF_alike (l f f' : Nat → Nat) : ∀ m, alike (sumF l f m) (sumF l f' m)
  | 0 => Or.inl rfl
  | m + 1 => by
    simp only [sumF, sumv]
    rcases sumF_alike l f f' m with h | ⟨h1, h2⟩
    · rw [h]
      cases Ieee.double.add (sumF l f' m) (l m) with
      | some r => exact Or.inl rfl
      | none => exact Or.inr ⟨rank_nanOf _, rank_nanOf _⟩
    · rw [add_nan h1, add_nan h2]
      exact Or.inr ⟨rank_nanOf _, rank_nanOf _⟩

theorem place_congr {x x' : Nat → Nat} (v : Nat) : ∀ n, (∀ i, i < n → x i = x' i) → place x v n = place x' v n
  | 0, _ => rfl
  | n + 1, h => by
    simp only [place, place_congr v n (fun i hi => h i (by omega)), h n (by omega)]

theorem cnts_congr {x x' : Nat → Nat} (l : Nat → Nat) (n : Nat) (h : ∀ i, i < n → x i = x' i) : ∀ m, cnts x l n m = cnts x' l n m
  | 0 => rfl
  | m + 1 => by simp only [cnts, cnts_congr l n h m, place_congr (l m) n h]

theorem hbl_congr (q : Nat → Nat) {x x' : Nat → Nat} : ∀ n, (∀ i, i < n → x i = x' i) → hbl q x n = hbl q x' n
  | 0, _ => rfl
  | n + 1, h => by simp only [hbl, hbl_congr q n (fun i hi => h i (by omega)), h n (by omega)]

/-- Bounds with plus infinity behind them. -/
def withInf (x : Nat → Nat) (n : Nat) : Nat → Nat := fun i => if i < n then x i else 9218868437227405312

theorem withInf_eq (x : Nat → Nat) (n : Nat) : ∀ i, i < n → x i = withInf x n i := fun i hi => by simp [withInf, hi]

theorem kept_fin {x : Nat → Nat} {n : Nat} (h : infb (x (n - 1)) = false) : keptN x n = n := by
  unfold keptN
  rw [h]
  rfl

theorem kept_withInf (x : Nat → Nat) (n : Nat) : keptN (withInf x n) (n + 1) = n := by
  unfold keptN
  have e : withInf x n (n + 1 - 1) = 9218868437227405312 := by simp [withInf]
  rw [e, infb_inf]
  rfl

theorem Inc.withInf {x : Nat → Nat} {n : Nat} (h : Inc x n) : Inc (Go.Sx.withInf x n) n := fun i hi => by
  rw [← withInf_eq x n i (by omega), ← withInf_eq x n (i + 1) hi]
  exact h i hi

theorem Inc.none_ge {x : Nat → Nat} {n : Nat} (h : Inc x n) : ∀ i, i + 1 < n → fle (x (i + 1)) (x i) = false := fun i hi => flt_fle (h i hi)

theorem withInf_none_ge {x : Nat → Nat} {n : Nat} (h : Inc x n) (hf : infb (x (n - 1)) = false) : ∀ i, i + 1 < n + 1 → fle (withInf x n (i + 1)) (withInf x n i) = false := fun i hi => by
  rw [← withInf_eq x n i (by omega)]
  by_cases e : i + 1 < n
  · rw [← withInf_eq x n (i + 1) e]
    exact flt_fle (h i e)
  · have e2 : i + 1 = n := by omega
    have e3 : n - 1 = i := by omega
    have e4 : withInf x n (i + 1) = 9218868437227405312 := by simp [withInf, e]
    rw [e4]
    rw [e3] at hf
    exact fle_inf hf

/-- The bounds 1, 2 .. . -/
def lin (i : Nat) : Nat := enc ((i : Int) + 1)

theorem lin_inc {n : Nat} (hn : n ≤ 1000) : Inc lin n := fun i hi => by
  unfold lin
  rw [flt_enc (by omega) (by omega)]
  exact decide_eq_true (by omega)

theorem lin_fin {n : Nat} (h1 : 1 ≤ n) (hn : n ≤ 1000) : infb (lin (n - 1)) = false := by
  refine infb_lt (b := lin n) ?_
  unfold lin
  rw [flt_enc (by omega) (by omega)]
  exact decide_eq_true (by omega)

theorem lin_add {n : Nat} (hn : n ≤ 1000) : ∀ i, i < n → Ieee.double.add (lin i) (enc 1) = some (lin (i + 1)) := fun i hi => by
  unfold lin
  rw [add_enc (by omega) (by decide) (by omega)]
  congr 2

end Go.Sx

namespace Go.Sx
open Go Go.Proofs Go.Fl
open Go.Lib (strCells)

theorem lin_zero : lin 0 = 4607182418800017408 := by decide
theorem enc_one : enc 1 = 4607182418800017408 := by decide
theorem lin_kept {n : Nat} (h1 : 1 ≤ n) (h2 : n ≤ 50) : keptN lin n = n := kept_fin (lin_fin h1 (by omega))

def lvHist (b sp : Nat) : List Value := [.int .u64 2, .float .f64 4616189618054758400, .slice (some ⟨b, 0, none⟩) 2 (2 + sp), .int .i64 5, .bool false, .int .i32 0, .float .f64 0, .int .u64 0, .slice none 0 0, .slice none 0 0, .slice none 0 0, .slice none 0 0, .slice none 0 0]
def lvBks : List Value := [.int .u64 1, .float .f64 4607182418800017408, .bool false, .float .f64 0, .slice none 0 0, .int .i64 0, .int .u64 1, .float .f64 4611686018427387904, .bool false, .float .f64 0, .slice none 0 0, .int .i64 0]

/-- The two numbers that histLives observes. -/
def lvV (i : Nat) : Nat := if i = 0 then 4607182418800017408 else 4613937818241073152

theorem lv_sum (f : Nat → Nat) : sumF lvV f 2 = 4616189618054758400 := by
  have h1 : Ieee.double.add 0 4607182418800017408 = some 4607182418800017408 := by kernel_rfl
  have h2 : Ieee.double.add 4607182418800017408 4613937818241073152 = some 4616189618054758400 := by kernel_rfl
  show sumv (sumv 0 4607182418800017408 (f 0)) 4613937818241073152 (f 1) = _
  simp only [sumv, h1, h2]

theorem lv_bounds : fl lin 2 = [.float .f64 4607182418800017408, .float .f64 4611686018427387904] := by kernel_rfl

theorem lv_buckets : hbl (cum (cnts lin lvV 2 2)) lin 2 = lvBks := by kernel_rfl

theorem c_lives16 (w0 : World) (sep : Addr) (hsep : w0.cell? ⟨2, 0, none⟩ = some (.slice (some sep) 1 1)) (hsep1 : w0.cell? (sep.add 0) = some (.int .u8 255)) (b st s : Nat) (F : List (Nat × Obj)) (w : World) (g : Good w0 s ([(b, .cells #[.float .f64 4607182418800017408, .float .f64 4611686018427387904] 27)] ++ ([(st, .cells #[.int .i64 0, .float .f64 4607182418800017408, .slice none 0 0, .int .i64 0, .int .i64 0, .float .f64 4613937818241073152, .slice none 0 0, .int .i64 0, .int .i64 2, .float .f64 0, .slice none 0 0, .int .i64 0] 62)] ++ F)) w) :
    Calls Tryz.prog 16 #[.agg #[.slice (some ⟨b, 0, none⟩) 2 2, .float .f64 0, .float .f64 0, .int .u32 0, .int .i64 0, .float .f64 0, .int .i64 0, .int .i64 0], .int .i64 5, .slice (some ⟨st, 0, none⟩) 3 3] w fun e w' => ∃ v' : PU, ∃ s', v'.n = s ∧
      e = .returned (.tuple #[.slice (some ⟨v'.x, 0, none⟩) 1 (1 + v'.y), .slice (some ⟨v'.b 2, 0, none⟩) 3 (3 + v'.b 3), .bool true]) ∧
      Good w0 s' ([(v'.x, .cells ⟨lvHist (v'.b 0) (v'.b 1) ++ zc histZero v'.y⟩ 68), (v'.b 0, .cells ⟨lvBks ++ zc bkZero (v'.b 1)⟩ 72)] ++ F) w' := by
  have hk := lin_kept (n := 2) (by decide) (by decide)
  have hi : Inc lin 2 := lin_inc (by decide)
  have h := c_HistRunG w0 sep hsep hsep1 b 2 2 st 3 2 0 5 lin lvV [] [.int .i64 0, .float .f64 4607182418800017408, .slice none 0 0, .int .i64 0, .int .i64 0, .float .f64 4613937818241073152, .slice none 0 0, .int .i64 0, .int .i64 2, .float .f64 0, .slice none 0 0, .int .i64 0] (by decide) (by decide) (by decide) (by decide) (by rw [hk]; decide) (Inc.none_ge hi) (by rw [hk]; exact hi)
    (fun i hi j u h => by
      rcases (show i = 0 ∨ i = 1 by omega) with rfl | rfl
      · match j, h with
        | 0, h => exact h
        | 1, h => exact h
        | 2, h => exact h
        | 3, h => exact h
        | j + 4, h => simp at h
      · match j, h with
        | 0, h => exact h
        | 1, h => exact h
        | 2, h => exact h
        | 3, h => exact h
        | j + 4, h => simp at h)
    (fun j u h => by
      match j, h with
      | 0, h => exact h
      | 1, h => exact h
      | 2, h => exact h
      | 3, h => exact h
      | j + 4, h => simp at h) s F w (by rw [lv_bounds]; exact g)
  rw [hk, lv_buckets] at h
  refine h.mono fun e w' ⟨v', s', hn, he, g'⟩ => ⟨v', s', hn, he, ?_⟩
  rw [lv_sum] at g'
  exact g'

set_option maxHeartbeats 1000000 in
set_option maxRecDepth 100000 in
/-- histLives answers true. -/
theorem c_lives (w0 : World) (sep : Addr) (hsep : w0.cell? ⟨2, 0, none⟩ = some (.slice (some sep) 1 1)) (hsep1 : w0.cell? (sep.add 0) = some (.int .u8 255)) (s : Nat) (F : List (Nat × Obj)) (w : World) (g : Good w0 s F w) :
    Calls Tryz.prog 8 #[] w fun e w' => ∃ v' : PU, ∃ s', v'.n = s ∧ e = .returned (.bool true) ∧ Good w0 s' F w' := by
  refine Goes.calls (L := []) (F := F) g fun cs0 => ?_
  refine Goes.seg [16] 100000 [] (fr' := ⟨8, #[(.bool (false)), u, u, u, u, (.slice (some ⟨s, 0, none⟩) (2) (2)), (.agg #[(.slice (some ⟨s, 0, none⟩) (2) (2)), (.float .f64 (0)), (.float .f64 (0)), (.int .u32 (0)), (.int .i64 (0)), (.float .f64 (0)), (.int .i64 (0)), (.int .i64 (0))]), (.agg #[(.int .i64 (0)), (.float .f64 (4607182418800017408)), (.slice none (0) (0)), (.int .i64 (0))]), (.agg #[(.int .i64 (0)), (.float .f64 (4613937818241073152)), (.slice none (0) (0)), (.int .i64 (0))]), (.agg #[(.int .i64 (2)), (.float .f64 (0)), (.slice none (0) (0)), (.int .i64 (0))]), (.slice (some ⟨s + 1, 0, none⟩) (3) (3)), u, u, u, u, u, u, u, u, u, u, u, u, u, u, u, u, u, u, u, u, u, u, u, u, u, u, u, u, u, u, u, u, u, u, u, u, u, u, u, u, u, u], [.inRegion (opsAt Tryz.prog 8 [1, 0]) [6, 7, 8, 9, 10, 11, 12, 13], .code (codeAt Tryz.prog 8 [1, 1])], [], .run, .normal, none⟩) (cs' := []) (s' := s + 2) (L' := [(s, (.cells #[(.float .f64 (4607182418800017408)), (.float .f64 (4611686018427387904))] 27)), (s + 1, (.cells #[(.int .i64 (0)), (.float .f64 (4607182418800017408)), (.slice none (0) (0)), (.int .i64 (0)), (.int .i64 (0)), (.float .f64 (4613937818241073152)), (.slice none (0) (0)), (.int .i64 (0)), (.int .i64 (2)), (.float .f64 (0)), (.slice none (0) (0)), (.int .i64 (0))] 62))]) (ob := []) (by kernel_rfl) (by kernel_rfl) trivial ?_
  refine Goes.inOrder [.rdo [] [], .rdo [] [], .rdo [] [], .rdo [] [], .rdo [] [], .rdo [] [], .call [] [0, 1] [] 16 (fun v => (.tuple #[.slice (some ⟨v.x, 0, none⟩) 1 (1 + v.y), .slice (some ⟨v.b 2, 0, none⟩) 3 (3 + v.b 3), .bool true], [(v.x, .cells ⟨lvHist (v.b 0) (v.b 1) ++ zc histZero v.y⟩ 68), (v.b 0, .cells ⟨lvBks ++ zc bkZero (v.b 1)⟩ 72)], [])), .rdo [] [], .rdo [] [], .rdo [] [], .rdo [] [], .rdo [] [], .rdo [] [], .rdo [] []] 0 rfl rfl rfl rfl (fun ν0 => ⟨[(.bool (false)), (.slice (some ⟨(ν0 6).x, 0, none⟩) (1) ((1 + ((ν0 6).y)))), (.slice (some ⟨(ν0 6).b 2, 0, none⟩) (3) ((3 + ((ν0 6).b 3)))), (.bool (true)), (.tuple #[(.slice (some ⟨(ν0 6).x, 0, none⟩) (1) ((1 + ((ν0 6).y)))), (.slice (some ⟨(ν0 6).b 2, 0, none⟩) (3) ((3 + ((ν0 6).b 3)))), (.bool (true))]), (.slice (some ⟨s, 0, none⟩) (2) (2)), (.agg #[(.slice (some ⟨s, 0, none⟩) (2) (2)), (.float .f64 (0)), (.float .f64 (0)), (.int .u32 (0)), (.int .i64 (0)), (.float .f64 (0)), (.int .i64 (0)), (.int .i64 (0))]), (.agg #[(.int .i64 (0)), (.float .f64 (4607182418800017408)), (.slice none (0) (0)), (.int .i64 (0))]), (.agg #[(.int .i64 (0)), (.float .f64 (4613937818241073152)), (.slice none (0) (0)), (.int .i64 (0))]), (.agg #[(.int .i64 (2)), (.float .f64 (0)), (.slice none (0) (0)), (.int .i64 (0))]), (.slice (some ⟨s + 1, 0, none⟩) (3) (3)), (.tuple #[(.slice (some ⟨(ν0 6).x, 0, none⟩) (1) ((1 + ((ν0 6).y)))), (.slice (some ⟨(ν0 6).b 2, 0, none⟩) (3) ((3 + ((ν0 6).b 3)))), (.bool (true))]), (.slice (some ⟨(ν0 6).x, 0, none⟩) (1) ((1 + ((ν0 6).y)))), (.slice (some ⟨(ν0 6).b 2, 0, none⟩) (3) ((3 + ((ν0 6).b 3)))), (.bool (true)), u, u, u, u, u, u, u, u, u, u, u, u, u, u, u, u, u, u, u, u, u, u, u, u, u, u, u, u, u, u, u, u, u, u, u, u, u, u], [some ((ν0 6).x, (.cells { toList := lvHist ((ν0 6).b 0) ((ν0 6).b 1) ++ zc histZero (ν0 6).y } 68)), some ((ν0 6).b 0, (.cells { toList := lvBks ++ zc bkZero ((ν0 6).b 1) } 72))]⟩) (fun ν0 => []) (fun ν0 => [⟨16, [(.agg #[(.slice (some ⟨s, 0, none⟩) (2) (2)), (.float .f64 (0)), (.float .f64 (0)), (.int .u32 (0)), (.int .i64 (0)), (.float .f64 (0)), (.int .i64 (0)), (.int .i64 (0))]), (.int .i64 (5)), (.slice (some ⟨s + 1, 0, none⟩) (3) (3))], [], [(s, (.cells #[(.float .f64 (4607182418800017408)), (.float .f64 (4611686018427387904))] 27)), (s + 1, (.cells #[(.int .i64 (0)), (.float .f64 (4607182418800017408)), (.slice none (0) (0)), (.int .i64 (0)), (.int .i64 (0)), (.float .f64 (4613937818241073152)), (.slice none (0) (0)), (.int .i64 (0)), (.int .i64 (2)), (.float .f64 (0)), (.slice none (0) (0)), (.int .i64 (0))] 62))], (fun v => (.tuple #[.slice (some ⟨v.x, 0, none⟩) 1 (1 + v.y), .slice (some ⟨v.b 2, 0, none⟩) 3 (3 + v.b 3), .bool true], [(v.x, .cells ⟨lvHist (v.b 0) (v.b 1) ++ zc histZero v.y⟩ 68), (v.b 0, .cells ⟨lvBks ++ zc bkZero (v.b 1)⟩ 72)], []))⟩]) (fun ν0 => []) (fun ν0 => by kernel_rfl) (fun ν0 => by kernel_rfl) (fun ν0 => trivial) (fun ν0 => ⟨(fun s' F w g => c_lives16 w0 sep hsep hsep1 s (s + 1) s' _ w g), trivial⟩) (fun ν0 => trivial) ?_
  intro ν0 s0
  refine Goes.last [16] 100000 [.at 0, .at 0, .at 0, .at 0, .at 1] (v := (.bool (true))) (s' := s0) (L' := [((ν0 6).x, (.cells { toList := lvHist ((ν0 6).b 0) ((ν0 6).b 1) ++ zc histZero (ν0 6).y } 68)), ((ν0 6).b 0, (.cells { toList := lvBks ++ zc bkZero ((ν0 6).b 1) } 72))]) (ob := []) (by kernel_rfl) (by kernel_rfl) trivial ?_
  intro w' g'
  have g2 := g'.picked [] rfl rfl
  exact ⟨⟨s, 0, 0, undef, [], fun _ => 0⟩, s0, rfl, rfl, g2⟩

end Go.Sx
