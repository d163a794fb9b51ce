/- The tests of the law's text on float64 words, as facts on magnitudes. -/
import Derived.Test.Qxb6614701aFl
namespace Go.Proofs.Qxb6614701a.Fl
open Ieee

theorem cmp_lt {a b : Int} (h : a < b) : compare a b = .lt := by simp [compare, compareOfLessAndEq, h]
theorem cmp_eq {a b : Int} (h : a = b) : compare a b = .eq := by subst h; simp [compare, compareOfLessAndEq]
theorem cmp_gt {a b : Int} (h : b < a) : compare a b = .gt := by
  simp only [compare, compareOfLessAndEq]
  rw [if_neg (by omega), if_neg (by omega)]

theorem sval_pos {x : Nat} (hx : x < 9223372036854775808) : sval x = mag x := by
  unfold sval neg
  rw [Nat.div_eq_of_lt hx]
  rfl

theorem fin_zero : Fin 0 := by unfold Fin rung; decide
theorem sval_zero : sval 0 = 0 := by decide
theorem fin_53 : Fin 4845873199050653696 := by unfold Fin rung; decide

theorem mag_53 : mag 4845873199050653696 = 2 ^ K53 := by
  have h := mk_word 4503599627370496 1075 (by decide) (Or.inr (by decide)) (by decide)
  have hm := h.2.2.2
  have e : 1075 * 4503599627370496 + 4503599627370496 = 4845873199050653696 := by decide
  rw [e] at hm
  rw [hm]
  have hK := K53_eq
  have e2 : ∀ j k, k = 52 + j → 4503599627370496 * 2 ^ j = 2 ^ k := fun j k hk => by rw [hk, Nat.pow_add]
  exact e2 1075 K53 (by omega)

/-- 'v < 0'. -/
theorem lss_zero {v : Nat} (h : Fin v) : (double.order v 0 == some .lt) = (neg v && decide (mag v ≠ 0)) := by
  rw [order_fin h fin_zero, sval_zero]
  unfold sval
  cases hn : neg v
  · simp only [Bool.false_eq_true, if_false, Bool.false_and]
    by_cases h0 : mag v = 0
    · rw [h0, cmp_eq (show ((0 : Nat) : Int) = 0 from rfl)]; rfl
    · rw [cmp_gt (by omega)]; rfl
  · simp only [if_true, Bool.true_and]
    by_cases h0 : mag v = 0
    · rw [h0, cmp_eq (show -((0 : Nat) : Int) = 0 from rfl)]; simp
    · rw [cmp_lt (by omega)]; simp [h0]

/-- 'v == 0'. -/
theorem eql_zero {v : Nat} (h : Fin v) : (double.order v 0 == some .eq) = decide (mag v = 0) := by
  rw [order_fin h fin_zero, sval_zero]
  unfold sval
  by_cases h0 : mag v = 0
  · rw [h0, cmp_eq (by cases neg v <;> rfl)]; rfl
  · cases hn : neg v
    · simp only [Bool.false_eq_true, if_false]
      rw [cmp_gt (by omega)]; simp [h0]
    · simp only [if_true]
      rw [cmp_lt (by omega)]; simp [h0]

/-- 'x >= 2^53', x not negative. -/
theorem geq_53 {x : Nat} (h : Fin x) (hx : x < 9223372036854775808) : (double.order x 4845873199050653696 == some .gt || double.order x 4845873199050653696 == some .eq) = decide (2 ^ K53 ≤ mag x) := by
  rw [order_fin h fin_53, sval_pos hx, sval_pos (by decide), mag_53]
  generalize 2 ^ K53 = B
  by_cases h1 : mag x < B
  · rw [cmp_lt (by omega), decide_eq_false (by omega)]; rfl
  · by_cases h2 : mag x = B
    · rw [cmp_eq (by omega), decide_eq_true (by omega)]; rfl
    · rw [cmp_gt (by omega), decide_eq_true (by omega)]; rfl

/-- 'y != x', neither negative. -/
theorem neq_pos {x y : Nat} (h : Fin x) (hx : x < 9223372036854775808) (hy : Fin y) (hy2 : y < 9223372036854775808) : (double.order y x != some .eq) = decide (mag y ≠ mag x) := by
  rw [order_fin hy h, sval_pos hx, sval_pos hy2]
  by_cases h1 : mag y < mag x
  · rw [cmp_lt (by omega), decide_eq_true (by omega)]; rfl
  · by_cases h2 : mag y = mag x
    · rw [cmp_eq (by omega), decide_eq_false (by omega)]; rfl
    · rw [cmp_gt (by omega), decide_eq_true (by omega)]; rfl

theorem mag_rung (v : Nat) : mag (rung v) = mag v ∧ rung v < 9223372036854775808 ∧ rung (rung v) = rung v := by
  have h1 : rung v < 9223372036854775808 := Nat.mod_lt _ (by omega)
  have h2 : rung (rung v) = rung v := Nat.mod_eq_of_lt h1
  exact ⟨by unfold mag; rw [h2], h1, h2⟩

theorem fin_rung {v : Nat} (h : Fin v) : Fin (rung v) := by unfold Fin; rw [(mag_rung v).2.2]; exact h

theorem rung_zero {v : Nat} : mag v = 0 ↔ rung v = 0 := by
  unfold mag
  have hp := rung_parts (rung v)
  have hse := sig_ex (rung v)
  constructor
  · intro h
    generalize rung v = r at *
    generalize sig r = a at *
    generalize ex r = b at *
    rcases Nat.mul_eq_zero.1 h with h | h
    · subst h
      rcases hse with h1 | h1
      · rw [h1, Nat.zero_mul, Nat.zero_add] at hp
        exact hp.symm
      · omega
    · have := Nat.two_pow_pos b; omega
  · intro h
    rw [h]
    simp [sig]

/-- '-v' of a negative one. -/
theorem neg_word {v : Nat} (hv : v < 18446744073709551616) (hn : neg v = true) : Op.negFloat .f64 v = rung v := by
  have h1 : v / 9223372036854775808 = 1 := by
    unfold neg at hn
    simp at hn
    omega
  show v ^^^ 2 ^ (52 + 11) = v % 9223372036854775808
  have e : v = 2 ^ 63 * 1 + v % 2 ^ 63 := by omega
  have e2 : v % 9223372036854775808 = v % 2 ^ 63 := rfl
  rw [e2]
  apply Nat.eq_of_testBit_eq
  intro i
  rw [Nat.testBit_xor, Nat.testBit_two_pow, Nat.testBit_mod_two_pow]
  by_cases hi : i < 63
  · have : ¬ (52 + 11 = i) := by omega
    simp [hi, this]
  · by_cases hi2 : i = 63
    · subst hi2
      have : v.testBit 63 = true := by
        rw [Nat.testBit_eq_decide_div_mod_eq]
        have : v / 2 ^ 63 = 1 := h1
        rw [this]; rfl
      simp [this]
    · have hb : v.testBit i = false := by
        apply Nat.testBit_lt_two_pow
        have : 2 ^ 64 ≤ 2 ^ i := pow_le 64 i (by omega)
        omega
      have : ¬ (52 + 11 = i) := by omega
      simp [hb, this, hi]

/-- A word that is not whole is small. -/
theorem small_of_frac {x : Nat} (hne : whole x * 2 ^ K0 ≠ mag x) : mag x * 2 < 2 ^ K53 := by
  have hK := K53_eq
  have hK0 := K0_eq
  have hs := sig_lt (rung x)
  have he : ex (rung x) < 1074 := by
    rcases Nat.lt_or_ge (ex (rung x)) 1074 with h | h
    · exact h
    · exfalso
      apply hne
      unfold whole mag
      have e3 : 2 ^ ex (rung x) = 2 ^ (ex (rung x) - K0) * 2 ^ K0 := by rw [← Nat.pow_add]; congr 1; omega
      rw [e3, ← Nat.mul_assoc, Nat.mul_div_cancel _ (Nat.two_pow_pos _)]
  unfold mag
  have h1 := pow_le (ex (rung x)) (K53 - 54) (by omega)
  have h2 : sig (rung x) * 2 ^ ex (rung x) ≤ 9007199254740991 * 2 ^ (K53 - 54) := Nat.mul_le_mul (by omega) h1
  have h3 := lt_pow_of (K53 - 1) (K53 - 54) 9007199254740991 53 (by omega) (by decide)
  have h4 : 2 ^ K53 = 2 ^ (K53 - 1) * 2 := by rw [← Nat.pow_succ, show (K53 - 1).succ = K53 from by omega]
  rw [h4]
  omega

/-- How many halvings a word bears. -/
def H971 : Nat := 971
theorem H971_eq : H971 = 971 := rfl

theorem mag_lt {x : Nat} (h : Fin x) : mag x < 2 ^ (K53 + H971) := by
  have hK := K53_eq
  have hH := H971_eq
  have hs := sig_lt (rung x)
  have he := ex_le h
  unfold mag
  have h1 := pow_le (ex (rung x)) (K53 + H971 - 53) (by omega)
  have h2 : sig (rung x) * 2 ^ ex (rung x) ≤ 9007199254740991 * 2 ^ (K53 + H971 - 53) := Nat.mul_le_mul (by omega) h1
  exact Nat.lt_of_le_of_lt h2 (lt_pow_of (K53 + H971) (K53 + H971 - 53) 9007199254740991 53 (by omega) (by decide))

theorem halvings {x i m : Nat} (hm : m < 2 ^ (K53 + H971)) (hx : 2 ^ K53 ≤ mag x) (he : mag x * 2 ^ i = m) : i < 971 := by
  rw [← H971_eq]
  rcases Nat.lt_or_ge i H971 with h | h
  · exact h
  · exfalso
    have h1 : 2 ^ K53 * 2 ^ H971 ≤ mag x * 2 ^ i := Nat.mul_le_mul hx (pow_le H971 i h)
    rw [← Nat.pow_add, he] at h1
    exact absurd hm (Nat.not_lt_of_le h1)

end Go.Proofs.Qxb6614701a.Fl
