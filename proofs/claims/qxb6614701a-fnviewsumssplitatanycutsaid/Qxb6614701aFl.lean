/- The plain mathematics of float64 words: what a finite word stands for in units of 2^-1074, and what the operations of the law's text give where they are exact. No Go program here. -/
import Derived.Laws.FloatArith
namespace Go.Proofs.Qxb6614701a.Fl
open Ieee

/-- The bits below the sign. -/
def rung (x : Nat) : Nat := x % 9223372036854775808
def neg (x : Nat) : Bool := x / 9223372036854775808 % 2 == 1
/-- A finite word. -/
def Fin (x : Nat) : Prop := rung x < 9218868437227405312
/-- Significand and exponent of a rung: it stands for 'sig r * 2 ^ ex r' units. -/
def sig (r : Nat) : Nat := if r < 4503599627370496 then r else 4503599627370496 + r % 4503599627370496
def ex (r : Nat) : Nat := if r < 4503599627370496 then 0 else r / 4503599627370496 - 1
/-- The magnitude in units of 2^-1074. -/
def mag (x : Nat) : Nat := sig (rung x) * 2 ^ ex (rung x)

theorem signW : double.signWeight = 9223372036854775808 := rfl
theorem bin : double.binade = 4503599627370496 := rfl
theorem infR : double.infRung = 9218868437227405312 := rfl
theorem leastP : double.leastPlace = -1074 := rfl
theorem fracB : double.fractionBits = 52 := rfl

theorem sig_lt (r : Nat) : sig r < 9007199254740992 := by
  unfold sig
  split <;> omega

theorem sig_ex (r : Nat) : ex r = 0 ∨ 4503599627370496 ≤ sig r := by
  unfold sig ex
  split
  · exact Or.inl rfl
  · exact Or.inr (by omega)

/-- The rung back from its parts. -/
theorem rung_parts (r : Nat) : ex r * 4503599627370496 + sig r = r := by
  unfold sig ex
  split
  · omega
  · omega

theorem ex_le {x : Nat} (h : Fin x) : ex (rung x) ≤ 2045 := by
  unfold Fin at h
  unfold ex
  split <;> omega

theorem read_fin {x : Nat} (h : Fin x) : double.read x = .number (neg x) (sig (rung x)) (-1074 + (ex (rung x) : Int)) := by
  unfold Fin at h
  unfold Format.read
  dsimp only
  unfold sig ex
  by_cases h1 : rung x < 4503599627370496
  · rw [if_pos (show x % double.signWeight < double.binade from h1), if_pos h1, if_pos h1]
    rfl
  · rw [if_neg (show ¬ x % double.signWeight < double.binade from h1), if_pos (show x % double.signWeight < double.infRung from h), if_neg h1, if_neg h1]
    rfl

theorem log2_mul (m k : Nat) (h : m ≠ 0) : (m * 2 ^ k).log2 = m.log2 + k := by
  have h0 : m * 2 ^ k ≠ 0 := Nat.mul_ne_zero h (Nat.ne_of_gt (Nat.two_pow_pos k))
  rw [Nat.log2_eq_iff h0]
  have h1 := Nat.log2_self_le h
  have h2 : m < 2 ^ (m.log2 + 1) := Nat.lt_log2_self
  refine ⟨?_, ?_⟩
  · rw [Nat.pow_add]
    exact Nat.mul_le_mul_right _ h1
  · rw [show m.log2 + k + 1 = (m.log2 + 1) + k from by omega, Nat.pow_add]
    exact Nat.mul_lt_mul_of_pos_right h2 (Nat.two_pow_pos k)

theorem cut_exact (way : Toward) (ng : Bool) (m d : Nat) : way.cut ng (m * 2 ^ d) d = m := by
  unfold Toward.cut
  by_cases hm : m = 0
  · subst hm
    simp
    cases way <;> cases ng <;> simp
  · have hmin : min d ((m * 2 ^ d).log2 + 2) = d := by
      rw [log2_mul m d hm]
      omega
    have hp : 0 < 2 ^ d := Nat.two_pow_pos d
    simp only [hmin, Nat.one_shiftLeft, Nat.mul_mod_left, Nat.mul_div_cancel m hp]
    have : ¬ (2 ^ d = 0) := by omega
    cases way <;> simp

/-- WRITING A NUMBER THAT THE FORMAT HAS: 'mg * 2 ^ (a - b)' units, which are 'm * 2 ^ e' of them. -/
theorem nearest_exact (ng : Bool) (mg a b m e : Nat) (pl : Int) (hpl : pl = -1074 + (a : Int) - (b : Int)) (hm0 : m ≠ 0) (hm : m < 9007199254740992) (he : e = 0 ∨ 4503599627370496 ≤ m)
    (hr : e * 4503599627370496 + m < 9218868437227405312) (hv : mg * 2 ^ a = m * 2 ^ (e + b)) : double.nearest ng mg pl = double.word ng (e * 4503599627370496 + m) := by
  have hmg : mg ≠ 0 := by
    intro h0
    rw [h0, Nat.zero_mul] at hv
    have := Nat.mul_ne_zero hm0 (Nat.ne_of_gt (Nat.two_pow_pos (e + b)))
    omega
  have hlog : mg.log2 + a = m.log2 + (e + b) := by
    rw [← log2_mul mg a hmg, ← log2_mul m (e + b) hm0, hv]
  have hl52 : m.log2 < 53 := (Nat.log2_lt hm0).2 (by omega)
  have hl52' : 4503599627370496 ≤ m → 52 ≤ m.log2 := fun h => (Nat.le_log2 hm0).2 (by omega)
  unfold Format.nearest
  rw [if_neg hmg]
  simp only [fracB, leastP, bin, infR]
  have hlast : max (pl + (mg.log2 : Int) - (52 : Nat)) (-1074) = -1074 + (e : Int) := by
    rcases he with he | he
    · subst he
      omega
    · have := hl52' he
      omega
  rw [hlast]
  have hkept : Toward.even.cut ng (mg <<< (pl - (-1074 + (e : Int))).toNat) ((-1074 + (e : Int)) - pl).toNat = m := by
    by_cases hab : b + e ≤ a
    · have e1 : (pl - (-1074 + (e : Int))).toNat = a - (b + e) := by omega
      have e2 : ((-1074 + (e : Int)) - pl).toNat = 0 := by omega
      rw [e1, e2, Nat.shiftLeft_eq]
      have : mg * 2 ^ (a - (b + e)) = m := by
        have hp : 0 < 2 ^ (e + b) := Nat.two_pow_pos _
        refine Nat.eq_of_mul_eq_mul_right hp ?_
        rw [Nat.mul_assoc, ← Nat.pow_add, show a - (b + e) + (e + b) = a from by omega, hv]
      rw [this]
      have := cut_exact .even ng m 0
      simpa using this
    · have e1 : (pl - (-1074 + (e : Int))).toNat = 0 := by omega
      have e2 : ((-1074 + (e : Int)) - pl).toNat = b + e - a := by omega
      rw [e1, e2, Nat.shiftLeft_zero]
      have : mg = m * 2 ^ (b + e - a) := by
        have hp : 0 < 2 ^ a := Nat.two_pow_pos _
        refine Nat.eq_of_mul_eq_mul_right hp ?_
        rw [Nat.mul_assoc, ← Nat.pow_add, show b + e - a + a = e + b from by omega, hv]
      rw [this]
      exact cut_exact .even ng m _
  rw [hkept]
  have e3 : ((-1074 + (e : Int)) - -1074).toNat = e := by omega
  rw [e3, Nat.min_eq_left (by omega)]

/-! ### Comparing -/

/-- The value in units, with its sign. -/
def sval (x : Nat) : Int := if neg x then -(mag x : Int) else (mag x : Int)

theorem compare_mul (a b : Int) (k : Nat) : compare (a * (2 ^ k : Nat)) (b * (2 ^ k : Nat)) = compare a b := by
  have hp : (0 : Int) < ((2 ^ k : Nat) : Int) := by have := Nat.two_pow_pos k; omega
  simp only [compare, compareOfLessAndEq]
  by_cases h1 : a < b
  · rw [if_pos h1, if_pos (Int.mul_lt_mul_of_pos_right h1 hp)]
  · rw [if_neg h1, if_neg (fun h => h1 (Int.lt_of_mul_lt_mul_right h (Int.le_of_lt hp)))]
    by_cases h2 : a = b
    · rw [if_pos h2, if_pos (by rw [h2])]
    · rw [if_neg h2, if_neg (fun h => h2 (Int.eq_of_mul_eq_mul_right (by omega) h))]

theorem signed_eq (ng : Bool) (m u k : Nat) : signed ng m u * ((2 ^ k : Nat) : Int) = if ng then -((m * 2 ^ (u + k) : Nat) : Int) else ((m * 2 ^ (u + k) : Nat) : Int) := by
  unfold signed
  rw [Nat.shiftLeft_eq, Nat.pow_add, ← Nat.mul_assoc]
  cases ng
  · simp
  · simp [Int.neg_mul]

theorem order_fin {x y : Nat} (hx : Fin x) (hy : Fin y) : double.order x y = some (compare (sval x) (sval y)) := by
  unfold Format.order
  rw [read_fin hx, read_fin hy]
  unfold Datum.order
  dsimp only
  congr 1
  rw [← compare_mul _ _ (min (ex (rung x)) (ex (rung y))), signed_eq, signed_eq]
  have e1 : ((-1074 + (ex (rung x) : Int)) - min (-1074 + (ex (rung x) : Int)) (-1074 + (ex (rung y) : Int))).toNat + min (ex (rung x)) (ex (rung y)) = ex (rung x) := by omega
  have e2 : ((-1074 + (ex (rung y) : Int)) - min (-1074 + (ex (rung x) : Int)) (-1074 + (ex (rung y) : Int))).toNat + min (ex (rung x)) (ex (rung y)) = ex (rung y) := by omega
  rw [e1, e2]
  rfl

/-! ### The word of a significand and an exponent -/

theorem sig_mk (m e : Nat) (hm : m < 9007199254740992) (he : e = 0 ∨ 4503599627370496 ≤ m) : sig (e * 4503599627370496 + m) = m := by
  unfold sig
  split <;> omega

theorem ex_mk (m e : Nat) (hm : m < 9007199254740992) (he : e = 0 ∨ 4503599627370496 ≤ m) : ex (e * 4503599627370496 + m) = e := by
  unfold ex
  split <;> omega

theorem mk_word (m e : Nat) (hm : m < 9007199254740992) (he : e = 0 ∨ 4503599627370496 ≤ m) (hr : e * 4503599627370496 + m < 9218868437227405312) :
    double.word false (e * 4503599627370496 + m) = e * 4503599627370496 + m ∧ Fin (e * 4503599627370496 + m) ∧ neg (e * 4503599627370496 + m) = false ∧ mag (e * 4503599627370496 + m) = m * 2 ^ e := by
  have hrr : rung (e * 4503599627370496 + m) = e * 4503599627370496 + m := Nat.mod_eq_of_lt (by omega)
  refine ⟨rfl, ?_, ?_, ?_⟩
  · unfold Fin; rw [hrr]; exact hr
  · unfold neg
    rw [Nat.div_eq_of_lt (by omega)]
    rfl
  · unfold mag
    rw [hrr, sig_mk m e hm he, ex_mk m e hm he]

/-! ### x - x -/

theorem sub_self {x : Nat} (h : Fin x) : double.sub x x = some 0 := by
  unfold Format.sub
  rw [read_fin h]
  unfold Datum.opposite Datum.sum
  dsimp only
  have hz : signed (neg x) (sig (rung x)) ((-1074 + (ex (rung x) : Int)) - min (-1074 + (ex (rung x) : Int)) (-1074 + (ex (rung x) : Int))).toNat +
      signed (!neg x) (sig (rung x)) ((-1074 + (ex (rung x) : Int)) - min (-1074 + (ex (rung x) : Int)) (-1074 + (ex (rung x) : Int))).toNat = 0 := by
    unfold signed
    cases neg x
    · simp; omega
    · simp; omega
  rw [hz]
  cases neg x <;> rfl

theorem sub_none {x : Nat} (h : ¬ Fin x) : double.sub x x = none := by
  unfold Fin at h
  unfold Format.sub Format.read
  dsimp only
  rw [if_neg (show ¬ x % double.signWeight < double.binade from fun h1 => h (by have : x % 9223372036854775808 < 4503599627370496 := h1; unfold rung; omega)), if_neg (show ¬ x % double.signWeight < double.infRung from h)]
  split
  · unfold Datum.opposite Datum.sum
    dsimp only
    cases (x / double.signWeight % 2 == 1) <;> rfl
  · rfl

/-! ### Halving a large one, doubling a small one -/

theorem fin_two : Fin 4611686018427387904 := by unfold Fin rung; decide
theorem read_two : double.read 4611686018427387904 = .number false 4503599627370496 (-51) := by decide +kernel

theorem pow_le (a b : Nat) (h : a ≤ b) : 2 ^ a ≤ 2 ^ b := Nat.pow_le_pow_right (by omega) h

/-- The place of 2^53 among the units, and of 1. (Behind names: a numeral's power is not to be reckoned.) -/
def K53 : Nat := 1127
def K0 : Nat := 1074
theorem K53_eq : K53 = 1127 := rfl
theorem K0_eq : K0 = 1074 := rfl

theorem lt_pow_of (k n c j : Nat) (hk : k = n + j) (hc : c < 2 ^ j) : c * 2 ^ n < 2 ^ k := by
  rw [hk, Nat.pow_add, Nat.mul_comm]
  exact Nat.mul_lt_mul_of_pos_left hc (Nat.two_pow_pos n)

theorem pow_le_of (k n c j : Nat) (hk : k = n + j) (hc : 2 ^ j ≤ c) : 2 ^ k ≤ c * 2 ^ n := by
  rw [hk, Nat.pow_add, Nat.mul_comm]
  exact Nat.mul_le_mul_right _ hc

/-- Where a word is at least 2^53 she has a full significand. -/
theorem large {x : Nat} (hm : 2 ^ K53 ≤ mag x) : 1074 ≤ ex (rung x) ∧ 4503599627370496 ≤ sig (rung x) := by
  unfold mag at hm
  have hs := sig_lt (rung x)
  have hK := K53_eq
  have he : 1074 ≤ ex (rung x) := by
    rcases Nat.lt_or_ge (ex (rung x)) 1074 with hlt | hge
    · exfalso
      have h1 := pow_le (ex (rung x)) (K53 - 54) (by omega)
      have h2 : sig (rung x) * 2 ^ ex (rung x) ≤ 9007199254740991 * 2 ^ (K53 - 54) := Nat.mul_le_mul (by omega) h1
      have h3 := lt_pow_of K53 (K53 - 54) 9007199254740991 54 (by omega) (by decide)
      exact absurd (Nat.lt_of_le_of_lt h2 h3) (Nat.not_lt_of_le hm)
    · exact hge
  refine ⟨he, ?_⟩
  rcases sig_ex (rung x) with h0 | h1
  · omega
  · exact h1

theorem half {x : Nat} (h : Fin x) (hx : x < 9223372036854775808) (hm : 2 ^ K53 ≤ mag x) :
    ∃ y, double.div x 4611686018427387904 = some y ∧ y < 9223372036854775808 ∧ Fin y ∧ mag y * 2 = mag x := by
  obtain ⟨he, hs⟩ := large hm
  have hsl := sig_lt (rung x)
  have hel := ex_le h
  have hneg : neg x = false := by unfold neg; rw [Nat.div_eq_of_lt hx]; rfl
  have hrx : rung x = x := Nat.mod_eq_of_lt hx
  have hp := rung_parts (rung x)
  have hfin : rung x < 9218868437227405312 := h
  have hlog : (sig (rung x)).log2 = 52 := by
    rw [Nat.log2_eq_iff (by omega)]
    omega
  have hn := nearest_exact false (2 * (sig (rung x) * 4) + 0) (ex (rung x)) 4 (sig (rung x)) (ex (rung x) - 1) (-1074 + (ex (rung x) : Int) - (-51) - (54 : Nat) - 1) (by omega) (by omega) hsl (Or.inr hs) (by omega)
    (by rw [show ex (rung x) - 1 + 4 = ex (rung x) + 3 from by omega, Nat.pow_add]; generalize 2 ^ ex (rung x) = q; generalize sig (rung x) = m; rw [show 2 * (m * 4) + 0 = m * 8 from by omega, Nat.mul_assoc, Nat.mul_comm 8 q])
  obtain ⟨hw1, hw2, hw3, hw4⟩ := mk_word (sig (rung x)) (ex (rung x) - 1) hsl (Or.inr hs) (by omega)
  refine ⟨(ex (rung x) - 1) * 4503599627370496 + sig (rung x), ?_, by omega, hw2, ?_⟩
  · unfold Format.div
    rw [read_fin h, read_two, hneg]
    unfold Datum.quotient
    dsimp only
    have hl2 : Nat.log2 4503599627370496 = 52 := by decide +kernel
    rw [if_neg (by omega), hlog, hl2]
    have e1 : double.fractionBits + 2 + 52 - 52 = 54 := rfl
    rw [e1]
    have e2 : (sig (rung x) <<< 54) / 4503599627370496 = sig (rung x) * 4 := by rw [Nat.shiftLeft_eq]; omega
    have e3 : (sig (rung x) <<< 54) % 4503599627370496 = 0 := by rw [Nat.shiftLeft_eq]; omega
    rw [e2, e3]
    show some (double.nearest (false ^^ false) (2 * (sig (rung x) * 4) + 0) _) = _
    rw [Bool.xor_self, hn, hw1]
  · rw [hw4]
    unfold mag
    rw [Nat.mul_assoc, ← Nat.pow_succ, show (ex (rung x) - 1).succ = ex (rung x) from by omega]

theorem small_ex {x : Nat} (hm : mag x < 2 ^ K53) : ex (rung x) ≤ 1075 := by
  unfold mag at hm
  have hK := K53_eq
  rcases Nat.lt_or_ge 1075 (ex (rung x)) with hlt | hge
  · exfalso
    have hs : 4503599627370496 ≤ sig (rung x) := by
      rcases sig_ex (rung x) with h | h
      · omega
      · exact h
    have h1 := pow_le (K53 - 51) (ex (rung x)) (by omega)
    have h2 : 4503599627370496 * 2 ^ (K53 - 51) ≤ sig (rung x) * 2 ^ ex (rung x) := Nat.mul_le_mul hs h1
    have h3 := pow_le_of K53 (K53 - 51) 4503599627370496 51 (by omega) (by decide)
    exact absurd hm (Nat.not_lt_of_le (Nat.le_trans h3 h2))
  · exact hge

theorem dbl {x : Nat} (h : Fin x) (hx : x < 9223372036854775808) (h0 : x ≠ 0) (hm : mag x < 2 ^ K53) :
    ∃ y, double.mul x 4611686018427387904 = some y ∧ y < 9223372036854775808 ∧ Fin y ∧ mag y = mag x * 2 := by
  have hrx : rung x = x := Nat.mod_eq_of_lt hx
  have hel := small_ex hm
  have hsl := sig_lt (rung x)
  have hse := sig_ex (rung x)
  have hneg : neg x = false := by unfold neg; rw [Nat.div_eq_of_lt hx]; rfl
  have hs0 : sig (rung x) ≠ 0 := by
    have := rung_parts (rung x)
    rcases hse with h1 | h1
    · rw [h1] at this; omega
    · omega
  obtain ⟨m, e, hm1, hm2, hm3, hm4⟩ : ∃ m e, m ≠ 0 ∧ m < 9007199254740992 ∧ (e = 0 ∨ 4503599627370496 ≤ m) ∧ (sig (rung x) * 2 ^ (ex (rung x) + 1) = m * 2 ^ e ∧ e ≤ 1076) := by
    by_cases hc : ex (rung x) = 0 ∧ sig (rung x) < 4503599627370496
    · exact ⟨2 * sig (rung x), 0, by omega, by omega, Or.inl rfl, by rw [hc.1]; omega, by omega⟩
    · refine ⟨sig (rung x), ex (rung x) + 1, hs0, hsl, Or.inr ?_, rfl, by omega⟩
      rcases hse with h1 | h1
      · omega
      · exact h1
  have hn := nearest_exact false (sig (rung x) * 4503599627370496) (ex (rung x)) 51 m e (-1074 + (ex (rung x) : Int) + (-51)) (by omega) hm1 hm2 hm3 (by omega)
    (by rw [Nat.pow_add, ← Nat.mul_assoc, ← hm4.1, show ex (rung x) + 1 = 1 + ex (rung x) from by omega, Nat.pow_add]; generalize 2 ^ ex (rung x) = q; generalize sig (rung x) = mm; rw [show mm * (2 ^ 1 * q) * 2 ^ 51 = mm * 4503599627370496 * q from by rw [Nat.mul_assoc, Nat.mul_assoc, Nat.mul_assoc]; congr 1; omega])
  obtain ⟨hw1, hw2, hw3, hw4⟩ := mk_word m e hm2 hm3 (by omega)
  refine ⟨e * 4503599627370496 + m, ?_, by omega, hw2, ?_⟩
  · unfold Format.mul
    rw [read_fin h, read_two, hneg]
    show some (double.nearest (false ^^ false) (sig (rung x) * 4503599627370496) _) = _
    rw [Bool.xor_self, hn, hw1]
  · rw [hw4, ← hm4.1]
    unfold mag
    rw [Nat.pow_succ, Nat.mul_assoc]

/-! ### To an integer and back -/

theorem cut_zero (m d : Nat) (ng : Bool) : Toward.zero.cut ng m d = m / 2 ^ d := by
  unfold Toward.cut
  simp only [Nat.one_shiftLeft, Bool.toNat_false, Nat.add_zero]
  by_cases h : d ≤ m.log2 + 2
  · rw [Nat.min_eq_left h]
  · rw [Nat.min_eq_right (by omega)]
    have h1 : m < 2 ^ (m.log2 + 1) := Nat.lt_log2_self
    rw [Nat.div_eq_of_lt (Nat.lt_of_lt_of_le h1 (pow_le _ _ (by omega))), Nat.div_eq_of_lt (Nat.lt_of_lt_of_le h1 (pow_le _ _ (by omega)))]

/-- The whole part. -/
def whole (x : Nat) : Nat := mag x / 2 ^ K0

theorem toInt_fin {x : Nat} (h : Fin x) (hx : x < 9223372036854775808) : (FloatKind.f64.decode x).toInt .zero = some (whole x : Int) := by
  have hneg : neg x = false := by unfold neg; rw [Nat.div_eq_of_lt hx]; rfl
  have hK := K0_eq
  show (double.read x).toInt .zero = _
  rw [read_fin h, hneg]
  unfold Datum.toInt Datum.integral
  dsimp only
  rw [cut_zero]
  unfold signed whole mag
  rw [Nat.shiftLeft_zero, Nat.shiftLeft_eq]
  simp only [Bool.false_eq_true, if_false]
  congr 2
  by_cases he : ex (rung x) ≤ 1074
  · have e1 : (-1074 + (ex (rung x) : Int)).toNat = 0 := by omega
    have e2 : (-(-1074 + (ex (rung x) : Int))).toNat = K0 - ex (rung x) := by omega
    rw [e1, e2, Nat.pow_zero, Nat.mul_one]
    have e3 : 2 ^ K0 = 2 ^ (K0 - ex (rung x)) * 2 ^ ex (rung x) := by rw [← Nat.pow_add]; congr 1; omega
    rw [e3, Nat.mul_div_mul_right _ _ (Nat.two_pow_pos _)]
  · have e1 : (-1074 + (ex (rung x) : Int)).toNat = ex (rung x) - K0 := by omega
    have e2 : (-(-1074 + (ex (rung x) : Int))).toNat = 0 := by omega
    rw [e1, e2, Nat.pow_zero, Nat.div_one]
    have e3 : 2 ^ ex (rung x) = 2 ^ (ex (rung x) - K0) * 2 ^ K0 := by rw [← Nat.pow_add]; congr 1; omega
    rw [e3, ← Nat.mul_assoc, Nat.mul_div_cancel _ (Nat.two_pow_pos _)]

theorem whole_lt {x : Nat} (hm : mag x < 2 ^ K53) : whole x < 9007199254740992 := by
  unfold whole
  rw [Nat.div_lt_iff_lt_mul (Nat.two_pow_pos _)]
  refine Nat.lt_of_lt_of_le hm ?_
  have := K53_eq
  have := K0_eq
  exact pow_le_of K53 K0 9007199254740992 53 (by omega) (by decide)

theorem toU64 {x : Nat} (h : Fin x) (hx : x < 9223372036854775808) (hm : mag x < 2 ^ K53) : floatToIntVal .f64 x .u64 = some (whole x : Int) := by
  unfold floatToIntVal
  rw [toInt_fin h hx]
  have := whole_lt hm
  dsimp only
  rw [if_pos]
  simp [IntKind.min, IntKind.max, IntKind.bits, IntKind.signed]
  omega

theorem ofNat_fin (n : Nat) (hn : n < 9007199254740992) : ∃ y, floatOfInt .f64 (n : Int) = y ∧ y < 9223372036854775808 ∧ Fin y ∧ mag y = n * 2 ^ K0 := by
  by_cases h0 : n = 0
  · subst h0
    exact ⟨0, by decide +kernel, by decide, by unfold Fin rung; decide, by simp [mag, rung, sig]⟩
  · have hK := K0_eq
    have hl1 := Nat.log2_self_le h0
    have hl2 : n < 2 ^ (n.log2 + 1) := Nat.lt_log2_self
    have hl : n.log2 ≤ 52 := by
      have : n.log2 < 53 := (Nat.log2_lt h0).2 (by omega)
      omega
    have hlo : 4503599627370496 ≤ n * 2 ^ (52 - n.log2) := by
      have : 2 ^ n.log2 * 2 ^ (52 - n.log2) ≤ n * 2 ^ (52 - n.log2) := Nat.mul_le_mul_right _ hl1
      rw [← Nat.pow_add, show n.log2 + (52 - n.log2) = 52 from by omega] at this
      omega
    have hhi : n * 2 ^ (52 - n.log2) < 9007199254740992 := by
      have : n * 2 ^ (52 - n.log2) < 2 ^ (n.log2 + 1) * 2 ^ (52 - n.log2) := Nat.mul_lt_mul_of_pos_right hl2 (Nat.two_pow_pos _)
      rw [← Nat.pow_add, show n.log2 + 1 + (52 - n.log2) = 53 from by omega] at this
      omega
    have hv : n * 2 ^ (52 - n.log2) * 2 ^ (1022 + n.log2) = n * 2 ^ K0 := by
      rw [Nat.mul_assoc, ← Nat.pow_add]
      congr 2
      omega
    have hn' := nearest_exact false n K0 0 (n * 2 ^ (52 - n.log2)) (1022 + n.log2) 0 (by omega) (by omega) hhi (Or.inr hlo) (by omega) (by rw [Nat.add_zero]; exact hv.symm)
    obtain ⟨hw1, hw2, hw3, hw4⟩ := mk_word (n * 2 ^ (52 - n.log2)) (1022 + n.log2) hhi (Or.inr hlo) (by omega)
    refine ⟨(1022 + n.log2) * 4503599627370496 + n * 2 ^ (52 - n.log2), ?_, by omega, hw2, hw4.trans hv⟩
    show double.nearest (decide ((n : Int) < 0)) (n : Int).natAbs 0 = _
    rw [decide_eq_false (by omega), Int.natAbs_natCast, hn', hw1]

end Go.Proofs.Qxb6614701a.Fl
