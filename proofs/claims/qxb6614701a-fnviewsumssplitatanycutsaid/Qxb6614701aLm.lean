/- The plain mathematics of limbs in base 2^32: what a row of them stands for; that carried rows are unique. No Go here. -/
namespace Go.Proofs.Qxb6614701a.Lm

/-- What the first n limbs stand for. -/
def tot (g : Nat → Int) : Nat → Int
  | 0 => 0
  | n + 1 => tot g n + g n * ((2 ^ (32 * n) : Nat) : Int)

def upd (g : Nat → Int) (i : Nat) (v : Int) : Nat → Int := fun j => if j = i then v else g j

theorem upd_same (g : Nat → Int) (i : Nat) (v : Int) : upd g i v i = v := by simp [upd]
theorem upd_other (g : Nat → Int) (i j : Nat) (v : Int) (h : j ≠ i) : upd g i v j = g j := by simp [upd, h]

theorem tot_congr {g h : Nat → Int} {n : Nat} (e : ∀ j, j < n → g j = h j) : tot g n = tot h n := by
  induction n with
  | zero => rfl
  | succ n ih => rw [tot, tot, ih (fun j hj => e j (by omega)), e n (by omega)]

theorem tot_upd_ge (g : Nat → Int) (n i : Nat) (v : Int) (h : n ≤ i) : tot (upd g i v) n = tot g n :=
  tot_congr (fun j hj => upd_other g i j v (by omega))

theorem tot_upd (g : Nat → Int) (n i : Nat) (v : Int) (h : i < n) : tot (upd g i v) n = tot g n + (v - g i) * ((2 ^ (32 * i) : Nat) : Int) := by
  induction n with
  | zero => omega
  | succ n ih =>
    rw [tot, tot]
    by_cases e : i = n
    · subst e
      rw [upd_same, tot_upd_ge g i i v (Nat.le_refl _), Int.sub_mul]
      omega
    · rw [ih (by omega), upd_other g i n v (by omega)]
      omega

theorem tot_zero (n : Nat) : tot (fun _ => 0) n = 0 := by
  induction n with
  | zero => rfl
  | succ n ih => rw [tot, ih]; simp

theorem pow32 (n : Nat) : ((2 ^ (32 * (n + 1)) : Nat) : Int) = 4294967296 * ((2 ^ (32 * n) : Nat) : Int) := by
  rw [show 32 * (n + 1) = 32 + 32 * n from by omega, Nat.pow_add]
  simp

/-- Every limb but the last of n + 1 lies within 32 bits. -/
def Canon (g : Nat → Int) (n : Nat) : Prop := ∀ j, j < n → 0 ≤ g j ∧ g j < 4294967296

theorem tot_range {g : Nat → Int} {n : Nat} (h : Canon g n) : 0 ≤ tot g n ∧ tot g n < ((2 ^ (32 * n) : Nat) : Int) := by
  induction n with
  | zero => simp [tot]
  | succ n ih =>
    obtain ⟨a, b⟩ := ih (fun j hj => h j (by omega))
    obtain ⟨c, d⟩ := h n (by omega)
    rw [tot, pow32]
    generalize ((2 ^ (32 * n) : Nat) : Int) = P at *
    generalize tot g n = t at *
    have h1 : 0 ≤ g n * P := Int.mul_nonneg c (by omega)
    have h2 : g n * P ≤ 4294967295 * P := Int.mul_le_mul_of_nonneg_right (by omega) (by omega)
    omega

/-- CARRIED ROWS THAT STAND FOR THE SAME ARE THE SAME. -/
theorem unique {g h : Nat → Int} : ∀ (n : Nat), Canon g n → Canon h n → tot g (n + 1) = tot h (n + 1) → ∀ j, j < n + 1 → g j = h j := by
  intro n
  induction n with
  | zero =>
    intro _ _ e j hj
    obtain rfl : j = 0 := by omega
    simp [tot] at e
    exact e
  | succ n ih =>
    intro cg ch e
    have rg := tot_range (g := g) (n := n + 1) cg
    have rh := tot_range (g := h) (n := n + 1) ch
    have e1 : tot g (n + 1) + g (n + 1) * ((2 ^ (32 * (n + 1)) : Nat) : Int) = tot h (n + 1) + h (n + 1) * ((2 ^ (32 * (n + 1)) : Nat) : Int) := e
    have key : g (n + 1) = h (n + 1) := by
      generalize ((2 ^ (32 * (n + 1)) : Nat) : Int) = P at *
      generalize tot g (n + 1) = a at *
      generalize tot h (n + 1) = b at *
      generalize g (n + 1) = x at *
      generalize h (n + 1) = y at *
      clear e
      rcases Int.lt_trichotomy x y with hlt | heq | hgt
      · exfalso
        have : (x + 1) * P ≤ y * P := Int.mul_le_mul_of_nonneg_right (by omega) (by omega)
        rw [Int.add_mul] at this
        omega
      · exact heq
      · exfalso
        have : (y + 1) * P ≤ x * P := Int.mul_le_mul_of_nonneg_right (by omega) (by omega)
        rw [Int.add_mul] at this
        omega
    intro j hj
    by_cases ej : j = n + 1
    · rw [ej]; exact key
    · refine ih (fun i hi => cg i (by omega)) (fun i hi => ch i (by omega)) ?_ j (by omega)
      rw [key] at e1
      omega

/-- Every limb within M. -/
def Within (g : Nat → Int) (n : Nat) (M : Int) : Prop := ∀ j, j < n → -M ≤ g j ∧ g j ≤ M

theorem within_upd {g : Nat → Int} {n : Nat} {M M' : Int} (h : Within g n M) (hM : M ≤ M') (i : Nat) (v : Int) (h1 : -M' ≤ v) (h2 : v ≤ M') : Within (upd g i v) n M' := by
  intro j hj
  unfold upd
  split
  · exact ⟨h1, h2⟩
  · have := h j hj; omega

/-! ### Norm -/

/-- ieNorm's step at i: the carry out of limb i goes into limb i + 1. -/
def carry1 (g : Nat → Int) (i : Nat) : Nat → Int := upd (upd g i (g i - g i / 4294967296 * 4294967296)) (i + 1) (g (i + 1) + g i / 4294967296)

theorem carry1_tot (g : Nat → Int) (i n : Nat) (h : i + 1 < n) : tot (carry1 g i) n = tot g n := by
  unfold carry1
  rw [tot_upd _ _ _ _ h, tot_upd _ _ _ _ (by omega), upd_other _ _ _ _ (by omega), pow32]
  generalize ((2 ^ (32 * i) : Nat) : Int) = P
  generalize g i / 4294967296 = c
  rw [show g i - c * 4294967296 - g i = -(c * 4294967296) from by omega, show g (i + 1) + c - g (i + 1) = c from by omega, Int.neg_mul, Int.mul_assoc]
  omega

/-- Carried below k, and no limb too large: the limbs from k on within M plus what was carried in. -/
structure Normed (g : Nat → Int) (k : Nat) (M : Int) : Prop where
  low : ∀ j, j < k → 0 ≤ g j ∧ g j < 4294967296
  high : ∀ j, k ≤ j → j < 140 → -M ≤ g j ∧ g j ≤ M

theorem normed_step {g : Nat → Int} {k : Nat} {B : Int} (h : Normed g k (2 * B)) (hB : ∀ j, k < j → j < 140 → -B ≤ g j ∧ g j ≤ B) (hB0 : 4 ≤ B) (hk : k + 1 < 140) : Normed (carry1 g k) (k + 1) (2 * B) ∧ ∀ j, k + 1 < j → j < 140 → -B ≤ carry1 g k j ∧ carry1 g k j ≤ B := by
  have hgk := h.high k (Nat.le_refl _) (by omega)
  have hc1 : -B ≤ g k / 4294967296 ∧ g k / 4294967296 ≤ B := by omega
  have hb1 := hB (k + 1) (by omega) hk
  refine ⟨⟨fun j hj => ?_, fun j h1 h2 => ?_⟩, fun j h1 h2 => ?_⟩
  · unfold carry1
    by_cases e : j = k
    · subst e
      rw [upd_other _ _ _ _ (by omega), upd_same]
      omega
    · rw [upd_other _ _ _ _ (by omega), upd_other _ _ _ _ e]
      exact h.low j (by omega)
  · unfold carry1
    by_cases e : j = k + 1
    · subst e
      rw [upd_same]
      omega
    · rw [upd_other _ _ _ _ e, upd_other _ _ _ _ (by omega)]
      have := hB j (by omega) h2
      omega
  · unfold carry1
    rw [upd_other _ _ _ _ (by omega), upd_other _ _ _ _ (by omega)]
    exact hB j (by omega) h2

/-! ### Three limbs added -/

def add3 (g : Nat → Int) (q : Nat) (a b c : Int) : Nat → Int := upd (upd (upd g q (g q + a)) (q + 1) (g (q + 1) + b)) (q + 2) (g (q + 2) + c)

theorem add3_tot (g : Nat → Int) (q n : Nat) (a b c : Int) (h : q + 2 < n) : tot (add3 g q a b c) n = tot g n + (a + b * 4294967296 + c * 18446744073709551616) * ((2 ^ (32 * q) : Nat) : Int) := by
  unfold add3
  rw [tot_upd _ _ _ _ h, tot_upd _ _ _ _ (by omega), tot_upd _ _ _ _ (by omega), upd_other _ _ _ _ (by omega), upd_other _ _ _ _ (by omega), upd_other _ _ _ _ (by omega), pow32, show 32 * (q + 2) = 32 * ((q + 1) + 1) from by omega, pow32, pow32]
  generalize ((2 ^ (32 * q) : Nat) : Int) = P
  rw [show g q + a - g q = a from by omega, show g (q + 1) + b - g (q + 1) = b from by omega, show g (q + 2) + c - g (q + 2) = c from by omega, Int.add_mul, Int.add_mul, Int.mul_assoc b, Int.mul_assoc c, show 18446744073709551616 * P = 4294967296 * (4294967296 * P) from by omega]
  omega

theorem add3_within {g : Nat → Int} {n : Nat} {M : Int} (h : Within g n M) (q : Nat) (a b c : Int) (hq : q + 2 < n) (ha : -4294967296 ≤ a ∧ a ≤ 4294967296) (hb : -4294967296 ≤ b ∧ b ≤ 4294967296) (hc : -4294967296 ≤ c ∧ c ≤ 4294967296) :
    Within (add3 g q a b c) n (M + 4294967296) := by
  have h0 := h q (by omega)
  have h1 := h (q + 1) (by omega)
  have h2 := h (q + 2) (by omega)
  unfold add3
  refine within_upd (within_upd (within_upd h (by omega) q _ (by omega) (by omega)) (Int.le_refl _) (q + 1) _ (by omega) (by omega)) (Int.le_refl _) (q + 2) _ (by omega) (by omega)

/-- A shift cut into whole limbs and the rest. -/
theorem shift_cut (v sh : Nat) : v * 2 ^ (sh % 32) * 2 ^ (32 * (sh / 32)) = v * 2 ^ sh := by
  rw [Nat.mul_assoc, ← Nat.pow_add]
  congr 2
  omega

end Go.Proofs.Qxb6614701a.Lm
