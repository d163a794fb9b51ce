/- The plain mathematics of an index set: levels of words, each level after the first a summary of the one before. No Go here. -/
namespace Go.Proofs.Qxb6614501a.Pl

/-- 'a &^ b' on 64 bits. -/
def clr (a b : Nat) : Nat := a &&& (18446744073709551615 - b)

def upd (Z : Nat → Nat → Nat) (k w v : Nat) : Nat → Nat → Nat := fun k' j => if k' = k ∧ j = w then v else Z k' j

/-- Level k+1 marks just the words of level k that are not zero. -/
def SumAt (L : Nat → Nat) (Z : Nat → Nat → Nat) (k : Nat) : Prop :=
  ∀ j, j < 64 * L (k + 1) → (Z (k + 1) (j / 64)).testBit (j % 64) = (decide (j < L k) && decide (Z k j ≠ 0))

def Sums (n : Nat) (L : Nat → Nat) (Z : Nat → Nat → Nat) : Prop := ∀ k, k + 1 < n → SumAt L Z k

def Small (n : Nat) (L : Nat → Nat) (Z : Nat → Nat → Nat) : Prop := ∀ k, k < n → ∀ j, j < L k → Z k j < 18446744073709551616

/-- How long the levels are. -/
def Lens (n : Nat) (L : Nat → Nat) : Prop := 0 < n ∧ 0 < L 0 ∧ L (n - 1) = 1 ∧ ∀ k, k + 1 < n → 2 ≤ L k ∧ L (k + 1) = (L k + 63) / 64

/-- removeWord, f levels to go from level k on. -/
def remW : Nat → Nat → Nat → Nat → (Nat → Nat → Nat) → (Nat → Nat → Nat)
  | 0, _, _, _, Z => Z
  | f + 1, k, w, b, Z => if clr (Z k w) b ≠ 0 then upd Z k w (clr (Z k w) b) else remW f (k + 1) (w / 64) (2 ^ (w % 64)) (upd Z k w (clr (Z k w) b))

theorem clr_testBit (a s i : Nat) (hs : s < 64) (hi : i < 64) : (clr a (2 ^ s)).testBit i = (a.testBit i && decide (i ≠ s)) := by
  unfold clr
  rw [Nat.testBit_and]
  have e : 18446744073709551615 - 2 ^ s = 2 ^ 64 - (2 ^ s + 1) := by omega
  rw [e, Nat.testBit_two_pow_sub_succ (Nat.pow_lt_pow_right (by omega) hs), Nat.testBit_two_pow]
  simp [hi, eq_comm]

theorem clr_zero (b : Nat) : clr 0 b = 0 := by simp [clr]

theorem clr_lt (a b : Nat) (h : a < 18446744073709551616) : clr a b < 18446744073709551616 :=
  Nat.lt_of_le_of_lt Nat.and_le_left h

theorem upd_other (Z : Nat → Nat → Nat) (k w v k' j : Nat) (h : k' ≠ k) : upd Z k w v k' j = Z k' j := by simp [upd, h]
theorem upd_same (Z : Nat → Nat → Nat) (k w v : Nat) : upd Z k w v k w = v := by simp [upd]
theorem upd_else (Z : Nat → Nat → Nat) (k w v j : Nat) (h : j ≠ w) : upd Z k w v k j = Z k j := by simp [upd, h]

theorem small_upd {n : Nat} {L : Nat → Nat} {Z : Nat → Nat → Nat} (h : Small n L Z) (k w v : Nat) (hv : v < 18446744073709551616) : Small n L (upd Z k w v) := by
  intro k' hk' j hj
  unfold upd
  split
  · exact hv
  · exact h k' hk' j hj

theorem sumAt_congr {L : Nat → Nat} {Z Z' : Nat → Nat → Nat} {k : Nat} (h : SumAt L Z k) (h1 : ∀ j, j < L (k + 1) → Z' (k + 1) j = Z (k + 1) j) (h0 : ∀ j, j < L k → (Z' k j ≠ 0 ↔ Z k j ≠ 0)) : SumAt L Z' k := by
  intro j hj
  rw [h1 (j / 64) (by omega), h j hj]
  by_cases hjl : j < L k
  · simp only [hjl, decide_true, Bool.true_and, decide_eq_decide]
    exact (h0 j hjl).symm
  · simp [hjl]

theorem remW_spec {n : Nat} {L : Nat → Nat} (hL : Lens n L) : ∀ (f k w b : Nat) (Z : Nat → Nat → Nat), k + f = n → 0 < f → Small n L Z → w < L k → (∀ k', k ≤ k' → k' + 1 < n → SumAt L Z k') →
    (∀ k', k' + 1 < k → SumAt L Z k') → (∀ k', k' + 1 = k → SumAt L (upd Z k w (clr (Z k w) b)) k') →
    Sums n L (remW f k w b Z) ∧ Small n L (remW f k w b Z) ∧ (∀ k' j, k' < k → remW f k w b Z k' j = Z k' j) ∧ (∀ j, remW f k w b Z k j = if j = w then clr (Z k w) b else Z k j) := by
  intro f
  induction f with
  | zero => intro k w b Z _ h; omega
  | succ f ih =>
    intro k w b Z hkf _ hs hw hc hd he
    have hvlt : clr (Z k w) b < 18446744073709551616 := clr_lt _ _ (hs k (by omega) w hw)
    have hs' := small_upd hs k w _ hvlt
    have hlev : ∀ j, upd Z k w (clr (Z k w) b) k j = if j = w then clr (Z k w) b else Z k j := fun j => by
      by_cases e : j = w
      · subst e; simp [upd]
      · simp [upd, e]
    have hlow : ∀ k', k' + 1 < k → SumAt L (upd Z k w (clr (Z k w) b)) k' := fun k' hk' =>
      sumAt_congr (hd k' hk') (fun j _ => upd_other _ _ _ _ _ _ (by omega)) (fun j _ => by rw [upd_other _ _ _ _ _ _ (by omega)])
    have hhigh : ∀ k', k + 1 ≤ k' → k' + 1 < n → SumAt L (upd Z k w (clr (Z k w) b)) k' := fun k' hk' hn' =>
      sumAt_congr (hc k' (by omega) hn') (fun j _ => upd_other _ _ _ _ _ _ (by omega)) (fun j _ => by rw [upd_other _ _ _ _ _ _ (by omega)])
    by_cases hv : clr (Z k w) b ≠ 0
    · have e : remW (f + 1) k w b Z = upd Z k w (clr (Z k w) b) := by simp [remW, hv]
      rw [e]
      refine ⟨fun k' hk' => ?_, hs', fun k' j hk' => upd_other _ _ _ _ _ _ (by omega), hlev⟩
      by_cases c1 : k' + 1 < k
      · exact hlow k' c1
      by_cases c2 : k' + 1 = k
      · exact he k' c2
      by_cases c3 : k' = k
      · subst c3
        refine sumAt_congr (hc k' (by omega) hk') (fun j _ => upd_other _ _ _ _ _ _ (by omega)) (fun j _ => ?_)
        rw [hlev]
        by_cases ej : j = w
        · subst ej
          rw [if_pos rfl]
          refine ⟨fun _ h0 => hv (by rw [h0]; exact clr_zero b), fun _ => hv⟩
        · rw [if_neg ej]
      · exact hhigh k' (by omega) hk'
    · have hv0 : clr (Z k w) b = 0 := by omega
      have e : remW (f + 1) k w b Z = remW f (k + 1) (w / 64) (2 ^ (w % 64)) (upd Z k w (clr (Z k w) b)) := by simp [remW, hv0]
      by_cases hf : f = 0
      · subst hf
        rw [e]
        show Sums n L (upd Z k w (clr (Z k w) b)) ∧ _
        refine ⟨fun k' hk' => ?_, hs', fun k' j hk' => upd_other _ _ _ _ _ _ (by omega), hlev⟩
        by_cases c1 : k' + 1 < k
        · exact hlow k' c1
        · exact he k' (by omega)
      · have hlen := hL.2.2.2 k (by omega)
        have key := ih (k + 1) (w / 64) (2 ^ (w % 64)) (upd Z k w (clr (Z k w) b)) (by omega) (by omega) hs' (by rw [hlen.2]; omega) (fun k' h1 h2 => hhigh k' h1 h2)
          (fun k' hk' => by
            by_cases c1 : k' + 1 < k
            · exact hlow k' c1
            · exact he k' (by omega))
          (fun k' hk' => by
            obtain rfl : k' = k := by omega
            intro j hj
            have hold := hc k' (Nat.le_refl _) (by omega) j hj
            have hup : upd Z k' w (clr (Z k' w) b) (k' + 1) (w / 64) = Z (k' + 1) (w / 64) := upd_other _ _ _ _ _ _ (by omega)
            rw [hup, upd_other _ (k' + 1) _ _ k' j (by omega), hlev]
            by_cases cw : j / 64 = w / 64
            · rw [cw, upd_same, clr_testBit _ _ _ (Nat.mod_lt _ (by omega)) (Nat.mod_lt _ (by omega)), ← cw, hold]
              by_cases ej : j = w
              · subst ej
                simp [hv0]
              · rw [if_neg ej]
                have : j % 64 ≠ w % 64 := by omega
                simp [this]
            · rw [upd_else _ _ _ _ _ cw, upd_other _ _ _ _ _ _ (by omega), hold, if_neg (by omega)])
        rw [e]
        refine ⟨key.1, key.2.1, fun k' j hk' => ?_, fun j => ?_⟩
        · rw [key.2.2.1 k' j (by omega), upd_other _ _ _ _ _ _ (by omega)]
        · rw [key.2.2.1 k j (by omega), hlev]

/-- remove. -/
def rem (n i : Nat) (Z : Nat → Nat → Nat) : Nat → Nat → Nat := remW n 0 (i / 64) (2 ^ (i % 64)) Z

theorem rem_spec {n : Nat} {L : Nat → Nat} {Z : Nat → Nat → Nat} (hL : Lens n L) (hs : Small n L Z) (hz : Sums n L Z) (i : Nat) (hi : i / 64 < L 0) :
    Sums n L (rem n i Z) ∧ Small n L (rem n i Z) ∧ ∀ j, rem n i Z 0 j = if j = i / 64 then clr (Z 0 (i / 64)) (2 ^ (i % 64)) else Z 0 j := by
  have := remW_spec hL n 0 (i / 64) (2 ^ (i % 64)) Z (by omega) hL.1 hs hi (fun k' _ h => hz k' h) (fun k' h => by omega) (fun k' h => by omega)
  exact ⟨this.1, this.2.1, this.2.2.2⟩

/-- The first level and the summaries say it all. -/
theorem unique {n : Nat} {L : Nat → Nat} {Z Z' : Nat → Nat → Nat} (hs : Small n L Z) (hs' : Small n L Z') (hz : Sums n L Z) (hz' : Sums n L Z') (h0 : ∀ j, j < L 0 → Z 0 j = Z' 0 j) :
    ∀ k, k < n → ∀ j, j < L k → Z k j = Z' k j := by
  intro k
  induction k with
  | zero => intro _ j hj; exact h0 j hj
  | succ k ih =>
    intro hk j hj
    apply Nat.eq_of_testBit_eq
    intro i
    by_cases hi : i < 64
    · have a := hz k hk (64 * j + i) (by omega)
      have b := hz' k hk (64 * j + i) (by omega)
      rw [show (64 * j + i) / 64 = j from by omega, show (64 * j + i) % 64 = i from by omega] at a b
      rw [a, b]
      by_cases c : 64 * j + i < L k
      · rw [ih (by omega) _ c]
      · simp [c]
    · have p : 18446744073709551616 ≤ 2 ^ i := by
        have : 2 ^ 64 ≤ 2 ^ i := Nat.pow_le_pow_right (by omega) (by omega)
        omega
      rw [Nat.testBit_lt_two_pow (Nat.lt_of_lt_of_le (hs _ hk j hj) p), Nat.testBit_lt_two_pow (Nat.lt_of_lt_of_le (hs' _ hk j hj) p)]

theorem level_zero {n : Nat} {L : Nat → Nat} {Z : Nat → Nat → Nat} (hL : Lens n L) (hs : Small n L Z) (hz : Sums n L Z) : ∀ k, k < n → ((∀ j, j < L k → Z k j = 0) ↔ ∀ j, j < L 0 → Z 0 j = 0) := by
  intro k
  induction k with
  | zero => intro _; exact Iff.rfl
  | succ k ih =>
    intro hk
    rw [← ih (by omega)]
    have hlen := hL.2.2.2 k hk
    constructor
    · intro h j hj
      have a := hz k hk j (by rw [hlen.2]; omega)
      rw [h (j / 64) (by rw [hlen.2]; omega)] at a
      simp [hj] at a
      exact a
    · intro h j hj
      apply Nat.eq_of_testBit_eq
      intro i
      rw [Nat.zero_testBit]
      by_cases hi : i < 64
      · have a := hz k hk (64 * j + i) (by omega)
        rw [show (64 * j + i) / 64 = j from by omega, show (64 * j + i) % 64 = i from by omega] at a
        rw [a]
        by_cases c : 64 * j + i < L k
        · simp [h _ c]
        · simp [c]
      · have p : 18446744073709551616 ≤ 2 ^ i := by
          have : 2 ^ 64 ≤ 2 ^ i := Nat.pow_le_pow_right (by omega) (by omega)
          omega
        exact Nat.testBit_lt_two_pow (Nat.lt_of_lt_of_le (hs _ hk j hj) p)

/-- The top word is zero just where the set is empty. -/
theorem top_zero {n : Nat} {L : Nat → Nat} {Z : Nat → Nat → Nat} (hL : Lens n L) (hs : Small n L Z) (hz : Sums n L Z) : Z (n - 1) 0 = 0 ↔ ∀ j, j < L 0 → Z 0 j = 0 := by
  rw [← level_zero hL hs hz (n - 1) (by have := hL.1; omega), hL.2.2.1]
  exact ⟨fun h j hj => by obtain rfl : j = 0 := by omega
                          exact h, fun h => h 0 (by omega)⟩

end Go.Proofs.Qxb6614501a.Pl
