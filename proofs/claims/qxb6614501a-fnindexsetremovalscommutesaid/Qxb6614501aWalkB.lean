import Derived.Test.Qxb6614501aWalkA
import Derived.Test.Qxb6614501aPlain
import Derived.WalkLawsBesides
namespace Go.Proofs.Qxb6614501a
open Go.RowKit

/-- What zzIndexSetShape grants. -/
def Shaped (n : Nat) (L : Nat → Nat) (Z : Nat → Nat → Nat) : Prop := Pl.Lens n L ∧ Pl.Sums n L Z

/-- Of the pairs of levels below k. -/
def UpTo (k : Nat) (L : Nat → Nat) (Z : Nat → Nat → Nat) : Prop := ∀ r, r < k → (2 ≤ L r ∧ L (r + 1) = (L r + 63) / 64) ∧ Pl.SumAt L Z r

/-- Of the first j bits of the pair of levels k. -/
def BitsTo (k j : Nat) (L : Nat → Nat) (Z : Nat → Nat → Nat) : Prop := ∀ i, i < j → (Z (k + 1) (i / 64)).testBit (i % 64) = (decide (i < L k) && decide (Z k i ≠ 0))

theorem upTo_zero (L : Nat → Nat) (Z : Nat → Nat → Nat) : UpTo 0 L Z := fun _ hr => absurd hr (Nat.not_lt_zero _)
theorem bitsTo_zero (k : Nat) (L : Nat → Nat) (Z : Nat → Nat → Nat) : BitsTo k 0 L Z := fun _ hr => absurd hr (Nat.not_lt_zero _)

theorem upTo_succ {k : Nat} {L : Nat → Nat} {Z : Nat → Nat → Nat} (h : UpTo k L Z) (h2 : 2 ≤ L k) (h3 : L (k + 1) = (L k + 63) / 64) (hb : BitsTo k (64 * L (k + 1)) L Z) : UpTo (k + 1) L Z := by
  intro r hr
  by_cases e : r = k
  · subst e
    exact ⟨⟨h2, h3⟩, hb⟩
  · exact h r (by omega)

theorem bit_eq (X s : Nat) (hX : X < 18446744073709551616) : (bits BinOp.and IntKind.u64 ((X : Int) / 2 ^ s) 1 == 1) = X.testBit s := by
  have e : ((X : Int) / 2 ^ s) = ((X / 2 ^ s : Nat) : Int) := by simp
  have hlt : X / 2 ^ s < 18446744073709551616 := Nat.lt_of_le_of_lt (Nat.div_le_self _ _) hX
  rw [e, Nat.testBit_eq_decide_div_mod_eq]
  generalize X / 2 ^ s = q at hlt
  rw [and_one_u64 _ (by omega) (by omega), Bool.eq_iff_iff]
  simp
  omega

theorem bitsTo_in {k j : Nat} {L : Nat → Nat} {Z : Nat → Nat → Nat} (h : BitsTo k j L Z) (hj : j < L k) (hX : Z (k + 1) (j / 64) < 18446744073709551616)
    (ht : (!(bits BinOp.and IntKind.u64 (↑(Z (k + 1) (j / 64)) / 2 ^ (j % 64)) 1 == 1) == ((Z k j : Int) != 0)) = false) : BitsTo k (j + 1) L Z := by
  intro i hi
  by_cases e : i = j
  · subst e
    rw [bit_eq _ _ hX] at ht
    simp only [Bool.not_eq_false', beq_iff_eq] at ht
    rw [ht, Bool.eq_iff_iff]
    simp [hj]
  · exact h i (by omega)

theorem bitsTo_out {k j : Nat} {L : Nat → Nat} {Z : Nat → Nat → Nat} (h : BitsTo k j L Z) (hj : ¬ j < L k) (hX : Z (k + 1) (j / 64) < 18446744073709551616)
    (ht : (bits BinOp.and IntKind.u64 (↑(Z (k + 1) (j / 64)) / 2 ^ (j % 64)) 1 == 1) = false) : BitsTo k (j + 1) L Z := by
  intro i hi
  by_cases e : i = j
  · subst e
    rw [bit_eq _ _ hX] at ht
    rw [ht]
    simp [hj]
  · exact h i (by omega)

theorem shaped_of {N : Nat} {L : Nat → Nat} {Z : Nat → Nat → Nat} (h0 : ¬ L 0 = 0) (h1 : L N = 1) (h : UpTo N L Z) : Shaped (N + 1) L Z :=
  ⟨⟨by omega, by omega, h1, fun k hk => (h k (by omega)).1⟩, fun k hk => (h k (by omega)).2⟩

theorem shape7_none (ao : Option Addr) (cap : Nat) (w : World) :
    Calls Try.prog 7 #[.slice ao 0 cap] w (RetB w fun b => b = false) := by
  go_enter Try.func7, Try.ntmps7
  go_wp2
  go_ret
  exact RetB.mk _ rfl rfl rfl

theorem shape7 (bm om N cap : Nat) (A : Nat → Option Addr) (L C Ab Ao : Nat → Nat) (Z : Nat → Nat → Nat) (w : World) (h : Rd w bm om (N + 1) A L C Ab Ao Z) (hf : Fits (N + 1) L) :
    Calls Try.prog 7 #[.slice (some ⟨bm, om, none⟩) (N + 1) cap] w (RetB w fun b => b = true → Shaped (N + 1) L Z) := by
  have hN := hf.1
  have hc0 : w.cell? ⟨bm, om, none⟩ = some (.slice (A 0) (L 0) (C 0)) := by simpa using h.top 0 (by omega)
  have hl0 := hf.2 0 (by omega)
  have e1 : ((N : Int) + 1 == 0) = false := by simp; omega
  by_cases h0 : L 0 = 0
  · have e2 : ((L 0 : Int) == 0) = true := by simp; omega
    clear h0
    go_enter Try.func7, Try.ntmps7
    go_wp2
    go_ret
    exact RetB.mk _ rfl rfl (fun hb => by cases hb)
  have e2 : ((L 0 : Int) == 0) = false := by simp; omega
  have hcN := h.top N (by omega)
  have hlN := hf.2 N (by omega)
  by_cases hN1 : L N = 1
  · have e3 : ((L N : Int) != 1) = false := by simp; omega
    have HN1 : Hid (L N = 1) := hN1
    clear hN1
    go_enter Try.func7, Try.ntmps7
    go_wp2
    go_loop [4] (fun i => ∃ k : Nat, k ≤ N ∧ i = .int .i64 k ∧ UpTo k L Z) (fun i => N - (intOf i).toNat)
    case atStart => exact ⟨0, Nat.zero_le _, rfl, upTo_zero L Z⟩
    case round =>
      obtain ⟨k, hk, rfl, hup⟩ := hrel
      by_cases hlt : k < N
      · have hck := h.top k (by omega)
        have hlk := hf.2 k (by omega)
        have hck1 := h.top (k + 1) (by omega)
        have hlk1 := hf.2 (k + 1) (by omega)
        by_cases h2 : 2 ≤ L k
        · by_cases h3 : L (k + 1) = (L k + 63) / 64
          · have h3' : ((L (k + 1) : Int) != ((L k : Int) + 63) / 64) = false := by simp; omega
            have H3 : Hid (L (k + 1) = (L k + 63) / 64) := h3
            have hle : L k ≤ 64 * L (k + 1) := by omega
            clear h3
            go_wp2
            go_loop [7] (fun i => ∃ j : Nat, j ≤ 64 * L (k + 1) ∧ i = .int .i64 j ∧ BitsTo k j L Z) (fun i => 64 * L (k + 1) - (intOf i).toNat)
            case atStart => exact ⟨0, Nat.zero_le _, rfl, bitsTo_zero k L Z⟩
            case round =>
              obtain ⟨j, hj, rfl, hbits⟩ := hrel
              by_cases hjlt : j < 64 * L (k + 1)
              · have ha1 := h.ad (k + 1) (by omega) (j / 64) (by omega)
                have hz1 := h.cell (k + 1) (by omega) (j / 64) (by omega)
                have hX := h.lt (k + 1) (by omega) (j / 64) (by omega)
                by_cases hjl : j < L k
                · have ha0 := h.ad k (by omega) j hjl
                  have hz0 := h.cell k (by omega) j hjl
                  go_wp2
                  · go_ret
                    exact RetB.mk _ rfl rfl (fun hb => by cases hb)
                  · go_round
                    case rel => exact ⟨j + 1, by omega, by go_num, bitsTo_in hbits hjl hX ‹_›⟩
                    case measure => simp [intOf]; omega
                · go_wp2
                  · go_ret
                    exact RetB.mk _ rfl rfl (fun hb => by cases hb)
                  · go_round
                    case rel => exact ⟨j + 1, by omega, by go_num, bitsTo_out hbits hjl hX ‹_›⟩
                    case measure => simp [intOf]; omega
              · obtain rfl : j = 64 * L (k + 1) := by omega
                go_wp2
                go_round
                case rel => exact ⟨k + 1, by omega, by go_num, upTo_succ hup h2 H3.out hbits⟩
                case measure => simp [intOf]; omega
          · have h3' : ((L (k + 1) : Int) != ((L k : Int) + 63) / 64) = true := by simp; omega
            go_wp2
            go_ret
            exact RetB.mk _ rfl rfl (fun hb => by cases hb)
        · go_wp2
          go_ret
          exact RetB.mk _ rfl rfl (fun hb => by cases hb)
      · obtain rfl : k = N := by omega
        go_wp2
        go_ret
        exact RetB.mk _ rfl rfl (fun _ => shaped_of h0 HN1.out hup)
  · have e3 : ((L N : Int) != 1) = true := by simp; omega
    go_enter Try.func7, Try.ntmps7
    go_wp2
    go_ret
    exact RetB.mk _ rfl rfl (fun hb => by cases hb)

end Go.Proofs.Qxb6614501a
