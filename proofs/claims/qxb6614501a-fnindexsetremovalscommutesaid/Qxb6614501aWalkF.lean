import Derived.Test.Qxb6614501aWalkD
namespace Go.Proofs.Qxb6614501a
namespace Pl

/-- 'a | 1 << s'. -/
def orb (a s : Nat) : Nat := a ||| 2 ^ s

/-- Level k+1 marks the words of level k below v that are not zero, and no others. -/
def PartSum (L : Nat → Nat) (Z : Nat → Nat → Nat) (k v : Nat) : Prop :=
  ∀ i, i < 64 * L (k + 1) → (Z (k + 1) (i / 64)).testBit (i % 64) = (decide (i < v) && decide (Z k i ≠ 0))

theorem part_zero {L : Nat → Nat} {Z : Nat → Nat → Nat} {k : Nat} (h : ∀ i, i < L (k + 1) → Z (k + 1) i = 0) : PartSum L Z k 0 := by
  intro i hi
  rw [h (i / 64) (by omega)]
  simp

theorem part_skip {L : Nat → Nat} {Z : Nat → Nat → Nat} {k v : Nat} (h : PartSum L Z k v) (hz : Z k v = 0) : PartSum L Z k (v + 1) := by
  intro i hi
  rw [h i hi]
  by_cases e : i = v
  · subst e; simp [hz]
  · congr 1
    rw [decide_eq_decide]
    omega

theorem part_set {L : Nat → Nat} {Z : Nat → Nat → Nat} {k v : Nat} (h : PartSum L Z k v) (hz : ¬ Z k v = 0) : PartSum L (upd Z (k + 1) (v / 64) (orb (Z (k + 1) (v / 64)) (v % 64))) k (v + 1) := by
  intro i hi
  rw [upd_other _ (k + 1) _ _ k i (by omega)]
  have hold := h i hi
  by_cases cw : i / 64 = v / 64
  · rw [cw, upd_same, orb, Nat.testBit_or, ← cw, hold, Nat.testBit_two_pow]
    by_cases e : i = v
    · subst e; simp [hz]
    · have e1 : ¬ v % 64 = i % 64 := by omega
      rw [decide_eq_false e1, Bool.or_false]
      congr 1
      rw [decide_eq_decide]
      omega
  · rw [upd_else _ _ _ _ _ cw, hold]
    congr 1
    rw [decide_eq_decide]
    omega

theorem orb_lt (a s : Nat) (ha : a < 18446744073709551616) (hs : s < 64) : orb a s < 18446744073709551616 := by
  have h1 : 2 ^ s < 2 ^ 64 := Nat.pow_lt_pow_right (by omega) hs
  have h2 : a < 2 ^ 64 := by omega
  have := Nat.or_lt_two_pow h2 h1
  unfold orb
  omega

theorem low_upd {L : Nat → Nat} {Z : Nat → Nat → Nat} {k : Nat} (h : ∀ r, r < k → SumAt L Z r) (w v : Nat) : ∀ r, r < k → SumAt L (upd Z (k + 1) w v) r := fun r hr =>
  sumAt_congr (h r hr) (fun _ _ => upd_other _ _ _ _ _ _ (by omega)) (fun _ _ => by rw [upd_other _ _ _ _ _ _ (by omega)])

end Pl
open Go.RowKit

theorem wrap_pow' (s : Nat) (hs : s < 64) : IntKind.u64.wrap ((2 : Int) ^ s) = (2 : Int) ^ s := by
  rw [wrap_pow s hs]; simp

theorem or_pow (a s : Nat) (ha : a < 18446744073709551616) (hs : s < 64) : bits .or .u64 (a : Int) ((2 : Int) ^ s) = (Pl.orb a s : Nat) := by
  have h2 : ((2 : Int) ^ s) = ((2 ^ s : Nat) : Int) := by simp
  rw [h2, u64_or_nat _ _ ha (pow_lt64 s hs)]
  rfl

/-- How far zzSummarise is: the summaries below level k are right; the first level is as it was. -/
structure Sm (w wr : World) (B n : Nat) (L : Nat → Nat) (Z Zc : Nat → Nat → Nat) (k : Nat) : Prop where
  own : Own wr B n L Zc
  small : Pl.Small n L Zc
  touch : Touch B n w wr
  low : ∀ r, r < k → Pl.SumAt L Zc r
  first : ∀ j, Zc 0 j = Z 0 j

theorem Sm.put {w wr : World} {B n : Nat} {L : Nat → Nat} {Z Zc : Nat → Nat → Nat} {k : Nat} (h : Sm w wr B n L Z Zc k) (hk : k + 1 < n) (j v : Nat) (hv : v < 18446744073709551616) :
    Sm w (wr.setCell ⟨B + 1 + (k + 1), j, none⟩ (.int .u64 v)) B n L Z (Pl.upd Zc (k + 1) j v) k :=
  ⟨h.own.set (k + 1) j v, Pl.small_upd h.small _ _ _ hv, h.touch.set hk j _, Pl.low_upd h.low _ _, fun i => by rw [Pl.upd_other _ _ _ _ _ _ (by omega)]; exact h.first i⟩

theorem Sm.next {w wr : World} {B n : Nat} {L : Nat → Nat} {Z Zc : Nat → Nat → Nat} {k : Nat} (h : Sm w wr B n L Z Zc k) (hp : Pl.PartSum L Zc k (L k)) : Sm w wr B n L Z Zc (k + 1) :=
  ⟨h.own, h.small, h.touch, fun r hr => by
    by_cases e : r = k
    · subst e; exact hp
    · exact h.low r (by omega), h.first⟩

/-- What zzSummarise leaves. -/
def Summed (w : World) (B n : Nat) (L : Nat → Nat) (Z : Nat → Nat → Nat) (e : Ending) (w' : World) : Prop :=
  e = .returned (.tuple #[]) ∧ ∃ Zc, Own w' B n L Zc ∧ Pl.Small n L Zc ∧ Touch B n w w' ∧ Pl.Sums n L Zc ∧ ∀ j, Zc 0 j = Z 0 j

set_option maxHeartbeats 800000 in
theorem summarise9 (B N : Nat) (L : Nat → Nat) (Z : Nat → Nat → Nat) (w : World) (hown : Own w B (N + 1) L Z) (hs : Pl.Small (N + 1) L Z) (hf : Fits (N + 1) L) (hL : Pl.Lens (N + 1) L) :
    Calls Try.prog 9 #[.slice (some ⟨B, 0, none⟩) (N + 1) (N + 1)] w (Summed w B (N + 1) L Z) := by
  have hn := hf.1
  go_enter Try.func9, Try.ntmps9
  go_wp2
  go_loopw [2] (fun si wr => ∃ (k : Nat) (Zc : Nat → Nat → Nat), k ≤ N ∧ si = .int .i64 k ∧ Sm w wr B (N + 1) L Z Zc k) (fun si _ => N - (intOf si).toNat)
  case atStart => exact ⟨0, Z, Nat.zero_le _, rfl, hown, hs, Touch.refl _ _ _, fun r hr => absurd hr (Nat.not_lt_zero _), fun _ => rfl⟩
  case round =>
    obtain ⟨k, Zc, hk, rfl, hS⟩ := hrel
    by_cases hlt : k < N
    · have hl1 := hf.2 (k + 1) (by omega)
      have hl0 := hf.2 k (by omega)
      have g1 : wr.cell? ⟨B, k + 1, none⟩ = some (.slice (some ⟨B + 1 + (k + 1), 0, none⟩) (L (k + 1)) (L (k + 1))) := hS.own.top.cell (by omega)
      go_wp2
      clear g1
      go_loopw [4] (fun si wr => ∃ (j : Nat) (Zc : Nat → Nat → Nat), j ≤ L (k + 1) ∧ si = .int .i64 j ∧ Sm w wr B (N + 1) L Z Zc k ∧ Hid (∀ i, i < j → Zc (k + 1) i = 0)) (fun si _ => L (k + 1) - (intOf si).toNat)
      case atStart => exact ⟨0, Zc, Nat.zero_le _, rfl, hS, fun r hr => absurd hr (Nat.not_lt_zero _)⟩
      case round =>
        obtain ⟨j, Zd, hj, rfl, hS1, HZ⟩ := hrel
        by_cases hjlt : j < L (k + 1)
        · have g2 : wr.cell? ⟨B + 1 + (k + 1), j, none⟩ = some (.int .u64 (Zd (k + 1) j)) := (hS1.own.row (k + 1) (by omega)).cell hjlt
          have g3 : wr.frozen? ⟨B + 1 + (k + 1), j, none⟩ = false := (hS1.own.row (k + 1) (by omega)).frozen j
          have hP := hS1.put (by omega) j 0 (by omega)
          go_wp2
          go_roundw
          case rel =>
            refine ⟨j + 1, Pl.upd Zd (k + 1) j 0, by omega, by go_num, hP, fun i hi => ?_⟩
            by_cases e : i = j
            · subst e; exact Pl.upd_same _ _ _ _
            · rw [Pl.upd_else _ _ _ _ _ e]; exact HZ.out i (by omega)
          case measure => simp [intOf]; omega
        · obtain rfl : j = L (k + 1) := by omega
          have hp0 : Pl.PartSum L Zd k 0 := Pl.part_zero HZ.out
          go_wp2
          go_loopw [5] (fun si wr => ∃ (v : Nat) (Ze : Nat → Nat → Nat), v ≤ L k ∧ si = .int .i64 v ∧ Sm w wr B (N + 1) L Z Ze k ∧ Pl.PartSum L Ze k v) (fun si _ => L k - (intOf si).toNat)
          case atStart => exact ⟨0, Zd, Nat.zero_le _, rfl, hS1, hp0⟩
          case round =>
            obtain ⟨v, Ze, hv, rfl, hS2, hp⟩ := hrel
            clear hp0
            have g0 : wr.cell? ⟨B, k, none⟩ = some (.slice (some ⟨B + 1 + k, 0, none⟩) (L k) (L k)) := hS2.own.top.cell (by omega)
            by_cases hvlt : v < L k
            · have g4 : wr.cell? ⟨B + 1 + k, v, none⟩ = some (.int .u64 (Ze k v)) := (hS2.own.row k (by omega)).cell hvlt
              have hlen := (hL.2.2.2 k (by omega)).2
              have hidx : v / 64 < L (k + 1) := by omega
              have HL : Hid (L (k + 1) = (L k + 63) / 64) := hlen
              clear hlen
              by_cases hz : Ze k v = 0
              · have hz' : ((Ze k v : Int) != 0) = false := by simp [hz]
                have hp' := Pl.part_skip hp hz
                clear hz
                go_wp2
                go_roundw
                case rel => exact ⟨v + 1, Ze, by omega, by go_num, hS2, hp'⟩
                case measure => simp [intOf]; omega
              · have hz' : ((Ze k v : Int) != 0) = true := by simp [hz]
                have hp' := Pl.part_set hp hz
                have g5 : wr.cell? ⟨B + 1 + (k + 1), v / 64, none⟩ = some (.int .u64 (Ze (k + 1) (v / 64))) := (hS2.own.row (k + 1) (by omega)).cell hidx
                have g6 : wr.frozen? ⟨B + 1 + (k + 1), v / 64, none⟩ = false := (hS2.own.row (k + 1) (by omega)).frozen _
                have hzl := hS2.small (k + 1) (by omega) _ hidx
                have hwp := wrap_pow' (v % 64) (Nat.mod_lt _ (by omega))
                have hor := or_pow _ (v % 64) hzl (Nat.mod_lt _ (by omega))
                have hP := hS2.put (by omega) (v / 64) _ (Pl.orb_lt _ _ hzl (Nat.mod_lt v (show 0 < 64 by omega)))
                clear hz
                go_wp2
                go_roundw
                case rel => exact ⟨v + 1, _, by omega, by go_num, hP, hp'⟩
                case measure => simp [intOf]; omega
            · obtain rfl : v = L k := by omega
              have hN := hS2.next hp
              go_wp2
              go_roundw
              case rel => exact ⟨k + 1, Ze, by omega, by go_num, hN⟩
              case measure => simp [intOf]; omega
    · obtain rfl : k = N := by omega
      go_wp2
      go_end0
      exact ⟨rfl, Zc, hS.own, hS.small, hS.touch, fun r hr => hS.low r (by omega), hS.first⟩

end Go.Proofs.Qxb6614501a
