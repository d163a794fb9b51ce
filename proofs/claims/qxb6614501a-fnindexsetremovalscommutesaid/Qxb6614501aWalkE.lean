import Derived.Test.Qxb6614501aWalkD
import Derived.Deep.QuietTactic
import Derived.BigQuiet
namespace Go.Proofs.Qxb6614501a
open Go.RowKit

/-- Two sets of levels that hold the same: zzLevelsEqual says yes. -/
def SaidYes (w : World) (e : Ending) (w' : World) : Prop := e = .returned (.bool true) ∧ ∃ m, w' = w.drewN m

set_option maxHeartbeats 400000 in
theorem equal12 (b1 o1 b2 o2 n c1 c2 : Nat) (A1 A2 : Nat → Option Addr) (L C1 C2 Ab1 Ab2 Ao1 Ao2 : Nat → Nat) (Z : Nat → Nat → Nat) (w : World) (h1 : Rd w b1 o1 n A1 L C1 Ab1 Ao1 Z) (h2 : Rd w b2 o2 n A2 L C2 Ab2 Ao2 Z) (hf : Fits n L) :
    Calls Try.prog 12 #[.slice (some ⟨b1, o1, none⟩) n c1, .slice (some ⟨b2, o2, none⟩) n c2] w (SaidYes w) := by
  have hn := hf.1
  go_enter Try.func12, Try.ntmps12
  go_wp2
  go_loopw [5] (fun i wr => ∃ k m : Nat, k ≤ n ∧ i = .int .i64 k ∧ wr = w.drewN m) (fun i _ => n - (intOf i).toNat)
  case atStart => exact ⟨0, 0, Nat.zero_le _, rfl, rfl⟩
  case round =>
    obtain ⟨k, m, hk, rfl, rfl⟩ := hrel
    by_cases hlt : k < n
    · have g1 := h1.top k hlt
      have g2 := h2.top k hlt
      have hfk := hf.2 k hlt
      go_wp2
      go_quiet (fail)
      go_wp2
      go_loopw [6] (fun i wr => ∃ j m : Nat, j ≤ L k ∧ i = .int .i64 j ∧ wr = w.drewN m) (fun i _ => L k - (intOf i).toNat)
      case atStart => exact ⟨0, m + nq, Nat.zero_le _, rfl, World.drewN_drewN _ _ _⟩
      case round =>
        obtain ⟨j, m', hj, rfl, rfl⟩ := hrel
        by_cases hjlt : j < L k
        · have a1 := h1.ad k hlt j hjlt
          have a2 := h2.ad k hlt j hjlt
          have z1 := h1.cell k hlt j hjlt
          have z2 := h2.cell k hlt j hjlt
          go_wp2
          go_quiet (fail)
          go_wp2
          go_roundw
          case rel => exact ⟨j + 1, _, by omega, by go_num, rfl⟩
          case measure => simp [intOf]; omega
        · go_wp2
          go_roundw
          case rel => exact ⟨k + 1, m', by omega, by go_num, rfl⟩
          case measure => simp [intOf]; omega
    · go_wp2
      go_ret
      exact ⟨rfl, m, rfl⟩

end Go.Proofs.Qxb6614501a
