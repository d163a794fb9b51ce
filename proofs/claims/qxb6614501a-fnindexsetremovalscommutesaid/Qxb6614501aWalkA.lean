import Derived.Test.Qxb6614501aRows
import Derived.WalkKit
namespace Go.Proofs.Qxb6614501a
open Go.RowKit

/-- What the walk is told of a slice of slices of uint64 with at least one row. -/
structure Rd (w : World) (bm om n : Nat) (A : Nat → Option Addr) (L C Ab Ao : Nat → Nat) (Z : Nat → Nat → Nat) : Prop where
  top : ∀ r, r < n → w.cell? ⟨bm, om + r, none⟩ = some (.slice (A r) (L r) (C r))
  ad : ∀ r, r < n → ∀ c, c < L r → A r = some ⟨Ab r, Ao r, none⟩
  cell : ∀ r, r < n → ∀ c, c < L r → w.cell? ⟨Ab r, Ao r + c, none⟩ = some (.int .u64 (Z r c))
  lt : ∀ r, r < n → ∀ c, c < L r → Z r c < 18446744073709551616
  len : ∀ r, r < n → L r ≤ 9223372036854775807

/-- A reader's end: a bool, of which p holds; the world stands. -/
def RetB (w : World) (p : Bool → Prop) (e : Ending) (w' : World) : Prop := ∃ b, e = .returned (.bool b) ∧ w' = w ∧ p b
theorem RetB.mk {w : World} {p : Bool → Prop} {e : Ending} {w' : World} (b : Bool) (h : e = .returned (.bool b)) (hw : w' = w) (hp : p b) : RetB w p e w' := ⟨b, h, hw, hp⟩

theorem bytes5 (ao : Option Addr) (bm om n cap : Nat) (A : Nat → Option Addr) (L C Ab Ao : Nat → Nat) (Z : Nat → Nat → Nat) (i : Int) (w : World) (hn : n ≤ 9223372036854775807) (hao : 0 < n → ao = some ⟨bm, om, none⟩) (h : Rd w bm om n A L C Ab Ao Z) :
    Calls Try.prog 5 #[.slice ao n cap, .int .i64 i] w (RetB w fun _ => True) := by
  by_cases h1 : n ≤ 1048576
  · go_enter Try.func5, Try.ntmps5
    go_wp2
    go_loop [5, 6] (fun s i => ∃ k m : Nat, k ≤ n ∧ m ≤ 1048576 ∧ i = .int .i64 k ∧ s = .int .i64 m) (fun _ i => n - (intOf i).toNat)
    case atStart => exact ⟨0, n, Nat.zero_le _, h1, rfl, rfl⟩
    case round =>
      obtain ⟨k, m, hk, hm, rfl, rfl⟩ := hrel
      by_cases hlt : k < n
      · have hc := h.top k hlt
        have hL := h.len k hlt
        obtain rfl := hao (by omega)
        by_cases h2 : L k ≤ 1048576
        · by_cases h3 : m + L k ≤ 1048576
          · go_wp2
            go_round
            case rel => exact ⟨k + 1, m + L k, by omega, by omega, by go_num, by go_num⟩
            case measure => simp [intOf]; omega
          · go_wp2
            go_ret
            exact RetB.mk _ rfl rfl trivial
        · go_wp2
          go_ret
          exact RetB.mk _ rfl rfl trivial
      · go_wp2
        go_ret
        exact RetB.mk _ rfl rfl trivial
  · go_enter Try.func5, Try.ntmps5
    go_wp2
    go_ret
    exact RetB.mk _ rfl rfl trivial

theorem bytes14 (ao : Option Addr) (bm om n cap : Nat) (A : Nat → Option Addr) (L C Ab Ao : Nat → Nat) (Z : Nat → Nat → Nat) (a : Int) (b : Int) (w : World) (hn : n ≤ 9223372036854775807) (hao : 0 < n → ao = some ⟨bm, om, none⟩) (h : Rd w bm om n A L C Ab Ao Z) :
    Calls Try.prog 14 #[.slice ao n cap, .int .i64 a, .int .i64 b] w (RetB w fun _ => True) := by
  by_cases h1 : n ≤ 1048576
  · go_enter Try.func14, Try.ntmps14
    go_wp2
    go_loop [7, 8] (fun s i => ∃ k m : Nat, k ≤ n ∧ m ≤ 1048576 ∧ i = .int .i64 k ∧ s = .int .i64 m) (fun _ i => n - (intOf i).toNat)
    case atStart => exact ⟨0, n, Nat.zero_le _, h1, rfl, rfl⟩
    case round =>
      obtain ⟨k, m, hk, hm, rfl, rfl⟩ := hrel
      by_cases hlt : k < n
      · have hc := h.top k hlt
        have hL := h.len k hlt
        obtain rfl := hao (by omega)
        by_cases h2 : L k ≤ 1048576
        · by_cases h3 : m + L k ≤ 1048576
          · go_wp2
            go_round
            case rel => exact ⟨k + 1, m + L k, by omega, by omega, by go_num, by go_num⟩
            case measure => simp [intOf]; omega
          · go_wp2
            go_ret
            exact RetB.mk _ rfl rfl trivial
        · go_wp2
          go_ret
          exact RetB.mk _ rfl rfl trivial
      · go_wp2
        go_ret
        exact RetB.mk _ rfl rfl trivial
  · go_enter Try.func14, Try.ntmps14
    go_wp2
    go_ret
    exact RetB.mk _ rfl rfl trivial

/-- What zzLevelsFit grants. -/
def Fits (n : Nat) (L : Nat → Nat) : Prop := n ≤ 131072 ∧ ∀ k, k < n → L k ≤ 131072

theorem fit6 (ao : Option Addr) (bm om n cap : Nat) (A : Nat → Option Addr) (L C Ab Ao : Nat → Nat) (Z : Nat → Nat → Nat) (w : World) (hn : n ≤ 9223372036854775807) (hao : 0 < n → ao = some ⟨bm, om, none⟩) (h : Rd w bm om n A L C Ab Ao Z) :
    Calls Try.prog 6 #[.slice ao n cap] w (RetB w fun b => b = true → Fits n L) := by
  by_cases h1 : n ≤ 131072
  · go_enter Try.func6, Try.ntmps6
    go_wp2
    go_loop [3, 4] (fun s i => ∃ k m : Nat, k ≤ n ∧ m ≤ 131072 ∧ i = .int .i64 k ∧ s = .int .i64 m ∧ ∀ r, r < k → L r ≤ 131072) (fun _ i => n - (intOf i).toNat)
    case atStart => exact ⟨0, n, Nat.zero_le _, h1, rfl, rfl, fun r hr => absurd hr (Nat.not_lt_zero _)⟩
    case round =>
      obtain ⟨k, m, hk, hm, rfl, rfl, hall⟩ := hrel
      by_cases hlt : k < n
      · have hc := h.top k hlt
        have hL := h.len k hlt
        obtain rfl := hao (by omega)
        by_cases h3 : m + L k ≤ 131072
        · go_wp2
          go_round
          case rel => exact ⟨k + 1, m + L k, by omega, by omega, by go_num, by go_num, fun r hr => by
            by_cases e : r = k
            · subst e; omega
            · exact hall r (by omega)⟩
          case measure => simp [intOf]; omega
        · go_wp2
          go_ret
          exact RetB.mk _ rfl rfl (fun hb => by cases hb)
      · have hkn : k = n := by omega
        go_wp2
        go_ret
        exact RetB.mk _ rfl rfl (fun _ => ⟨h1, fun r hr => hall r (by omega)⟩)
  · go_enter Try.func6, Try.ntmps6
    go_wp2
    go_ret
    exact RetB.mk _ rfl rfl (fun hb => by cases hb)

end Go.Proofs.Qxb6614501a
