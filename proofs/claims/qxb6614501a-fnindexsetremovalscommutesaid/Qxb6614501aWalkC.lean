import Derived.Test.Qxb6614501aWalkB
import Derived.Deep.OwnRows
import Derived.WalkSpells
namespace Go.Proofs.Qxb6614501a
open Go.RowKit

theorem Try.info27 : (Try.prog.info? 27).map (fun i => (i.zero, i.size, i.bytes)) = some (some (.int .u64 0), 1, 8) := by kernel_rfl
theorem Try.info25 : (Try.prog.info? 25).map (fun i => (i.zero, i.size, i.bytes)) = some (some (.slice none 0 0), 1, 24) := by kernel_rfl

/-- The levels lie in memory of the call's own: the outer row at block B, level r at block B + 1 + r. -/
structure Own (w : World) (B n : Nat) (L : Nat → Nat) (Z : Nat → Nat → Nat) : Prop where
  top : w.rowIs B 25 n (fun r => .slice (some ⟨B + 1 + r, 0, none⟩) (L r) (L r))
  row : ∀ r, r < n → w.rowIs (B + 1 + r) 27 (L r) (fun j => .int .u64 (Z r j))

/-- zzCopyLevels, k levels copied. -/
structure CopyO (w wr : World) (n : Nat) (L : Nat → Nat) (Z : Nat → Nat → Nat) (k : Nat) : Prop where
  below : Below w.heap.size w wr
  size : wr.heap.size = w.heap.size + 1 + k
  top : wr.rowIs w.heap.size 25 n (fun r => if r < k then .slice (some ⟨w.heap.size + 1 + r, 0, none⟩) (L r) (L r) else .slice none 0 0)
  row : ∀ r, r < k → wr.rowIs (w.heap.size + 1 + r) 27 (L r) (fun j => .int .u64 (Z r j))

/-- .. and j words of level k. -/
structure CopyI (w wr : World) (n : Nat) (L : Nat → Nat) (Z : Nat → Nat → Nat) (k j : Nat) : Prop where
  below : Below w.heap.size w wr
  size : wr.heap.size = w.heap.size + 1 + k + 1
  top : wr.rowIs w.heap.size 25 n (fun r => if r < k then .slice (some ⟨w.heap.size + 1 + r, 0, none⟩) (L r) (L r) else .slice none 0 0)
  row : ∀ r, r < k → wr.rowIs (w.heap.size + 1 + r) 27 (L r) (fun j => .int .u64 (Z r j))
  cur : wr.rowIs (w.heap.size + 1 + k) 27 (L k) (fun i => if i < j then .int .u64 (Z k i) else .int .u64 0)

theorem copyO_start (w : World) (n : Nat) (L : Nat → Nat) (Z : Nat → Nat → Nat) : CopyO w (w.alloc (.cells (madeCells #[.slice none 0 0] n) 25)) n L Z 0 :=
  ⟨(Below.refl _ _).alloc (Nat.le_refl _) _, by simp, (World.rowIs_made w _ n 25).congr (fun j _ => by simp), fun j hj => absurd hj (Nat.not_lt_zero _)⟩

theorem copyI_start {w wr : World} {n : Nat} {L : Nat → Nat} {Z : Nat → Nat → Nat} {k : Nat} (h : CopyO w wr n L Z k) : CopyI w (wr.alloc (.cells (madeCells #[.int .u64 0] (L k)) 27)) n L Z k 0 := by
  have hnew := World.rowIs_made wr (.int .u64 0) (L k) 27
  rw [h.size] at hnew
  exact ⟨h.below.alloc (by rw [h.size]; omega) _, by simp [h.size], h.top.alloc _, fun r hr => (h.row r hr).alloc _, hnew.congr (fun i _ => by simp)⟩

theorem copyI_step {w wr : World} {n : Nat} {L : Nat → Nat} {Z : Nat → Nat → Nat} {k j : Nat} (h : CopyI w wr n L Z k j) : CopyI w (wr.setCell ⟨w.heap.size + 1 + k, j, none⟩ (.int .u64 (Z k j))) n L Z k (j + 1) := by
  refine ⟨h.below.setCell (by show w.heap.size ≤ w.heap.size + 1 + k; omega) _, by simp [h.size], h.top.setOther (by show w.heap.size ≠ w.heap.size + 1 + k; omega) _,
    fun r hr => (h.row r hr).setOther (by show w.heap.size + 1 + r ≠ w.heap.size + 1 + k; omega) _, (h.cur.set j _).congr (fun i _ => ?_)⟩
  by_cases e : i = j
  · subst e; simp
  · rw [if_neg e]
    by_cases hlt : i < j
    · rw [if_pos hlt, if_pos (by omega)]
    · rw [if_neg hlt, if_neg (by omega)]

theorem copyI_done {w wr : World} {n : Nat} {L : Nat → Nat} {Z : Nat → Nat → Nat} {k : Nat} (h : CopyI w wr n L Z k (L k)) :
    CopyO w (wr.setCell ⟨w.heap.size, k, none⟩ (.slice (some ⟨w.heap.size + 1 + k, 0, none⟩) (L k) (L k))) n L Z (k + 1) := by
  refine ⟨h.below.setCell (Nat.le_refl _) _, by simp [h.size]; omega, (h.top.set k _).congr (fun i _ => ?_), fun r hr => ?_⟩
  · by_cases e : i = k
    · subst e; simp
    · rw [if_neg e]
      by_cases hlt : i < k
      · rw [if_pos hlt, if_pos (by omega)]
      · rw [if_neg hlt, if_neg (by omega)]
  · by_cases e : r = k
    · subst e
      exact (h.cur.setOther (by show w.heap.size + 1 + r ≠ w.heap.size; omega) _).congr (fun i hi => by rw [if_pos hi])
    · exact (h.row r (by omega)).setOther (by show w.heap.size + 1 + r ≠ w.heap.size; omega) _

theorem copyO_own {w wr : World} {n : Nat} {L : Nat → Nat} {Z : Nat → Nat → Nat} (h : CopyO w wr n L Z n) : Own wr w.heap.size n L Z :=
  ⟨h.top.congr (fun i hi => by rw [if_pos hi]), h.row⟩

/-- What zzCopyLevels leaves. -/
def Copied (w : World) (n : Nat) (L : Nat → Nat) (Z : Nat → Nat → Nat) (e : Ending) (w' : World) : Prop :=
  e = .returned (.slice (some ⟨w.heap.size, 0, none⟩) n n) ∧ Own w' w.heap.size n L Z ∧ Below w.heap.size w w' ∧ w'.heap.size = w.heap.size + 1 + n

set_option maxHeartbeats 400000 in
theorem copy8 (bm om n cap : Nat) (A : Nat → Option Addr) (L C Ab Ao : Nat → Nat) (Z : Nat → Nat → Nat) (w : World) (h : Rd w bm om n A L C Ab Ao Z) (hf : Fits n L) (hp : ∀ r, r < n → 0 < L r) (hbm : bm < w.heap.size) :
    Calls Try.prog 8 #[.slice (some ⟨bm, om, none⟩) n cap] w (Copied w n L Z) := by
  have hn := hf.1
  have hmk22 := run_make_row' (P := Try.prog) 22 25 (.slice none 0 0) 24 Try.underlying22 Try.info25 rfl .i64 .i64 n (by omega) (by omega)
  have q22 : ∀ (w : World) (a : Option Addr) (n c n' c' : Nat), (binOp .eql 22 (.slice a n c) (.slice none n' c')).run Try.prog w = .ok (.bool a.isNone) w := fun w a n c n' c' => Lib.run_eql_slice_nil w _ _ a n c n' c' Try.underlying22
  have q25 : ∀ (w : World) (a : Option Addr) (n c n' c' : Nat), (binOp .eql 25 (.slice a n c) (.slice none n' c')).run Try.prog w = .ok (.bool a.isNone) w := fun w a n c n' c' => Lib.run_eql_slice_nil w _ _ a n c n' c' Try.underlying25
  go_enter Try.func8, Try.ntmps8
  go_wp2
  clear hmk22
  go_loopw [4] (fun i wr => ∃ k : Nat, k ≤ n ∧ i = .int .i64 k ∧ CopyO w wr n L Z k) (fun i _ => n - (intOf i).toNat)
  case atStart => exact ⟨0, Nat.zero_le _, rfl, copyO_start w n L Z⟩
  case round =>
    obtain ⟨k, hk, rfl, hO⟩ := hrel
    by_cases hlt : k < n
    · have hsz := hO.size
      have hpk := hp k hlt
      have hfk := hf.2 k hlt
      have hak := h.ad k hlt 0 hpk
      have hck := (hO.below.cell (p := ⟨bm, om + k, none⟩) hbm).trans (h.top k hlt)
      have hmk25 := run_make_row' (P := Try.prog) 25 27 (.int .u64 0) 8 Try.underlying25 Try.info27 rfl .i64 .i64 (L k) (by omega) (by omega)
      go_wp2
      have hI0 := copyI_start hO
      clear hmk25 hck hsz hO
      go_loopw [6] (fun i wi => ∃ j : Nat, j ≤ L k ∧ i = .int .i64 j ∧ CopyI w wi n L Z k j) (fun i _ => L k - (intOf i).toNat)
      case atStart => exact ⟨0, Nat.zero_le _, rfl, hI0⟩
      case round =>
        obtain ⟨j, hj, rfl, hI⟩ := hrel
        clear hI0
        by_cases hjlt : j < L k
        · have g2 := (hI.below.cell (p := ⟨bm, om + k, none⟩) hbm).trans (h.top k hlt)
          have g3 := (hI.below.cell (p := ⟨Ab k, Ao k + j, none⟩) (World.block_lt_of_cell? _ _ (h.cell k hlt j hjlt))).trans (h.cell k hlt j hjlt)
          have g4 : wr.cell? ⟨w.heap.size + 1 + k, j, none⟩ = some (.int .u64 0) := by simpa using hI.cur.cell hjlt
          have g5 : wr.frozen? ⟨w.heap.size + 1 + k, j, none⟩ = false := hI.cur.frozen j
          have hS := copyI_step hI
          go_wp2
          go_roundw
          case rel => exact ⟨j + 1, by omega, by go_num, hS⟩
          case measure => simp [intOf]; omega
        · obtain rfl : j = L k := by omega
          have g4 : wr.cell? ⟨w.heap.size, k, none⟩ = some (.slice none 0 0) := by simpa using hI.top.cell hlt
          have g5 : wr.frozen? ⟨w.heap.size, k, none⟩ = false := hI.top.frozen k
          have hS := copyI_done hI
          go_wp2
          go_roundw
          case rel => exact ⟨k + 1, by omega, by go_num, hS⟩
          case measure => simp [intOf]; omega
    · obtain rfl : k = n := by omega
      have hown := copyO_own hO
      have hb := hO.below
      have hs := hO.size
      go_wp2
      go_ret
      exact ⟨rfl, hown, hb, hs⟩

end Go.Proofs.Qxb6614501a
