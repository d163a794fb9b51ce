import Derived.Test.Qxb6614501aWalkC
import Derived.Laws.BitsAllLaws
namespace Go.Proofs.Qxb6614501a
open Go.RowKit

/-- At most the levels' own words have been written. -/
structure Touch (B n : Nat) (w w' : World) : Prop where
  os : w'.os = w.os
  tape : w'.tape = w.tape
  output : w'.output = w.output
  size : w'.heap.size = w.heap.size
  block : ∀ k, k ≤ B ∨ B + 1 + n ≤ k → w'.heap[k]? = w.heap[k]?

theorem Touch.refl (B n : Nat) (w : World) : Touch B n w w := ⟨rfl, rfl, rfl, rfl, fun _ _ => rfl⟩

theorem Touch.trans {B n : Nat} {a b c : World} (h : Touch B n a b) (k : Touch B n b c) : Touch B n a c :=
  ⟨k.os.trans h.os, k.tape.trans h.tape, k.output.trans h.output, k.size.trans h.size, fun i hi => (k.block i hi).trans (h.block i hi)⟩

theorem Touch.set {B n : Nat} {a w : World} (h : Touch B n a w) {r : Nat} (hr : r < n) (j : Nat) (v : Value) : Touch B n a (w.setCell ⟨B + 1 + r, j, none⟩ v) :=
  h.trans ⟨rfl, rfl, rfl, by simp [World.setCell], fun k hk => Below.heap_setCell _ _ _ _ (by show k ≠ B + 1 + r; omega)⟩

theorem Touch.below {B n : Nat} {w w' : World} (h : Touch B n w w') : Below B w w' :=
  ⟨h.os, h.tape, h.output, by rw [h.size]; exact Nat.le_refl _, fun k hk => h.block k (Or.inl (Nat.le_of_lt hk))⟩

theorem Touch.cell {B n : Nat} {w w' : World} (h : Touch B n w w') {p : Addr} (hp : p.block ≤ B ∨ B + 1 + n ≤ p.block) : w'.cell? p = w.cell? p := World.cell?_of_block (w := w) (h.block p.block hp)

theorem Own.set {w : World} {B n : Nat} {L : Nat → Nat} {Z : Nat → Nat → Nat} (h : Own w B n L Z) (k j v : Nat) : Own (w.setCell ⟨B + 1 + k, j, none⟩ (.int .u64 v)) B n L (Pl.upd Z k j v) := by
  refine ⟨h.top.setOther (by show B ≠ B + 1 + k; omega) _, fun r hr => ?_⟩
  by_cases e : r = k
  · subst e
    refine ((h.row r hr).set j _).congr (fun i _ => ?_)
    by_cases ei : i = j
    · subst ei; simp [Pl.upd]
    · simp [Pl.upd, ei]
  · exact ((h.row r hr).setOther (by show B + 1 + r ≠ B + 1 + k; omega) _).congr (fun i _ => by simp [Pl.upd, e])

theorem Own.below {w w' : World} {B B' n : Nat} {L : Nat → Nat} {Z : Nat → Nat → Nat} (h : Own w B n L Z) (hb : Below B' w w') (hB : B + 1 + n ≤ B') : Own w' B n L Z :=
  ⟨h.top.of_block (hb.block B (by omega)), fun r hr => (h.row r hr).of_block (hb.block _ (by omega))⟩

theorem Own.lt {w : World} {B n : Nat} {L : Nat → Nat} {Z : Nat → Nat → Nat} (h : Own w B n L Z) (hn : 0 < n) : B + n < w.heap.size := by
  have := (h.row (n - 1) (by omega)).lt
  omega

theorem Own.rd {w : World} {B n : Nat} {L : Nat → Nat} {Z : Nat → Nat → Nat} (h : Own w B n L Z) (hs : Pl.Small n L Z) (hf : Fits n L) : Rd w B 0 n (fun r => some ⟨B + 1 + r, 0, none⟩) L L (fun r => B + 1 + r) (fun _ => 0) Z :=
  ⟨fun r hr => by simpa using h.top.cell hr, fun _ _ _ _ => rfl, fun r hr c hc => by simpa using (h.row r hr).cell hc, fun r hr c hc => hs r hr c hc, fun r hr => by have := hf.2 r hr; omega⟩

theorem new10 (B n : Nat) (w : World) :
    Calls Try.prog 10 #[.slice (some ⟨B, 0, none⟩) n n] w fun e w' => e = .returned (.pointer (some ⟨w.heap.size, 0, none⟩)) ∧ w' = w.alloc (.cells #[.slice (some ⟨B, 0, none⟩) n n] 37) := by
  go_enter Try.func10, Try.ntmps10
  go_wp2
  go_ret
  exact ⟨rfl, rfl⟩

theorem levels13 (S B n : Nat) (w : World) (h : w.cell? ⟨S, 0, none⟩ = some (.slice (some ⟨B, 0, none⟩) n n)) :
    Calls Try.prog 13 #[.pointer (some ⟨S, 0, none⟩)] w fun e w' => e = .returned (.slice (some ⟨B, 0, none⟩) n n) ∧ w' = w := by
  go_enter Try.func13, Try.ntmps13
  go_wp2
  go_ret
  exact ⟨rfl, rfl⟩

theorem wrap_pow (s : Nat) (hs : s < 64) : IntKind.u64.wrap ((2 : Int) ^ s) = ((2 ^ s : Nat) : Int) := by
  have h1 : (2 : Nat) ^ s < 18446744073709551616 := by
    have : (2 : Nat) ^ s < 2 ^ 64 := Nat.pow_lt_pow_right (by omega) hs
    omega
  have h2 : ((2 : Int) ^ s) = ((2 ^ s : Nat) : Int) := by simp
  rw [IntKind.wrap_u64, h2]
  generalize 2 ^ s = q at h1
  omega

theorem pow_lt64 (s : Nat) (hs : s < 64) : 2 ^ s < 18446744073709551616 := by
  have : (2 : Nat) ^ s < 2 ^ 64 := Nat.pow_lt_pow_right (by omega) hs
  omega

theorem remW_go {n k wv bv : Nat} {Z : Nat → Nat → Nat} (hk : k < n) (hv : Pl.clr (Z k wv) bv = 0) :
    Pl.remW (n - k) k wv bv Z = Pl.remW (n - (k + 1)) (k + 1) (wv / 64) (2 ^ (wv % 64)) (Pl.upd Z k wv (Pl.clr (Z k wv) bv)) := by
  obtain ⟨f, hf⟩ : ∃ f, n - k = f + 1 := ⟨n - k - 1, by omega⟩
  rw [hf, show n - (k + 1) = f from by omega]
  simp [Pl.remW, hv]

theorem remW_stop {n k wv bv : Nat} {Z : Nat → Nat → Nat} (hk : k < n) (hv : ¬ Pl.clr (Z k wv) bv = 0) :
    Pl.remW (n - k) k wv bv Z = Pl.upd Z k wv (Pl.clr (Z k wv) bv) := by
  obtain ⟨f, hf⟩ : ∃ f, n - k = f + 1 := ⟨n - k - 1, by omega⟩
  rw [hf]
  simp [Pl.remW, hv]

/-- What a removal leaves. -/
def Removed (w : World) (B n : Nat) (L : Nat → Nat) (R : Nat → Nat → Nat) (e : Ending) (w' : World) : Prop :=
  e = .returned (.tuple #[]) ∧ Own w' B n L R ∧ Touch B n w w'

set_option maxHeartbeats 400000 in
theorem removeWord16 (S B n w0 b0 : Nat) (L : Nat → Nat) (Z : Nat → Nat → Nat) (w : World) (hS : w.cell? ⟨S, 0, none⟩ = some (.slice (some ⟨B, 0, none⟩) n n)) (hown : Own w B n L Z) (hs : Pl.Small n L Z) (hf : Fits n L) (hL : Pl.Lens n L)
    (hw0 : w0 < L 0) (hb0 : b0 < 18446744073709551616) :
    Calls Try.prog 16 #[.pointer (some ⟨S, 0, none⟩), .int .i64 w0, .int .u64 b0] w (Removed w B n L (Pl.remW n 0 w0 b0 Z)) := by
  have hn := hf.1
  go_enter Try.func16, Try.ntmps16
  go_wp2
  go_loopw [1, 2, 14] (fun sw sb si wr => ∃ (k wv bv : Nat) (Zc : Nat → Nat → Nat), k ≤ n ∧ sw = .int .i64 wv ∧ sb = .int .u64 bv ∧ si = .int .i64 k ∧ (k < n → wv < L k) ∧ bv < 18446744073709551616 ∧ Own wr B n L Zc ∧ Pl.Small n L Zc ∧ Touch B n w wr ∧
      Hid (Pl.remW (n - k) k wv bv Zc = Pl.remW n 0 w0 b0 Z)) (fun _ _ si _ => n - (intOf si).toNat)
  case atStart => exact ⟨0, w0, b0, Z, Nat.zero_le _, rfl, rfl, rfl, fun _ => hw0, hb0, hown, hs, Touch.refl _ _ _, rfl⟩
  case round =>
    obtain ⟨k, wv, bv, Zc, hk, rfl, rfl, rfl, hwv, hbv, hownr, hsr, htr, HR⟩ := hrel
    by_cases hlt : k < n
    · have hwl := hwv hlt
      have hfk := hf.2 k hlt
      have g1 : wr.cell? ⟨B, k, none⟩ = some (.slice (some ⟨B + 1 + k, 0, none⟩) (L k) (L k)) := hownr.top.cell hlt
      have g2 : wr.cell? ⟨B + 1 + k, wv, none⟩ = some (.int .u64 (Zc k wv)) := (hownr.row k hlt).cell hwl
      have g3 : wr.frozen? ⟨B + 1 + k, wv, none⟩ = false := (hownr.row k hlt).frozen wv
      have hz := hsr k hlt wv hwl
      have hb : bits .andNot .u64 (Zc k wv : Int) (bv : Int) = (Pl.clr (Zc k wv) bv : Nat) := u64_andNot_nat _ _ hz hbv
      have hO' := hownr.set k wv (Pl.clr (Zc k wv) bv)
      have hT' := htr.set hlt wv (.int .u64 (Pl.clr (Zc k wv) bv))
      have hS' := Pl.small_upd hsr k wv _ (Pl.clr_lt _ bv hz)
      by_cases hv : Pl.clr (Zc k wv) bv = 0
      · have hv' : (((Pl.clr (Zc k wv) bv : Nat) : Int) != 0) = false := by simp [hv]
        have HV : Hid (Pl.clr (Zc k wv) bv = 0) := hv
        clear hv
        go_wp2
        go_roundw
        case rel =>
          refine ⟨k + 1, wv / 64, 2 ^ (wv % 64), Pl.upd Zc k wv (Pl.clr (Zc k wv) bv), by omega, by go_num, ?_, by go_num, fun hk1 => ?_, pow_lt64 _ (Nat.mod_lt _ (by omega)), hO', hS', hT', (remW_go hlt HV.out).symm.trans HR.out⟩
          · rw [wrap_pow _ (Nat.mod_lt _ (by omega))]
          · rw [(hL.2.2.2 k hk1).2]
            omega
        case measure => simp [intOf]; omega
      · have hv' : (((Pl.clr (Zc k wv) bv : Nat) : Int) != 0) = true := by simp [hv]
        have HV : Hid (¬ Pl.clr (Zc k wv) bv = 0) := hv
        clear hv
        go_wp2
        go_end0
        have hR := HR.out
        rw [remW_stop hlt HV.out] at hR
        rw [← hR]
        exact ⟨rfl, hO', hT'⟩
    · obtain rfl : k = n := by omega
      go_wp2
      go_end0
      have hR := HR.out
      rw [Nat.sub_self] at hR
      rw [← hR]
      exact ⟨rfl, hownr, htr⟩

theorem remove15 (S B n i : Nat) (L : Nat → Nat) (Z : Nat → Nat → Nat) (w : World) (hS : w.cell? ⟨S, 0, none⟩ = some (.slice (some ⟨B, 0, none⟩) n n)) (hown : Own w B n L Z) (hs : Pl.Small n L Z) (hf : Fits n L) (hL : Pl.Lens n L)
    (hi : i / 64 < L 0) (hi2 : i ≤ 9223372036854775807) :
    Calls Try.prog 15 #[.pointer (some ⟨S, 0, none⟩), .int .i64 i] w (Removed w B n L (Pl.rem n i Z)) := by
  go_enter Try.func15, Try.ntmps15
  go_wp2_with fail
  rw [wrap_pow _ (Nat.mod_lt _ (by omega)), show ((i : Int) / 64) = ((i / 64 : Nat) : Int) from by omega]
  refine (removeWord16 S B n (i / 64) (2 ^ (i % 64)) L Z w hS hown hs hf hL hi (pow_lt64 _ (Nat.mod_lt _ (by omega)))).mono ?_
  rintro e w1 ⟨rfl, ho, ht⟩
  go_wp2
  go_end0
  exact ⟨rfl, ho, ht⟩

theorem remove11 (S B n i : Nat) (L : Nat → Nat) (Z : Nat → Nat → Nat) (w : World) (hS : w.cell? ⟨S, 0, none⟩ = some (.slice (some ⟨B, 0, none⟩) n n)) (hown : Own w B n L Z) (hs : Pl.Small n L Z) (hf : Fits n L) (hL : Pl.Lens n L)
    (hi : i / 64 < L 0) (hi2 : i ≤ 9223372036854775807) :
    Calls Try.prog 11 #[.pointer (some ⟨S, 0, none⟩), .int .i64 i] w (Removed w B n L (Pl.rem n i Z)) := by
  go_enter Try.func11, Try.ntmps11
  go_wp2_with fail
  refine (remove15 S B n i L Z w hS hown hs hf hL hi hi2).mono ?_
  rintro e w1 ⟨rfl, ho, ht⟩
  go_wp2
  go_end0
  exact ⟨rfl, ho, ht⟩

end Go.Proofs.Qxb6614501a
