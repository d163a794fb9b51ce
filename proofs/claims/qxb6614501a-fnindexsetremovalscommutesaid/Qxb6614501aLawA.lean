import Derived.Test.Qxb6614501aWalkE
import Derived.Test.Qxb6614501aWalkF
namespace Go.Proofs.Qxb6614501a
open Go.RowKit

theorem Rd.below {w w' : World} {bm om n : Nat} {A : Nat → Option Addr} {L C Ab Ao : Nat → Nat} {Z : Nat → Nat → Nat} (h : Rd w bm om n A L C Ab Ao Z) (hb : Below w.heap.size w w') : Rd w' bm om n A L C Ab Ao Z :=
  ⟨fun r hr => (hb.cell (p := ⟨bm, om + r, none⟩) (World.block_lt_of_cell? _ _ (h.top r hr))).trans (h.top r hr), h.ad,
   fun r hr c hc => (hb.cell (p := ⟨Ab r, Ao r + c, none⟩) (World.block_lt_of_cell? _ _ (h.cell r hr c hc))).trans (h.cell r hr c hc), h.lt, h.len⟩

theorem Rd.congr {w : World} {bm om n : Nat} {A : Nat → Option Addr} {L C Ab Ao : Nat → Nat} {Z Z' : Nat → Nat → Nat} (h : Rd w bm om n A L C Ab Ao Z) (e : ∀ k, k < n → ∀ j, j < L k → Z k j = Z' k j) : Rd w bm om n A L C Ab Ao Z' :=
  ⟨h.top, h.ad, fun r hr c hc => by rw [← e r hr c hc]; exact h.cell r hr c hc, fun r hr c hc => by rw [← e r hr c hc]; exact h.lt r hr c hc, h.len⟩

theorem Rd.small {w : World} {bm om n : Nat} {A : Nat → Option Addr} {L C Ab Ao : Nat → Nat} {Z : Nat → Nat → Nat} (h : Rd w bm om n A L C Ab Ao Z) : Pl.Small n L Z := fun k hk j hj => h.lt k hk j hj

/-- A law's end. -/
def LawOk (w : World) (e : Ending) (w' : World) : Prop := e = .returned (.bool true) ∧ Below w.heap.size w w'

theorem lens_pos {n : Nat} {L : Nat → Nat} (h : Pl.Lens n L) : ∀ r, r < n → 0 < L r := by
  intro r hr
  by_cases e : r + 1 < n
  · have := (h.2.2.2 r e).1; omega
  · have := h.2.2.1
    rw [show r = n - 1 from by omega]
    omega

theorem andNot_pow (a s : Nat) (ha : a < 18446744073709551616) (hs : s < 64) : bits .andNot .u64 (a : Int) ((2 : Int) ^ s) = (Pl.clr a (2 ^ s) : Nat) := by
  have h2 : ((2 : Int) ^ s) = ((2 ^ s : Nat) : Int) := by simp
  rw [h2, u64_andNot_nat _ _ ha (pow_lt64 s hs)]
  rfl

set_option maxHeartbeats 1000000 in
theorem law3 (bm om N cap : Nat) (A : Nat → Option Addr) (L C Ab Ao : Nat → Nat) (Z : Nat → Nat → Nat) (i : Int) (w : World) (hn : N + 1 ≤ 9223372036854775807) (hi1 : -9223372036854775808 ≤ i) (hi2 : i ≤ 9223372036854775807) (h : Rd w bm om (N + 1) A L C Ab Ao Z) :
    Calls Try.prog 3 #[.slice (some ⟨bm, om, none⟩) (N + 1) cap, .int .i64 i] w (LawOk w) := by
  have hc0 : w.cell? ⟨bm, om, none⟩ = some (.slice (A 0) (L 0) (C 0)) := by simpa using h.top 0 (by omega)
  have hbm : bm < w.heap.size := World.block_lt_of_cell? _ _ hc0
  have hlen0 := h.len 0 (by omega)
  go_enter Try.func3, Try.ntmps3
  go_wp2_with fail
  refine (bytes5 _ bm om (N + 1) cap A L C Ab Ao Z i w hn (fun _ => rfl) h).mono ?_
  rintro e w1 ⟨b, rfl, rfl, -⟩
  cases b
  · go_wp2
    go_ret
    exact ⟨rfl, Below.refl _ _⟩
  go_wp2_with fail
  refine (fit6 _ bm om (N + 1) cap A L C Ab Ao Z w1 hn (fun _ => rfl) h).mono ?_
  rintro e w1 ⟨b, rfl, rfl, hfit⟩
  cases b
  · go_wp2
    go_ret
    exact ⟨rfl, Below.refl _ _⟩
  have hf : Fits (N + 1) L := hfit rfl
  clear hfit
  go_wp2_with fail
  refine (shape7 bm om N cap A L C Ab Ao Z w1 h hf).mono ?_
  rintro e w1 ⟨b, rfl, rfl, hsh⟩
  cases b
  · go_wp2
    go_ret
    exact ⟨rfl, Below.refl _ _⟩
  obtain ⟨hL, hz⟩ : Shaped (N + 1) L Z := hsh rfl
  clear hsh
  by_cases hi0 : i < 0
  · go_wp2
    go_ret
    exact ⟨rfl, Below.refl _ _⟩
  obtain ⟨m, rfl⟩ := Int.eq_ofNat_of_zero_le (show 0 ≤ i by omega)
  by_cases hm : m / 64 < L 0
  · have hp := lens_pos hL
    have hsm := h.small
    go_wp2_with fail
    refine (copy8 bm om (N + 1) cap A L C Ab Ao Z w1 h hf hp hbm).mono ?_
    rintro e w2 ⟨rfl, hown, hbel, hsz⟩
    have g1 : w2.cell? ⟨w1.heap.size, 0, none⟩ = some (.slice (some ⟨w1.heap.size + 1, 0, none⟩) (L 0) (L 0)) := by simpa using hown.top.cell (i := 0) (by omega)
    have g2 : w2.cell? ⟨w1.heap.size + 1, m / 64, none⟩ = some (.int .u64 (Z 0 (m / 64))) := by simpa using (hown.row 0 (by omega)).cell hm
    have g3 : w2.frozen? ⟨w1.heap.size + 1, m / 64, none⟩ = false := by simpa using (hown.row 0 (by omega)).frozen (m / 64)
    have hzl := hsm 0 (by omega) _ hm
    have hwp := wrap_pow' (m % 64) (Nat.mod_lt _ (by omega))
    have han := andNot_pow _ (m % 64) hzl (Nat.mod_lt _ (by omega))
    have hown2 : Own (w2.setCell ⟨w1.heap.size + 1, m / 64, none⟩ (.int .u64 (Pl.clr (Z 0 (m / 64)) (2 ^ (m % 64))))) w1.heap.size (N + 1) L (Pl.upd Z 0 (m / 64) (Pl.clr (Z 0 (m / 64)) (2 ^ (m % 64)))) := hown.set 0 _ _
    have hs2 : Pl.Small (N + 1) L (Pl.upd Z 0 (m / 64) (Pl.clr (Z 0 (m / 64)) (2 ^ (m % 64)))) := Pl.small_upd hsm _ _ _ (Pl.clr_lt _ _ hzl)
    have hb2 : Below w1.heap.size w1 (w2.setCell ⟨w1.heap.size + 1, m / 64, none⟩ (.int .u64 (Pl.clr (Z 0 (m / 64)) (2 ^ (m % 64))))) := hbel.setCell (by show w1.heap.size ≤ w1.heap.size + 1; omega) _
    have hsz2 : (w2.setCell ⟨w1.heap.size + 1, m / 64, none⟩ (.int .u64 (Pl.clr (Z 0 (m / 64)) (2 ^ (m % 64))))).heap.size = w1.heap.size + 1 + (N + 1) := by simpa using hsz
    go_wp2_with fail
    refine (summarise9 w1.heap.size N L _ _ hown2 hs2 hf hL).mono ?_
    rintro e w3 ⟨rfl, Zs, hown3, hs3, ht3, hz3, hfirst⟩
    have hb3 : Below w1.heap.size w1 w3 := hb2.trans ht3.below
    have hsz3 : Hid (w3.heap.size = w1.heap.size + 1 + (N + 1)) := ht3.size.trans hsz2
    have hbm3 : bm < w3.heap.size := by have := hsz3.out; omega
    have hr3 := h.below hb3
    clear g1 g2 g3 hwp han hown2 hs2 hb2 hsz2 ht3 hown hbel hsz
    go_wp2_with fail
    refine (copy8 bm om (N + 1) cap A L C Ab Ao Z w3 hr3 hf hp hbm3).mono ?_
    rintro e w4 ⟨rfl, hown4, hb4, hsz4'⟩
    have hsz4 : Hid (w4.heap.size = w3.heap.size + 1 + (N + 1)) := hsz4'
    clear hsz4'
    go_wp2_with fail
    refine (new10 w3.heap.size (N + 1) w4).mono ?_
    rintro e w5 ⟨rfl, rfl⟩
    have hS5 : (w4.alloc (.cells #[.slice (some ⟨w3.heap.size, 0, none⟩) (N + 1) (N + 1)] 37)).cell? ⟨w4.heap.size, 0, none⟩ = some (.slice (some ⟨w3.heap.size, 0, none⟩) (N + 1) (N + 1)) := by simp
    have hb5 : Below w4.heap.size w4 (w4.alloc (.cells #[.slice (some ⟨w3.heap.size, 0, none⟩) (N + 1) (N + 1)] 37)) := (Below.refl _ _).alloc (Nat.le_refl _) _
    have hown5 := hown4.below hb5 (by have := hsz4.out; omega)
    go_wp2_with fail
    refine (remove11 w4.heap.size w3.heap.size (N + 1) m L Z _ hS5 hown5 hsm hf hL hm (by omega)).mono ?_
    rintro e w6 ⟨rfl, hown6, ht6⟩
    have hS6 : w6.cell? ⟨w4.heap.size, 0, none⟩ = some (.slice (some ⟨w3.heap.size, 0, none⟩) (N + 1) (N + 1)) := (ht6.cell (p := ⟨w4.heap.size, 0, none⟩) (Or.inr (by have := hsz4.out; show w3.heap.size + 1 + (N + 1) ≤ w4.heap.size; omega))).trans hS5
    have hb6 : Below w3.heap.size w3 w6 := (hb4.trans (hb5.mono (by have := hsz4.out; omega))).trans ht6.below
    have hown36 := hown3.below hb6 (by have := hsz3.out; omega)
    obtain ⟨hzr, hsr, hr0⟩ := Pl.rem_spec hL hsm hz m hm
    have heq := Pl.unique hs3 hsr hz3 hzr (fun j _ => by
      rw [hfirst, hr0]
      by_cases e : j = m / 64
      · subst e; simp [Pl.upd]
      · simp [Pl.upd, e])
    have hrA := hown6.rd hsr hf
    have hrB := (hown36.rd hs3 hf).congr heq
    clear hS5 hb5 hown5 hown36 hown6 hown3 hown4 hr0 hfirst heq hzr hz3
    go_wp2_with fail
    refine (levels13 w4.heap.size w3.heap.size (N + 1) w6 hS6).mono ?_
    rintro e w7 ⟨rfl, rfl⟩
    go_wp2_with fail
    refine (equal12 w3.heap.size 0 w1.heap.size 0 (N + 1) (N + 1) (N + 1) _ _ L _ _ _ _ _ _ _ w7 hrA hrB hf).mono ?_
    rintro e w8 ⟨rfl, q, rfl⟩
    go_wp2
    go_ret
    refine ⟨rfl, ?_⟩
    have hb7 : Below w1.heap.size w1 w7 := hb3.trans (hb6.mono (by have := hsz3.out; omega))
    exact ⟨hb7.os, hb7.tape, hb7.output, hb7.size, hb7.block⟩
  · go_wp2
    go_ret
    exact ⟨rfl, Below.refl _ _⟩

theorem Rd.void (w : World) (L : Nat → Nat) (Z : Nat → Nat → Nat) : Rd w 0 0 0 (fun _ => none) L L L L Z :=
  ⟨fun _ h => absurd h (Nat.not_lt_zero _), fun _ h => absurd h (Nat.not_lt_zero _), fun _ h => absurd h (Nat.not_lt_zero _), fun _ h => absurd h (Nat.not_lt_zero _), fun _ h => absurd h (Nat.not_lt_zero _)⟩

theorem law3_none (ao : Option Addr) (cap : Nat) (i : Int) (w : World) :
    Calls Try.prog 3 #[.slice ao 0 cap, .int .i64 i] w (LawOk w) := by
  go_enter Try.func3, Try.ntmps3
  go_wp2_with fail
  refine (bytes5 ao 0 0 0 cap _ _ _ _ _ _ i w (by omega) (fun h => absurd h (Nat.not_lt_zero _)) (Rd.void w (fun _ => 0) (fun _ _ => 0))).mono ?_
  rintro e w1 ⟨b, rfl, rfl, -⟩
  cases b
  · go_wp2
    go_ret
    exact ⟨rfl, Below.refl _ _⟩
  go_wp2_with fail
  refine (fit6 ao 0 0 0 cap _ _ _ _ _ _ w1 (by omega) (fun h => absurd h (Nat.not_lt_zero _)) (Rd.void w1 (fun _ => 0) (fun _ _ => 0))).mono ?_
  rintro e w1 ⟨b, rfl, rfl, -⟩
  cases b
  · go_wp2
    go_ret
    exact ⟨rfl, Below.refl _ _⟩
  go_wp2_with fail
  refine (shape7_none ao cap w1).mono ?_
  rintro e w1 ⟨b, rfl, rfl, rfl⟩
  go_wp2
  go_ret
  exact ⟨rfl, Below.refl _ _⟩

end Go.Proofs.Qxb6614501a
