import Derived.Test.Qxb6614501aLawA
namespace Go.Proofs.Qxb6614501a
namespace Pl

/-- Word j with a's bit and b's bit cleared where they lie in it. -/
def clrIf (z a j : Nat) : Nat := if j = a / 64 then clr z (2 ^ (a % 64)) else z

theorem rem_first {n : Nat} {L : Nat → Nat} {Z : Nat → Nat → Nat} (hL : Lens n L) (hs : Small n L Z) (hz : Sums n L Z) (i : Nat) (hi : i / 64 < L 0) (j : Nat) : rem n i Z 0 j = clrIf (Z 0 j) i j := by
  rw [(rem_spec hL hs hz i hi).2.2 j]
  unfold clrIf
  by_cases e : j = i / 64
  · subst e; simp
  · simp [e]

theorem clr_comm (z a b : Nat) : clr (clr z a) b = clr (clr z b) a := by
  unfold clr
  rw [Nat.and_assoc, Nat.and_comm (18446744073709551615 - a), ← Nat.and_assoc]

theorem clrIf_comm (z a b j : Nat) : clrIf (clrIf z a j) b j = clrIf (clrIf z b j) a j := by
  unfold clrIf
  split <;> split <;> first | rfl | exact clr_comm _ _ _

theorem clrIf_lt (z a j : Nat) (h : z < 18446744073709551616) : clrIf z a j < 18446744073709551616 := by
  unfold clrIf
  split
  · exact clr_lt _ _ h
  · exact h

/-- Two removals: what they leave, and that their order is all one. -/
theorem rem_rem {n : Nat} {L : Nat → Nat} {Z : Nat → Nat → Nat} (hL : Lens n L) (hs : Small n L Z) (hz : Sums n L Z) (a b : Nat) (ha : a / 64 < L 0) (hb : b / 64 < L 0) :
    Sums n L (rem n b (rem n a Z)) ∧ Small n L (rem n b (rem n a Z)) ∧ (∀ j, rem n b (rem n a Z) 0 j = clrIf (clrIf (Z 0 j) a j) b j) ∧
    ∀ k, k < n → ∀ j, j < L k → rem n a (rem n b Z) k j = rem n b (rem n a Z) k j := by
  obtain ⟨a1, a2, _⟩ := rem_spec hL hs hz a ha
  obtain ⟨b1, b2, _⟩ := rem_spec hL hs hz b hb
  obtain ⟨c1, c2, _⟩ := rem_spec hL a2 a1 b hb
  obtain ⟨d1, d2, _⟩ := rem_spec hL b2 b1 a ha
  refine ⟨c1, c2, fun j => by rw [rem_first hL a2 a1 b hb, rem_first hL hs hz a ha], unique d2 c2 d1 c1 (fun j _ => ?_)⟩
  rw [rem_first hL a2 a1 b hb, rem_first hL hs hz a ha, rem_first hL b2 b1 a ha, rem_first hL hs hz b hb, clrIf_comm]

/-- The first k words are all zero. -/
def allZ (V : Nat → Nat) (k : Nat) : Bool := (List.range k).all fun j => V j == 0

theorem allZ_zero (V : Nat → Nat) : allZ V 0 = true := rfl
theorem allZ_yes {V : Nat → Nat} {k : Nat} (h : V k = 0) : allZ V (k + 1) = allZ V k := by simp [allZ, List.range_succ, h]
theorem allZ_no {V : Nat → Nat} {k : Nat} (h : ¬ V k = 0) : allZ V (k + 1) = false := by simp [allZ, List.range_succ, h]
theorem allZ_iff (V : Nat → Nat) (k : Nat) : allZ V k = true ↔ ∀ j, j < k → V j = 0 := by simp [allZ]

end Pl
open Go.RowKit

theorem Rd.drewN {w : World} {bm om n : Nat} {A : Nat → Option Addr} {L C Ab Ao : Nat → Nat} {Z : Nat → Nat → Nat} (h : Rd w bm om n A L C Ab Ao Z) (q : Nat) : Rd (w.drewN q) bm om n A L C Ab Ao Z := ⟨h.top, h.ad, h.cell, h.lt, h.len⟩

theorem equal_quiet {b1 b2 n : Nat} {A1 A2 : Nat → Option Addr} {L C1 C2 Ab1 Ab2 Ao1 Ao2 : Nat → Nat} {Z : Nat → Nat → Nat} {w : World} (h1 : Rd w b1 0 n A1 L C1 Ab1 Ao1 Z) (h2 : Rd w b2 0 n A2 L C2 Ab2 Ao2 Z) (hf : Fits n L) :
    Hid (∀ q, Calls Try.prog 12 #[.slice (some ⟨b1, 0, none⟩) n n, .slice (some ⟨b2, 0, none⟩) n n] (w.drewN q) fun e w'' => e = .returned (.bool true) ∧ ∃ m, w'' = w.drewN m) :=
  fun q => Calls.quiet_of (equal12 b1 0 b2 0 n n n A1 A2 L C1 C2 Ab1 Ab2 Ao1 Ao2 Z (w.drewN q) (h1.drewN q) (h2.drewN q) hf)

theorem law4_none (ao : Option Addr) (cap : Nat) (a b : Int) (w : World) :
    Calls Try.prog 4 #[.slice ao 0 cap, .int .i64 a, .int .i64 b] w (LawOk w) := by
  go_enter Try.func4, Try.ntmps4
  go_wp2_with fail
  refine (bytes14 ao 0 0 0 cap _ _ _ _ _ _ a b w (by omega) (fun h => absurd h (Nat.not_lt_zero _)) (Rd.void w (fun _ => 0) (fun _ _ => 0))).mono ?_
  rintro e w1 ⟨b, rfl, rfl, -⟩
  cases b
  · go_wp2
    go_ret
    exact ⟨rfl, Below.refl _ _⟩
  go_wp2_with fail
  refine (fit6 ao 0 0 0 cap _ _ _ _ _ _ w1 (by omega) (fun h => absurd h (Nat.not_lt_zero _)) (Rd.void w1 (fun _ => 0) (fun _ _ => 0))).mono ?_
  rintro e w1 ⟨b, rfl, rfl, -⟩
  cases b
  · go_wp2
    go_ret
    exact ⟨rfl, Below.refl _ _⟩
  go_wp2_with fail
  refine (shape7_none ao cap w1).mono ?_
  rintro e w1 ⟨b, rfl, rfl, rfl⟩
  go_wp2
  go_ret
  exact ⟨rfl, Below.refl _ _⟩

set_option maxHeartbeats 2000000 in
set_option maxRecDepth 100000 in
theorem law4 (bm om N cap : Nat) (A : Nat → Option Addr) (L C Ab Ao : Nat → Nat) (Z : Nat → Nat → Nat) (a b : Int) (w : World) (hn : N + 1 ≤ 9223372036854775807) (ha1 : -9223372036854775808 ≤ a) (ha2 : a ≤ 9223372036854775807)
    (hb1 : -9223372036854775808 ≤ b) (hb2 : b ≤ 9223372036854775807) (h : Rd w bm om (N + 1) A L C Ab Ao Z) :
    Calls Try.prog 4 #[.slice (some ⟨bm, om, none⟩) (N + 1) cap, .int .i64 a, .int .i64 b] w (LawOk w) := by
  have hc0 : w.cell? ⟨bm, om, none⟩ = some (.slice (A 0) (L 0) (C 0)) := by simpa using h.top 0 (by omega)
  have hbm : bm < w.heap.size := World.block_lt_of_cell? _ _ hc0
  have hlen0 := h.len 0 (by omega)
  go_enter Try.func4, Try.ntmps4
  go_wp2_with fail
  refine (bytes14 _ bm om (N + 1) cap A L C Ab Ao Z a b w hn (fun _ => rfl) h).mono ?_
  rintro e w1 ⟨bb, rfl, rfl, -⟩
  cases bb
  · go_wp2
    go_ret
    exact ⟨rfl, Below.refl _ _⟩
  go_wp2_with fail
  refine (fit6 _ bm om (N + 1) cap A L C Ab Ao Z w1 hn (fun _ => rfl) h).mono ?_
  rintro e w1 ⟨bb, rfl, rfl, hfit⟩
  cases bb
  · go_wp2
    go_ret
    exact ⟨rfl, Below.refl _ _⟩
  have hf : Fits (N + 1) L := hfit rfl
  clear hfit
  go_wp2_with fail
  refine (shape7 bm om N cap A L C Ab Ao Z w1 h hf).mono ?_
  rintro e w1 ⟨bb, rfl, rfl, hsh⟩
  cases bb
  · go_wp2
    go_ret
    exact ⟨rfl, Below.refl _ _⟩
  obtain ⟨hL, hz⟩ : Shaped (N + 1) L Z := hsh rfl
  clear hsh
  by_cases hi0 : a < 0
  · go_wp2
    go_ret
    exact ⟨rfl, Below.refl _ _⟩
  obtain ⟨ma, rfl⟩ := Int.eq_ofNat_of_zero_le (show 0 ≤ a by omega)
  by_cases hnma : L 0 ≤ ma / 64
  · go_wp2
    go_ret
    exact ⟨rfl, Below.refl _ _⟩
  have hma : ma / 64 < L 0 := by omega
  clear hnma
  by_cases hj0 : b < 0
  · go_wp2
    go_ret
    exact ⟨rfl, Below.refl _ _⟩
  obtain ⟨mb, rfl⟩ := Int.eq_ofNat_of_zero_le (show 0 ≤ b by omega)
  by_cases hnmb : L 0 ≤ mb / 64
  · go_wp2
    go_ret
    exact ⟨rfl, Below.refl _ _⟩
  have hmb : mb / 64 < L 0 := by omega
  clear hnmb
  have hp := lens_pos hL
  have hsm := h.small
  obtain ⟨hza, hsa, _⟩ := Pl.rem_spec hL hsm hz ma hma
  obtain ⟨hzb, hsb, _⟩ := Pl.rem_spec hL hsm hz mb hmb
  go_wp2_with fail
  refine (copy8 bm om (N + 1) cap A L C Ab Ao Z w1 h hf hp hbm).mono ?_
  rintro e w2 ⟨rfl, hown2, hb2', hsz2'⟩
  have hsz2 : Hid (w2.heap.size = w1.heap.size + 1 + (N + 1)) := hsz2'
  clear hsz2'
  go_wp2_with fail
  refine (new10 w1.heap.size (N + 1) w2).mono ?_
  rintro e w3 ⟨rfl, rfl⟩
  have hS3 : (w2.alloc (.cells #[.slice (some ⟨w1.heap.size, 0, none⟩) (N + 1) (N + 1)] 37)).cell? ⟨w2.heap.size, 0, none⟩ = some (.slice (some ⟨w1.heap.size, 0, none⟩) (N + 1) (N + 1)) := by simp
  have hb3 : Below w2.heap.size w2 (w2.alloc (.cells #[.slice (some ⟨w1.heap.size, 0, none⟩) (N + 1) (N + 1)] 37)) := (Below.refl _ _).alloc (Nat.le_refl _) _
  have hown3 := hown2.below hb3 (by have := hsz2.out; omega)
  have hsz3 : Hid ((w2.alloc (.cells #[.slice (some ⟨w1.heap.size, 0, none⟩) (N + 1) (N + 1)] 37)).heap.size = w2.heap.size + 1) := by simp [Hid]
  have hb13 := hb2'.trans (hb3.mono (by have := hsz2.out; omega))
  clear hb3 hown2 hb2'
  go_wp2_with fail
  refine (remove11 w2.heap.size w1.heap.size (N + 1) ma L Z _ hS3 hown3 hsm hf hL hma (by omega)).mono ?_
  rintro e w4 ⟨rfl, hown4, ht4⟩
  have hS4 := (ht4.cell (p := ⟨w2.heap.size, 0, none⟩) (Or.inr (by have := hsz2.out; show w1.heap.size + 1 + (N + 1) ≤ w2.heap.size; omega))).trans hS3
  have hb14 := hb13.trans ht4.below
  have hsz4 : Hid (w4.heap.size = w2.heap.size + 1) := ht4.size.trans hsz3.out
  clear hS3 hown3 ht4 hb13 hsz3
  go_wp2_with fail
  refine (remove11 w2.heap.size w1.heap.size (N + 1) mb L _ _ hS4 hown4 hsa hf hL hmb (by omega)).mono ?_
  rintro e w5 ⟨rfl, hown5, ht5⟩
  have hS5 := (ht5.cell (p := ⟨w2.heap.size, 0, none⟩) (Or.inr (by have := hsz2.out; show w1.heap.size + 1 + (N + 1) ≤ w2.heap.size; omega))).trans hS4
  have hb15 := hb14.trans ht5.below
  have hsz5 : Hid (w5.heap.size = w2.heap.size + 1) := ht5.size.trans hsz4.out
  clear hS4 hown4 ht5 hb14 hsz4
  have hr5 := h.below hb15
  have hbm5 : bm < w5.heap.size := by have := hsz5.out; have := hsz2.out; omega
  go_wp2_with fail
  refine (copy8 bm om (N + 1) cap A L C Ab Ao Z w5 hr5 hf hp hbm5).mono ?_
  rintro e w6 ⟨rfl, hown6, hb6', hsz6'⟩
  have hsz6 : Hid (w6.heap.size = w5.heap.size + 1 + (N + 1)) := hsz6'
  clear hsz6'
  go_wp2_with fail
  refine (new10 w5.heap.size (N + 1) w6).mono ?_
  rintro e w7 ⟨rfl, rfl⟩
  have hS7 : (w6.alloc (.cells #[.slice (some ⟨w5.heap.size, 0, none⟩) (N + 1) (N + 1)] 37)).cell? ⟨w6.heap.size, 0, none⟩ = some (.slice (some ⟨w5.heap.size, 0, none⟩) (N + 1) (N + 1)) := by simp
  have hb7 : Below w6.heap.size w6 (w6.alloc (.cells #[.slice (some ⟨w5.heap.size, 0, none⟩) (N + 1) (N + 1)] 37)) := (Below.refl _ _).alloc (Nat.le_refl _) _
  have hown7 := hown6.below hb7 (by have := hsz6.out; omega)
  have hb57 := hb6'.trans (hb7.mono (by have := hsz6.out; omega))
  clear hb7 hown6 hb6'
  go_wp2_with fail
  refine (remove11 w6.heap.size w5.heap.size (N + 1) mb L Z _ hS7 hown7 hsm hf hL hmb (by omega)).mono ?_
  rintro e w8 ⟨rfl, hown8, ht8⟩
  have hS8 := (ht8.cell (p := ⟨w6.heap.size, 0, none⟩) (Or.inr (by have := hsz6.out; show w5.heap.size + 1 + (N + 1) ≤ w6.heap.size; omega))).trans hS7
  have hb58 := hb57.trans ht8.below
  clear hS7 hown7 ht8 hb57
  go_wp2_with fail
  refine (remove11 w6.heap.size w5.heap.size (N + 1) ma L _ _ hS8 hown8 hsb hf hL hma (by omega)).mono ?_
  rintro e w9 ⟨rfl, hown9, ht9⟩
  have hS9 := (ht9.cell (p := ⟨w6.heap.size, 0, none⟩) (Or.inr (by have := hsz6.out; show w5.heap.size + 1 + (N + 1) ≤ w6.heap.size; omega))).trans hS8
  have hb59 := hb58.trans ht9.below
  clear hS8 hown8 ht9 hb58
  have hX9 : w9.cell? ⟨w2.heap.size, 0, none⟩ = some (.slice (some ⟨w1.heap.size, 0, none⟩) (N + 1) (N + 1)) := (hb59.cell (p := ⟨w2.heap.size, 0, none⟩) (by have := hsz5.out; show w2.heap.size < w5.heap.size; omega)).trans hS5
  have hownX := hown5.below hb59 (by have := hsz5.out; have := hsz2.out; omega)
  have hb19 : Below w1.heap.size w1 w9 := hb15.trans (hb59.mono (by have := hsz5.out; have := hsz2.out; omega))
  clear hS5 hown5 hb15 hb59 hr5
  obtain ⟨hzR, hsR, hR0, hRR⟩ := Pl.rem_rem hL hsm hz ma mb hma hmb
  have hrX := hownX.rd hsR hf
  have hrY := (hown9.rd (Pl.rem_rem hL hsm hz mb ma hmb hma).2.1 hf).congr hRR
  have hr9 := h.below hb19
  clear hown9 hRR hza hsa hzb hsb h
  go_wp2_with fail
  refine (levels13 w2.heap.size w1.heap.size (N + 1) w9 hX9).mono ?_
  rintro e w10 ⟨rfl, rfl⟩
  go_wp2_with fail
  refine (levels13 w6.heap.size w5.heap.size (N + 1) w10 hS9).mono ?_
  rintro e w11 ⟨rfl, rfl⟩
  have HE := equal_quiet hrX hrY hf
  have cX0 : w11.cell? ⟨w1.heap.size, 0, none⟩ = some (.slice (some ⟨w1.heap.size + 1, 0, none⟩) (L 0) (L 0)) := by simpa using hownX.top.cell (i := 0) (by omega)
  have cXN : w11.cell? ⟨w1.heap.size, N, none⟩ = some (.slice (some ⟨w1.heap.size + 1 + N, 0, none⟩) (L N) (L N)) := hownX.top.cell (i := N) (by omega)
  have cL0 : w11.cell? ⟨bm, om, none⟩ = some (.slice (A 0) (L 0) (C 0)) := by simpa using hr9.top 0 (by omega)
  have hLN : L N = 1 := hL.2.2.1
  have eN : ((L N : Int) != 1) = false := by simp [hLN]
  have hLN0 : (0 : Int) < L N := by omega
  have HLN : Hid (L N = 1) := hLN
  clear hLN
  have hf0 := hf.2 0 (by omega)
  go_wp2_with fail
  go_quiet ((go_at_call 12; exact HE.out _))
  go_wp2
  clear HE eN
  have hbel : Below w1.heap.size w1 (w11.drewN nq) := ⟨hb19.os, hb19.tape, hb19.output, hb19.size, hb19.block⟩
  have hsR0 : ∀ j, j < L 0 → Z 0 j < 18446744073709551616 := fun j hj => hsm 0 (by omega) j hj
  have htop : (((Pl.rem (N + 1) mb (Pl.rem (N + 1) ma Z) N 0 : Nat) : Int) == 0) = Pl.allZ (fun j => Pl.rem (N + 1) mb (Pl.rem (N + 1) ma Z) 0 j) (L 0) := by
    have t := Pl.top_zero hL hsR hzR
    rw [Bool.eq_iff_iff, Pl.allZ_iff]
    simpa using t
  have HT : Hid ((((Pl.rem (N + 1) mb (Pl.rem (N + 1) ma Z) N 0 : Nat) : Int) == 0) = Pl.allZ (fun j => Pl.rem (N + 1) mb (Pl.rem (N + 1) ma Z) 0 j) (L 0)) := htop
  clear htop
  have HR0 : Hid (∀ j, Pl.rem (N + 1) mb (Pl.rem (N + 1) ma Z) 0 j = Pl.clrIf (Pl.clrIf (Z 0 j) ma j) mb j) := hR0
  clear hR0
  generalize hRg : Pl.rem (N + 1) mb (Pl.rem (N + 1) ma Z) = R at *
  clear hRg
  have cxt : w11.cell? ⟨w1.heap.size + 1 + N, 0, none⟩ = some (.int .u64 (R N 0)) := (hownX.row N (by omega)).cell (by omega)
  have cx : ∀ k, k < L 0 → w11.cell? ⟨w1.heap.size + 1, k, none⟩ = some (.int .u64 (R 0 k)) := fun k hk => by simpa using (hownX.row 0 (by omega)).cell hk
  have CX : Hid (∀ k, k < L 0 → w11.cell? ⟨w1.heap.size + 1, k, none⟩ = some (.int .u64 (R 0 k))) := cx
  clear cx
  have hA0 := hr9.ad 0 (by omega) 0 (by omega)
  have hwa := wrap_pow' (ma % 64) (Nat.mod_lt _ (by omega))
  have hwb := wrap_pow' (mb % 64) (Nat.mod_lt _ (by omega))
  go_loop [11, 12] (fun se si => ∃ k : Nat, k ≤ L 0 ∧ si = .int .i64 k ∧ se = .bool (Pl.allZ (fun j => R 0 j) k)) (fun _ si => L 0 - (intOf si).toNat)
  case atStart => exact ⟨0, Nat.zero_le _, rfl, rfl⟩
  case round =>
    obtain ⟨k, hk, rfl, rfl⟩ := hrel
    by_cases hlt : k < L 0
    · have cz := hr9.cell 0 (by omega) k hlt
      have hzk := hsR0 k hlt
      have hx0 := HR0.out k
      have cx := CX.out k hlt
      by_cases ka : k = ma / 64
      · by_cases kb : k = mb / 64
        · have ea : ((k : Int) == (ma : Int) / 64) = true := by simp; omega
          have na := andNot_pow (Z 0 k) (ma % 64) hzk (Nat.mod_lt _ (by omega))
          have hzk2 : (Pl.clr (Z 0 k) (2 ^ (ma % 64))) < 18446744073709551616 := Pl.clr_lt _ _ hzk
          have eb : ((k : Int) == (mb : Int) / 64) = true := by simp; omega
          have nb := andNot_pow (Pl.clr (Z 0 k) (2 ^ (ma % 64))) (mb % 64) hzk2 (Nat.mod_lt _ (by omega))
          have hx : R 0 k = (Pl.clr (Pl.clr (Z 0 k) (2 ^ (ma % 64))) (2 ^ (mb % 64))) := by rw [hx0]; simp only [Pl.clrIf, if_pos ka, if_pos kb]
          rw [hx] at cx
          by_cases hv : (Pl.clr (Pl.clr (Z 0 k) (2 ^ (ma % 64))) (2 ^ (mb % 64))) = 0
          · have ez : (((Pl.clr (Pl.clr (Z 0 k) (2 ^ (ma % 64))) (2 ^ (mb % 64))) : Int) != 0) = false := by simp [hv]
            have HA : Hid (Pl.allZ (fun j => R 0 j) (k + 1) = Pl.allZ (fun j => R 0 j) k) := Pl.allZ_yes (by rw [hx]; exact hv)
            clear hv hx hx0 ka kb
            go_wp2
            go_round
            case rel => exact ⟨k + 1, by omega, by go_num, by rw [HA.out]⟩
            case measure => simp [intOf]; omega
          · have ez : (((Pl.clr (Pl.clr (Z 0 k) (2 ^ (ma % 64))) (2 ^ (mb % 64))) : Int) != 0) = true := by simp [hv]
            have HA : Hid (Pl.allZ (fun j => R 0 j) (k + 1) = false) := Pl.allZ_no (by rw [hx]; exact hv)
            clear hv hx hx0 ka kb
            go_wp2
            go_round
            case rel => exact ⟨k + 1, by omega, by go_num, by rw [HA.out]⟩
            case measure => simp [intOf]; omega
        · have ea : ((k : Int) == (ma : Int) / 64) = true := by simp; omega
          have na := andNot_pow (Z 0 k) (ma % 64) hzk (Nat.mod_lt _ (by omega))
          have hzk2 : (Pl.clr (Z 0 k) (2 ^ (ma % 64))) < 18446744073709551616 := Pl.clr_lt _ _ hzk
          have eb : ((k : Int) == (mb : Int) / 64) = false := by simp; omega
          have hx : R 0 k = (Pl.clr (Z 0 k) (2 ^ (ma % 64))) := by rw [hx0]; simp only [Pl.clrIf, if_pos ka, if_neg kb]
          rw [hx] at cx
          by_cases hv : (Pl.clr (Z 0 k) (2 ^ (ma % 64))) = 0
          · have ez : (((Pl.clr (Z 0 k) (2 ^ (ma % 64))) : Int) != 0) = false := by simp [hv]
            have HA : Hid (Pl.allZ (fun j => R 0 j) (k + 1) = Pl.allZ (fun j => R 0 j) k) := Pl.allZ_yes (by rw [hx]; exact hv)
            clear hv hx hx0 ka kb
            go_wp2
            go_round
            case rel => exact ⟨k + 1, by omega, by go_num, by rw [HA.out]⟩
            case measure => simp [intOf]; omega
          · have ez : (((Pl.clr (Z 0 k) (2 ^ (ma % 64))) : Int) != 0) = true := by simp [hv]
            have HA : Hid (Pl.allZ (fun j => R 0 j) (k + 1) = false) := Pl.allZ_no (by rw [hx]; exact hv)
            clear hv hx hx0 ka kb
            go_wp2
            go_round
            case rel => exact ⟨k + 1, by omega, by go_num, by rw [HA.out]⟩
            case measure => simp [intOf]; omega
      · by_cases kb : k = mb / 64
        · have ea : ((k : Int) == (ma : Int) / 64) = false := by simp; omega
          have hzk2 : (Z 0 k) < 18446744073709551616 := hzk
          have eb : ((k : Int) == (mb : Int) / 64) = true := by simp; omega
          have nb := andNot_pow (Z 0 k) (mb % 64) hzk2 (Nat.mod_lt _ (by omega))
          have hx : R 0 k = (Pl.clr (Z 0 k) (2 ^ (mb % 64))) := by rw [hx0]; simp only [Pl.clrIf, if_neg ka, if_pos kb]
          rw [hx] at cx
          by_cases hv : (Pl.clr (Z 0 k) (2 ^ (mb % 64))) = 0
          · have ez : (((Pl.clr (Z 0 k) (2 ^ (mb % 64))) : Int) != 0) = false := by simp [hv]
            have HA : Hid (Pl.allZ (fun j => R 0 j) (k + 1) = Pl.allZ (fun j => R 0 j) k) := Pl.allZ_yes (by rw [hx]; exact hv)
            clear hv hx hx0 ka kb
            go_wp2
            go_round
            case rel => exact ⟨k + 1, by omega, by go_num, by rw [HA.out]⟩
            case measure => simp [intOf]; omega
          · have ez : (((Pl.clr (Z 0 k) (2 ^ (mb % 64))) : Int) != 0) = true := by simp [hv]
            have HA : Hid (Pl.allZ (fun j => R 0 j) (k + 1) = false) := Pl.allZ_no (by rw [hx]; exact hv)
            clear hv hx hx0 ka kb
            go_wp2
            go_round
            case rel => exact ⟨k + 1, by omega, by go_num, by rw [HA.out]⟩
            case measure => simp [intOf]; omega
        · have ea : ((k : Int) == (ma : Int) / 64) = false := by simp; omega
          have hzk2 : (Z 0 k) < 18446744073709551616 := hzk
          have eb : ((k : Int) == (mb : Int) / 64) = false := by simp; omega
          have hx : R 0 k = (Z 0 k) := by rw [hx0]; simp only [Pl.clrIf, if_neg ka, if_neg kb]
          rw [hx] at cx
          by_cases hv : (Z 0 k) = 0
          · have ez : (((Z 0 k) : Int) != 0) = false := by simp [hv]
            have HA : Hid (Pl.allZ (fun j => R 0 j) (k + 1) = Pl.allZ (fun j => R 0 j) k) := Pl.allZ_yes (by rw [hx]; exact hv)
            clear hv hx hx0 ka kb
            go_wp2
            go_round
            case rel => exact ⟨k + 1, by omega, by go_num, by rw [HA.out]⟩
            case measure => simp [intOf]; omega
          · have ez : (((Z 0 k) : Int) != 0) = true := by simp [hv]
            have HA : Hid (Pl.allZ (fun j => R 0 j) (k + 1) = false) := Pl.allZ_no (by rw [hx]; exact hv)
            clear hv hx hx0 ka kb
            go_wp2
            go_round
            case rel => exact ⟨k + 1, by omega, by go_num, by rw [HA.out]⟩
            case measure => simp [intOf]; omega
    · obtain rfl : k = L 0 := by omega
      go_wp2
      go_ret
      refine ⟨?_, hbel⟩
      rw [← HT.out]
      simp

end Go.Proofs.Qxb6614501a
