import Derived.Test.Qxb6614701aLaw
namespace Go.Proofs.Qxb6614701a
open Go.RowKit

set_option maxHeartbeats 800000 in
set_option maxRecDepth 100000 in
theorem law3 (a1 : Option Addr) (n1 c1 bt ot : Nat) (T : Nat → Int) (a2 : Option Addr) (L c2 bv ov : Nat) (Y : Nat → Nat) (st n pu c : Int) (sq : Bool) (w : World)
    (hT : 0 < n1 → a1 = some ⟨bt, ot, none⟩) (hTc : ∀ i, i < n1 → w.cell? ⟨bt, ot + i, none⟩ = some (.int .i64 (T i))) (hT0 : a1 = none → n1 = 0)
    (hF : Fc w a2 L bv ov Y) (hF0 : a2 = none → L = 0) (hY : ∀ i, i < L → Y i < 18446744073709551616) (hn1 : n1 ≤ 9223372036854775807) (hL : L ≤ 9223372036854775807) (hpu : pu ≤ 9223372036854775807) :
    Calls Try.prog 3 #[.slice a1 n1 c1, .slice a2 L c2, .int .i64 st, .int .i64 n, .int .i64 pu, .int .i64 c, .bool sq] w (LawOk w) := by
  obtain ⟨i52, hi52, _, hz52, _⟩ := info_parts Try.info52
  have HT : Hid (∀ i, i < n1 → w.cell? ⟨bt, ot + i, none⟩ = some (.int .i64 (T i))) := hTc
  clear hTc
  go_enter Try.func3, Try.ntmps3
  go_wp2_with fail
  refine (bytes5 a1 a2 n1 c1 L c2 st n pu c sq w hn1 hL).mono ?_
  rintro e w1 ⟨b, rfl, rfl, _⟩
  cases b
  · go_wp2
    go_ret
    exact ⟨rfl, Below.refl _ _⟩
  by_cases h1 : 4096 < n1
  · go_wp2
    go_ret
    exact ⟨rfl, Below.refl _ _⟩
  by_cases h2 : 4096 < L
  · go_wp2
    go_ret
    exact ⟨rfl, Below.refl _ _⟩
  go_wp2_with fail
  refine (shape6 a1 a2 n1 c1 L c2 st n pu w1 (by omega)).mono ?_
  rintro e w2 ⟨b, rfl, rfl, hSh⟩
  cases b
  · go_wp2
    go_ret
    exact ⟨rfl, Below.refl _ _⟩
  obtain ⟨s1, s2, s3, s4, s5, s6, s7⟩ := hSh rfl
  clear hSh
  obtain ⟨N, rfl⟩ : ∃ N : Nat, n = N := ⟨n.toNat, by omega⟩
  obtain ⟨ST, rfl⟩ : ∃ N : Nat, st = N := ⟨st.toNat, by omega⟩
  obtain ⟨PU, rfl⟩ : ∃ N : Nat, pu = N := ⟨pu.toNat, by omega⟩
  have hNL : N ≤ L := by omega
  have hL4 : L ≤ 4096 := by omega
  have hST : ST ≤ L := by
    rcases Nat.eq_zero_or_pos L with h0 | h0
    · have := s7 h0; omega
    · have := s6 h0; omega
  have hST2 : 0 < L → ST < L := fun h0 => by have := s6 h0; omega
  have hNP : N ≤ PU := by omega
  have hPM : PU < 9223372036854775808 := by omega
  subst s1
  clear s2 s3 s4 s5 s6 s7 hn1 h1 h2
  have hH := heldF7 a2 n1 c2 bv ov ST N Y w2 hF hL4 hST hNL
  go_wp2_with fail
  refine hH.mono ?_
  rintro e w3 ⟨g, cap, rfl, hg1, hg2, hcap, hcapm, hB3, hcell⟩
  have hcap2 : cap ≤ 9223372036854775807 := Nat.le_trans hcapm (by unfold maxLen; omega)
  have HC : Hid (∀ i, i < N → w3.cell? ⟨g, i, none⟩ = some (.float .f64 (Y (ring n1 ST i)))) := hcell
  clear hH hcell hcapm
  have hk0N : tailOf c N ≤ N := tail_le c N
  obtain ⟨k0, HK0⟩ : ∃ k0, Hid (tailOf c N = k0) := ⟨_, rfl⟩
  have hT8 := tail8 N c w3
  rw [HK0.out] at hk0N hT8
  go_upto_region 8 with (fail)
  go_cut [15, 16] from 28 (fun t s wx => ∃ ct o cx, t = .slice (some ⟨g, 0, none⟩) N ct ∧ s = .slice (some ⟨g, o, none⟩) k0 cx ∧ (0 < k0 → o = N - k0) ∧ w3 = wx)
  case first =>
    go_wp2_with fail
    refine hT8.mono ?_
    rintro e w4 ⟨rfl, rfl⟩
    clear hT8
    go_wp2
    all_goals go_meet
    all_goals exact ⟨_, _, _, rfl, by rw [show N - (N - k0) = k0 from by omega], fun h0 => by first | rfl | omega, rfl⟩
  case rest =>
    obtain ⟨ct, o, cx, rfl, rfl, ho, rfl⟩ := hcut
    clear hT8
    have HO : Hid (0 < k0 → o = N - k0) := ho
    clear ho
    have hsub : Fc w3 (some ⟨g, o, none⟩) k0 g o (newest Y n1 ST N k0) := ⟨fun _ => rfl, fun i hi => by rw [HO.out (by omega)]; exact HC.out (N - k0 + i) (by omega)⟩
    go_wp2_with fail
    refine (allFinite9 (some ⟨g, o, none⟩) k0 _ g o _ w3 hsub (by omega)).mono ?_
    rintro e w5 ⟨b, rfl, hB5, hfin⟩
    cases b
    · go_wp2
      go_ret
      exact ⟨rfl, hB3.trans (hB5.mono hB3.size)⟩
    have hB35 := hB3.trans (hB5.mono hB3.size)
    have hfi := (hfin rfl).2
    have HC5 : Hid (∀ i, i < N → w5.cell? ⟨g, i, none⟩ = some (.float .f64 (Y (ring n1 ST i)))) := fun i hi => (hB5.cell (p := ⟨g, i, none⟩) hg2).trans (HC.out i hi)
    have hg5 : g < w5.heap.size := Nat.lt_of_lt_of_le hg2 hB5.size
    have HX : Hid (∀ i, i < k0 → newest Y n1 ST N k0 i = Y (ring n1 ST (N - k0 + i)) ∧ newest Y n1 ST N k0 i < 18446744073709551616 ∧ Fl.Fin (newest Y n1 ST N k0 i)) := fun i hi =>
      ⟨rfl, hY _ (ring_lt (hST2 (by omega)) (by omega)), hfi i hi⟩
    clear hfin hfi hsub HC hB5
    have hcI := cloneI10 a1 n1 c1 bt ot T w5 hT (fun i hi => (hB35.cell (p := ⟨bt, ot + i, none⟩) (World.block_lt_of_cell? _ _ (HT.out i hi))).trans (HT.out i hi)) hL4 hT0
    go_wp2_with fail
    refine hcI.mono ?_
    rintro e w6 ⟨ta, tn, tc, rfl, hB6⟩
    have hB36 := hB35.trans (hB6.mono hB35.size)
    have HC6 : Hid (∀ i, i < N → w6.cell? ⟨g, i, none⟩ = some (.float .f64 (Y (ring n1 ST i)))) := fun i hi => (hB6.cell (p := ⟨g, i, none⟩) hg5).trans (HC5.out i hi)
    have hg6 : g < w6.heap.size := Nat.lt_of_lt_of_le hg5 hB6.size
    have hcF := cloneF11 a2 n1 c2 bv ov Y w6 (hF.below hB36) hL4 hF0
    clear hcI HC5
    go_wp2_with fail
    refine hcF.mono ?_
    rintro e w7 ⟨va, vc, vb, rfl, hB7, hV7⟩
    have hSt := stand_mk (tv := .slice ta tn tc) (cv := vc) (pu := PU) (st := ST) hB36 hB7 hV7 HC6.out hg6
    clear hcF HC6 hB7 hV7 hB6
    go_wp2_with fail
    refine (newWindow12 ta va tn tc n1 vc ST N PU w7).mono ?_
    rintro e w8 ⟨rfl, hw8⟩
    rw [← hw8] at hSt
    clear hw8
    generalize w7.heap.size = W at hSt ⊢
    have hvw := windowView13_new W (.slice ta tn tc) (.slice va n1 vc) ST N PU none 0 0 w8.heap.size 0 0 [] c 0 (PU - k0) w8 hSt.win hPM (by rw [HK0.out]; omega) (World.ownsRow_nil _ _ _ _) (by omega) (Nat.le_refl _) (by have := hSt.top; omega) (fun h => absurd h (by omega))
    go_wp2_with fail
    refine hvw.mono ?_
    rintro e w9 ⟨V, vs', rfl, hV1, hView, hWin, hown, hKeep⟩
    have hSee := sees_view hSt hV1 hView hWin hKeep
    clear hvw hown hKeep hWin hView hSt
    have hn1 := viewSums14_new V W c (PU - k0) none none sq w9 hSee.view (by cases sq <;> rfl) _ va n1 vc ST N PU vs' hSee.win hNL hL4 hST2 hNP hPM vb 0 Y hSee.vals k0 hk0N (by omega) (newest Y n1 ST N k0) HX.out
    go_wp2_with fail
    refine hn1.mono ?_
    rintro e w10 ⟨rfl, hSum1, hView1, hSame1⟩
    rw [if_ptr, if_ptr] at hView1
    have hSee1 := sees_sum hSee hSame1 hView1
    have hV9 := hSee.view.lt
    clear hn1 hView1 hSame1 hSee
    generalize hS1 : w9.heap.size = S1 at *
    clear hS1
    have hkp := viewSums14_kept V W c (PU - k0) _ _ sq S1 w10 hSee1.view (by cases sq <;> rfl)
    go_wp2_with fail
    refine hkp.mono ?_
    rintro e w11 ⟨rfl, rfl⟩
    clear hkp
    have hp1 := fun w => Lib.run_neq_ptr_same (P := Try.prog) w (⟨S1, 0, none⟩ : Addr) Try.underlying35 hi52
    have hn3 := viewSums14_new V W c (PU - k0) _ _ (!sq) w11 hSee1.view (by cases sq <;> rfl) _ va n1 vc ST N PU vs' hSee1.win hNL hL4 hST2 hNP hPM vb 0 Y hSee1.vals k0 hk0N (by omega) (newest Y n1 ST N k0) HX.out
    go_wp2_with fail
    refine hn3.mono ?_
    rintro e w12 ⟨rfl, hSum3, hView3, hSame3⟩
    rw [if_ptr, if_ptr] at hView3
    have hSee3 := sees_sum hSee1 hSame3 hView3
    have hl1 := hSum1.lt
    have hSum1' := hSum1.kept hSame3.size (fun j h1 h2 => hSame3.block j h2 (by omega))
    clear hn3 hView3 hSame3 hSee1 hSum1
    generalize hS3 : w11.heap.size = S3 at *
    clear hS3
    have hne : S3 ≠ S1 := by omega
    obtain ⟨ad1, m1, cp1, b1, g1, D1, hs1⟩ := hSum1'.seen (by omega)
    obtain ⟨ad3, m3, cp3, b3, g3, D3, hs3⟩ := hSum3.seen (by omega)
    clear hSum1' hSum3
    obtain ⟨ca1, hca1⟩ := hs1.blk
    obtain ⟨ca3, hca3⟩ := hs3.blk
    have hp3 := run_eql_ptr_other (P := Try.prog) w12 (a := ⟨S3, 0, none⟩) (b := ⟨S1, 0, none⟩) Try.underlying35 hi52 (by rw [hz52]; omega) (by first | (simp; done) | (simp; omega)) hca3 hca1
    clear hca1 hca3 hp1
    have hf1 := fields15 S1 sq ad1 m1 cp1 b1 w12 hs1.c0 hs1.c1 hs1.c2
    go_wp2_with fail
    refine hf1.mono ?_
    rintro e w13 ⟨rfl, q1, rfl⟩
    clear hf1
    have hf3 := fields15 S3 (!sq) ad3 m3 cp3 b3 (w12.drewN q1) hs3.c0 hs3.c1 hs3.c2
    go_wp2_with fail
    refine hf3.mono ?_
    rintro e w14 ⟨rfl, q3, rfl⟩
    clear hf3
    have hFs : Fs w12 (some ⟨g, o, none⟩) k0 g o (newest Y n1 ST N k0) := ⟨fun _ => rfl, fun i hi => by rw [HO.out (by omega)]; exact hSee3.held (N - k0 + i) (by omega), fun i hi => (HX.out i hi).2.1, fun i hi => (HX.out i hi).2.2⟩
    have hgl : g < w12.heap.size := by have := hSee3.view.lt; have := hSee3.WV; have := hSee3.gW; omega
    have hm1 : Calls Try.prog 16 #[.slice ad1 m1 cp1, .int .i64 b1, .slice none 0 0, .int .i64 0, .slice (some ⟨g, o, none⟩) k0 cx, .bool sq] (w12.drewN (q1 + q3)) (Matches (w12.drewN (q1 + q3))) := matches16 ad1 none (some ⟨g, o, none⟩) m1 0 k0 cp1 0 cx b1 0 g1 0 g o D1 (fun _ => 0) (newest Y n1 ST N k0) sq (w12.drewN (q1 + q3)) (hs1.dg.of_heap (fun _ => rfl)) ⟨fun h => absurd h (by omega), fun i hi => absurd hi (by omega), fun i hi => absurd hi (by omega)⟩ (hFs.of_block rfl) hs1.bn (by omega) (by omega)
      (by show _ = _; rw [hs1.tot]; show _ - 0 = _; rw [Int.sub_zero])
    go_wp2_with fail
    refine hm1.mono ?_
    rintro e w15 ⟨rfl, hB15⟩
    have hB15' : Below w12.heap.size w12 w15 := ⟨hB15.os, hB15.tape, hB15.output, hB15.size, hB15.block⟩
    clear hm1 hB15
    have hm3 : Calls Try.prog 16 #[.slice ad3 m3 cp3, .int .i64 b3, .slice none 0 0, .int .i64 0, .slice (some ⟨g, o, none⟩) k0 cx, .bool (!sq)] w15 (Matches w15) := matches16 ad3 none (some ⟨g, o, none⟩) m3 0 k0 cp3 0 cx b3 0 g3 0 g o D3 (fun _ => 0) (newest Y n1 ST N k0) (!sq) w15 (hs3.dg.of_heap (fun h0 => hB15'.block g3 (hs3.gl h0))) ⟨fun h => absurd h (by omega), fun i hi => absurd hi (by omega), fun i hi => absurd hi (by omega)⟩ (hFs.of_block (hB15'.block g hgl)) hs3.bn (by omega) (by omega)
      (by show _ = _; rw [hs3.tot]; show _ - 0 = _; rw [Int.sub_zero])
    go_wp2_with fail
    refine hm3.mono ?_
    rintro e w16 ⟨rfl, hB16⟩
    have hfinal := (hSee3.below.trans (hB15'.mono hSee3.below.size)).trans (hB16.mono (Nat.le_trans hSee3.below.size hB15'.size))
    clear hm3 hB16 hB15'
    go_wp2
    go_ret
    exact ⟨rfl, hfinal⟩

end Go.Proofs.Qxb6614701a
