import Derived.Test.Qxb6614701aLaw
namespace Go.Proofs.Qxb6614701a
open Go.RowKit

/-- A sum that stood in a world of M blocks and has been kept since. -/
def SumM (w : World) (M S B : Nat) (sq : Bool) (X : Nat → Nat) (k : Nat) : Prop :=
  ∃ w0 : World, w0.heap.size = M ∧ SumIn w0 S B sq X k ∧ M ≤ w.heap.size ∧ ∀ j, S ≤ j → j < M → w.heap[j]? = w0.heap[j]?

theorem SumM.here {w : World} {S B : Nat} {sq : Bool} {X : Nat → Nat} {k : Nat} (h : SumIn w S B sq X k) : SumM w w.heap.size S B sq X k := ⟨w, rfl, h, Nat.le_refl _, fun _ _ _ => rfl⟩
theorem SumM.kept {w w' : World} {M S B : Nat} {sq : Bool} {X : Nat → Nat} {k : Nat} (h : SumM w M S B sq X k) (hs : w.heap.size ≤ w'.heap.size) (e : ∀ j, S ≤ j → j < M → w'.heap[j]? = w.heap[j]?) : SumM w' M S B sq X k := by
  obtain ⟨w0, h1, h2, h3, h4⟩ := h
  exact ⟨w0, h1, h2, Nat.le_trans h3 hs, fun j a b => (e j a b).trans (h4 j a b)⟩
theorem SumM.sum {w : World} {M S B : Nat} {sq : Bool} {X : Nat → Nat} {k : Nat} (h : SumM w M S B sq X k) : SumIn w S B sq X k := by
  obtain ⟨w0, h1, h2, h3, h4⟩ := h
  subst h1
  exact h2.kept h3 h4

theorem SumM.size {w : World} {M S B : Nat} {sq : Bool} {X : Nat → Nat} {k : Nat} (h : SumM w M S B sq X k) : M ≤ w.heap.size := by
  obtain ⟨w0, h1, h2, h3, h4⟩ := h
  exact h3

theorem View.e0 {w : World} {V : Nat} {c : Int} {fi : Nat} {s1 s2 : Value} (h : View w V c fi s1 s2) : w.cell? ⟨V, 0, none⟩ = some (.int .i64 c) := by unfold View at h; simp [World.cell?, h, viewCells]
theorem View.e1 {w : World} {V : Nat} {c : Int} {fi : Nat} {s1 s2 : Value} (h : View w V c fi s1 s2) : w.cell? ⟨V, 1, none⟩ = some (.int .i64 0) := by unfold View at h; simp [World.cell?, h, viewCells]

/-- The second view is made beside the first. -/
theorem sees_view2 {w wx w' : World} {W : Nat} {tv : Value} {av : Option Addr} {L cv st n pu vb : Nat} {Y : Nat → Nat} {g V V2 : Nat} {c d : Int} {fi fi2 : Nat} {s1 s2 : Option Addr} {vs vs' : Value} (h : Sees w wx W tv av L cv st n pu vb Y g V c fi s1 s2 vs)
    (hV : wx.heap.size ≤ V2) (hView : View w' V2 d fi2 (.pointer none) (.pointer none)) (hWin : Win w' W tv (.slice av L cv) st n pu vs') (hK : Keeps W vs wx w') (hvs : ∀ k, vs.ownBlock = some k → W < k) : Sees w w' W tv av L cv st n pu vb Y g V2 d fi2 none none vs' := by
  have hV1 := h.view.lt
  have hWV := h.WV
  have hb : ∀ k, k < W → w'.heap[k]? = wx.heap[k]? := fun k hk => hK.block k (by omega) (by omega) (fun e => by have := hvs k e; omega)
  exact ⟨h.below.trans (keeps_below hK h.wW (fun k hk => by have := hvs k hk; have := h.wW; omega) h.below.size), hWin, hView, h.vals.of_block (fun h0 => hb vb (h.vbW h0)), fun i hi => by
    rw [World.cell?_of_block (w := wx) (a := ⟨g, i, none⟩) (hb g h.gW)]; exact h.held i hi, h.wW, by omega, h.vbW, h.gW⟩

/-- Nothing turned. -/
theorem sees_same {w wx w' : World} {W : Nat} {tv : Value} {av : Option Addr} {L cv st n pu vb : Nat} {Y : Nat → Nat} {g V : Nat} {c : Int} {fi : Nat} {s1 s2 : Option Addr} {vs : Value} (h : Sees w wx W tv av L cv st n pu vb Y g V c fi s1 s2 vs)
    (hB : Below wx.heap.size wx w') : Sees w w' W tv av L cv st n pu vb Y g V c fi s1 s2 vs := by
  have hV1 := h.view.lt
  have hWV := h.WV
  have hb : ∀ k, k ≤ V → w'.heap[k]? = wx.heap[k]? := fun k hk => hB.block k (by omega)
  exact ⟨h.below.trans (hB.mono h.below.size), h.win.of_block (hb W (by omega)), h.view.of_block (hb V (Nat.le_refl _)), h.vals.of_block (fun h0 => hb vb (by have := h.vbW h0; omega)), fun i hi => by
    rw [World.cell?_of_block (w := wx) (a := ⟨g, i, none⟩) (hb g (by have := h.gW; omega))]; exact h.held i hi, h.wW, h.WV, h.vbW, h.gW⟩

/-- The sum of the newest k1 less that of the newest k2 is the sum of those between. -/
theorem usum_shift (X X' : Nat → Nat) (sq : Bool) (s : Nat) : ∀ n, (∀ i, i < n → X' i = X (s + i)) → usum X sq (s + n) = usum X sq s + usum X' sq n
  | 0, _ => by show usum X sq s = usum X sq s + 0; rw [Int.add_zero]
  | n + 1, h => by
    show usum X sq (s + n) + uval (X (s + n)) sq = usum X sq s + (usum X' sq n + uval (X' n) sq)
    rw [usum_shift X X' sq s n (fun i hi => h i (by omega)), h n (by omega), Int.add_assoc]

theorem usum_congr (X X' : Nat → Nat) (sq : Bool) : ∀ n, (∀ i, i < n → X' i = X i) → usum X' sq n = usum X sq n
  | 0, _ => rfl
  | n + 1, h => by
    show usum X' sq n + uval (X' n) sq = usum X sq n + uval (X n) sq
    rw [usum_congr X X' sq n (fun i hi => h i (by omega)), h n (by omega)]

theorem newest_split (Y : Nat → Nat) (L st n k1 k2 : Nat) (sq : Bool) (h1 : k2 ≤ k1) (h2 : k1 ≤ n) : usum (newest Y L st n k1) sq k1 - usum (newest Y L st n k2) sq k2 = usum (newest Y L st n k1) sq (k1 - k2) := by
  have := usum_shift (newest Y L st n k1) (newest Y L st n k2) sq (k1 - k2) k2 (fun i hi => by unfold newest; congr 2; omega)
  rw [show k1 - k2 + k2 = k1 from by omega] at this
  omega

/-- Behind the test for finite values. -/
def FinX (w wx : World) (bb : Bool) (km : Nat) (X : Nat → Nat) : Prop := Below w.heap.size w wx ∧ (bb = true → ∀ i, i < km → Fl.Fin (X i))

/-- The second view stands beside the first sum. -/
def Second (w wx : World) (W : Nat) (tv : Value) (av : Option Addr) (L cv st n pu vb : Nat) (Y : Nat → Nat) (g : Nat) (d : Int) (k1 k2 M1 S1 : Nat) (sq : Bool) (V2 : Nat) : Prop :=
  ∃ t1 t2 vs2, Sees w wx W tv av L cv st n pu vb Y g V2 d (pu - k2) t1 t2 vs2 ∧ SumM wx M1 S1 (S1 + 2) sq (newest Y L st n k1) k1 ∧
    (((if sq then t2 else t1) = some ⟨S1, 0, none⟩ ∧ k1 = k2) ∨ ((if sq then t2 else t1) = none ∧ M1 ≤ V2))

/-- Both sums stand. -/
def Both (w wx : World) (L st n : Nat) (Y : Nat → Nat) (g k1 k2 S1 S2 : Nat) (sq : Bool) : Prop :=
  Below w.heap.size w wx ∧ (∀ i, i < n → wx.cell? ⟨g, i, none⟩ = some (.float .f64 (Y (ring L st i)))) ∧ g < wx.heap.size ∧
    SumIn wx S1 (S1 + 2) sq (newest Y L st n k1) k1 ∧ SumIn wx S2 (S2 + 2) sq (newest Y L st n k2) k2

theorem sees_g {w wx : World} {W : Nat} {tv : Value} {av : Option Addr} {L cv st n pu vb : Nat} {Y : Nat → Nat} {g V : Nat} {c : Int} {fi : Nat} {s1 s2 : Option Addr} {vs : Value} (h : Sees w wx W tv av L cv st n pu vb Y g V c fi s1 s2 vs) : g < wx.heap.size := by
  have := h.view.lt; have := h.WV; have := h.gW; omega

set_option maxHeartbeats 1600000 in
set_option maxRecDepth 100000 in
theorem law4 (a1 : Option Addr) (n1 c1 bt ot : Nat) (T : Nat → Int) (a2 : Option Addr) (L c2 bv ov : Nat) (Y : Nat → Nat) (st n pu c d : Int) (sq : Bool) (w : World)
    (hT : 0 < n1 → a1 = some ⟨bt, ot, none⟩) (hTc : ∀ i, i < n1 → w.cell? ⟨bt, ot + i, none⟩ = some (.int .i64 (T i))) (hT0 : a1 = none → n1 = 0)
    (hF : Fc w a2 L bv ov Y) (hF0 : a2 = none → L = 0) (hY : ∀ i, i < L → Y i < 18446744073709551616) (hn1 : n1 ≤ 9223372036854775807) (hL : L ≤ 9223372036854775807) (hpu : pu ≤ 9223372036854775807) :
    Calls Try.prog 4 #[.slice a1 n1 c1, .slice a2 L c2, .int .i64 st, .int .i64 n, .int .i64 pu, .int .i64 c, .int .i64 d, .bool sq] w (LawOk w) := by
  have HT : Hid (∀ i, i < n1 → w.cell? ⟨bt, ot + i, none⟩ = some (.int .i64 (T i))) := hTc
  clear hTc
  go_enter Try.func4, Try.ntmps4
  go_wp2_with fail
  refine (bytes17 a1 a2 n1 c1 L c2 st n pu c d sq w hn1 hL).mono ?_
  rintro e w1 ⟨b, rfl, rfl, _⟩
  cases b
  · go_wp2
    go_ret
    exact ⟨rfl, Below.refl _ _⟩
  by_cases h1 : 4096 < n1
  · go_wp2
    go_ret
    exact ⟨rfl, Below.refl _ _⟩
  by_cases h2 : 4096 < L
  · go_wp2
    go_ret
    exact ⟨rfl, Below.refl _ _⟩
  go_wp2_with fail
  refine (shape6 a1 a2 n1 c1 L c2 st n pu w1 (by omega)).mono ?_
  rintro e w2 ⟨b, rfl, rfl, hSh⟩
  cases b
  · go_wp2
    go_ret
    exact ⟨rfl, Below.refl _ _⟩
  obtain ⟨s1, s2, s3, s4, s5, s6, s7⟩ := hSh rfl
  clear hSh
  obtain ⟨N, rfl⟩ : ∃ N : Nat, n = N := ⟨n.toNat, by omega⟩
  obtain ⟨ST, rfl⟩ : ∃ N : Nat, st = N := ⟨st.toNat, by omega⟩
  obtain ⟨PU, rfl⟩ : ∃ N : Nat, pu = N := ⟨pu.toNat, by omega⟩
  have hNL : N ≤ L := by omega
  have hL4 : L ≤ 4096 := by omega
  have hST : ST ≤ L := by
    rcases Nat.eq_zero_or_pos L with h0 | h0
    · have := s7 h0; omega
    · have := s6 h0; omega
  have hST2 : 0 < L → ST < L := fun h0 => by have := s6 h0; omega
  have hNP : N ≤ PU := by omega
  have hPM : PU < 9223372036854775808 := by omega
  subst s1
  clear s2 s3 s4 s5 s6 s7 hn1 h1 h2
  have hH := heldF7 a2 n1 c2 bv ov ST N Y w2 hF hL4 hST hNL
  go_wp2_with fail
  refine hH.mono ?_
  rintro e w3 ⟨g, cap, rfl, hg1, hg2, hcap, hcapm, hB3, hcell⟩
  have hcap2 : cap ≤ 9223372036854775807 := Nat.le_trans hcapm (by unfold maxLen; omega)
  have HC : Hid (∀ i, i < N → w3.cell? ⟨g, i, none⟩ = some (.float .f64 (Y (ring n1 ST i)))) := hcell
  clear hH hcell hcapm
  have hk1N : tailOf c N ≤ N := tail_le c N
  have hk2N : tailOf d N ≤ N := tail_le d N
  obtain ⟨k1, HK1⟩ : ∃ k, Hid (tailOf c N = k) := ⟨_, rfl⟩
  obtain ⟨k2, HK2⟩ : ∃ k, Hid (tailOf d N = k) := ⟨_, rfl⟩
  have ht1 := fun w => tail8 N c w
  have ht2 := fun w => tail8 N d w
  rw [HK1.out] at hk1N ht1
  rw [HK2.out] at hk2N ht2
  obtain ⟨km, HKM⟩ : ∃ km, Hid (km = if k1 < k2 then k2 else k1) := ⟨_, rfl⟩
  have hkm1 : k1 ≤ km := by rw [HKM.out]; split <;> omega
  have hkm2 : k2 ≤ km := by rw [HKM.out]; split <;> omega
  have hkmN : km ≤ N := by rw [HKM.out]; split <;> omega
  go_wp2_with fail
  refine (ht1 _).mono ?_
  rintro e w4 ⟨rfl, rfl⟩
  go_wp2_with fail
  refine (ht2 _).mono ?_
  rintro e w5 ⟨rfl, rfl⟩
  clear ht1 ht2
  go_upto_if 70 with (fail)
  go_cut [20] from 32 (fun s wx => s = .int .i64 km ∧ w5 = wx)
  case first =>
    by_cases hlt : k1 < k2
    · have HE : Hid (km = k2) := by show _ = _; rw [HKM.out, if_pos hlt]
      go_wp2
      go_meet
      case rel => exact ⟨by rw [HE.out], rfl⟩
    · have HE : Hid (km = k1) := by show _ = _; rw [HKM.out, if_neg hlt]
      go_wp2
      go_meet
      case rel => exact ⟨by rw [HE.out], rfl⟩
  case rest =>
  obtain ⟨rfl, rfl⟩ := hcut
  go_upto_region 13 with (fail)
  go_cut [17, 78] from 32 (fun t b wx => ∃ ct bb, t = .slice (some ⟨g, 0, none⟩) N ct ∧ (N ≤ ct ∧ ct ≤ 9223372036854775807) ∧ b = .bool (!bb) ∧ FinX w5 wx bb km (newest Y n1 ST N km))
  case first =>
    by_cases hz : cap = N - km
    · have hm0 : km = 0 := by omega
      have hsub : Fc w5 (some ⟨g, 0, none⟩) km g 0 (newest Y n1 ST N km) := ⟨fun _ => rfl, fun i hi => by omega⟩
      have hz2 : cap - (N - km) = 0 := by omega
      clear hm0
      go_wp2_with fail
      rw [show N - (N - km) = km from by omega]
      refine (allFinite9 (some ⟨g, 0, none⟩) km _ g 0 _ w5 hsub (by omega)).mono ?_
      rintro e w6 ⟨b, rfl, hB6, hfin⟩
      go_wp2
      go_meet
      case rel => exact ⟨_, b, rfl, ⟨by omega, by omega⟩, rfl, hB6, fun h => (hfin h).2⟩
    · have hz2 : N - km < cap := by omega
      have hsub : Fc w5 (some ⟨g, N - km, none⟩) km g (N - km) (newest Y n1 ST N km) := ⟨fun _ => rfl, fun i hi => HC.out (N - km + i) (by omega)⟩
      go_wp2_with fail
      rw [show N - (N - km) = km from by omega]
      refine (allFinite9 (some ⟨g, N - km, none⟩) km _ g (N - km) _ w5 hsub (by omega)).mono ?_
      rintro e w6 ⟨b, rfl, hB6, hfin⟩
      go_wp2
      go_meet
      case rel => exact ⟨_, b, rfl, ⟨by omega, by omega⟩, rfl, hB6, fun h => (hfin h).2⟩
  case rest =>
  obtain ⟨ct, bb, rfl, hct, rfl, hB6, hfin⟩ := hcut
  have hct1 := hct.1
  have hct2 := hct.2
  clear hct
  cases bb
  · go_wp2
    go_ret
    exact ⟨rfl, hB3.trans (hB6.mono hB3.size)⟩
  have hB35 := hB3.trans (hB6.mono hB3.size)
  have hfi := hfin rfl
  have HC5 : Hid (∀ i, i < N → wc.cell? ⟨g, i, none⟩ = some (.float .f64 (Y (ring n1 ST i)))) := fun i hi => (hB6.cell (p := ⟨g, i, none⟩) hg2).trans (HC.out i hi)
  have hg5 : g < wc.heap.size := Nat.lt_of_lt_of_le hg2 hB6.size
  have HX1 : Hid (∀ i, i < k1 → newest Y n1 ST N k1 i = Y (ring n1 ST (N - k1 + i)) ∧ newest Y n1 ST N k1 i < 18446744073709551616 ∧ Fl.Fin (newest Y n1 ST N k1 i)) := fun i hi =>
    ⟨rfl, hY _ (ring_lt (hST2 (by omega)) (by omega)), by have := hfi (km - k1 + i) (by omega); unfold newest at this ⊢; rw [show N - km + (km - k1 + i) = N - k1 + i from by omega] at this; exact this⟩
  have HX2 : Hid (∀ i, i < k2 → newest Y n1 ST N k2 i = Y (ring n1 ST (N - k2 + i)) ∧ newest Y n1 ST N k2 i < 18446744073709551616 ∧ Fl.Fin (newest Y n1 ST N k2 i)) := fun i hi =>
    ⟨rfl, hY _ (ring_lt (hST2 (by omega)) (by omega)), by have := hfi (km - k2 + i) (by omega); unfold newest at this ⊢; rw [show N - km + (km - k2 + i) = N - k2 + i from by omega] at this; exact this⟩
  clear hfin hfi HC hB6
  have hcI := cloneI10 a1 n1 c1 bt ot T wc hT (fun i hi => (hB35.cell (p := ⟨bt, ot + i, none⟩) (World.block_lt_of_cell? _ _ (HT.out i hi))).trans (HT.out i hi)) hL4 hT0
  go_wp2_with fail
  refine hcI.mono ?_
  rintro e w6 ⟨ta, tn, tc, rfl, hB6⟩
  have hB36 := hB35.trans (hB6.mono hB35.size)
  have HC6 : Hid (∀ i, i < N → w6.cell? ⟨g, i, none⟩ = some (.float .f64 (Y (ring n1 ST i)))) := fun i hi => (hB6.cell (p := ⟨g, i, none⟩) hg5).trans (HC5.out i hi)
  have hg6 : g < w6.heap.size := Nat.lt_of_lt_of_le hg5 hB6.size
  have hcF := cloneF11 a2 n1 c2 bv ov Y w6 (hF.below hB36) hL4 hF0
  clear hcI HC5
  go_wp2_with fail
  refine hcF.mono ?_
  rintro e w7 ⟨va, vc, vb, rfl, hB7, hV7⟩
  have hSt := stand_mk (tv := .slice ta tn tc) (cv := vc) (pu := PU) (st := ST) hB36 hB7 hV7 HC6.out hg6
  clear hcF HC6 hB7 hV7 hB6
  go_wp2_with fail
  refine (newWindow12 ta va tn tc n1 vc ST N PU w7).mono ?_
  rintro e w8 ⟨rfl, hw8⟩
  rw [← hw8] at hSt
  clear hw8
  generalize w7.heap.size = W at hSt ⊢
  have hW8 := hSt.top
  have hvw := windowView13_new W (.slice ta tn tc) (.slice va n1 vc) ST N PU none 0 0 w8.heap.size 0 0 [] c 0 (PU - k1) w8 hSt.win hPM (by rw [HK1.out]; omega) (World.ownsRow_nil _ _ _ _) (by omega) (Nat.le_refl _) (by omega) (fun h => absurd h (by omega))
  go_wp2_with fail
  refine hvw.mono ?_
  rintro e w9 ⟨V, vs', rfl, hV1, hView, hWin, hown, hKeep⟩
  obtain ⟨gv, cvs, hvs⟩ := own_shape hown (by omega)
  subst hvs
  have hSee := sees_view hSt hV1 hView hWin hKeep
  have hgv := hown.lt gv rfl
  have hgvV : gv ≠ V := by
    rcases hown.2 with ⟨h1, _⟩ | ⟨g', cap', cur, e, _, hb, _⟩
    · cases h1
    · obtain ⟨rfl, _⟩ : gv = g' ∧ cvs = cap' := by simpa using e
      intro e2
      subst e2
      have := hb.symm.trans hView
      simp at this
  have HOWN : Hid (w9.ownsRow w8.heap.size 33 1 (.slice (some ⟨gv, 0, none⟩) 1 cvs) 1 [.pointer (some ⟨V, 0, none⟩)]) := hown
  clear hvw hown hKeep hWin hView hSt
  have hn1 := viewSums14_new V W c (PU - k1) none none sq w9 hSee.view (by cases sq <;> rfl) _ va n1 vc ST N PU _ hSee.win hNL hL4 hST2 hNP hPM vb 0 Y hSee.vals k1 hk1N (by omega) (newest Y n1 ST N k1) HX1.out
  go_wp2_with fail
  refine hn1.mono ?_
  rintro e w10 ⟨rfl, hSum1, hView1, hSame1⟩
  rw [if_ptr, if_ptr] at hView1
  have hSee1 := sees_sum hSee hSame1 hView1
  have hV9 := hSee.view.lt
  have HOWN1 : Hid (w10.ownsRow w8.heap.size 33 1 (.slice (some ⟨gv, 0, none⟩) 1 cvs) 1 [.pointer (some ⟨V, 0, none⟩)]) := own_of_block HOWN.out (fun k hk => by
    obtain rfl : gv = k := by simpa [Value.ownBlock] using hk
    exact hSame1.block gv hgv.2 hgvV)
  clear hn1 hView1 hSame1 hSee HOWN
  generalize hS1 : w9.heap.size = S1 at *
  clear hS1
  have hlast : w8.heap.size ≤ w10.heap.size := by have := hSum1.lt; omega
  have hcg : w10.cell? ⟨gv, 0, none⟩ = some (.pointer (some ⟨V, 0, none⟩)) := by
    have := HOWN1.out.cells (g := gv) rfl 0 (.pointer (some ⟨V, 0, none⟩)) rfl
    rw [Addr.add_lit, Nat.zero_add] at this
    exact this
  have hc0 := hSee1.view.e0
  have hc1 := hSee1.view.e1
  have hsum := SumM.here hSum1
  have hWV := hSee1.WV
  clear hSum1
  go_upto_region 20 with (fail)
  go_cut [24] from 32 (fun s wx => ∃ V2, s = .pointer (some ⟨V2, 0, none⟩) ∧ Second w2 wx W (.slice ta tn tc) va n1 vc ST N PU vb Y g d k1 k2 w10.heap.size S1 sq V2)
  case first =>
    by_cases hcd : c = d
    · have hk12 : k1 = k2 := by rw [← HK1.out, ← HK2.out, hcd]
      have hsm := windowView13_same W _ _ ST N PU cvs gv V c w10 hSee1.win hcg hc0 hc1
      rw [hcd] at hsm
      have HCD : Hid (c = d ∧ k1 = k2) := ⟨hcd, hk12⟩
      clear hcd hk12
      go_wp2_with fail
      refine hsm.mono ?_
      rintro e w11 ⟨rfl, hB11⟩
      have hfinal : Second w2 w11 W (.slice ta tn tc) va n1 vc ST N PU vb Y g d k1 k2 w10.heap.size S1 sq V := by
        have h1 := sees_same hSee1 hB11
        rw [HCD.out.1, HCD.out.2] at h1
        exact ⟨_, _, _, h1, hsum.kept hB11.size (fun j _ h => hB11.block j h), Or.inl ⟨by cases sq <;> rfl, HCD.out.2⟩⟩
      clear hsm hB11 hcg hc0 hc1 hSee1
      go_wp2
      go_meet
      case rel => exact ⟨V, rfl, hfinal⟩
    · have hnv := windowView13_new W _ _ ST N PU (some ⟨gv, 0, none⟩) 1 cvs w8.heap.size gv V [.pointer (some ⟨V, 0, none⟩)] d c (PU - k2) w10 hSee1.win hPM (by rw [HK2.out]; omega) HOWN1.out (by omega) hlast (by omega) (fun _ => ⟨rfl, hcg, hc0, hc1, hcd⟩)
      go_wp2_with fail
      refine hnv.mono ?_
      rintro e w11 ⟨V2, vs2, rfl, hV2, hView2, hWin2, _, hKeep2⟩
      have hfinal : Second w2 w11 W (.slice ta tn tc) va n1 vc ST N PU vb Y g d k1 k2 w10.heap.size S1 sq V2 :=
        ⟨none, none, vs2, sees_view2 hSee1 hV2 hView2 hWin2 hKeep2 (fun k hk => by
            obtain rfl : gv = k := by simpa [Value.ownBlock] using hk
            omega), hsum.kept hKeep2.size (fun j h1 h2 => hKeep2.block j h2 (by omega) (by simp [Value.ownBlock]; omega)), Or.inr ⟨by cases sq <;> rfl, hV2⟩⟩
      clear hnv hView2 hWin2 hKeep2 hcg hc0 hc1 hSee1
      go_wp2
      go_meet
      case rel => exact ⟨V2, rfl, hfinal⟩
  case rest =>
  clear hcg hc0 hc1 hSee1 hsum HOWN1
  obtain ⟨V2, rfl, t1, t2, vs2, hSee2, hsum1, halt⟩ := hcut
  have hM1 := hsum1.size
  go_upto_region 21 with (fail)
  go_cut [25] from 32 (fun s wx => ∃ S2, s = .pointer (some ⟨S2, 0, none⟩) ∧ Both w2 wx n1 ST N Y g k1 k2 S1 S2 sq)
  case first =>
    rcases halt with ⟨hs, hk12⟩ | ⟨hs, hM⟩
    · have hkp := viewSums14_kept V2 W d (PU - k2) t1 t2 sq S1 wc hSee2.view hs
      have HK12 : Hid (k1 = k2) := hk12
      clear hk12 hs
      go_wp2_with fail
      refine hkp.mono ?_
      rintro e w12 ⟨rfl, rfl⟩
      have hfinal : Both w2 w12 n1 ST N Y g k1 k2 S1 S1 sq := ⟨hSee2.below, hSee2.held, sees_g hSee2, hsum1.sum, by have := hsum1.sum; rw [HK12.out] at this; exact this⟩
      clear hkp hSee2 hsum1
      go_wp2
      go_meet
      case rel => exact ⟨S1, rfl, hfinal⟩
    · have hn2 := viewSums14_new V2 W d (PU - k2) t1 t2 sq wc hSee2.view hs _ va n1 vc ST N PU vs2 hSee2.win hNL hL4 hST2 hNP hPM vb 0 Y hSee2.vals k2 hk2N (by omega) (newest Y n1 ST N k2) HX2.out
      clear hs
      go_wp2_with fail
      refine hn2.mono ?_
      rintro e w12 ⟨rfl, hSum2, hView2, hSame2⟩
      rw [if_ptr, if_ptr] at hView2
      have hSee3 := sees_sum hSee2 hSame2 hView2
      have hsum1' := hsum1.kept hSame2.size (fun j h1 h2 => hSame2.block j (by omega) (by omega))
      have hfinal : Both w2 w12 n1 ST N Y g k1 k2 S1 wc.heap.size sq := ⟨hSee3.below, hSee3.held, sees_g hSee3, hsum1'.sum, hSum2⟩
      clear hn2 hSum2 hView2 hSame2 hSee3 hsum1' hSee2 hsum1
      go_wp2
      go_meet
      case rel => exact ⟨_, rfl, hfinal⟩
  case rest =>
  clear hSee2 hsum1 halt
  obtain ⟨S2, rfl, hBl, hheld, hgl, hSm1, hSm2⟩ := hcut
  obtain ⟨ad1, m1, cp1, b1, g1, D1, hs1⟩ := hSm1.seen (by omega)
  obtain ⟨ad2, m2, cp2, b2, g2, D2, hs2⟩ := hSm2.seen (by omega)
  have HHELD : Hid (∀ i, i < N → wc.cell? ⟨g, i, none⟩ = some (.float .f64 (Y (ring n1 ST i)))) := hheld
  clear hSm1 hSm2 hheld
  have hf1 := fields15 S1 sq ad1 m1 cp1 b1 wc hs1.c0 hs1.c1 hs1.c2
  go_wp2_with fail
  refine hf1.mono ?_
  rintro e w13 ⟨rfl, q1, rfl⟩
  clear hf1
  have hf2 := fields15 S2 sq ad2 m2 cp2 b2 (wc.drewN q1) hs2.c0 hs2.c1 hs2.c2
  go_wp2_with fail
  refine hf2.mono ?_
  rintro e w14 ⟨rfl, q2, rfl⟩
  clear hf2
  have hm12 : k2 ≤ k1 → ∀ o cx, (0 < k1 - k2 → o = N - k1) → Calls Try.prog 16 #[.slice ad1 m1 cp1, .int .i64 b1, .slice ad2 m2 cp2, .int .i64 b2, .slice (some ⟨g, o, none⟩) (k1 - k2) cx, .bool sq] (wc.drewN (q1 + q2)) (Matches (wc.drewN (q1 + q2))) := fun hle o cx ho =>
    matches16 ad1 ad2 (some ⟨g, o, none⟩) m1 m2 (k1 - k2) cp1 cp2 cx b1 b2 g1 g2 g o D1 D2 (newest Y n1 ST N k1) sq (wc.drewN (q1 + q2)) (hs1.dg.of_heap (fun _ => rfl)) (hs2.dg.of_heap (fun _ => rfl))
      ⟨fun _ => rfl, fun i hi => by rw [ho (by omega)]; exact HHELD.out (N - k1 + i) (by omega), fun i hi => (HX1.out i (by omega)).2.1, fun i hi => (HX1.out i (by omega)).2.2⟩ hs1.bn hs2.bn (by omega)
      (by show _ = _; rw [hs1.tot, hs2.tot]; exact newest_split Y n1 ST N k1 k2 sq hle hk1N)
  have hm21 : k1 ≤ k2 → ∀ o cx, (0 < k2 - k1 → o = N - k2) → Calls Try.prog 16 #[.slice ad2 m2 cp2, .int .i64 b2, .slice ad1 m1 cp1, .int .i64 b1, .slice (some ⟨g, o, none⟩) (k2 - k1) cx, .bool sq] (wc.drewN (q1 + q2)) (Matches (wc.drewN (q1 + q2))) := fun hle o cx ho =>
    matches16 ad2 ad1 (some ⟨g, o, none⟩) m2 m1 (k2 - k1) cp2 cp1 cx b2 b1 g2 g1 g o D2 D1 (newest Y n1 ST N k2) sq (wc.drewN (q1 + q2)) (hs2.dg.of_heap (fun _ => rfl)) (hs1.dg.of_heap (fun _ => rfl))
      ⟨fun _ => rfl, fun i hi => by rw [ho (by omega)]; exact HHELD.out (N - k2 + i) (by omega), fun i hi => (HX2.out i (by omega)).2.1, fun i hi => (HX2.out i (by omega)).2.2⟩ hs2.bn hs1.bn (by omega)
      (by show _ = _; rw [hs1.tot, hs2.tot]; exact newest_split Y n1 ST N k2 k1 sq hle hk2N)
  have hend : ∀ w', Below (wc.drewN (q1 + q2)).heap.size (wc.drewN (q1 + q2)) w' → Below w2.heap.size w2 w' := fun w' hB => hBl.trans (Below.mono (⟨hB.os, hB.tape, hB.output, hB.size, hB.block⟩ : Below wc.heap.size wc w') hBl.size)
  clear hs1 hs2
  by_cases hge : k2 ≤ k1
  · by_cases hz : ct = N - k1
    · have hz2 : ct - (N - k1) = 0 := by omega
      have hm := hm12 hge 0 0 (by omega)
      clear hm12 hm21
      go_wp2_with fail
      rw [show N - k2 - (N - k1) = k1 - k2 from by omega]
      refine hm.mono ?_
      rintro e w15 ⟨rfl, hB15⟩
      have hE := hend w15 hB15
      clear hm hB15 hend
      go_wp2
      go_ret
      exact ⟨rfl, hE⟩
    · have hz2 : N - k1 < ct := by omega
      have hm := hm12 hge (N - k1) (ct - (N - k1)) (fun _ => rfl)
      clear hm12 hm21
      go_wp2_with fail
      rw [show N - k2 - (N - k1) = k1 - k2 from by omega]
      refine hm.mono ?_
      rintro e w15 ⟨rfl, hB15⟩
      have hE := hend w15 hB15
      clear hm hB15 hend
      go_wp2
      go_ret
      exact ⟨rfl, hE⟩
  · by_cases hz : ct = N - k2
    · have hz2 : ct - (N - k2) = 0 := by omega
      have hm := hm21 (by omega) 0 0 (by omega)
      clear hm12 hm21
      go_wp2_with fail
      rw [show N - k1 - (N - k2) = k2 - k1 from by omega]
      refine hm.mono ?_
      rintro e w15 ⟨rfl, hB15⟩
      have hE := hend w15 hB15
      clear hm hB15 hend
      go_wp2
      go_ret
      exact ⟨rfl, hE⟩
    · have hz2 : N - k2 < ct := by omega
      have hm := hm21 (by omega) (N - k2) (ct - (N - k2)) (fun _ => rfl)
      clear hm12 hm21
      go_wp2_with fail
      rw [show N - k1 - (N - k2) = k2 - k1 from by omega]
      refine hm.mono ?_
      rintro e w15 ⟨rfl, hB15⟩
      have hE := hend w15 hB15
      clear hm hB15 hend
      go_wp2
      go_ret
      exact ⟨rfl, hE⟩

end Go.Proofs.Qxb6614701a
