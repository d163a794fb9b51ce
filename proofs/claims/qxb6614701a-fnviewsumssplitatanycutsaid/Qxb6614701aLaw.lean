import Derived.Test.Qxb6614701aWrp
import Derived.LaidEqlPtr
import Derived.Lib.Builder
namespace Go.Proofs.Qxb6614701a
open Go.RowKit

theorem SumIn.kept {w w' : World} {S B : Nat} {sq : Bool} {X : Nat → Nat} {k : Nat} (h : SumIn w S B sq X k) (hs : w.heap.size ≤ w'.heap.size) (e : ∀ j, S ≤ j → j < w.heap.size → w'.heap[j]? = w.heap[j]?) : SumIn w' S B sq X k := by
  obtain ⟨v, b, pd, n, D, hE, h1, h2, h3, h4⟩ := h
  refine ⟨v, b, pd, n, D, ⟨(e S (Nat.le_refl _) hE.lt).trans hE.blk, ?_, hE.sb, Nat.le_trans hE.bs hs⟩, h1, h2, h3, h4⟩
  rcases hE.dig with hd | ⟨g, cap, cur, d1, d2, d3, d4⟩
  · exact .inl hd
  · exact .inr ⟨g, cap, cur, d1, d2, (e g (by have := hE.sb; omega) (lt_of_block d3)).trans d3, d4⟩

theorem SumIn.lt {w : World} {S B : Nat} {sq : Bool} {X : Nat → Nat} {k : Nat} (h : SumIn w S B sq X k) : S < w.heap.size := by
  obtain ⟨v, b, pd, n, D, hE, _⟩ := h
  exact hE.lt

/-- What the law reads of a sum. -/
structure Seen (w : World) (S : Nat) (sq : Bool) (ad : Option Addr) (n cap b g : Nat) (D : Nat → Int) (T : Int) : Prop where
  c0 : w.cell? ⟨S, 0, none⟩ = some (.bool sq)
  c1 : w.cell? ⟨S, 1, none⟩ = some (.slice ad n cap)
  c2 : w.cell? ⟨S, 2, none⟩ = some (.int .i64 b)
  dg : Dg w ad n g D
  bn : b + n ≤ 140
  tot : Lm.dv b D n = T
  gl : 0 < n → g < w.heap.size
  blk : ∃ ca, w.heap[S]? = some (.cells ca 52 (0, 0))

theorem SumIn.seen {w : World} {S B : Nat} {sq : Bool} {X : Nat → Nat} {k : Nat} (h : SumIn w S B sq X k) (hk : k ≤ 4096) : ∃ ad n cap b g D, Seen w S sq ad n cap b g D (usum X sq k) := by
  obtain ⟨v, b, pd, n, D, hE, h1, h2, h3, h4⟩ := h
  have hl : ∀ i, i < n → -70368744177664 ≤ D i ∧ D i ≤ 70368744177664 := fun i hi => by have := h4 i hi; omega
  rcases hE.dig with ⟨rfl, rfl⟩ | ⟨g, cap, cur, ⟨rfl, d0⟩, d2, d3, d4, d5, d6, d7⟩
  · exact ⟨none, 0, 0, b, 0, D, hE.c0, hE.c1, hE.c2, ⟨fun h => absurd h (by omega), fun i hi => absurd hi (by omega), hl⟩, h2, h1, fun h => absurd h (by omega), _, hE.blk⟩
  · exact ⟨some ⟨g, 0, none⟩, n, cap, b, g, D, hE.c0, hE.c1, hE.c2, ⟨fun _ => rfl, fun i hi => by simp [World.cell?, d3, d7 i hi], hl⟩, h2, h1, fun _ => lt_of_block d3, _, hE.blk⟩

theorem Dg.of_heap {w w' : World} {ad : Option Addr} {n g : Nat} {D : Nat → Int} (h : Dg w ad n g D) (e : 0 < n → w'.heap[g]? = w.heap[g]?) : Dg w' ad n g D :=
  ⟨h.ad, fun i hi => by rw [World.cell?_of_block (w := w) (a := ⟨g, i, none⟩) (e (by omega))]; exact h.cell i hi, h.lim⟩

theorem Fs.of_block {w w' : World} {a : Option Addr} {n b o : Nat} {X : Nat → Nat} (h : Fs w a n b o X) (e : w'.heap[b]? = w.heap[b]?) : Fs w' a n b o X :=
  ⟨h.ad, fun i hi => by rw [World.cell?_of_block (w := w) (a := ⟨b, o + i, none⟩) e]; exact h.cell i hi, h.lt, h.fin⟩

theorem Fc.of_block {w w' : World} {a : Option Addr} {n b o : Nat} {X : Nat → Nat} (h : Fc w a n b o X) (e : 0 < n → w'.heap[b]? = w.heap[b]?) : Fc w' a n b o X :=
  ⟨h.ad, fun i hi => by rw [World.cell?_of_block (w := w) (a := ⟨b, o + i, none⟩) (e (by omega))]; exact h.cell i hi⟩

theorem Fc.below {w w' : World} {a : Option Addr} {n b o : Nat} {X : Nat → Nat} (h : Fc w a n b o X) (e : Below w.heap.size w w') : Fc w' a n b o X :=
  h.of_block (fun h0 => e.block b (World.block_lt_of_cell? w ⟨b, o + 0, none⟩ (h.cell 0 h0)))

theorem keeps_below {W M : Nat} {v : Value} {w w' : World} (h : Keeps W v w w') (h1 : M ≤ W) (h2 : ∀ k, v.ownBlock = some k → M ≤ k) (hM : M ≤ w.heap.size) : Below M w w' :=
  ⟨h.os, h.tape, h.output, h.size, fun k hk => h.block k (by omega) (by omega) (fun e => by have := h2 k e; omega)⟩

theorem same_below {V B M : Nat} {w w' : World} (h : Same V B w w') (h1 : M ≤ V) (h2 : M ≤ B) : Below M w w' :=
  ⟨h.os, h.tape, h.output, h.size, fun k hk => h.block k (by omega) (by omega)⟩

def LawOk (w : World) (e : Ending) (w' : World) : Prop := e = .returned (.bool true) ∧ Below w.heap.size w w'

/-- The first part of the laws: what is known when the window stands. -/
structure Stand (w wx : World) (W : Nat) (tv : Value) (av : Option Addr) (L cv st n pu vb : Nat) (Y : Nat → Nat) (g : Nat) : Prop where
  below : Below w.heap.size w wx
  win : Win wx W tv (.slice av L cv) st n pu (.slice none 0 0)
  vals : Vals wx av L vb 0 Y
  held : ∀ i, i < n → wx.cell? ⟨g, i, none⟩ = some (.float .f64 (Y (ring L st i)))
  top : wx.heap.size = W + 1
  wW : w.heap.size ≤ W
  vbW : 0 < L → vb < W
  gW : g < W

theorem stand_mk {w w3 w4 : World} {tv : Value} {av : Option Addr} {L cv st n pu vb : Nat} {Y : Nat → Nat} {g : Nat} (h3 : Below w.heap.size w w3) (h4 : Below w3.heap.size w3 w4) (hV : Vals w4 av L vb 0 Y)
    (hH : ∀ i, i < n → w3.cell? ⟨g, i, none⟩ = some (.float .f64 (Y (ring L st i)))) (hg : g < w3.heap.size) :
    Stand w (w4.alloc (.cells (winCells tv (.slice av L cv) st n pu (.slice none 0 0)) 48)) w4.heap.size tv av L cv st n pu vb Y g :=
  ⟨(h3.trans (h4.mono h3.size)).alloc (Nat.le_trans h3.size h4.size) _, heap_alloc_new _ _, hV.of_block (fun h0 => Below.heap_alloc _ _ _ (hV.lt h0)), fun i hi => by
      rw [World.cell?_of_block (w := w4) (a := ⟨g, i, none⟩) (Below.heap_alloc _ _ _ (Nat.lt_of_lt_of_le hg h4.size)), h4.cell (p := ⟨g, i, none⟩) hg]
      exact hH i hi, by simp, Nat.le_trans h3.size h4.size, fun h0 => hV.lt h0, Nat.lt_of_lt_of_le hg h4.size⟩

/-- What is known when the view stands. -/
structure Sees (w wx : World) (W : Nat) (tv : Value) (av : Option Addr) (L cv st n pu vb : Nat) (Y : Nat → Nat) (g V : Nat) (c : Int) (fi : Nat) (s1 s2 : Option Addr) (vs : Value) : Prop where
  below : Below w.heap.size w wx
  win : Win wx W tv (.slice av L cv) st n pu vs
  view : View wx V c fi (.pointer s1) (.pointer s2)
  vals : Vals wx av L vb 0 Y
  held : ∀ i, i < n → wx.cell? ⟨g, i, none⟩ = some (.float .f64 (Y (ring L st i)))
  wW : w.heap.size ≤ W
  WV : W < V
  vbW : 0 < L → vb < W
  gW : g < W

theorem sees_view {w wx w' : World} {W : Nat} {tv : Value} {av : Option Addr} {L cv st n pu vb : Nat} {Y : Nat → Nat} {g V : Nat} {c : Int} {fi : Nat} {vs' : Value} (h : Stand w wx W tv av L cv st n pu vb Y g)
    (hV : wx.heap.size ≤ V) (hView : View w' V c fi (.pointer none) (.pointer none)) (hWin : Win w' W tv (.slice av L cv) st n pu vs') (hK : Keeps W (.slice none 0 0) wx w') : Sees w w' W tv av L cv st n pu vb Y g V c fi none none vs' := by
  have ht := h.top
  have hb : ∀ k, k < W → w'.heap[k]? = wx.heap[k]? := fun k hk => hK.block k (by omega) (by omega) (by simp [Value.ownBlock])
  exact ⟨h.below.trans (keeps_below hK h.wW (fun k hk => by simp [Value.ownBlock] at hk) h.below.size), hWin, hView, h.vals.of_block (fun h0 => hb vb (h.vbW h0)), fun i hi => by
    rw [World.cell?_of_block (w := wx) (a := ⟨g, i, none⟩) (hb g h.gW)]; exact h.held i hi, h.wW, by omega, h.vbW, h.gW⟩

theorem sees_sum {w wx w' : World} {W : Nat} {tv : Value} {av : Option Addr} {L cv st n pu vb : Nat} {Y : Nat → Nat} {g V : Nat} {c : Int} {fi : Nat} {s1 s2 t1 t2 : Option Addr} {vs : Value} (h : Sees w wx W tv av L cv st n pu vb Y g V c fi s1 s2 vs)
    (hS : Same V wx.heap.size wx w') (hView : View w' V c fi (.pointer t1) (.pointer t2)) : Sees w w' W tv av L cv st n pu vb Y g V c fi t1 t2 vs := by
  have hV := h.view.lt
  have hWV := h.WV
  have hb : ∀ k, k ≤ W → w'.heap[k]? = wx.heap[k]? := fun k hk => hS.block k (by omega) (by omega)
  have hM : w.heap.size ≤ W := h.wW
  exact ⟨h.below.trans (same_below hS (by omega) h.below.size), h.win.of_block (hb W (Nat.le_refl _)), hView, h.vals.of_block (fun h0 => hb vb (Nat.le_of_lt (h.vbW h0))), fun i hi => by
    rw [World.cell?_of_block (w := wx) (a := ⟨g, i, none⟩) (hb g (Nat.le_of_lt h.gW))]; exact h.held i hi, h.wW, h.WV, h.vbW, h.gW⟩

theorem if_ptr (sq : Bool) (x y : Option Addr) : (if sq then Value.pointer x else Value.pointer y) = .pointer (if sq then x else y) := by cases sq <;> rfl

theorem Try.info52 : (Try.prog.info? 52).map (fun i => (i.zero, i.size, i.bytes)) = some (some (.agg #[.bool false, .slice none 0 0, .int .i64 0, .int .i64 0]), 4, 48) := by kernel_rfl

/-- The i-th of the k newest. -/
def newest (Y : Nat → Nat) (L st n k : Nat) (i : Nat) : Nat := Y (ring L st (n - k + i))

end Go.Proofs.Qxb6614701a
