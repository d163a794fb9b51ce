import Derived.Test.Qxb6614701aVwa
namespace Go.Proofs.Qxb6614701a
open Go.RowKit

/-- The sum in block S holds k of the values X. -/
def SumIn (w : World) (S B : Nat) (sq : Bool) (X : Nat → Nat) (k : Nat) : Prop :=
  ∃ v b pd n D, ES w S B sq v b pd n D ∧ Lm.dv b D n = usum X sq k ∧ b + n ≤ 140 ∧ pd ≤ k ∧ (∀ i, i < n → -((pd : Int) * 4294967296) ≤ D i ∧ D i ≤ (pd : Int) * 4294967296)

def PtrIs (w : World) (S : Nat) (e : Ending) (w' : World) : Prop := e = .returned (.pointer (some ⟨S, 0, none⟩)) ∧ w' = w

def SumsNew (w : World) (V : Nat) (c : Int) (fi : Nat) (s1 s2 : Value) (sq : Bool) (X : Nat → Nat) (k : Nat) (e : Ending) (w' : World) : Prop :=
  e = .returned (.pointer (some ⟨w.heap.size, 0, none⟩)) ∧ SumIn w' w.heap.size (w.heap.size + 2) sq X k ∧
    View w' V c fi (if sq then s1 else .pointer (some ⟨w.heap.size, 0, none⟩)) (if sq then .pointer (some ⟨w.heap.size, 0, none⟩) else s2) ∧ Same V w.heap.size w w'

set_option maxRecDepth 100000 in
theorem sums19_kept (V W : Nat) (c : Int) (fi : Nat) (s1 s2 : Option Addr) (sq : Bool) (S : Nat) (w : World) (h : View w V c fi (.pointer s1) (.pointer s2)) (hs : (if sq then s2 else s1) = some ⟨S, 0, none⟩) :
    Calls Try.prog 19 #[.pointer (some ⟨V, 0, none⟩), .pointer (some ⟨W, 0, none⟩), .bool sq] w (PtrIs w S) := by
  have c5 := h.c1
  have c6 := h.c2
  have hV := h.lt
  cases sq
  · obtain rfl : s1 = some ⟨S, 0, none⟩ := by simpa using hs
    go_enter Try.func19, Try.ntmps19
    go_wp2
    go_ret
    exact ⟨rfl, rfl⟩
  · obtain rfl : s2 = some ⟨S, 0, none⟩ := by simpa using hs
    go_enter Try.func19, Try.ntmps19
    go_wp2
    go_ret
    exact ⟨rfl, rfl⟩

/-- The new sum and the variable that holds it. -/
def laid (w : World) (sq : Bool) : World :=
  (w.alloc (.cells #[.bool sq, .slice none 0 0, .int .i64 0, .int .i64 0] 52)).alloc (.cells #[.pointer (some ⟨w.heap.size, 0, none⟩)] 35)

theorem laid_size (w : World) (sq : Bool) : (laid w sq).heap.size = w.heap.size + 2 := by simp [laid]
theorem laid_old (w : World) (sq : Bool) (k : Nat) (h : k < w.heap.size) : (laid w sq).heap[k]? = w.heap[k]? := by
  unfold laid
  rw [Below.heap_alloc _ _ _ (by simp; omega), Below.heap_alloc _ _ _ h]
theorem laid_sum (w : World) (sq : Bool) : (laid w sq).heap[w.heap.size]? = some (.cells #[.bool sq, .slice none 0 0, .int .i64 0, .int .i64 0] 52 (0, 0)) := by
  unfold laid
  rw [Below.heap_alloc _ _ _ (by simp)]
  exact heap_alloc_new _ _
theorem laid_box (w : World) (sq : Bool) : (laid w sq).heap[w.heap.size + 1]? = some (.cells #[.pointer (some ⟨w.heap.size, 0, none⟩)] 35 (0, 0)) := by
  unfold laid
  have := heap_alloc_new (w.alloc (.cells #[.bool sq, .slice none 0 0, .int .i64 0, .int .i64 0] 52)) (.cells #[.pointer (some ⟨w.heap.size, 0, none⟩)] 35)
  simpa using this

theorem laid_held (w : World) (sq : Bool) (X : Nat → Nat) : Held (laid w sq) (laid w sq) w.heap.size (w.heap.size + 2) sq X 0 :=
  ⟨.slice none 0 0, 0, 0, 0, fun _ => 0, ⟨laid_sum w sq, .inl ⟨rfl, rfl⟩, by omega, by rw [laid_size]; omega⟩, rfl, by omega, by omega, fun i hi => by omega, Same.refl _ _ _⟩

theorem laid_os (w : World) (sq : Bool) : (laid w sq).os = w.os ∧ (laid w sq).tape = w.tape ∧ (laid w sq).output = w.output := ⟨rfl, rfl, rfl⟩

/-- Behind each: the sum is stored in the view. -/
theorem sums_ok {w w2 : World} {V : Nat} {c : Int} {fi : Nat} {s1 s2 : Value} {sq : Bool} {X : Nat → Nat} {k : Nat} (h : View w V c fi s1 s2) (hH : Held (laid w sq) w2 w.heap.size (w.heap.size + 2) sq X k) :
    SumsNew w V c fi s1 s2 sq X k (.returned (.pointer (some ⟨w.heap.size, 0, none⟩))) (w2.setCell ⟨V, if sq then 6 else 5, none⟩ (.pointer (some ⟨w.heap.size, 0, none⟩))) := by
  obtain ⟨v, b, pd, n, D, hE, hdv, hbn, hpd, hlim, hs⟩ := hH
  have hV := h.lt
  have hV2 : w2.heap[V]? = w.heap[V]? := (hs.block V (by omega) (by omega)).trans (laid_old w sq V hV)
  refine ⟨rfl, ⟨v, b, pd, n, D, ⟨?_, hE.dig.set_other (by show V < _; omega) _, hE.sb, by simpa [World.setCell] using hE.bs⟩, hdv, hbn, hpd, hlim⟩, ?_, ⟨hs.os, hs.tape, hs.output, ?_, fun i h1 h2 => ?_⟩⟩
  · rw [Below.heap_setCell _ _ _ _ (by show w.heap.size ≠ V; omega)]; exact hE.blk
  · show _ = _
    have := hV2.trans h
    cases sq <;> simp [World.setCell, Array.getElem?_modify, this, viewCells]
  · have := hs.size; rw [laid_size] at this; simp [World.setCell]; omega
  · rw [Below.heap_setCell _ _ _ _ (by show i ≠ V; exact h2), hs.block i (by omega) (by omega), laid_old w sq i h1]

theorem Vals.of_block {w w' : World} {av : Option Addr} {L vb vo : Nat} {Y : Nat → Nat} (h : Vals w av L vb vo Y) (e : 0 < L → w'.heap[vb]? = w.heap[vb]?) : Vals w' av L vb vo Y :=
  ⟨h.ad, fun i hi => by rw [World.cell?_of_block (w := w) (a := ⟨vb, vo + i, none⟩) (e (by omega))]; exact h.cell i hi⟩

theorem Vals.lt {w : World} {av : Option Addr} {L vb vo : Nat} {Y : Nat → Nat} (h : Vals w av L vb vo Y) (hL : 0 < L) : vb < w.heap.size := World.block_lt_of_cell? w ⟨vb, vo + 0, none⟩ (h.cell 0 hL)

set_option maxHeartbeats 1000000 in
set_option maxRecDepth 100000 in
theorem sums19_new (V W : Nat) (c : Int) (fi : Nat) (s1 s2 : Option Addr) (sq : Bool) (w : World) (h : View w V c fi (.pointer s1) (.pointer s2)) (hs : (if sq then s2 else s1) = none)
    (tv : Value) (av : Option Addr) (L cv st n pu : Nat) (vs : Value) (hW : Win w W tv (.slice av L cv) st n pu vs) (hn : n ≤ L) (hL : L ≤ 4096) (hst : 0 < L → st < L) (hpu : n ≤ pu) (hpm : pu < 9223372036854775808)
    (vb vo : Nat) (Y : Nat → Nat) (hY : Vals w av L vb vo Y) (k0 : Nat) (hk0 : k0 ≤ n) (hfi : fi + k0 = pu)
    (X : Nat → Nat) (hX : ∀ i, i < k0 → X i = Y (ring L st (n - k0 + i)) ∧ X i < 18446744073709551616 ∧ Fl.Fin (X i)) :
    Calls Try.prog 19 #[.pointer (some ⟨V, 0, none⟩), .pointer (some ⟨W, 0, none⟩), .bool sq] w (SumsNew w V c fi (.pointer s1) (.pointer s2) sq X k0) := by
  have c5 := h.c1
  have c6 := h.c2
  have f5 := h.fr 5
  have f6 := h.fr 6
  have hV := h.lt
  have hWl := hW.lt
  have hE := each23 V W tv av L cv st n pu vs (laid w sq) (hW.of_block (laid_old w sq W hWl)) hn hL hst hpu hpm vb vo Y (hY.of_block (fun h0 => laid_old w sq vb (hY.lt h0))) k0 fi hk0 hfi
    ((World.cell?_of_block (w := w) (a := ⟨V, 2, none⟩) (laid_old w sq V hV)).trans h.cF) w.heap.size (w.heap.size + 2) sq X hX (laid_held w sq X) (w.heap.size + 1) (by simp [World.cell?, laid_box]) (by omega) (fun h0 => by have := hY.lt h0; omega) (by omega)
  have hP : ∀ w2, Held (laid w sq) w2 w.heap.size (w.heap.size + 2) sq X k0 → w2.cell? ⟨w.heap.size + 1, 0, none⟩ = some (.pointer (some ⟨w.heap.size, 0, none⟩)) ∧ w2.cell? ⟨V, 5, none⟩ = some (.pointer s1) ∧ w2.cell? ⟨V, 6, none⟩ = some (.pointer s2) ∧ w2.frozen? ⟨V, 5, none⟩ = false ∧ w2.frozen? ⟨V, 6, none⟩ = false ∧ V < w2.heap.size ∧ w.heap.size + 1 < w2.heap.size := fun w2 hH => by
    have hs := hH.same
    have hV2 : w2.heap[V]? = w.heap[V]? := (hs.block V (by omega) (by omega)).trans (laid_old w sq V hV)
    have hb2 := (hs.block (w.heap.size + 1) (by omega) (by omega)).trans (laid_box w sq)
    have h2 := h.of_block hV2
    exact ⟨by simp [World.cell?, hb2], h2.c1, h2.c2, h2.fr 5, h2.fr 6, h2.lt, lt_of_block hb2⟩
  have hOk := fun w2 hH => sums_ok (w2 := w2) (X := X) (k := k0) (sq := sq) h hH
  clear hX hfi hW hY
  cases sq
  · obtain rfl : s1 = none := by simpa using hs
    go_enter Try.func19, Try.ntmps19
    go_wp2_with fail
    refine hE.mono ?_
    rintro e w2 ⟨rfl, hH⟩
    obtain ⟨k1, k2, k3, k4, k5, k6, k7⟩ := hP w2 hH
    have hO := hOk w2 hH
    clear hE hP hOk hH c5 c6 f5 f6
    go_wp2
    go_ret
    exact hO
  · obtain rfl : s2 = none := by simpa using hs
    go_enter Try.func19, Try.ntmps19
    go_wp2_with fail
    refine hE.mono ?_
    rintro e w2 ⟨rfl, hH⟩
    obtain ⟨k1, k2, k3, k4, k5, k6, k7⟩ := hP w2 hH
    have hO := hOk w2 hH
    clear hE hP hOk hH c5 c6 f5 f6
    go_wp2
    go_ret
    exact hO

end Go.Proofs.Qxb6614701a
