import Derived.Test.Qxb6614701aEac
namespace Go.Proofs.Qxb6614701a
open Go.RowKit

/-- The view in block V. -/
def viewCells (c : Int) (fi : Nat) (s1 s2 : Value) : Array Value := #[.int .i64 c, .int .i64 0, .int .i64 fi, .pointer none, .pointer none, s1, s2, .pointer none]
def View (w : World) (V : Nat) (c : Int) (fi : Nat) (s1 s2 : Value) : Prop := w.heap[V]? = some (.cells (viewCells c fi s1 s2) 58 (0, 0))

section
variable {w w' : World} {V : Nat} {c : Int} {fi : Nat} {s1 s2 : Value}
theorem View.cF (h : View w V c fi s1 s2) : w.cell? ⟨V, 2, none⟩ = some (.int .i64 fi) := by unfold View at h; simp [World.cell?, h, viewCells]
theorem View.c1 (h : View w V c fi s1 s2) : w.cell? ⟨V, 5, none⟩ = some s1 := by unfold View at h; simp [World.cell?, h, viewCells]
theorem View.c2 (h : View w V c fi s1 s2) : w.cell? ⟨V, 6, none⟩ = some s2 := by unfold View at h; simp [World.cell?, h, viewCells]
theorem View.fr (h : View w V c fi s1 s2) (j : Nat) : w.frozen? ⟨V, j, none⟩ = false := by unfold View at h; simp [World.frozen?, h]
theorem View.lt (h : View w V c fi s1 s2) : V < w.heap.size := lt_of_block h
theorem View.of_block (h : View w V c fi s1 s2) (e : w'.heap[V]? = w.heap[V]?) : View w' V c fi s1 s2 := e.trans h
end

def TailOk (w : World) (k : Nat) (e : Ending) (w' : World) : Prop := e = .returned (.int .i64 k) ∧ Below w.heap.size w w'

/-- How many the count takes. -/
def tailOf (c : Int) (n : Nat) : Nat := if 0 < c then (if c < (n : Int) then c.toNat else n) else n

theorem tail_le (c : Int) (n : Nat) : tailOf c n ≤ n := by unfold tailOf; split <;> (try split) <;> omega

set_option maxHeartbeats 1000000 in
set_option maxRecDepth 100000 in
theorem tailLen22 (W : Nat) (tv vv : Value) (st n pu : Nat) (vs : Value) (c : Int) (w : World) (h : Win w W tv vv st n pu vs) :
    Calls Try.prog 22 #[.pointer (some ⟨W, 0, none⟩), .agg #[.int .i64 c, .int .i64 0]] w (TailOk w (tailOf c n)) := by
  have c5 := h.cN
  have hW := h.lt
  by_cases h0 : 0 < c
  · by_cases hlt : c < (n : Int)
    · have HT : Hid (((tailOf c n : Nat) : Int) = c) := by show _ = _; unfold tailOf; rw [if_pos h0, if_pos hlt]; omega
      go_enter Try.func22, Try.ntmps22
      go_wp2
      go_region
      all_goals go_wp2
      all_goals go_ret
      all_goals exact ⟨by rw [HT.out]; rfl, (((Below.refl _ _).alloc (Nat.le_refl _) _).alloc (by simp) _).drew⟩
    · have HT : Hid (tailOf c n = n) := by show _ = _; unfold tailOf; rw [if_pos h0, if_neg hlt]
      by_cases heq : c = (n : Int)
      · subst heq
        go_enter Try.func22, Try.ntmps22
        go_wp2
        go_region
        all_goals go_wp2
        all_goals go_ret
        all_goals exact ⟨by rw [HT.out]; rfl, (((Below.refl _ _).alloc (Nat.le_refl _) _).alloc (by simp) _).drew⟩
      have hgt : (n : Int) < c := by omega
      go_enter Try.func22, Try.ntmps22
      go_wp2
      go_region
      all_goals go_wp2
      all_goals go_ret
      all_goals exact ⟨by rw [HT.out]; rfl, (((Below.refl _ _).alloc (Nat.le_refl _) _).alloc (by simp) _).drew⟩
  · have HT : Hid (tailOf c n = n) := by show _ = _; unfold tailOf; rw [if_neg h0]
    go_enter Try.func22, Try.ntmps22
    go_wp2
    go_ret
    exact ⟨by rw [HT.out]; rfl, ((Below.refl _ _).alloc (Nat.le_refl _) _).alloc (by simp) _⟩

end Go.Proofs.Qxb6614701a
