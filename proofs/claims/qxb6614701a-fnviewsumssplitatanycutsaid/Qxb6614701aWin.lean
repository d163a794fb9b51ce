import Derived.Test.Qxb6614701aPtt
namespace Go.Proofs.Qxb6614701a
open Go.RowKit

/-- The window in block W. -/
def winCells (tv vv : Value) (st n pu : Nat) (vs : Value) : Array Value := #[.int .i64 0, .int .i64 0, tv, vv, .int .i64 st, .int .i64 n, .int .i64 pu, vs]
def Win (w : World) (W : Nat) (tv vv : Value) (st n pu : Nat) (vs : Value) : Prop := w.heap[W]? = some (.cells (winCells tv vv st n pu vs) 48 (0, 0))

section
variable {w w' : World} {W : Nat} {tv vv : Value} {st n pu : Nat} {vs : Value}
theorem Win.cT (h : Win w W tv vv st n pu vs) : w.cell? ⟨W, 2, none⟩ = some tv := by unfold Win at h; simp [World.cell?, h, winCells]
theorem Win.cV (h : Win w W tv vv st n pu vs) : w.cell? ⟨W, 3, none⟩ = some vv := by unfold Win at h; simp [World.cell?, h, winCells]
theorem Win.cS (h : Win w W tv vv st n pu vs) : w.cell? ⟨W, 4, none⟩ = some (.int .i64 st) := by unfold Win at h; simp [World.cell?, h, winCells]
theorem Win.cN (h : Win w W tv vv st n pu vs) : w.cell? ⟨W, 5, none⟩ = some (.int .i64 n) := by unfold Win at h; simp [World.cell?, h, winCells]
theorem Win.cP (h : Win w W tv vv st n pu vs) : w.cell? ⟨W, 6, none⟩ = some (.int .i64 pu) := by unfold Win at h; simp [World.cell?, h, winCells]
theorem Win.cW (h : Win w W tv vv st n pu vs) : w.cell? ⟨W, 7, none⟩ = some vs := by unfold Win at h; simp [World.cell?, h, winCells]
theorem Win.fr (h : Win w W tv vv st n pu vs) (j : Nat) : w.frozen? ⟨W, j, none⟩ = false := by unfold Win at h; simp [World.frozen?, h]
theorem Win.lt (h : Win w W tv vv st n pu vs) : W < w.heap.size := lt_of_block h
theorem Win.of_block (h : Win w W tv vv st n pu vs) (e : w'.heap[W]? = w.heap[W]?) : Win w' W tv vv st n pu vs := e.trans h
end

/-- Where the j-th of the held lies. -/
def ring (L st j : Nat) : Nat := if st + j < L then st + j else st + j - L

def IntIs (w : World) (k : Nat) (e : Ending) (w' : World) : Prop := e = .returned (.int .i64 k) ∧ w' = w
def IntIsN (w : World) (k : Nat) (e : Ending) (w' : World) : Prop := e = .returned (.int .i64 k) ∧ ∃ q, w' = w.drewN q

def NewWin (w : World) (tv vv : Value) (st n pu : Nat) (e : Ending) (w' : World) : Prop :=
  e = .returned (.pointer (some ⟨w.heap.size, 0, none⟩)) ∧ w' = w.alloc (.cells (winCells tv vv st n pu (.slice none 0 0)) 48)

set_option maxRecDepth 100000 in
theorem newWindow12 (a1 a2 : Option Addr) (n1 c1 n2 c2 st n pu : Nat) (w : World) :
    Calls Try.prog 12 #[.slice a1 n1 c1, .slice a2 n2 c2, .int .i64 st, .int .i64 n, .int .i64 pu] w (NewWin w (.slice a1 n1 c1) (.slice a2 n2 c2) st n pu) := by
  go_enter Try.func12, Try.ntmps12
  go_wp2
  go_ret
  exact ⟨rfl, rfl⟩

set_option maxRecDepth 100000 in
theorem index28 (W : Nat) (tv : Value) (av : Option Addr) (L cv st n pu : Nat) (vs : Value) (j : Nat) (w : World) (h : Win w W tv (.slice av L cv) st n pu vs) (hj : j < L) (hL : L ≤ 4096) (hst : st < L) :
    Calls Try.prog 28 #[.pointer (some ⟨W, 0, none⟩), .int .i64 j] w (IntIs w (ring L st j)) := by
  have c3 := h.cV
  have c4 := h.cS
  have hW := h.lt
  by_cases hlt : st + j < L
  · have HR : Hid (ring L st j = j + st) := by show _ = _; unfold ring; rw [if_pos hlt]; omega
    go_enter Try.func28, Try.ntmps28
    go_wp2
    go_ret
    exact ⟨by rw [HR.out, Int.natCast_add]; rfl, rfl⟩
  · have HR : Hid (((ring L st j : Nat) : Int) = (j : Int) + (st : Int) - (L : Int)) := by show _ = _; unfold ring; rw [if_neg hlt]; omega
    go_enter Try.func28, Try.ntmps28
    go_wp2
    go_ret
    exact ⟨by rw [HR.out]; rfl, rfl⟩

end Go.Proofs.Qxb6614701a
