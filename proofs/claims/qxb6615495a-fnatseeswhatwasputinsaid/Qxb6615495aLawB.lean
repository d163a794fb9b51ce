import Derived.Test.Qxb6615495aLawA
namespace Go.Proofs.Qxb6615495a
open Go.RowKit

theorem app_data (a b : ByteArray) : (a ++ b).data.toList = a.data.toList ++ b.data.toList := by simp

theorem len_data (a : ByteArray) : a.data.toList.length = a.size := rfl

theorem sees_put (a b : ByteArray) (c d : Int) (hc : 0 ≤ c ∧ c ≤ 255) : sees (a ++ strOfNums [c] ++ b) a.size d = (d == c) := by
  unfold sees
  rw [app_data, app_data, List.append_assoc, List.getElem?_append_right (by rw [len_data]; exact Nat.le_refl _), len_data, Nat.sub_self, strOfNums_data]
  have e : ((UInt8.ofNat c.toNat).toNat : Int) = c := by
    rw [UInt8.toNat_ofNat']
    omega
  simp only [List.map_cons, List.map_nil, List.cons_append, List.nil_append, List.getElem?_cons_zero, e]
  rw [Bool.eq_iff_iff, beq_iff_eq, beq_iff_eq]
  exact eq_comm

theorem sees_end (a b : ByteArray) (c : Int) : sees (a ++ b) (a.size + b.size) c = false := by
  apply sees_out
  rw [ByteArray.size_append]
  omega

set_option maxHeartbeats 800000 in
set_option maxRecDepth 100000 in
theorem law4 (a b : ByteArray) (c d : Int) (w : World) (ha : a.size ≤ 9223372036854775807) (hb : b.size ≤ 9223372036854775807) (hc : 0 ≤ c ∧ c ≤ 255) :
    Calls Try.prog 4 #[.string a, .string b, .int .u8 c, .int .u8 d] w (LawOk w) := by
  go_enter Try.func4, Try.ntmps4
  go_wp2_with fail
  refine (bytes7 a b c d w ha hb).mono ?_
  rintro e w1 ⟨bb, rfl, rfl⟩
  cases bb
  · go_wp2
    go_ret
    exact ⟨rfl, Grown.refl _⟩
  by_cases h1 : 1048576 < a.size
  · go_wp2
    go_ret
    exact ⟨rfl, Grown.refl _⟩
  by_cases h2 : 1048576 - a.size < b.size
  · go_wp2
    go_ret
    exact ⟨rfl, Grown.refl _⟩
  have hcell : (w1.alloc (.cells #[.int .u8 c] 5)).cell? ⟨w1.heap.size, 0, none⟩ = some (.int .u8 c) := by simp
  have hcv := run_convert_bytes_arg (P := Try.prog) (w1.alloc (.cells #[.int .u8 c] 5)) 25 5 Try.underlying25 Try.underlying5 w1.heap.size 0 1 1 [c] rfl
    (fun i hi => by obtain rfl : i = 0 := by omega
                    exact hcell) 9 Try.underlying9
  have hsz : (strOfNums [c]).size = 1 := strOfNums_size [c]
  have hG1 : Grown w1 (w1.alloc (.cells #[.int .u8 c] 5)) := (Grown.refl _).alloc _ _
  go_wp2_with fail
  refine (zat6 a.size (a ++ strOfNums [c] ++ b) c _).mono ?_
  rintro e w2 ⟨rfl, hg2⟩
  have hG2 := hg2 w1 hG1
  rw [sees_put a b c c hc, beq_self_eq_true]
  clear hcell hcv hG1 hg2
  go_wp2_with fail
  refine (zat6 a.size (a ++ strOfNums [c] ++ b) d _).mono ?_
  rintro e w3 ⟨rfl, hg3⟩
  have hG3 := hg3 w1 hG2
  rw [sees_put a b c d hc]
  clear hG2 hg3
  go_wp2_with fail
  rw [show ((a.size : Int) + (b.size : Int)) = ((a.size + b.size : Nat) : Int) from by omega]
  refine (zat6 (a.size + b.size) (a ++ b) c _).mono ?_
  rintro e w4 ⟨rfl, hg4⟩
  have hG4 := hg4 w1 hG3
  rw [sees_end a b c]
  go_wp2
  go_ret
  exact ⟨rfl, hG4⟩

end Go.Proofs.Qxb6615495a
