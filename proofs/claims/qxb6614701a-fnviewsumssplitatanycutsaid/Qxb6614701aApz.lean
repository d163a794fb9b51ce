/- 'append(xs, make([]int64, m)...)' (the builtin with a count in the second place): the law that the library lacks, for a slice of the call's own that is not empty. -/
import Derived.Laws.AppendOwn
import Derived.Below
namespace Go.Proofs.Qxb6614701a

section
variable {P : Program} (w : World)

theorem zeroCells_rep (z : Value) (m : Nat) : Builtin.zeroCells #[z] m = (List.replicate m z).toArray := by
  apply Array.ext'
  unfold Builtin.zeroCells
  simp only [List.size_toArray, List.length_cons, List.length_nil, Nat.zero_add, Nat.mul_one]
  apply List.ext_getElem?
  intro j
  by_cases h : j < m
  · simp [h, Nat.mod_one]
  · simp [h]

theorem run_zeros_room (t x ty e : TypeId) (i : TypeInfo) (ht : P.underlying t = some (.slice e)) (hx : P.underlying x = some (.int .i64)) (hi : P.info? e = some i) (hz : i.zero = some (.int .i64 0)) (hsz : i.size = 1) (hby : i.bytes = 8)
    (g sLen sCap : Nat) (cur : Array Value) (hg : w.heap[g]? = some (.cells cur e (0, 0))) (m : Nat) (hm0 : 0 < m) (hm : m ≤ 1000) (hroom : sLen + m ≤ sCap) (hfit : sLen + m ≤ cur.size) :
    (Builtin.append_ #[t, x] ty #[.slice (some ⟨g, 0, none⟩) sLen sCap, .int .i64 m]).run P w =
      .ok (.slice (some ⟨g, 0, none⟩) (sLen + m) sCap) (w.setRow g (cur.toList.take sLen ++ List.replicate m (Value.int .i64 0) ++ cur.toList.drop (sLen + m)).toArray) := by
  have hst := run_storeCells_at P g sLen e (List.replicate m (Value.int .i64 0)) 0 cur w hg (by simpa using hfit) (fun u hu => by rw [List.eq_of_mem_replicate hu]; rfl)
  simp only [Nat.add_zero, List.length_replicate] at hst
  have hw : IntKind.i64.wrap (m : Int) = (m : Int) := by
    rw [IntKind.wrap_i64]
    omega
  have h1 : ¬ ((m : Int) < 0) := by omega
  have h2 : ¬ (281474976710656 < (m : Int) * 8) := by omega
  have h3 : m ≠ 0 := by omega
  simp [Builtin.append_, run_underlying ht, run_underlying hx, sizeOf, typeInfo, zeroValue, hi, hz, hsz, hby, asInt, asIntOf, hw, h1, h2, h3, hroom, Addr.add_lit, Value.cells, zeroCells_rep, hst]

theorem run_zeros_grow (t x ty e : TypeId) (i : TypeInfo) (ht : P.underlying t = some (.slice e)) (hx : P.underlying x = some (.int .i64)) (hi : P.info? e = some i) (hz : i.zero = some (.int .i64 0)) (hsz : i.size = 1) (hby : i.bytes = 8)
    (b : Addr) (sLen sCap : Nat) (olds : List Value) (hlo : olds.length = sLen) (holds : ∀ j v, olds[j]? = some v → w.cell? (b.add j) = some v) (m : Nat) (hm0 : 0 < m) (hm : m ≤ 1000) (hl : sLen ≤ 1000) (hg : sCap < sLen + m) :
    (Builtin.append_ #[t, x] ty #[.slice (some b) sLen sCap, .int .i64 m]).run P w =
      .ok (.slice (some ⟨w.heap.size, 0, none⟩) (sLen + m) (grownCap w (sLen + m) sCap e))
        (w.drew.alloc (.cells (olds.toArray ++ (List.replicate m (Value.int .i64 0)).toArray ++ Builtin.zeroCells #[.int .i64 0] (grownCap w (sLen + m) sCap e - (sLen + m))) e)) := by
  have hw : IntKind.i64.wrap (m : Int) = (m : Int) := by
    rw [IntKind.wrap_i64]
    omega
  have h1 : ¬ ((m : Int) < 0) := by omega
  have h2 : ¬ (281474976710656 < (m : Int) * 8) := by omega
  have h3 : m ≠ 0 := by omega
  have hn : ¬ (sLen + m ≤ sCap) := by omega
  have h63' : ¬ (9223372036854775807 < ((sLen : Int) + (m : Int))) := by omega
  have h48' : ¬ (281474976710656 < Builtin.nextslicecap (sLen + m) sCap * 8) := by
    have := growslice_fits (bytes := 8) hg (by omega)
    omega
  have hfo := run_firstCells_some (P := P) w.drew 1 sLen b sLen sCap olds (by omega) (by simpa using holds)
  simp [Builtin.append_, run_underlying ht, run_underlying hx, sizeOf, typeInfo, zeroValue, hi, hz, hsz, hby, asInt, asIntOf, hw, h1, h2, h3, hn, h63', h48', Question.forced, hfo, newRow, grownCap, Value.cells, zeroCells_rep]

/-- THE LAW: whatever room there is, the slice behind owns what it owned and m zeros more. -/
theorem run_zeros_own (base : Nat) (t x ty e : TypeId) (i : TypeInfo) (ht : P.underlying t = some (.slice e)) (hx : P.underlying x = some (.int .i64)) (hi : P.info? e = some i) (hz : i.zero = some (.int .i64 0)) (hsz : i.size = 1) (hby : i.bytes = 8)
    (v : Value) (n : Nat) (xs : List Value) (hown : w.ownsRow base e 1 v n xs) (hn0 : 0 < n) (hn : n ≤ 1000) (m : Nat) (hm0 : 0 < m) (hm : m ≤ 1000) (hbase : base ≤ w.heap.size) :
    ∃ v' w', (Builtin.append_ #[t, x] ty #[v, .int .i64 m]).run P w = .ok v' w' ∧ w'.ownsRow base e 1 v' (n + m) (xs ++ List.replicate m (Value.int .i64 0)) ∧ w.grownBy w' v.ownBlock ∧ ∀ k, v'.ownBlock = some k → v.ownBlock = some k ∨ w.heap.size ≤ k := by
  have hlen : (xs ++ List.replicate m (Value.int .i64 0)).length = (n + m) * 1 := by rw [List.length_append, hown.1, List.length_replicate]; omega
  rcases hown.2 with ⟨_, h0⟩ | ⟨g, cap, cur, rfl, hbg, hg, hnc, hcm, hcs, htake⟩
  · omega
  · rw [Nat.mul_one] at hcs htake
    by_cases hroom : n + m ≤ cap
    · have hr := run_zeros_room (P := P) w t x ty e i ht hx hi hz hsz hby g n cap cur hg m hm0 hm hroom (by omega)
      refine ⟨_, _, hr, ⟨hlen, .inr ⟨g, cap, _, rfl, hbg, setRow_heap w g cur _ e _ hg, hroom, hcm, ?_, ?_⟩⟩, ⟨rfl, rfl, rfl, by simp, fun k _ hk => setRow_other w g k _ (fun e => hk (by simp [Value.ownBlock, e]))⟩, fun k hk => Or.inl hk⟩
      · simp only [List.size_toArray, List.length_append, List.length_take, List.length_drop, Array.length_toList, List.length_replicate]
        omega
      · rw [htake, ← hlen]
        exact List.take_left
    · have holds : ∀ j u, xs[j]? = some u → w.cell? ((⟨g, 0, none⟩ : Addr).add j) = some u := hown.cells (g := g) rfl
      have hr := run_zeros_grow (P := P) w t x ty e i ht hx hi hz hsz hby ⟨g, 0, none⟩ n cap xs (by rw [hown.1]; omega) holds m hm0 hm hn (by omega)
      have hge := grownCap_ge w (n + m) cap e
      have hcm' : grownCap w (n + m) cap e ≤ maxLen := grownCap_le_maxLen w (n + m) cap e (by simp only [maxLen]; omega)
      refine ⟨_, _, hr, ⟨hlen, .inr ⟨w.heap.size, _, _, rfl, hbase, heap_alloc_new w.drew _, hge, hcm', ?_, ?_⟩⟩, ⟨rfl, rfl, rfl, by simp, fun k hk _ => heap_alloc_old w.drew _ k hk⟩, fun k hk => Or.inr (by simp [Value.ownBlock] at hk; omega)⟩
      · simp only [Array.size_append, List.size_toArray, size_zeroCells, hown.1, List.length_replicate, List.length_cons, List.length_nil]
        omega
      · simp only [Array.toList_append, List.append_assoc]
        rw [← List.append_assoc, ← hlen]
        exact List.take_left

theorem wpList_zeros_own {ops : Array Oper} {rest : List Oper} {o : Oper} {a : Act} {Q : Exit → Act → World → Prop} (hgd : o.guard = none) (s y : Operand) (t x : TypeId)
    (ho : o.op = .call { callee := .builtin .append, args := #[s, y], argTypes := #[t, x] })
    (base : Nat) (e : TypeId) (i : TypeInfo) (ht : P.underlying t = some (.slice e)) (hx : P.underlying x = some (.int .i64)) (hi : P.info? e = some i) (hz : i.zero = some (.int .i64 0)) (hsz : i.size = 1) (hby : i.bytes = 8)
    (v : Value) (n : Nat) (xs : List Value) (hs : a.eval s = v) (hown : w.ownsRow base e 1 v n xs) (hn0 : 0 < n) (hn : n ≤ 1000) (m : Nat) (M : Int) (hy : a.eval y = .int .i64 M) (hMm : M = (m : Int)) (hm0 : 0 < m) (hm : m ≤ 1000) (hbase : base ≤ w.heap.size)
    (h : ∀ v' w', w'.ownsRow base e 1 v' (n + m) (xs ++ List.replicate m (Value.int .i64 0)) → w.grownBy w' v.ownBlock → (∀ k, v'.ownBlock = some k → v.ownBlock = some k ∨ w.heap.size ≤ k) → wpList P ops Q rest (a.put o.dst v') w') : wpList P ops Q (o :: rest) a w := by
  subst hMm
  refine wpList_plain hgd fun K hK => ?_
  obtain ⟨v', w', hr, h2, h3, h4⟩ := run_zeros_own (P := P) w base t x o.type e i ht hx hi hz hsz hby v n xs hown hn0 hn m hm0 hm hbase
  unfold Oper.wp execOp
  simp only [ho, resolve, invoke, builtin, Sem.run_bind, Sem.run_pure, Result.andThen_ok, List.map_toArray, List.map_cons, List.map_nil, hs, hy, hr]
  exact hK _ _ (h v' w' h2 h3 h4)

end
end Go.Proofs.Qxb6614701a
