/-
  WHAT LawS9010AWhole and LawS9010CWhole share beside the search: clocks in memory, copy of two-cell elements, '==' of two entries.
-/
import Derived.Test.YbulkgdooSearch
import Derived.Laws.CopyRow
import Derived.Laws.CopyOwn
namespace Go.Proofs.Ybulkgdoo.search
open Go.RowKit

theorem info30 : (Yba.prog.info? 30).map (fun i => (i.zero, i.size, i.bytes)) = some (some (.agg #[.int .i64 0, .int .u64 0]), 2, 16) := by kernel_rfl

theorem add_head (b j : Nat) : Addr.add ⟨b, 0, none⟩ j = ⟨b, j, none⟩ := by
  unfold Addr.add
  split <;> simp_all

/-- 'copy(dst, src)' of elements of two cells, both rows whole. -/
theorem run_copy_pairs (w : World) (ty : TypeId) (g dCap : Nat) (a : Addr) (n sCap : Nat) (cur : Array Value) (t : TypeId) (cs : List Value)
    (hg : w.heap[g]? = some (.cells cur t (0, 0))) (hn : cs.length = n * 2)
    (hsrc : ∀ j v, cs[j]? = some v → w.cell? (a.add j) = some v) (hfit : cs.length ≤ cur.size) (h1 : ∀ v ∈ cs, v.oneCell' = true) :
    (Builtin.copy_ #[24, 24] ty #[.slice (some ⟨g, 0, none⟩) n dCap, .slice (some a) n sCap]).run Yba.prog w =
      .ok (goInt n) (w.setRow g (cur.toList.take 0 ++ cs ++ cur.toList.drop (0 + cs.length)).toArray) := by
  have hl := run_loadCells_list (P := Yba.prog) w a cs hsrc
  have hst := run_storeCells_at Yba.prog g 0 t cs 0 cur w hg (by simpa using hfit) h1
  obtain ⟨i, hi, _, hz, _⟩ := info_parts info30
  have hmin : Nat.min n n = n := Nat.min_self n
  simp [Builtin.copy_, run_underlying Yba.underlying24, Builtin.lenOf, Builtin.firstCells, sizeOf, typeInfo, hi, hz, hmin, ← hn, hl, hst]

/-- The same, for a walk to take: the world behind it under a name. -/
theorem copy_pairs_ex (w : World) (g gs n : Nat) (cur : Array Value) (t : TypeId) (cs : List Value)
    (hg : w.heap[g]? = some (.cells cur t (0, 0))) (hn : cs.length = n * 2) (hsrc : ∀ j v, cs[j]? = some v → w.cell? ⟨gs, j, none⟩ = some v) (hfit : cs.length = cur.size) (h1 : ∀ v ∈ cs, v.oneCell' = true) :
    ∃ w' : World, (∀ ty, (Builtin.copy_ #[24, 24] ty #[.slice (some ⟨g, 0, none⟩) n n, .slice (some ⟨gs, 0, none⟩) n n]).run Yba.prog w = .ok (goInt n) w') ∧
      Hid (w'.heap[g]? = some (.cells cs.toArray t (0, 0))) ∧ (∀ B w0, Below B w0 w → B ≤ g → Below B w0 w') ∧ w'.heap.size = w.heap.size ∧ Hid (∀ k, k ≠ g → w'.heap[k]? = w.heap[k]?) := by
  refine ⟨w.setRow g (cs ++ cur.toList.drop cs.length).toArray, fun ty => ?_, ?_, ?_, ?_, ?_⟩
  · have := run_copy_pairs w ty g n ⟨gs, 0, none⟩ n n cur t cs hg hn (fun j v hj => by rw [add_head]; exact hsrc j v hj) (by omega) h1
    rw [this]
    simp
  · have := setRow_heap w g cur (cs ++ cur.toList.drop cs.length).toArray t _ hg
    rw [show cs ++ cur.toList.drop cs.length = cs by rw [List.drop_of_length_le (by simp; omega), List.append_nil]] at this ⊢
    exact this
  · intro B w0 hb hB
    exact below_setRow hb hB _
  · simp [World.setRow]
  · intro k hk
    exact setRow_other w g k _ hk

theorem part0 (h n : Int) (w : World) : (part 28 #[.int .i64 h, .int .u64 n] 0).run Yba.prog w = .ok (.int .i64 h) w := by kernel_rfl
theorem part1 (h n : Int) (w : World) : (part 25 #[.int .i64 h, .int .u64 n] 1).run Yba.prog w = .ok (.int .u64 n) w := by kernel_rfl
/-- Two entries of the same fields are equal. -/
theorem neq_entry (h n : Int) (w : World) : (binOp .neq 30 (.agg #[.int .i64 h, .int .u64 n]) (.agg #[.int .i64 h, .int .u64 n])).run Yba.prog w = .ok (.bool false) w := by
  have hh : ∀ d : Nat, (Op.equalIn (d + 2) 30 (.agg #[.int .i64 h, .int .u64 n]) (.agg #[.int .i64 h, .int .u64 n])).run Yba.prog w = .ok true w := fun d => by
    simp [Op.equalIn, run_underlying Yba.underlying30, run_underlying Yba.underlying28, run_underlying Yba.underlying25, part0, part1]
  simp only [binOp]
  simp [Op.equal, Op.maxDepth, hh 9998]

/-- 'count(c, host)'. -/
theorem count_any (g o n cap : Nat) (H N : Nat → Int) (q : Int) (w : World) (hn : n ≤ 1048576) (hg : g < w.heap.size) (he : Ents w g o n H N) (hr : Rising H n) :
    Calls Yba.prog 6 #[.slice (some ⟨g, o, none⟩) n cap, .int .i64 q] w fun e w' =>
      ∃ v : Int, e = .returned (.int .u64 v) ∧ ((∃ i, i < n ∧ H i = q ∧ v = N i) ∨ ((∀ i, i < n → H i ≠ q) ∧ v = 0)) ∧ Below w.heap.size w w' := by
  have HE := hide he
  have HRi := hide hr
  clear he hr
  go_enter Yba.func6, Yba.ntmps6
  go_wp2_with fail
  refine (search12 g o n cap H N q w hn hg HE.out HRi.out).mono ?_
  rintro e w1 ⟨i, hi, rfl, hlo, hhi, hb⟩
  have HLO := hide hlo
  have HHI := hide hhi
  clear hlo hhi
  by_cases hf : i < n ∧ H i = q
  · obtain ⟨hin, hq⟩ := hf
    obtain ⟨c0, c1⟩ := HE.out i hin
    have d1 : w1.cell? ⟨g, o + i * 2 + 1, none⟩ = some (.int .u64 (N i)) := (hb.cell (by exact hg)).trans c1
    have hini : (i : Int) < (n : Int) := by omega
    have HQ := hide hq
    have hdec : decide (i < n ∧ H i = q) = true := by simp [hin, hq]
    rw [hdec]
    clear c0 c1 hq hdec
    go_wp2
    go_ret
    exact ⟨N i, rfl, .inl ⟨i, hin, HQ.out, rfl⟩, hb⟩
  · have HF := hide hf
    have hdec : decide (i < n ∧ H i = q) = false := by simpa using hf
    rw [hdec]
    clear hf hdec
    go_wp2
    go_ret
    refine ⟨0, rfl, .inr ⟨?_, rfl⟩, hb⟩
    intro t ht heq
    rcases Nat.lt_or_ge t i with h | h
    · have := HLO.out t h; omega
    · have h2 := HHI.out i (Nat.le_refl _)
      by_cases e : t = i
      · subst e; exact HF.out ⟨ht, heq⟩
      · have h3 := HRi.out i t (by omega) ht
        have h4 := h2 (by omega)
        omega

end Go.Proofs.Ybulkgdoo.search
