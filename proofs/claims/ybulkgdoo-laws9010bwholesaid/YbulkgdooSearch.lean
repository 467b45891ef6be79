/-
  THE WALKS that LawS9010AWhole and LawS9010CWhole share: byHost (13), slices.BinarySearchFunc at the two slice types (12, 16).
-/
import Derived.Test.YbulkgdooProg
import Derived.WalkKit
import Derived.WalkSpells
import Derived.WalkSmall
import Derived.WalkLawsBesides
import Derived.Deep.QuietTactic
import Derived.BigQuiet
namespace Go.Proofs.Ybulkgdoo.search
open Go.RowKit

theorem hide {p : Prop} (h : p) : Hid p := h

theorem byHost_lt (h n q : Int) (w : World) (hlt : h < q) :
    Calls Yba.prog 13 #[.agg #[.int .i64 h, .int .u64 n], .int .i64 q] w fun e w' => e = .returned (.int .i64 (-1)) ∧ Below w.heap.size w w' := by
  go_enter Yba.func13, Yba.ntmps13
  go_wp2
  go_ret
  exact ⟨rfl, (Below.refl _ _).alloc (Nat.le_refl _) _⟩
theorem byHost_gt (h n q : Int) (w : World) (hgt : q < h) :
    Calls Yba.prog 13 #[.agg #[.int .i64 h, .int .u64 n], .int .i64 q] w fun e w' => e = .returned (.int .i64 1) ∧ Below w.heap.size w w' := by
  have hn : ¬ h < q := by omega
  go_enter Yba.func13, Yba.ntmps13
  go_wp2
  go_ret
  exact ⟨rfl, (Below.refl _ _).alloc (Nat.le_refl _) _⟩
theorem byHost_eq (h n q : Int) (w : World) (heq : h = q) :
    Calls Yba.prog 13 #[.agg #[.int .i64 h, .int .u64 n], .int .i64 q] w fun e w' => e = .returned (.int .i64 0) ∧ Below w.heap.size w w' := by
  subst heq
  go_enter Yba.func13, Yba.ntmps13
  go_wp2
  go_ret
  exact ⟨rfl, (Below.refl _ _).alloc (Nat.le_refl _) _⟩

/-- The entries of a clock in memory: element i lies in the cells o + 2 i and o + 2 i + 1. -/
def Ents (w : World) (g o n : Nat) (H N : Nat → Int) : Prop :=
  ∀ i, i < n → w.cell? ⟨g, o + i * 2, none⟩ = some (.int .i64 (H i)) ∧ w.cell? ⟨g, o + i * 2 + 1, none⟩ = some (.int .u64 (N i))
def Rising (H : Nat → Int) (n : Nat) : Prop := ∀ i j, i < j → j < n → H i < H j

theorem byHost_ge (h n q : Int) (w : World) (hge : q ≤ h) :
    Calls Yba.prog 13 #[.agg #[.int .i64 h, .int .u64 n], .int .i64 q] w fun e w' => ∃ r : Int, 0 ≤ r ∧ e = .returned (.int .i64 r) ∧ Below w.heap.size w w' := by
  by_cases hq : q < h
  · refine (byHost_gt h n q w hq).mono ?_
    rintro e w' ⟨rfl, hb⟩
    exact ⟨1, by omega, rfl, hb⟩
  · refine (byHost_eq h n q w (by omega)).mono ?_
    rintro e w' ⟨rfl, hb⟩
    exact ⟨0, by omega, rfl, hb⟩
theorem below_all {H : Nat → Int} {n m : Nat} {q : Int} (hr : Rising H n) (hc : H m < q) (hm : m < n) : ∀ t, t < m + 1 → H t < q := by
  intro t ht
  by_cases e : t = m
  · subst e; exact hc
  · have := hr t m (by omega) hm; omega
theorem above_all {H : Nat → Int} {n m : Nat} {q : Int} (hr : Rising H n) (hc : q ≤ H m) : ∀ t, m ≤ t → t < n → q ≤ H t := by
  intro t ht htn
  by_cases e : t = m
  · subst e; exact hc
  · have := hr m t (by omega) htn; omega
theorem ret_found {a : Nat} {x y : Bool} (h : x = y) : Ending.returned (.tuple #[.int .i64 (a : Int), .bool x]) = .returned (.tuple #[.int .i64 (a : Int), .bool y]) := by rw [h]

set_option maxHeartbeats 1000000 in
theorem search12 (g o n cap : Nat) (H N : Nat → Int) (q : Int) (w : World) (hn : n ≤ 1048576) (hg : g < w.heap.size) (he : Ents w g o n H N) (hr : Rising H n) :
    Calls Yba.prog 12 #[.slice (some ⟨g, o, none⟩) n cap, .int .i64 q, .func (.func 13) #[] #[]] w fun e w' =>
      ∃ i : Nat, i ≤ n ∧ e = .returned (.tuple #[.int .i64 i, .bool (decide (i < n ∧ H i = q))]) ∧ (∀ t, t < i → H t < q) ∧ (∀ t, i ≤ t → t < n → q ≤ H t) ∧ Below w.heap.size w w' := by
  have HE := hide he
  have HRi := hide hr
  clear he hr
  go_enter Yba.func12, Yba.ntmps12
  go_wp2
  go_loopw [9, 10] (fun i j wr => ∃ a b : Nat, a ≤ b ∧ b ≤ n ∧ i = .int .i64 a ∧ j = .int .i64 b ∧ (∀ t, t < a → H t < q) ∧ (∀ t, b ≤ t → t < n → q ≤ H t) ∧ Below w.heap.size w wr)
    (fun i j _ => (intOf j - intOf i).toNat)
  case atStart => exact ⟨0, n, Nat.zero_le _, Nat.le_refl _, rfl, rfl, by omega, by omega, Below.refl _ _⟩
  case round =>
    obtain ⟨a, b, hab, hbn, rfl, rfl, hlo, hhi, hb⟩ := hrel
    have HLO := hide hlo
    have HHI := hide hhi
    clear hlo hhi
    by_cases hlt : a < b
    · obtain ⟨m, hm⟩ : ∃ m : Nat, ((a : Int) + (b : Int)) / 2 = (m : Int) := ⟨(a + b) / 2, by omega⟩
      have hma : a ≤ m := by omega
      have hmb : m < b := by omega
      have hmn : (m : Int) < (n : Int) := by omega
      obtain ⟨c0, c1⟩ := HE.out m (by omega)
      have d0 : wr.cell? ⟨g, o + m * 2, none⟩ = some (.int .i64 (H m)) := (hb.cell (by exact hg)).trans c0
      have d1 : wr.cell? ⟨g, o + m * 2 + 1, none⟩ = some (.int .u64 (N m)) := (hb.cell (by exact hg)).trans c1
      clear c0 c1
      by_cases hc : H m < q
      · go_wp2_with (go_at_call 13; refine (byHost_lt _ _ _ _ hc).mono ?_; rintro e w1 ⟨rfl, hb1⟩)
        go_roundw
        case rel => exact ⟨m + 1, b, by omega, hbn, by go_num, rfl, below_all HRi.out hc (by omega), HHI.out, hb.trans (hb1.mono hb.size)⟩
        case measure => simp [intOf]; omega
      · have hge : q ≤ H m := by omega
        go_wp2_with fail
        refine (byHost_ge _ _ _ _ hge).mono ?_
        rintro e w1 ⟨r, hr0, rfl, hb1⟩
        go_wp2
        go_roundw
        case rel => exact ⟨a, m, hma, by omega, rfl, rfl, HLO.out, above_all HRi.out hge, hb.trans (hb1.mono hb.size)⟩
        case measure => simp [intOf]; omega
    · have hab' : a = b := by omega
      subst hab'
      by_cases han : a < n
      · obtain ⟨c0, c1⟩ := HE.out a han
        have d0 : wr.cell? ⟨g, o + a * 2, none⟩ = some (.int .i64 (H a)) := (hb.cell (by exact hg)).trans c0
        have d1 : wr.cell? ⟨g, o + a * 2 + 1, none⟩ = some (.int .u64 (N a)) := (hb.cell (by exact hg)).trans c1
        have hani : (a : Int) < (n : Int) := by omega
        have HH := hide (HHI.out a (Nat.le_refl _) han)
        clear c0 c1
        by_cases hq : H a = q
        · have HQ := hide hq
          clear hq
          go_wp2_with fail
          refine (byHost_eq _ _ _ _ HQ.out).mono ?_
          rintro e w1 ⟨rfl, hb1⟩
          go_wp2
          go_ret2
          exact ⟨a, hbn, ret_found (by simp [han, HQ.out]), HLO.out, HHI.out, hb.trans (hb1.mono hb.size)⟩
        · have HQ := hide hq
          clear hq
          go_wp2_with fail
          refine (byHost_gt _ _ _ _ (by have := HH.out; have := HQ.out; omega)).mono ?_
          rintro e w1 ⟨rfl, hb1⟩
          go_wp2
          go_ret2
          exact ⟨a, hbn, ret_found (by simp [HQ.out]), HLO.out, HHI.out, hb.trans (hb1.mono hb.size)⟩
      · go_wp2
        go_ret2
        exact ⟨a, hbn, ret_found (by simp [han]), HLO.out, HHI.out, hb⟩

set_option maxHeartbeats 1000000 in
theorem search16 (g o n cap : Nat) (H N : Nat → Int) (q : Int) (w : World) (hn : n ≤ 1048576) (hg : g < w.heap.size) (he : Ents w g o n H N) (hr : Rising H n) :
    Calls Yba.prog 16 #[.slice (some ⟨g, o, none⟩) n cap, .int .i64 q, .func (.func 13) #[] #[]] w fun e w' =>
      ∃ i : Nat, i ≤ n ∧ e = .returned (.tuple #[.int .i64 i, .bool (decide (i < n ∧ H i = q))]) ∧ (∀ t, t < i → H t < q) ∧ (∀ t, i ≤ t → t < n → q ≤ H t) ∧ Below w.heap.size w w' := by
  have HE := hide he
  have HRi := hide hr
  clear he hr
  go_enter Yba.func16, Yba.ntmps16
  go_wp2
  go_loopw [9, 10] (fun i j wr => ∃ a b : Nat, a ≤ b ∧ b ≤ n ∧ i = .int .i64 a ∧ j = .int .i64 b ∧ (∀ t, t < a → H t < q) ∧ (∀ t, b ≤ t → t < n → q ≤ H t) ∧ Below w.heap.size w wr)
    (fun i j _ => (intOf j - intOf i).toNat)
  case atStart => exact ⟨0, n, Nat.zero_le _, Nat.le_refl _, rfl, rfl, by omega, by omega, Below.refl _ _⟩
  case round =>
    obtain ⟨a, b, hab, hbn, rfl, rfl, hlo, hhi, hb⟩ := hrel
    have HLO := hide hlo
    have HHI := hide hhi
    clear hlo hhi
    by_cases hlt : a < b
    · obtain ⟨m, hm⟩ : ∃ m : Nat, ((a : Int) + (b : Int)) / 2 = (m : Int) := ⟨(a + b) / 2, by omega⟩
      have hma : a ≤ m := by omega
      have hmb : m < b := by omega
      have hmn : (m : Int) < (n : Int) := by omega
      obtain ⟨c0, c1⟩ := HE.out m (by omega)
      have d0 : wr.cell? ⟨g, o + m * 2, none⟩ = some (.int .i64 (H m)) := (hb.cell (by exact hg)).trans c0
      have d1 : wr.cell? ⟨g, o + m * 2 + 1, none⟩ = some (.int .u64 (N m)) := (hb.cell (by exact hg)).trans c1
      clear c0 c1
      by_cases hc : H m < q
      · go_wp2_with (go_at_call 13; refine (byHost_lt _ _ _ _ hc).mono ?_; rintro e w1 ⟨rfl, hb1⟩)
        go_roundw
        case rel => exact ⟨m + 1, b, by omega, hbn, by go_num, rfl, below_all HRi.out hc (by omega), HHI.out, hb.trans (hb1.mono hb.size)⟩
        case measure => simp [intOf]; omega
      · have hge : q ≤ H m := by omega
        go_wp2_with fail
        refine (byHost_ge _ _ _ _ hge).mono ?_
        rintro e w1 ⟨r, hr0, rfl, hb1⟩
        go_wp2
        go_roundw
        case rel => exact ⟨a, m, hma, by omega, rfl, rfl, HLO.out, above_all HRi.out hge, hb.trans (hb1.mono hb.size)⟩
        case measure => simp [intOf]; omega
    · have hab' : a = b := by omega
      subst hab'
      by_cases han : a < n
      · obtain ⟨c0, c1⟩ := HE.out a han
        have d0 : wr.cell? ⟨g, o + a * 2, none⟩ = some (.int .i64 (H a)) := (hb.cell (by exact hg)).trans c0
        have d1 : wr.cell? ⟨g, o + a * 2 + 1, none⟩ = some (.int .u64 (N a)) := (hb.cell (by exact hg)).trans c1
        have hani : (a : Int) < (n : Int) := by omega
        have HH := hide (HHI.out a (Nat.le_refl _) han)
        clear c0 c1
        by_cases hq : H a = q
        · have HQ := hide hq
          clear hq
          go_wp2_with fail
          refine (byHost_eq _ _ _ _ HQ.out).mono ?_
          rintro e w1 ⟨rfl, hb1⟩
          go_wp2
          go_ret2
          exact ⟨a, hbn, ret_found (by simp [han, HQ.out]), HLO.out, HHI.out, hb.trans (hb1.mono hb.size)⟩
        · have HQ := hide hq
          clear hq
          go_wp2_with fail
          refine (byHost_gt _ _ _ _ (by have := HH.out; have := HQ.out; omega)).mono ?_
          rintro e w1 ⟨rfl, hb1⟩
          go_wp2
          go_ret2
          exact ⟨a, hbn, ret_found (by simp [HQ.out]), HLO.out, HHI.out, hb.trans (hb1.mono hb.size)⟩
      · go_wp2
        go_ret2
        exact ⟨a, hbn, ret_found (by simp [han]), HLO.out, HHI.out, hb⟩

end Go.Proofs.Ybulkgdoo.search
