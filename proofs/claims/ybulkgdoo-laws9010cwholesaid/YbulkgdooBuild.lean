/-
  THE WALK of zzs9010cbuild (10).
-/
import Derived.Test.YbulkgdooClock
namespace Go.Proofs.Ybulkgdoo.lawS9010CWhole
open Go.RowKit Go.Proofs.Ybulkgdoo.search

/-- The hosts: each next one is 1 to 3 above the one before it. -/
def host (base : Int) (D : Nat → Int) : Nat → Int
  | 0 => base
  | k + 1 => host base D k + (D (k + 1) % 3 + 1)
/-- The host variable ahead of round k. -/
def pre (base : Int) (D : Nat → Int) : Nat → Int
  | 0 => base
  | k + 1 => host base D k
theorem host_bd (base : Int) (D : Nat → Int) : ∀ k, base ≤ host base D k ∧ host base D k ≤ base + 3 * k := by
  intro k
  induction k with
  | zero => exact ⟨by simp [host], by simp [host]⟩
  | succ k ih =>
    have e : host base D (k + 1) = host base D k + (D (k + 1) % 3 + 1) := rfl
    omega
theorem host_rising (base : Int) (D : Nat → Int) (n : Nat) : Rising (host base D) n := by
  intro i j hij hj
  induction j with
  | zero => omega
  | succ j ih =>
    have e : host base D (j + 1) = host base D j + (D (j + 1) % 3 + 1) := rfl
    by_cases h : i = j
    · subst h; omega
    · have := ih (by omega) (by omega); omega

/-- The first k entries are written. -/
def Wr (H N : Nat → Int) (xs : List Value) (k : Nat) : Prop :=
  ∀ j, j < k → xs[j * 2]? = some (.int .i64 (H j)) ∧ xs[j * 2 + 1]? = some (.int .u64 (N j))
theorem wr_succ {H N : Nat → Int} {xs : List Value} {k n : Nat} (hl : xs.length = n * 2) (hk : k < n) (h : Wr H N xs k) :
    Wr H N ((xs.set (k * 2) (.int .i64 (H k))).set (k * 2 + 1) (.int .u64 (N k))) (k + 1) := by
  intro j hj
  by_cases e : j = k
  · subst e
    constructor
    · rw [List.getElem?_set_ne (by omega), List.getElem?_set_self (by omega)]
    · rw [List.getElem?_set_self (by simp; omega)]
  · obtain ⟨h1, h2⟩ := h j (by omega)
    constructor
    · rw [List.getElem?_set_ne (by omega), List.getElem?_set_ne (by omega)]; exact h1
    · rw [List.getElem?_set_ne (by omega), List.getElem?_set_ne (by omega)]; exact h2
theorem wr_one {H N : Nat → Int} {xs : List Value} {n : Nat} (hl : xs.length = n * 2) (h : Wr H N xs n) : ∀ v ∈ xs, v.oneCell' = true := by
  intro v hv
  obtain ⟨j, hj, rfl⟩ := List.getElem_of_mem hv
  obtain ⟨h1, h2⟩ := h (j / 2) (by omega)
  rcases Nat.mod_two_eq_zero_or_one j with e | e
  · rw [show j / 2 * 2 = j by omega, List.getElem?_eq_getElem hj] at h1
    rw [Option.some.inj h1]
    rfl
  · rw [show j / 2 * 2 + 1 = j by omega, List.getElem?_eq_getElem hj] at h2
    rw [Option.some.inj h2]
    rfl
theorem ents_wr {w : World} {g n : Nat} {H N : Nat → Int} {xs : List Value} (hb : w.heap[g]? = some (.cells xs.toArray 30 (0, 0))) (h : Wr H N xs n) : Ents w g 0 n H N := by
  intro i hi
  obtain ⟨h1, h2⟩ := h i hi
  constructor
  · simp [World.cell?, hb, h1]
  · simp [World.cell?, hb, h2]
/-- A row that a slice owns whole. -/
theorem own_whole {w : World} {B g n : Nat} {xs : List Value} (h : w.ownsRow B 30 2 (.slice (some ⟨g, 0, none⟩) n n) n xs) :
    w.heap[g]? = some (.cells xs.toArray 30 (0, 0)) ∧ xs.length = n * 2 ∧ (∀ j v, xs[j]? = some v → w.cell? ⟨g, j, none⟩ = some v) := by
  have hl : xs.length = n * 2 := h.1
  refine ⟨?_, hl, ?_⟩
  · rcases h.2 with ⟨h', _⟩ | ⟨g', cap', cur, h', _, hg, _, _, hcs, htake⟩
    · simp at h'
    · simp only [Value.slice.injEq, Option.some.injEq, Addr.mk.injEq, and_true, true_and] at h'
      obtain ⟨rfl, rfl⟩ := h'
      rw [List.take_of_length_le (by simp; omega)] at htake
      rw [hg, ← htake]
  · intro j v hj
    have hj' := (List.getElem?_eq_some_iff.1 hj).1
    rw [h.cellAt j (by omega)]
    exact hj

/-- What the clock's builder leaves: a row of its own, its entries written. -/
def Built (w w' : World) (len : Nat) (H N : Nat → Int) : Prop :=
  Below w.heap.size w w' ∧ w.heap.size < w'.heap.size ∧ ∃ xs : List Value, w'.heap[w.heap.size]? = some (.cells xs.toArray 30 (0, 0)) ∧ xs.length = len * 2 ∧ Wr H N xs len

set_option maxHeartbeats 4000000 in
theorem build_ns0 (base : Int) (b1 o1 len cap : Nat) (v2 : Option Addr) (cap2 : Nat) (D N : Nat → Int) (w : World) (hb1 : -32768 ≤ base) (hb2 : base ≤ 32767) (hlen : len ≤ 1048576)
    (hc : ∀ i, i < len → w.cell? ⟨b1, o1 + i, none⟩ = some (.int .u8 (D i))) (hD : ∀ i, i < len → 0 ≤ D i ∧ D i ≤ 255) (hN : ∀ i, i < len → N i = (i : Int) + 1) :
    Calls Yba.prog 10 #[.int .i16 base, .slice (some ⟨b1, o1, none⟩) len cap, .slice v2 0 cap2] w fun e w' => e = .returned (.slice (some ⟨w.heap.size, 0, none⟩) len len) ∧ Built w w' len (host base D) N := by
  obtain ⟨i0, hi, hz0, hz1, hz2⟩ := info_parts info30
  have HC := hide hc
  have HDb := hide hD
  have HBD := hide (host_bd base D)
  have HN := hide hN
  clear hN
  clear hc hD
  go_enter Yba.func10, Yba.ntmps10
  go_wp2_with (at_make; refine wpList_make_full w rfl _ _ 24 rfl w.heap.size 30 i0 (.agg #[.int .i64 0, .int .u64 0]) 2 Yba.underlying24 hi hz0 hz1 .i64 .i64 _ _ len rfl rfl rfl rfl ?b2 ?b3 (Nat.le_refl _) ?_)
  case b2 => rw [hz2]; omega
  case b3 => unfold maxLen; omega
  intro w1 hown hgr
  have hbel : Below w.heap.size w w1 := (Below.refl _ _).grown hgr (Nat.le_refl _) (by simp)
  have hsz : w.heap.size < w1.heap.size := (hown.lt _ rfl).2
  have HOwn := hide hown
  clear hown hgr
  go_wp2
  go_loopw [8, 19] (fun h i wr => ∃ k : Nat, ∃ xs : List Value, k ≤ len ∧ h = .int .i64 (pre base D k) ∧ i = .int .i64 k ∧ wr.ownsRow w.heap.size 30 2 (.slice (some ⟨w.heap.size, 0, none⟩) len len) len xs ∧ Below w.heap.size w wr ∧
      w.heap.size < wr.heap.size ∧ Wr (host base D) N xs k)
    (fun _ i _ => len - (intOf i).toNat)
  case atStart => exact ⟨0, _, Nat.zero_le _, rfl, rfl, HOwn.out, hbel, hsz, fun j hj => by omega⟩
  case round =>
    obtain ⟨k, xs, hk, rfl, rfl, ho, hb, hs, hx⟩ := hrel
    have HX := hide hx
    have HO := hide ho
    clear hx ho
    by_cases hlt : k < len
    · have hg := HDb.out k hlt
      have hki : (k : Int) < (len : Int) := by omega
      have hblt : b1 < w.heap.size := block_lt_of_cell (HC.out k hlt)
      have c0 : wr.cell? ⟨b1, o1 + k, none⟩ = some (.int .u8 (D k)) := (hb.cell (by exact hblt)).trans (HC.out k hlt)
      have hN := hide (HN.out k hlt)
      have hl : xs.length = len * 2 := HO.out.1
      obtain ⟨v0, hv0⟩ : ∃ v, wr.cell? ⟨w.heap.size, k * 2, none⟩ = some v := ⟨_, (HO.out.cellAt (k * 2) (by omega)).trans (List.getElem?_eq_getElem (by omega))⟩
      obtain ⟨v1, hv1⟩ : ∃ v, wr.cell? ⟨w.heap.size, k * 2 + 1, none⟩ = some v := ⟨_, (HO.out.cellAt (k * 2 + 1) (by omega)).trans (List.getElem?_eq_getElem (by omega))⟩
      have hf0 := HO.out.frozenAt (k * 2)
      have hf1 := HO.out.frozenAt (k * 2 + 1)
      have HL := hide hl
      clear hl
      have hbd0 := HBD.out (k - 1)
      cases k with
      | zero =>
        have hpre : pre base D 0 = base := rfl
        rw [hpre]
        simp only [Nat.zero_mul, Nat.add_zero, Nat.zero_add] at c0 hv0 hv1 hf0 hf1
        skip
        go_wp2
        go_roundw
        case rel =>
          have hst := HO.out.stored 0 (.int .i64 (host base D 0))
          have hst2 := hst.1.stored 1 (.int .u64 (N 0))
          have hwr := wr_succ (k := 0) HL.out hlt HX.out
          rw [hN.out] at hst2 hwr
          exact ⟨1, _, by omega, rfl, by go_num, hst2.1, (hb.setCell (Nat.le_refl _) _).setCell (Nat.le_refl _) _, by simp; omega, hwr⟩
        case measure => simp [intOf]; omega
      | succ k =>
        have HP : Hid (host base D (k + 1) = host base D k + (D (k + 1) % 3 + 1)) := hide rfl
        have hpre : pre base D (k + 1) = host base D k := rfl
        rw [hpre]
        simp only [Nat.add_sub_cancel] at hbd0
        skip
        go_wp2
        go_roundw
        case rel =>
          have hst := HO.out.stored ((k + 1) * 2) (.int .i64 (host base D (k + 1)))
          have hst2 := hst.1.stored ((k + 1) * 2 + 1) (.int .u64 (N (k + 1)))
          have hwr := wr_succ HL.out hlt HX.out
          rw [hN.out] at hst2 hwr
          exact ⟨k + 1 + 1, _, by omega, rfl, by go_num, hst2.1, (hb.setCell (Nat.le_refl _) _).setCell (Nat.le_refl _) _, by simp; omega, hwr⟩
        case measure => simp [intOf]; omega
    · obtain rfl : k = len := by omega
      go_wp2
      go_ret
      exact ⟨rfl, hb, hs, xs, (own_whole HO.out).1, (own_whole HO.out).2.1, HX.out⟩

set_option maxHeartbeats 4000000 in
theorem build_ns (base : Int) (b1 o1 len cap : Nat) (b2 o2 l2 cap2 : Nat) (D N : Nat → Int) (w : World) (hb1 : -32768 ≤ base) (hb2 : base ≤ 32767) (hlen : len ≤ 1048576)
    (hc : ∀ i, i < len → w.cell? ⟨b1, o1 + i, none⟩ = some (.int .u8 (D i))) (hD : ∀ i, i < len → 0 ≤ D i ∧ D i ≤ 255) (Z : Nat → Int) (hl2 : 0 < l2) (hm2 : l2 ≤ 9223372036854775807) (hc2 : ∀ i, i < l2 → w.cell? ⟨b2, o2 + i, none⟩ = some (.int .u64 (Z i))) (hN : ∀ i, i < len → N i = Z (i % l2)) :
    Calls Yba.prog 10 #[.int .i16 base, .slice (some ⟨b1, o1, none⟩) len cap, .slice (some ⟨b2, o2, none⟩) l2 cap2] w fun e w' => e = .returned (.slice (some ⟨w.heap.size, 0, none⟩) len len) ∧ Built w w' len (host base D) N := by
  obtain ⟨i0, hi, hz0, hz1, hz2⟩ := info_parts info30
  have HC := hide hc
  have HDb := hide hD
  have HBD := hide (host_bd base D)
  have HN := hide hN
  have HC2 := hide hc2
  have hl2i : (0 : Int) < (l2 : Int) := by omega
  clear hN hc2
  clear hc hD
  go_enter Yba.func10, Yba.ntmps10
  go_wp2_with (at_make; refine wpList_make_full w rfl _ _ 24 rfl w.heap.size 30 i0 (.agg #[.int .i64 0, .int .u64 0]) 2 Yba.underlying24 hi hz0 hz1 .i64 .i64 _ _ len rfl rfl rfl rfl ?b2 ?b3 (Nat.le_refl _) ?_)
  case b2 => rw [hz2]; omega
  case b3 => unfold maxLen; omega
  intro w1 hown hgr
  have hbel : Below w.heap.size w w1 := (Below.refl _ _).grown hgr (Nat.le_refl _) (by simp)
  have hsz : w.heap.size < w1.heap.size := (hown.lt _ rfl).2
  have HOwn := hide hown
  clear hown hgr
  go_wp2
  go_loopw [8, 19] (fun h i wr => ∃ k : Nat, ∃ xs : List Value, k ≤ len ∧ h = .int .i64 (pre base D k) ∧ i = .int .i64 k ∧ wr.ownsRow w.heap.size 30 2 (.slice (some ⟨w.heap.size, 0, none⟩) len len) len xs ∧ Below w.heap.size w wr ∧
      w.heap.size < wr.heap.size ∧ Wr (host base D) N xs k)
    (fun _ i _ => len - (intOf i).toNat)
  case atStart => exact ⟨0, _, Nat.zero_le _, rfl, rfl, HOwn.out, hbel, hsz, fun j hj => by omega⟩
  case round =>
    obtain ⟨k, xs, hk, rfl, rfl, ho, hb, hs, hx⟩ := hrel
    have HX := hide hx
    have HO := hide ho
    clear hx ho
    by_cases hlt : k < len
    · have hg := HDb.out k hlt
      have hki : (k : Int) < (len : Int) := by omega
      have hblt : b1 < w.heap.size := block_lt_of_cell (HC.out k hlt)
      have c0 : wr.cell? ⟨b1, o1 + k, none⟩ = some (.int .u8 (D k)) := (hb.cell (by exact hblt)).trans (HC.out k hlt)
      have hN := hide (HN.out k hlt)
      obtain ⟨r, hr⟩ : ∃ r, k % l2 = r := ⟨_, rfl⟩
      have hrl : r < l2 := by rw [← hr]; exact Nat.mod_lt _ hl2
      have hri : (r : Int) < (l2 : Int) := by omega
      have hb2lt : b2 < w.heap.size := block_lt_of_cell (HC2.out r hrl)
      have c2 : wr.cell? ⟨b2, o2 + r, none⟩ = some (.int .u64 (Z r)) := (hb.cell (by exact hb2lt)).trans (HC2.out r hrl)
      have HR := hide hr
      have hrm : (k : Int) % (l2 : Int) = (r : Int) := by rw [← hr]; omega
      clear hr
      have hl : xs.length = len * 2 := HO.out.1
      obtain ⟨v0, hv0⟩ : ∃ v, wr.cell? ⟨w.heap.size, k * 2, none⟩ = some v := ⟨_, (HO.out.cellAt (k * 2) (by omega)).trans (List.getElem?_eq_getElem (by omega))⟩
      obtain ⟨v1, hv1⟩ : ∃ v, wr.cell? ⟨w.heap.size, k * 2 + 1, none⟩ = some v := ⟨_, (HO.out.cellAt (k * 2 + 1) (by omega)).trans (List.getElem?_eq_getElem (by omega))⟩
      have hf0 := HO.out.frozenAt (k * 2)
      have hf1 := HO.out.frozenAt (k * 2 + 1)
      have HL := hide hl
      clear hl
      have hbd0 := HBD.out (k - 1)
      cases k with
      | zero =>
        have hpre : pre base D 0 = base := rfl
        rw [hpre]
        simp only [Nat.zero_mul, Nat.add_zero, Nat.zero_add] at c0 hv0 hv1 hf0 hf1
        obtain rfl : r = 0 := by have := HR.out; simpa using this.symm
        simp only [Nat.add_zero] at c2
        clear hrm
        go_wp2
        go_roundw
        case rel =>
          have hst := HO.out.stored 0 (.int .i64 (host base D 0))
          have hst2 := hst.1.stored 1 (.int .u64 (N 0))
          have hwr := wr_succ (k := 0) HL.out hlt HX.out
          rw [hN.out, HR.out] at hst2 hwr
          exact ⟨1, _, by omega, rfl, by go_num, hst2.1, (hb.setCell (Nat.le_refl _) _).setCell (Nat.le_refl _) _, by simp; omega, hwr⟩
        case measure => simp [intOf]; omega
      | succ k =>
        have HP : Hid (host base D (k + 1) = host base D k + (D (k + 1) % 3 + 1)) := hide rfl
        have hpre : pre base D (k + 1) = host base D k := rfl
        rw [hpre]
        simp only [Nat.add_sub_cancel] at hbd0
        have hrm2 : ((k : Int) + 1) % (l2 : Int) = (r : Int) := by have := hrm; simpa using this
        go_wp2
        go_roundw
        case rel =>
          have hst := HO.out.stored ((k + 1) * 2) (.int .i64 (host base D (k + 1)))
          have hst2 := hst.1.stored ((k + 1) * 2 + 1) (.int .u64 (N (k + 1)))
          have hwr := wr_succ HL.out hlt HX.out
          rw [hN.out, HR.out] at hst2 hwr
          exact ⟨k + 1 + 1, _, by omega, rfl, by go_num, hst2.1, (hb.setCell (Nat.le_refl _) _).setCell (Nat.le_refl _) _, by simp; omega, hwr⟩
        case measure => simp [intOf]; omega
    · obtain rfl : k = len := by omega
      go_wp2
      go_ret
      exact ⟨rfl, hb, hs, xs, (own_whole HO.out).1, (own_whole HO.out).2.1, HX.out⟩

set_option maxHeartbeats 4000000 in
theorem build_empty (base : Int) (v1 : Option Addr) (cap : Nat) (vn : Value) (H N : Nat → Int) (w : World) (hb1 : -32768 ≤ base) (hb2 : base ≤ 32767) :
    Calls Yba.prog 10 #[.int .i16 base, .slice v1 0 cap, vn] w fun e w' => e = .returned (.slice (some ⟨w.heap.size, 0, none⟩) 0 0) ∧ Built w w' 0 H N := by
  obtain ⟨i0, hi, hz0, hz1, hz2⟩ := info_parts info30
  go_enter Yba.func10, Yba.ntmps10
  go_wp2_with (at_make; refine wpList_make_full w rfl _ _ 24 rfl w.heap.size 30 i0 (.agg #[.int .i64 0, .int .u64 0]) 2 Yba.underlying24 hi hz0 hz1 .i64 .i64 _ _ 0 rfl rfl rfl rfl ?b2 ?b3 (Nat.le_refl _) ?_)
  case b2 => omega
  case b3 => unfold maxLen; omega
  intro w1 hown hgr
  have hbel : Below w.heap.size w w1 := (Below.refl _ _).grown hgr (Nat.le_refl _) (by simp)
  have hsz : w.heap.size < w1.heap.size := (hown.lt _ rfl).2
  have HO := hide hown
  clear hown hgr
  go_wp2
  refine wp_loop_rounds 1 ?_; rw [rounds_succ]
  go_wp2
  go_ret
  exact ⟨rfl, hbel, hsz, _, (own_whole HO.out).1, (own_whole HO.out).2.1, fun j hj => by omega⟩

end Go.Proofs.Ybulkgdoo.lawS9010CWhole
