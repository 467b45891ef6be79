/-
  THE WALK of LawS9010AWhole (3).
-/
import Derived.Test.YbulkgdooClock
namespace Go.Proofs.Ybulkgdoo.lawS9010AWhole
open Go.RowKit Go.Proofs.Ybulkgdoo.search

/-- The host ahead of entry k. -/
def hsum (base : Int) (G : Nat → Int) : Nat → Int
  | 0 => base
  | k + 1 => hsum base G k + 1 + G k

theorem hsum_bd (base : Int) (G : Nat → Int) (n : Nat) (hG : ∀ i, i < n → 0 ≤ G i ∧ G i ≤ 255) : ∀ k, k ≤ n → base ≤ hsum base G k ∧ hsum base G k ≤ base + 256 * k := by
  intro k hk
  induction k with
  | zero => exact ⟨by simp [hsum], by simp [hsum]⟩
  | succ k ih =>
    have h1 := ih (by omega)
    have h2 := hG k (by omega)
    have e : hsum base G (k + 1) = hsum base G k + 1 + G k := rfl
    omega
theorem hsum_rising (base : Int) (G : Nat → Int) (n : Nat) (hG : ∀ i, i < n → 0 ≤ G i ∧ G i ≤ 255) : Rising (fun i => hsum base G (i + 1)) n := by
  intro i j hij hj
  show hsum base G (i + 1) < hsum base G (j + 1)
  induction j with
  | zero => omega
  | succ j ih =>
    have h2 := hG (j + 1) hj
    have e : hsum base G (j + 1 + 1) = hsum base G (j + 1) + 1 + G (j + 1) := rfl
    by_cases h : i = j
    · subst h; omega
    · have := ih (by omega) (by omega); omega

/-- The first k entries are written. -/
def Wrote (base : Int) (G N : Nat → Int) (xs : List Value) (k : Nat) : Prop :=
  ∀ j, j < k → xs[j * 2]? = some (.int .i64 (hsum base G (j + 1))) ∧ xs[j * 2 + 1]? = some (.int .u64 (N j))

theorem wrote_succ {base : Int} {G N : Nat → Int} {xs : List Value} {k n : Nat} (hl : xs.length = n * 2) (hk : k < n) (h : Wrote base G N xs k) :
    Wrote base G N ((xs.set (k * 2) (.int .i64 (hsum base G (k + 1)))).set (k * 2 + 1) (.int .u64 (N k))) (k + 1) := by
  intro j hj
  by_cases e : j = k
  · subst e
    constructor
    · rw [List.getElem?_set_ne (by omega), List.getElem?_set_self (by omega)]
    · rw [List.getElem?_set_self (by simp; omega)]
  · obtain ⟨h1, h2⟩ := h j (by omega)
    constructor
    · rw [List.getElem?_set_ne (by omega), List.getElem?_set_ne (by omega)]; exact h1
    · rw [List.getElem?_set_ne (by omega), List.getElem?_set_ne (by omega)]; exact h2

/-- A row that a slice owns whole. -/
theorem own_whole {w : World} {B g n : Nat} {xs : List Value} (h : w.ownsRow B 30 2 (.slice (some ⟨g, 0, none⟩) n n) n xs) :
    Hid (w.heap[g]? = some (.cells xs.toArray 30 (0, 0))) ∧ Hid (xs.length = n * 2) ∧ Hid (∀ j v, xs[j]? = some v → w.cell? ⟨g, j, none⟩ = some v) := by
  have hl : xs.length = n * 2 := h.1
  refine ⟨?_, hl, ?_⟩
  · rcases h.2 with ⟨h', _⟩ | ⟨g', cap', cur, h', _, hg, _, _, hcs, htake⟩
    · simp at h'
    · simp only [Value.slice.injEq, Option.some.injEq, Addr.mk.injEq, and_true, true_and] at h'
      obtain ⟨rfl, rfl⟩ := h'
      rw [List.take_of_length_le (by simp; omega)] at htake
      show w.heap[g]? = _
      rw [hg, ← htake]
  · intro j v hj
    have hj' := (List.getElem?_eq_some_iff.1 hj).1
    rw [h.cellAt j (by omega)]
    exact hj
theorem ents_of {w : World} {g n : Nat} {base : Int} {G N : Nat → Int} {xs : List Value} (hb : w.heap[g]? = some (.cells xs.toArray 30 (0, 0))) (h : Wrote base G N xs n) : Ents w g 0 n (fun i => hsum base G (i + 1)) N := by
  intro i hi
  obtain ⟨h1, h2⟩ := h i hi
  constructor
  · simp [World.cell?, hb, h1]
  · simp [World.cell?, hb, h2]
theorem wrote_one {base : Int} {G N : Nat → Int} {xs : List Value} {n : Nat} (hl : xs.length = n * 2) (h : Wrote base G N xs n) : ∀ v ∈ xs, v.oneCell' = true := by
  intro v hv
  obtain ⟨j, hj, rfl⟩ := List.getElem_of_mem hv
  obtain ⟨h1, h2⟩ := h (j / 2) (by omega)
  rcases Nat.mod_two_eq_zero_or_one j with e | e
  · rw [show j / 2 * 2 = j by omega, List.getElem?_eq_getElem hj] at h1
    rw [Option.some.inj h1]
    rfl
  · rw [show j / 2 * 2 + 1 = j by omega, List.getElem?_eq_getElem hj] at h2
    rw [Option.some.inj h2]
    rfl

theorem ents_later {w w' : World} {g n : Nat} {H N : Nat → Int} (h : Ents w g 0 n H N) (hb : Below w.heap.size w w') (hg : g < w.heap.size) :
    ∀ i, i < n → w'.cell? ⟨g, i * 2, none⟩ = some (.int .i64 (H i)) ∧ w'.cell? ⟨g, i * 2 + 1, none⟩ = some (.int .u64 (N i)) := by
  intro i hi
  obtain ⟨h1, h2⟩ := h i hi
  rw [Nat.zero_add] at h1 h2
  exact ⟨(hb.cell (by exact hg)).trans h1, (hb.cell (by exact hg)).trans h2⟩
theorem found_v {H N : Nat → Int} {n t : Nat} {q v : Int} (hr : Rising H n) (hv : (∃ i, i < n ∧ H i = q ∧ v = N i) ∨ ((∀ i, i < n → H i ≠ q) ∧ v = 0)) (ht : t < n) (h : H t = q) : v = N t := by
  rcases hv with ⟨i, hi, h1, rfl⟩ | ⟨h1, _⟩
  · have : i = t := by
      rcases Nat.lt_trichotomy i t with h2 | h2 | h2
      · have := hr i t h2 ht; omega
      · exact h2
      · have := hr t i h2 hi; omega
    rw [this]
  · exact absurd h (h1 t ht)

set_option maxHeartbeats 4000000 in
theorem walk_some (base q : Int) (b off len cap : Nat) (G N : Nat → Int) (w : World) (hb1 : -2147483648 ≤ base) (hb2 : base ≤ 2147483647) (hq1 : -32768 ≤ q) (hq2 : q ≤ 32767) (hlen : len ≤ 1048576)
    (hc : ∀ i, i < len → w.cell? ⟨b, off + i * 2, none⟩ = some (.int .u8 (G i)) ∧ w.cell? ⟨b, off + i * 2 + 1, none⟩ = some (.int .u64 (N i))) (hG : ∀ i, i < len → 0 ≤ G i ∧ G i ≤ 255) :
    Calls Yba.prog 3 #[.int .i32 base, .slice (some ⟨b, off, none⟩) len cap, .int .i16 q] w fun e w' => e = .returned (.bool true) ∧ Below w.heap.size w w' := by
  obtain ⟨i0, hi, hz0, hz1, hz2⟩ := info_parts info30
  have HC := hide hc
  have HGb := hide hG
  have HBD := hide (hsum_bd base G len hG)
  have HRi := hide (hsum_rising base G len hG)
  clear hc hG
  go_enter Yba.func3, Yba.ntmps3
  go_wp2_with (at_make; refine wpList_make_full w rfl _ _ 24 rfl w.heap.size 30 i0 (.agg #[.int .i64 0, .int .u64 0]) 2 Yba.underlying24 hi hz0 hz1 .i64 .i64 _ _ len rfl rfl rfl rfl ?b2 ?b3 (Nat.le_refl _) ?_)
  case b2 => rw [hz2]; omega
  case b3 => unfold maxLen; omega
  intro w1 hown hgr
  have hbel : Below w.heap.size w w1 := (Below.refl _ _).grown hgr (Nat.le_refl _) (by simp)
  have hsz : w.heap.size < w1.heap.size := (hown.lt _ rfl).2
  have HOwn := hide hown
  clear hown hgr
  go_wp2
  go_loopw [8, 9] (fun h i wr => ∃ k : Nat, ∃ xs : List Value, k ≤ len ∧ h = .int .i64 (hsum base G k) ∧ i = .int .i64 k ∧ wr.ownsRow w.heap.size 30 2 (.slice (some ⟨w.heap.size, 0, none⟩) len len) len xs ∧ Below w.heap.size w wr ∧
      w.heap.size < wr.heap.size ∧ Wrote base G N xs k)
    (fun _ i _ => len - (intOf i).toNat)
  case atStart => exact ⟨0, _, Nat.zero_le _, rfl, rfl, HOwn.out, hbel, hsz, fun j hj => by omega⟩
  case round =>
    obtain ⟨k, xs, hk, rfl, rfl, ho, hb, hs, hx⟩ := hrel
    have HX := hide hx
    have HO := hide ho
    clear hx ho
    have hbd := HBD.out k hk
    by_cases hlt : k < len
    · have hg := HGb.out k hlt
      have hki : (k : Int) < (len : Int) := by omega
      have hblt : b < w.heap.size := block_lt_of_cell (HC.out k hlt).1
      have c0 : wr.cell? ⟨b, off + k * 2, none⟩ = some (.int .u8 (G k)) := (hb.cell (by exact hblt)).trans (HC.out k hlt).1
      have c1 : wr.cell? ⟨b, off + k * 2 + 1, none⟩ = some (.int .u64 (N k)) := (hb.cell (by exact hblt)).trans (HC.out k hlt).2
      have hl : xs.length = len * 2 := HO.out.1
      obtain ⟨v0, hv0⟩ : ∃ v, wr.cell? ⟨w.heap.size, k * 2, none⟩ = some v := ⟨_, (HO.out.cellAt (k * 2) (by omega)).trans (List.getElem?_eq_getElem (by omega))⟩
      obtain ⟨v1, hv1⟩ : ∃ v, wr.cell? ⟨w.heap.size, k * 2 + 1, none⟩ = some v := ⟨_, (HO.out.cellAt (k * 2 + 1) (by omega)).trans (List.getElem?_eq_getElem (by omega))⟩
      have hf0 := HO.out.frozenAt (k * 2)
      have hf1 := HO.out.frozenAt (k * 2 + 1)
      have HL := hide hl
      clear hl
      go_wp2
      go_roundw
      case rel =>
        have hst := HO.out.stored (k * 2) (.int .i64 (hsum base G (k + 1)))
        have hst2 := hst.1.stored (k * 2 + 1) (.int .u64 (N k))
        exact ⟨k + 1, _, by omega, rfl, by go_num, hst2.1, (hb.setCell (Nat.le_refl _) _).setCell (Nat.le_refl _) _, by simp; omega, wrote_succ HL.out hlt HX.out⟩
      case measure => simp [intOf]; omega
    · obtain rfl : k = len := by omega
      obtain ⟨HB, HL, HCell⟩ : Hid (wr.heap[w.heap.size]? = some (.cells xs.toArray 30 (0, 0))) ∧ Hid (xs.length = k * 2) ∧ Hid (∀ j v, xs[j]? = some v → wr.cell? ⟨w.heap.size, j, none⟩ = some v) := own_whole HO.out
      have hBB : wr.heap.size ≤ wr.heap.size := Nat.le_refl _
      go_wp2_with (at_make; refine wpList_make_full wr rfl _ _ 24 rfl wr.heap.size 30 i0 (.agg #[.int .i64 0, .int .u64 0]) 2 Yba.underlying24 hi hz0 hz1 .i64 .i64 _ _ k rfl rfl rfl rfl ?b2 ?b3 (Nat.le_refl _) ?_)
      case b2 => rw [hz2]; omega
      case b3 => unfold maxLen; omega
      intro w2 hown2 hgr2
      have hbel2 : Below wr.heap.size wr w2 := (Below.refl _ _).grown hgr2 (Nat.le_refl _) (by simp)
      obtain ⟨ys, HY, HYl⟩ : ∃ ys : List Value, Hid (w2.heap[wr.heap.size]? = some (.cells ys.toArray 30 (0, 0))) ∧ Hid (ys.length = k * 2) := ⟨_, (own_whole hown2).1, (own_whole hown2).2.1⟩
      have hsz2 : wr.heap.size < w2.heap.size := (hown2.lt _ rfl).2
      clear hown2 hgr2
      have HB2 : Hid (w2.heap[w.heap.size]? = some (.cells xs.toArray 30 (0, 0))) := hide (by rw [hbel2.block _ hs]; exact HB.out)
      have HC2 : Hid (∀ j v, xs[j]? = some v → w2.cell? ⟨w.heap.size, j, none⟩ = some v) := hide (fun j v hj => (hbel2.cell (p := ⟨w.heap.size, j, none⟩) (by exact hs)).trans (HCell.out j v hj))
      obtain ⟨w3, hcp, HK3, hbb3, hsz3, HO3⟩ := copy_pairs_ex w2 wr.heap.size w.heap.size k ys.toArray 30 xs HY.out HL.out HC2.out (by have h1 := HL.out; have h2 := HYl.out; simp; omega) (wrote_one HL.out HX.out)
      have hb3 : Below w.heap.size w w3 := hbb3 _ _ (hb.trans (hbel2.mono (by omega))) (by omega)
      have hsz3' : wr.heap.size < w3.heap.size := by omega
      have HE1 : Hid (Ents w3 w.heap.size 0 k (fun i => hsum base G (i + 1)) N) := hide (ents_of (by rw [HO3.out _ (by omega)]; exact HB2.out) HX.out)
      have HE2 : Hid (Ents w3 wr.heap.size 0 k (fun i => hsum base G (i + 1)) N) := hide (ents_of HK3.out HX.out)
      clear hbb3 HO3 HK3 HY HYl HC2 HB2 HB HCell hsz3
      go_wp2_with fail
      refine (count_any w.heap.size 0 k k _ N (base + q) w3 hlen (by omega) HE1.out HRi.out).mono ?_
      rintro e w4 ⟨v, rfl, hv, hb4⟩
      have HV := hide hv
      have HA4 : Hid (∀ i, i < k → w4.cell? ⟨w.heap.size, i * 2, none⟩ = some (.int .i64 (hsum base G (i + 1))) ∧ w4.cell? ⟨w.heap.size, i * 2 + 1, none⟩ = some (.int .u64 (N i))) := hide (ents_later HE1.out hb4 (by omega))
      have HB4 : Hid (∀ i, i < k → w4.cell? ⟨wr.heap.size, i * 2, none⟩ = some (.int .i64 (hsum base G (i + 1))) ∧ w4.cell? ⟨wr.heap.size, i * 2 + 1, none⟩ = some (.int .u64 (N i))) := hide (ents_later HE2.out hb4 (by omega))
      have hb4w : Below w.heap.size w w4 := hb3.trans (hb4.mono (by omega))
      clear hv HE1 HE2 hb4 hcp
      go_wp2
      go_loop [13, 14] (fun u i => ∃ t : Nat, t ≤ k ∧ i = .int .i64 t ∧ u = .int .u64 0 ∧ ∀ j, j < t → hsum base G (j + 1) ≠ base + q) (fun _ i => k - (intOf i).toNat)
      case atStart => exact ⟨0, Nat.zero_le _, rfl, rfl, by omega⟩
      case round =>
        obtain ⟨t, htk, rfl, rfl, hne⟩ := hrel
        have HNE := hide hne
        clear hne
        by_cases hlt2 : t < k
        · have hti : (t : Int) < (k : Int) := by omega
          obtain ⟨ht, hht⟩ : ∃ x, hsum base G (t + 1) = x := ⟨_, rfl⟩
          obtain ⟨b0, b1⟩ := HB4.out t hlt2
          rw [hht] at b0
          have HHt := hide hht
          clear hht
          by_cases hfo : ht = base + q
          · have heq : (ht == base + q) = true := by simp [hfo]
            have hvn : v = N t := found_v HRi.out HV.out hlt2 (HHt.out.trans hfo)
            clear hfo
            subst hvn
            have hpp : ∀ W, ∀ h n : Int, (binOp .neq 30 (.agg #[.int .i64 h, .int .u64 n]) (.agg #[.int .i64 h, .int .u64 n])).run Yba.prog W = .ok (.bool false) W := fun W h n => neq_entry h n W
            go_wp2
            go_loopw [15] (fun i wx => ∃ t nq : Nat, t ≤ k ∧ i = .int .i64 t ∧ wx = w4.drewN nq) (fun i _ => k - (intOf i).toNat)
            case atStart => exact ⟨0, 0, Nat.zero_le _, rfl, rfl⟩
            case round =>
              obtain ⟨t, nq, htk, rfl, rfl⟩ := hrel
              by_cases hlt3 : t < k
              · have hti : (t : Int) < (k : Int) := by omega
                obtain ⟨ht, hht⟩ : ∃ x, hsum base G (t + 1) = x := ⟨_, rfl⟩
                obtain ⟨a0, a1⟩ := HA4.out t hlt3
                obtain ⟨b0, b1⟩ := HB4.out t hlt3
                rw [hht] at a0 b0
                clear hht
                go_wp2
                go_quiet (fail)
                go_wp2
                go_roundw
                case rel => exact ⟨t + 1, _, by omega, by go_num, rfl⟩
                case measure => simp [intOf]; omega
              · go_wp2
                go_ret
                exact ⟨rfl, below_drewN hb4w nq⟩
          · have heq : (ht == base + q) = false := by simp [hfo]
            have HFo := hide hfo
            clear hfo
            go_wp2
            go_round
            case rel => exact ⟨t + 1, by omega, by go_num, rfl, fun j hj => by
              by_cases e : j = t
              · subst e; rw [HHt.out]; exact HFo.out
              · exact HNE.out j (by omega)⟩
            case measure => simp [intOf]; omega
        · obtain rfl : t = k := by omega
          have hv0 : v = 0 := by
            rcases HV.out with ⟨i, hi, h1, _⟩ | ⟨_, h2⟩
            · exact absurd h1 (HNE.out i hi)
            · exact h2
          subst hv0
          have hpp : ∀ W, ∀ h n : Int, (binOp .neq 30 (.agg #[.int .i64 h, .int .u64 n]) (.agg #[.int .i64 h, .int .u64 n])).run Yba.prog W = .ok (.bool false) W := fun W h n => neq_entry h n W
          go_wp2
          go_loopw [15] (fun i wx => ∃ t2 nq : Nat, t2 ≤ t ∧ i = .int .i64 t2 ∧ wx = w4.drewN nq) (fun i _ => t - (intOf i).toNat)
          case atStart => exact ⟨0, 0, Nat.zero_le _, rfl, rfl⟩
          case round =>
            obtain ⟨t2, nq, htk, rfl, rfl⟩ := hrel
            by_cases hlt3 : t2 < t
            · have hti : (t2 : Int) < (t : Int) := by omega
              obtain ⟨ht, hht⟩ : ∃ x, hsum base G (t2 + 1) = x := ⟨_, rfl⟩
              obtain ⟨a0, a1⟩ := HA4.out t2 hlt3
              obtain ⟨b0, b1⟩ := HB4.out t2 hlt3
              rw [hht] at a0 b0
              clear hht
              go_wp2
              go_quiet (fail)
              go_wp2
              go_roundw
              case rel => exact ⟨t2 + 1, _, by omega, by go_num, rfl⟩
              case measure => simp [intOf]; omega
            · go_wp2
              go_ret
              exact ⟨rfl, below_drewN hb4w nq⟩

theorem no_ents (w : World) (g o : Nat) (H N : Nat → Int) : Ents w g o 0 H N := fun i hi => by omega

set_option maxHeartbeats 4000000 in
theorem walk_none (base q : Int) (v : Option Addr) (cap : Nat) (w : World) (hb1 : -2147483648 ≤ base) (hb2 : base ≤ 2147483647) (hq1 : -32768 ≤ q) (hq2 : q ≤ 32767) :
    Calls Yba.prog 3 #[.int .i32 base, .slice v 0 cap, .int .i16 q] w fun e w' => e = .returned (.bool true) ∧ Below w.heap.size w w' := by
  obtain ⟨i0, hi, hz0, hz1, hz2⟩ := info_parts info30
  go_enter Yba.func3, Yba.ntmps3
  go_wp2_with (at_make; refine wpList_make_full w rfl _ _ 24 rfl w.heap.size 30 i0 (.agg #[.int .i64 0, .int .u64 0]) 2 Yba.underlying24 hi hz0 hz1 .i64 .i64 _ _ 0 rfl rfl rfl rfl ?b2 ?b3 (Nat.le_refl _) ?_)
  case b2 => omega
  case b3 => unfold maxLen; omega
  intro w1 hown hgr
  have hbel : Below w.heap.size w w1 := (Below.refl _ _).grown hgr (Nat.le_refl _) (by simp)
  have hsz : w.heap.size < w1.heap.size := (hown.lt _ rfl).2
  clear hown hgr
  go_wp2
  refine wp_loop_rounds 1 ?_; rw [rounds_succ]
  go_wp2_with (at_make; refine wpList_make_full w1 rfl _ _ 24 rfl w1.heap.size 30 i0 (.agg #[.int .i64 0, .int .u64 0]) 2 Yba.underlying24 hi hz0 hz1 .i64 .i64 _ _ 0 rfl rfl rfl rfl ?b2 ?b3 (Nat.le_refl _) ?_)
  case b2 => omega
  case b3 => unfold maxLen; omega
  intro w2 hown2 hgr2
  have hbel2 : Below w1.heap.size w1 w2 := (Below.refl _ _).grown hgr2 (Nat.le_refl _) (by simp)
  obtain ⟨ys, HY, HYl⟩ : ∃ ys : List Value, Hid (w2.heap[w1.heap.size]? = some (.cells ys.toArray 30 (0, 0))) ∧ Hid (ys.length = 0 * 2) := ⟨_, (own_whole hown2).1, (own_whole hown2).2.1⟩
  have hsz2 : w1.heap.size < w2.heap.size := (hown2.lt _ rfl).2
  clear hown2 hgr2
  obtain ⟨w3, hcp, HK3, hbb3, hsz3, HO3⟩ := copy_pairs_ex w2 w1.heap.size w.heap.size 0 ys.toArray 30 [] HY.out rfl (fun j v hj => by simp at hj) (by have h2 := HYl.out; rw [List.size_toArray, h2]; rfl) (fun v hv => by simp at hv)
  have hb3 : Below w.heap.size w w3 := hbb3 _ _ (hbel.trans (hbel2.mono (by omega))) (by omega)
  clear hbb3 HO3 HK3 HY HYl
  go_wp2_with fail
  refine (count_any w.heap.size 0 0 0 (fun _ => 0) (fun _ => 0) (base + q) w3 (by omega) (by omega) (no_ents _ _ _ _ _) (fun i j h1 h2 => by omega)).mono ?_
  rintro e w4 ⟨v, rfl, hv, hb4⟩
  obtain rfl : v = 0 := by
    rcases hv with ⟨i, hi, _⟩ | ⟨_, h⟩
    · omega
    · exact h
  have hb4w : Below w.heap.size w w4 := hb3.trans (hb4.mono (by omega))
  clear hcp hv
  go_wp2
  refine wp_loop_rounds 1 ?_; rw [rounds_succ]
  go_wp2
  refine wp_loop_rounds 1 ?_; rw [rounds_succ]
  go_wp2
  go_ret
  exact ⟨rfl, hb4w⟩

theorem walk_big (base q : Int) (v : Option Addr) (len cap : Nat) (w : World) (hm : len ≤ maxLen) (hlen : 1048576 < len) :
    Calls Yba.prog 3 #[.int .i32 base, .slice v len cap, .int .i16 q] w fun e w' => e = .returned (.bool true) ∧ Below w.heap.size w w' := by
  unfold maxLen at hm
  go_enter Yba.func3, Yba.ntmps3
  go_wp2
  go_ret
  exact ⟨rfl, Below.refl _ _⟩

end Go.Proofs.Ybulkgdoo.lawS9010AWhole
