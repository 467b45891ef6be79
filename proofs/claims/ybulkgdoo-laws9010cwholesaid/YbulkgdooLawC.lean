/-
  THE WALK of LawS9010CWhole (5), out of its callees' contracts.
-/
import Derived.Test.YbulkgdooBuild
import Derived.Test.YbulkgdooSeek
namespace Go.Proofs.Ybulkgdoo.lawS9010CWhole
open Go.RowKit Go.Proofs.Ybulkgdoo.search

theorem ents_later {w w' : World} {g n : Nat} {H N : Nat → Int} (h : Ents w g 0 n H N) (hb : ∀ j, w'.cell? ⟨g, j, none⟩ = w.cell? ⟨g, j, none⟩) :
    ∀ i, i < n → w'.cell? ⟨g, i * 2, none⟩ = some (.int .i64 (H i)) ∧ w'.cell? ⟨g, i * 2 + 1, none⟩ = some (.int .u64 (N i)) := by
  intro i hi
  obtain ⟨h1, h2⟩ := h i hi
  rw [Nat.zero_add] at h1 h2
  exact ⟨(hb _).trans h1, (hb _).trans h2⟩
/-- Two cuts of a rising row at one value are one. -/
theorem cut_unique {H : Nat → Int} {n i k : Nat} {q : Int} (hi : i ≤ n) (hk : k ≤ n) (i1 : ∀ t, t < i → H t < q) (i2 : ∀ t, i ≤ t → t < n → q ≤ H t) (k1 : ∀ t, t < k → H t < q) (k2 : k < n → q ≤ H k) : i = k := by
  rcases Nat.lt_trichotomy i k with h | h | h
  · have := k1 i h; have := i2 i (Nat.le_refl _) (by omega); omega
  · exact h
  · have := i1 k h; have := k2 (by omega); omega

/-- Two pointers into one block are equal where their addresses are. -/
theorem neq_ptr (a : Addr) (w : World) : (binOp .neq 68 (.pointer (some a)) (.pointer (some a))).run Yba.prog w = .ok (.bool false) w := by
  have hh : ∀ d : Nat, (Op.equalIn (d + 1) 68 (.pointer (some a)) (.pointer (some a))).run Yba.prog w = .ok true w := fun d => by
    have hs : (sizeOf 30).run Yba.prog w = .ok 2 w := by kernel_rfl
    simp [Op.equalIn, run_underlying Yba.underlying68, hs, sameAddr]
  simp only [binOp]
  simp [Op.equal, Op.maxDepth, hh 9999]

theorem ents_alloc {w : World} {g n : Nat} {H N : Nat → Int} {o : Obj} (h : Ents w g 0 n H N) (hg : g < w.heap.size) : Ents (w.alloc o) g 0 n H N := by
  have hb : Below w.heap.size w (w.alloc o) := (Below.refl _ _).alloc (Nat.le_refl _) _
  intro i hi
  obtain ⟨h1, h2⟩ := h i hi
  exact ⟨(hb.cell (by exact hg)).trans h1, (hb.cell (by exact hg)).trans h2⟩
theorem cell_below_alloc {w w' : World} {o : Obj} {g j : Nat} (h : Below w.heap.size (w.alloc o) w') (hg : g < w.heap.size) : w'.cell? ⟨g, j, none⟩ = w.cell? ⟨g, j, none⟩ := by
  have hb : Below w.heap.size w (w.alloc o) := (Below.refl _ _).alloc (Nat.le_refl _) _
  rw [h.cell (by exact hg), hb.cell (by exact hg)]

set_option maxHeartbeats 4000000 in
theorem law_core (base q : Int) (v1 v2 : Value) (len : Nat) (H N : Nat → Int) (w : World) (hq1 : -32768 ≤ q) (hq2 : q ≤ 32767) (hlen : len ≤ 1048576) (hr : Rising H len)
    (c1 : Option Addr) (cap1 : Nat) (hv1 : v1 = .slice c1 len cap1)
    (hB : Calls Yba.prog 10 #[.int .i16 base, v1, v2] w fun e w' => e = .returned (.slice (some ⟨w.heap.size, 0, none⟩) len len) ∧ Built w w' len H N) :
    Calls Yba.prog 5 #[.int .i16 base, v1, v2, .int .i16 q] w fun e w' => e = .returned (.bool true) ∧ Below w.heap.size w w' := by
  obtain ⟨i0, hi, hz0, hz1, hz2⟩ := info_parts info30
  subst hv1
  have HB := hide hB
  have HRi := hide hr
  clear hB hr
  go_enter Yba.func5, Yba.ntmps5
  go_wp2_with fail
  refine HB.out.mono ?_
  rintro e w1 ⟨rfl, hb1, hs1, xs, hx1, hxl, hxw⟩
  have HX1 := hide hx1
  have HXl := hide hxl
  have HXw := hide hxw
  clear hx1 hxl hxw HB
  go_wp2_with (at_make; refine wpList_make_full w1 rfl _ _ 24 rfl w1.heap.size 30 i0 (.agg #[.int .i64 0, .int .u64 0]) 2 Yba.underlying24 hi hz0 hz1 .i64 .i64 _ _ len rfl rfl rfl rfl ?b2 ?b3 (Nat.le_refl _) ?_)
  case b2 => rw [hz2]; omega
  case b3 => unfold maxLen; omega
  intro w2 hown2 hgr2
  have hbel2 : Below w1.heap.size w1 w2 := (Below.refl _ _).grown hgr2 (Nat.le_refl _) (by simp)
  obtain ⟨ys, HY, HYl⟩ : ∃ ys : List Value, Hid (w2.heap[w1.heap.size]? = some (.cells ys.toArray 30 (0, 0))) ∧ Hid (ys.length = len * 2) := ⟨_, (own_whole hown2).1, (own_whole hown2).2.1⟩
  have hsz2 : w1.heap.size < w2.heap.size := (hown2.lt _ rfl).2
  clear hown2 hgr2
  have HX2 : Hid (w2.heap[w.heap.size]? = some (.cells xs.toArray 30 (0, 0))) := hide (by rw [hbel2.block _ hs1]; exact HX1.out)
  have HC2 : Hid (∀ j v, xs[j]? = some v → w2.cell? ⟨w.heap.size, j, none⟩ = some v) := hide (fun j v hj => by simp [World.cell?, HX2.out, hj])
  obtain ⟨w3, hcp, HK3, hbb3, hsz3, HO3⟩ := copy_pairs_ex w2 w1.heap.size w.heap.size len ys.toArray 30 xs HY.out HXl.out HC2.out (by have h1 := HXl.out; have h2 := HYl.out; simp; omega) (wr_one HXl.out HXw.out)
  have hb3 : Below w.heap.size w w3 := hbb3 _ _ (hb1.trans (hbel2.mono (by omega))) (by omega)
  have hsz3' : w1.heap.size < w3.heap.size := by omega
  have HE1 : Hid (Ents w3 w.heap.size 0 len H N) := hide (ents_wr (by rw [HO3.out _ (by omega)]; exact HX2.out) HXw.out)
  have HE2 : Hid (Ents w3 w1.heap.size 0 len H N) := hide (ents_wr HK3.out HXw.out)
  clear hbb3 HO3 HK3 HY HYl HC2 HX2 HX1 hsz3
  go_wp2
  go_loop [12] (fun i => ∃ k : Nat, k ≤ len ∧ i = .int .i64 k ∧ ∀ t, t < k → H t < q) (fun i => len - (intOf i).toNat)
  case atStart => exact ⟨0, Nat.zero_le _, rfl, by omega⟩
  case round =>
    obtain ⟨k, hk, rfl, hlo⟩ := hrel
    have HLO := hide hlo
    clear hlo
    by_cases hlt : k < len
    · have hki : (k : Int) < (len : Int) := by omega
      obtain ⟨d0, d1⟩ := HE1.out k hlt
      rw [Nat.zero_add] at d0 d1
      by_cases hc : H k < q
      · go_wp2
        go_round
        case rel => exact ⟨k + 1, by omega, by go_num, fun t ht => by
          by_cases e : t = k
          · subst e; exact hc
          · exact HLO.out t (by omega)⟩
        case measure => simp [intOf]; omega
      · by_cases he : H k = q
        · have heq : (H k == q) = true := by simp [he]
          have HEq := hide he
          clear he
          go_wp2_with fail
          refine (seek_any w3.heap.size w.heap.size len H N q _ hlen (by omega) (by simp) (by go_simp) (by go_simp) (ents_alloc HE1.out (by omega)) HRi.out).mono ?_
          rintro e w4 ⟨v, i, sl, rfl, hil, j1, j2, hv, hcs, hsl, hb4⟩
          obtain rfl : k = i := (cut_unique hil hk j1 j2 HLO.out (fun _ => by have := HEq.out; omega)).symm
          obtain rfl : v = N k := by rw [hv]; rw [if_pos ⟨hlt, HEq.out⟩]
          have HA4 : Hid (∀ i, i < len → w4.cell? ⟨w.heap.size, i * 2, none⟩ = some (.int .i64 (H i)) ∧ w4.cell? ⟨w.heap.size, i * 2 + 1, none⟩ = some (.int .u64 (N i))) := hide (ents_later HE1.out (fun j => cell_below_alloc hb4 (by omega)))
          have HB4 : Hid (∀ i, i < len → w4.cell? ⟨w1.heap.size, i * 2, none⟩ = some (.int .i64 (H i)) ∧ w4.cell? ⟨w1.heap.size, i * 2 + 1, none⟩ = some (.int .u64 (N i))) := hide (ents_later HE2.out (fun j => cell_below_alloc hb4 (by omega)))
          have hb4w : Below w.heap.size w w4 := hb3.trans (((Below.refl _ _).alloc (by omega) _).trans (hb4.mono (by omega)))
          obtain ⟨r, hr⟩ : ∃ r, len - k = r := ⟨_, rfl⟩
          rw [hr] at hcs
          have hri : (len : Int) - (k : Int) = (r : Int) := by omega
          obtain rfl : sl = some ⟨w.heap.size, k * 2, none⟩ := hsl hlt
          have hr0 : (0 : Int) < (r : Int) := by omega
          have hr0n : 0 < r := by omega
          have hr0a : decide ((0 : Int) < (r : Int)) = true := by simpa using hr0n
          have hr0b : decide (0 < r) = true := by simpa using hr0n
          have HCut := hide (And.intro j1 j2)
          clear hr j1 j2 hv hsl hb4 hil hcp
          have hpn := neq_ptr
          have hpp : ∀ W, ∀ h n : Int, (binOp .neq 30 (.agg #[.int .i64 h, .int .u64 n]) (.agg #[.int .i64 h, .int .u64 n])).run Yba.prog W = .ok (.bool false) W := fun W h n => neq_entry h n W
          go_wp2
          go_quiet (fail)
          go_wp2
          go_loopw [91] (fun i wx => ∃ t nq : Nat, t ≤ len ∧ i = .int .i64 t ∧ wx = w4.drewN nq) (fun i _ => len - (intOf i).toNat)
          case atStart => exact ⟨0, _, Nat.zero_le _, rfl, rfl⟩
          case round =>
            obtain ⟨t, nq, htk, rfl, rfl⟩ := hrel
            by_cases hlt3 : t < len
            · have hti : (t : Int) < (len : Int) := by omega
              obtain ⟨ht, hht⟩ : ∃ x, H t = x := ⟨_, rfl⟩
              obtain ⟨a0, a1⟩ := HA4.out t hlt3
              obtain ⟨b0, b1⟩ := HB4.out t hlt3
              rw [hht] at a0 b0
              clear hht
              go_wp2
              go_quiet (fail)
              go_wp2
              go_roundw
              case rel => exact ⟨t + 1, _, by omega, by go_num, rfl⟩
              case measure => simp [intOf]; omega
            · go_wp2
              go_ret
              exact ⟨rfl, below_drewN hb4w nq⟩
        · have heq : (H k == q) = false := by simp [he]
          have HEq := hide he
          have hgq : q ≤ H k := by omega
          clear he
          go_wp2_with fail
          refine (seek_any w3.heap.size w.heap.size len H N q _ hlen (by omega) (by simp) (by go_simp) (by go_simp) (ents_alloc HE1.out (by omega)) HRi.out).mono ?_
          rintro e w4 ⟨v, i, sl, rfl, hil, j1, j2, hv, hcs, hsl, hb4⟩
          obtain rfl : k = i := (cut_unique hil hk j1 j2 HLO.out (fun _ => hgq)).symm
          obtain rfl : v = 0 := by rw [hv]; rw [if_neg (fun h => HEq.out h.2)]
          have HA4 : Hid (∀ i, i < len → w4.cell? ⟨w.heap.size, i * 2, none⟩ = some (.int .i64 (H i)) ∧ w4.cell? ⟨w.heap.size, i * 2 + 1, none⟩ = some (.int .u64 (N i))) := hide (ents_later HE1.out (fun j => cell_below_alloc hb4 (by omega)))
          have HB4 : Hid (∀ i, i < len → w4.cell? ⟨w1.heap.size, i * 2, none⟩ = some (.int .i64 (H i)) ∧ w4.cell? ⟨w1.heap.size, i * 2 + 1, none⟩ = some (.int .u64 (N i))) := hide (ents_later HE2.out (fun j => cell_below_alloc hb4 (by omega)))
          have hb4w : Below w.heap.size w w4 := hb3.trans (((Below.refl _ _).alloc (by omega) _).trans (hb4.mono (by omega)))
          obtain ⟨r, hr⟩ : ∃ r, len - k = r := ⟨_, rfl⟩
          rw [hr] at hcs
          have hri : (len : Int) - (k : Int) = (r : Int) := by omega
          obtain rfl : sl = some ⟨w.heap.size, k * 2, none⟩ := hsl hlt
          have hr0 : (0 : Int) < (r : Int) := by omega
          have hr0n : 0 < r := by omega
          have hr0a : decide ((0 : Int) < (r : Int)) = true := by simpa using hr0n
          have hr0b : decide (0 < r) = true := by simpa using hr0n
          have HCut := hide (And.intro j1 j2)
          clear hr j1 j2 hv hsl hb4 hil hcp
          have hpn := neq_ptr
          have hpp : ∀ W, ∀ h n : Int, (binOp .neq 30 (.agg #[.int .i64 h, .int .u64 n]) (.agg #[.int .i64 h, .int .u64 n])).run Yba.prog W = .ok (.bool false) W := fun W h n => neq_entry h n W
          go_wp2
          go_quiet (fail)
          go_wp2
          go_loopw [91] (fun i wx => ∃ t nq : Nat, t ≤ len ∧ i = .int .i64 t ∧ wx = w4.drewN nq) (fun i _ => len - (intOf i).toNat)
          case atStart => exact ⟨0, _, Nat.zero_le _, rfl, rfl⟩
          case round =>
            obtain ⟨t, nq, htk, rfl, rfl⟩ := hrel
            by_cases hlt3 : t < len
            · have hti : (t : Int) < (len : Int) := by omega
              obtain ⟨ht, hht⟩ : ∃ x, H t = x := ⟨_, rfl⟩
              obtain ⟨a0, a1⟩ := HA4.out t hlt3
              obtain ⟨b0, b1⟩ := HB4.out t hlt3
              rw [hht] at a0 b0
              clear hht
              go_wp2
              go_quiet (fail)
              go_wp2
              go_roundw
              case rel => exact ⟨t + 1, _, by omega, by go_num, rfl⟩
              case measure => simp [intOf]; omega
            · go_wp2
              go_ret
              exact ⟨rfl, below_drewN hb4w nq⟩
    · have hkl : ¬ (k : Int) < (len : Int) := by omega
      go_wp2_with fail
      refine (seek_any w3.heap.size w.heap.size len H N q _ hlen (by omega) (by simp) (by go_simp) (by go_simp) (ents_alloc HE1.out (by omega)) HRi.out).mono ?_
      rintro e w4 ⟨v, i, sl, rfl, hil, j1, j2, hv, hcs, hsl, hb4⟩
      obtain rfl : k = i := (cut_unique hil hk j1 j2 HLO.out (fun h => by omega)).symm
      obtain rfl : v = 0 := by rw [hv]; rw [if_neg (fun h => by omega)]
      have HA4 : Hid (∀ i, i < len → w4.cell? ⟨w.heap.size, i * 2, none⟩ = some (.int .i64 (H i)) ∧ w4.cell? ⟨w.heap.size, i * 2 + 1, none⟩ = some (.int .u64 (N i))) := hide (ents_later HE1.out (fun j => cell_below_alloc hb4 (by omega)))
      have HB4 : Hid (∀ i, i < len → w4.cell? ⟨w1.heap.size, i * 2, none⟩ = some (.int .i64 (H i)) ∧ w4.cell? ⟨w1.heap.size, i * 2 + 1, none⟩ = some (.int .u64 (N i))) := hide (ents_later HE2.out (fun j => cell_below_alloc hb4 (by omega)))
      have hb4w : Below w.heap.size w w4 := hb3.trans (((Below.refl _ _).alloc (by omega) _).trans (hb4.mono (by omega)))
      obtain ⟨r, hr⟩ : ∃ r, len - k = r := ⟨_, rfl⟩
      rw [hr] at hcs
      have hri : (len : Int) - (k : Int) = (r : Int) := by omega
      have hr0a : decide ((0 : Int) < (r : Int)) = false := by simp; omega
      have hr0b : decide (0 < r) = false := by simp; omega
      have HCut := hide (And.intro j1 j2)
      clear hr j1 j2 hv hsl hb4 hil hcp
      have hpn := neq_ptr
      have hpp : ∀ W, ∀ h n : Int, (binOp .neq 30 (.agg #[.int .i64 h, .int .u64 n]) (.agg #[.int .i64 h, .int .u64 n])).run Yba.prog W = .ok (.bool false) W := fun W h n => neq_entry h n W
      go_wp2
      go_quiet (fail)
      go_wp2
      go_loopw [91] (fun i wx => ∃ t nq : Nat, t ≤ len ∧ i = .int .i64 t ∧ wx = w4.drewN nq) (fun i _ => len - (intOf i).toNat)
      case atStart => exact ⟨0, _, Nat.zero_le _, rfl, rfl⟩
      case round =>
        obtain ⟨t, nq, htk, rfl, rfl⟩ := hrel
        by_cases hlt3 : t < len
        · have hti : (t : Int) < (len : Int) := by omega
          obtain ⟨ht, hht⟩ : ∃ x, H t = x := ⟨_, rfl⟩
          obtain ⟨a0, a1⟩ := HA4.out t hlt3
          obtain ⟨b0, b1⟩ := HB4.out t hlt3
          rw [hht] at a0 b0
          clear hht
          go_wp2
          go_quiet (fail)
          go_wp2
          go_roundw
          case rel => exact ⟨t + 1, _, by omega, by go_num, rfl⟩
          case measure => simp [intOf]; omega
        · go_wp2
          go_ret
          exact ⟨rfl, below_drewN hb4w nq⟩

theorem walk_big (base q : Int) (v : Option Addr) (len cap : Nat) (v2 : Value) (w : World) (hm : len ≤ maxLen) (hlen : 1048576 < len) :
    Calls Yba.prog 5 #[.int .i16 base, .slice v len cap, v2, .int .i16 q] w fun e w' => e = .returned (.bool true) ∧ Below w.heap.size w w' := by
  unfold maxLen at hm
  go_enter Yba.func5, Yba.ntmps5
  go_wp2
  go_ret
  exact ⟨rfl, Below.refl _ _⟩

end Go.Proofs.Ybulkgdoo.lawS9010CWhole
