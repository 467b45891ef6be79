/-
  THE WALK of (*seeker).count (11).
-/
import Derived.Test.YbulkgdooClock
import Derived.Deep.RegionWith
import Derived.Deep.Cut
namespace Go.Proofs.Ybulkgdoo.lawS9010CWhole
open Go.RowKit Go.Proofs.Ybulkgdoo.search

theorem elem66 : Yba.prog.underlying 66 = some (.slice (Yba.prog.elem 66)) := by kernel_rfl
theorem size66 (W : World) : (sizeOf (Yba.prog.elem 66)).run Yba.prog W = .ok 2 W := by kernel_rfl
theorem slice66 (g n a m : Nat) (W : World) (h1 : a ≤ m) (h2 : m ≤ n) (h3 : a < n ∨ a = 0) :
    (Instr.slice 66 (.slice (some ⟨g, 0, none⟩) n n) (some (.int .i64 a)) (some (.int .i64 m)) none).run Yba.prog W = .ok (.slice (some ⟨g, a * 2, none⟩) (m - a) (n - a)) W := by
  have h := run_slice_lh (P := Yba.prog) W 66 (some ⟨g, 0, none⟩) n n elem66 .i64 .i64 (a : Int) (m : Int) (by omega) (by omega) (by omega)
  rw [h, size66]
  simp only [Result.andThen, sliced]
  have e1 : ((a : Int)).toNat = a := by omega
  have e2 : ((m : Int)).toNat = m := by omega
  rw [e1, e2]
  split
  · rename_i hna
    have ha : a = 0 := by omega
    subst ha
    simp
  · simp [add_head]
theorem slice66_from (g n a : Nat) (h1 : a ≤ n) :
    ∃ sl, (∀ W, (Instr.slice 66 (.slice (some ⟨g, 0, none⟩) n n) (some (.int .i64 a)) none none).run Yba.prog W = .ok (.slice sl (n - a) (n - a)) W) ∧ (a < n → sl = some ⟨g, a * 2, none⟩) := by
  refine ⟨if n = a then some ⟨g, 0, none⟩ else some ⟨g, a * 2, none⟩, fun W => ?_, fun h => by rw [if_neg (by omega)]⟩
  have h := run_slice_l (P := Yba.prog) W 66 (some ⟨g, 0, none⟩) n n elem66 .i64 (a : Int) (by omega) (by omega)
  rw [h, size66]
  simp only [Result.andThen, sliced]
  have e1 : ((a : Int)).toNat = a := by omega
  rw [e1]
  split
  · rfl
  · simp [add_head]
theorem ents_sub {w : World} {g n a m : Nat} {H N : Nat → Int} (h : Ents w g 0 n H N) (hm : m ≤ n) : Ents w g (a * 2) (m - a) (fun t => H (a + t)) (fun t => N (a + t)) := by
  intro i hi
  obtain ⟨h1, h2⟩ := h (a + i) (by omega)
  rw [Nat.zero_add, Nat.add_mul] at h1 h2
  exact ⟨h1, h2⟩
theorem rising_sub {H : Nat → Int} {n a m : Nat} (h : Rising H n) (hm : m ≤ n) : Rising (fun t => H (a + t)) (m - a) := fun i j hij hj => h (a + i) (a + j) (by omega) (by omega)
/-- What the search of the piece tells of the whole. -/
theorem whole_of {H : Nat → Int} {n a m i : Nat} {q : Int} (hr : Rising H n) (ham : a ≤ m) (hmn : m ≤ n) (hi : i ≤ m - a) (h0 : ∀ t, t < a → H t < q) (h1 : ∀ t, t < i → H (a + t) < q) (h2 : ∀ t, i ≤ t → t < m - a → q ≤ H (a + t))
    (h3 : m < n → ∃ t, a ≤ t ∧ t < m ∧ q ≤ H t) :
    (∀ t, t < a + i → H t < q) ∧ (∀ t, a + i ≤ t → t < n → q ≤ H t) ∧ (decide (i < m - a ∧ H (a + i) = q) = decide (a + i < n ∧ H (a + i) = q)) := by
  have A : ∀ t, t < a + i → H t < q := fun t ht => by
    rcases Nat.lt_or_ge t a with h | h
    · exact h0 t h
    · have := h1 (t - a) (by omega); rwa [show a + (t - a) = t by omega] at this
  have B : ∀ t, a + i ≤ t → t < n → q ≤ H t := fun t ht htn => by
    rcases Nat.lt_or_ge t m with h | h
    · have := h2 (t - a) (by omega) (by omega); rwa [show a + (t - a) = t by omega] at this
    · obtain ⟨s, hs1, hs2, hs3⟩ := h3 (by omega)
      have := hr s t (by omega) htn
      omega
  refine ⟨A, B, ?_⟩
  rw [decide_eq_decide]
  constructor
  · rintro ⟨h, e⟩; exact ⟨by omega, e⟩
  · rintro ⟨h, e⟩
    refine ⟨?_, e⟩
    rcases Nat.lt_or_ge i (m - a) with h' | h'
    · exact h'
    · exfalso
      obtain ⟨s, hs1, hs2, hs3⟩ := h3 (by omega)
      have := A s (by omega)
      omega

theorem cell_set {w : World} {a : Addr} {u v : Value} (h : w.cell? a = some u) : (w.setCell a v).cell? a = some v := World.cell?_setCell_same _ _ _ h

/-- The search, its answer under a name. -/
theorem search_f (g o n cap : Nat) (H N : Nat → Int) (q : Int) (w : World) (hn : n ≤ 1048576) (hg : g < w.heap.size) (he : Ents w g o n H N) (hr : Rising H n) :
    Calls Yba.prog 16 #[.slice (some ⟨g, o, none⟩) n cap, .int .i64 q, .func (.func 13) #[] #[]] w fun e w' =>
      ∃ (i : Nat) (f : Bool), i ≤ n ∧ e = .returned (.tuple #[.int .i64 i, .bool f]) ∧ Hid (f = decide (i < n ∧ H i = q)) ∧ Hid (∀ t, t < i → H t < q) ∧ Hid (∀ t, i ≤ t → t < n → q ≤ H t) ∧ Below w.heap.size w w' := by
  refine (search16 g o n cap H N q w hn hg he hr).mono ?_
  rintro e w' ⟨i, hi, rfl, h1, h2, hb⟩
  exact ⟨i, _, hi, rfl, hide rfl, hide h1, hide h2, hb⟩

theorem below_of_drew {p : Nat} {w w1 : World} {k : Nat} (h : Below (w.drewN k).heap.size (w.drewN k) w1) (hp : p ≤ w.heap.size) : Below p w w1 :=
  (below_drewN (Below.refl p w) k).trans (h.mono hp)

set_option maxHeartbeats 4000000 in
theorem seek_any (p g n : Nat) (H N : Nat → Int) (q : Int) (w : World) (hn : n ≤ 1048576) (hgp : g < p) (hp : p < w.heap.size) (hcp : w.cell? ⟨p, 0, none⟩ = some (.slice (some ⟨g, 0, none⟩) n n)) (hfp : w.frozen? ⟨p, 0, none⟩ = false)
    (he : Ents w g 0 n H N) (hr : Rising H n) :
    Calls Yba.prog 11 #[.pointer (some ⟨p, 0, none⟩), .int .i64 q] w fun e w' =>
      ∃ (v : Int) (i : Nat) (sl : Option Addr), e = .returned (.int .u64 v) ∧ i ≤ n ∧ (∀ t, t < i → H t < q) ∧ (∀ t, i ≤ t → t < n → q ≤ H t) ∧ v = (if i < n ∧ H i = q then N i else 0) ∧
        w'.cell? ⟨p, 0, none⟩ = some (.slice sl (n - i) (n - i)) ∧ (i < n → sl = some ⟨g, i * 2, none⟩) ∧ Below p w w' := by
  have HE := hide he
  have HRi := hide hr
  clear he hr
  go_enter Yba.func11, Yba.ntmps11
  go_wp2
  go_loop [5, 6] (fun lo hi => ∃ a b : Nat, lo = .int .i64 a ∧ hi = .int .i64 b ∧ a < b ∧ b ≤ 2 * a + 1 ∧ (a = 0 ∨ a < n) ∧ ∀ t, t < a → H t < q) (fun lo _ => n - (intOf lo).toNat)
  case atStart => exact ⟨0, 1, rfl, rfl, by omega, by omega, .inl rfl, by omega⟩
  case round =>
    obtain ⟨a, b, rfl, rfl, hab, hb2, han, hlo⟩ := hrel
    have HLO := hide hlo
    have HAN := hide han
    clear hlo han
    have ha1 : a ≤ 1048576 := by rcases HAN.out with h | h <;> omega
    by_cases hbn : b < n
    · obtain ⟨x, hx⟩ : ∃ x, b = x + 1 := ⟨b - 1, by omega⟩
      subst hx
      obtain ⟨c0, c1⟩ := HE.out x (by omega)
      rw [Nat.zero_add] at c0
      have hxi : (x : Int) < (n : Int) := by omega
      clear c1
      by_cases hq : H x < q
      · go_wp2
        go_round
        case rel => exact ⟨x + 1, 2 * (x + 1), by go_num, by go_num, by omega, by omega, .inr (by omega), below_all HRi.out hq (by omega)⟩
        case measure => simp [intOf]; omega
      · have hge : q ≤ H x := by omega
        clear hq
        have hna : ¬ n = a := by omega
        have hnx : ¬ (n : Int) < (x : Int) + 1 := by omega
        have HM3 : Hid (x + 1 < n → ∃ t, a ≤ t ∧ t < x + 1 ∧ q ≤ H t) := hide (fun _ => ⟨x, by omega, by omega, hge⟩)
        have HE2 : Hid (Ents w g (a * 2) ((x + 1) - a) (fun t => H (a + t)) (fun t => N (a + t))) := hide (ents_sub HE.out (by omega))
        have HR2 : Hid (Rising (fun t => H (a + t)) ((x + 1) - a)) := hide (rising_sub HRi.out (by omega))
        have hgw : g < w.heap.size := by omega
        go_wp2
        go_region_with (go_at_call 16; refine (search_f g (a * 2) ((x + 1) - a) (n - a) (fun t => H (a + t)) (fun t => N (a + t)) q _ (by omega) (by exact hgw) (by exact HE2.out) (by exact HR2.out)).mono ?_; rintro e w1 ⟨i, f, hi, rfl, HFD, h1, h2, hb1⟩)
        all_goals
          obtain ⟨A1, A2, A3⟩ := whole_of HRi.out (by omega) (by omega) hi HLO.out h1.out h2.out HM3.out
          have HA1 := hide A1
          have HA2 := hide A2
          have HFF : Hid (f = decide (a + i < n ∧ H (a + i) = q)) := hide (HFD.out.trans A3)
          clear A1 A2 A3 h1 h2 HFD
          have hain : a + i ≤ n := by omega
          have hcp1 : w1.cell? ⟨p, 0, none⟩ = some (.slice (some ⟨g, 0, none⟩) n n) := (hb1.cell (by exact hp)).trans hcp
          have hfp1 : w1.frozen? ⟨p, 0, none⟩ = false := (hb1.frozen (by exact hp)).trans hfp
          have hpw1 : p < w1.heap.size := Nat.lt_of_lt_of_le hp hb1.size
          have hbp : Below p w w1 := below_of_drew hb1 (by omega)
          have hgp' : ¬ g = p := by omega
          have hpg' : ¬ p = g := by omega
          cases f with
          | true =>
            have hf : a + i < n ∧ H (a + i) = q := of_decide_eq_true HFF.out.symm
            have HF := hide hf
            have hni : ¬ n = a + i := by omega
            have hlt0 : (0 : Int) < (n : Int) - ((a : Int) + (i : Int)) := by omega
            obtain ⟨c0, c1⟩ := HE.out (a + i) hf.1
            rw [Nat.zero_add] at c1
            have d1 : w1.cell? ⟨g, (a + i) * 2 + 1, none⟩ = some (.int .u64 (N (a + i))) := (hb1.cell (by exact hgw)).trans c1
            clear hf c0 c1
            go_wp2
            go_ret
            exact ⟨N (a + i), a + i, some ⟨g, (a + i) * 2, none⟩, rfl, hain, HA1.out, HA2.out, by rw [if_pos HF.out], cell_set hcp1, fun _ => rfl, hbp.setCell (Nat.le_refl _) _⟩
          | false =>
            have hf : ¬ (a + i < n ∧ H (a + i) = q) := of_decide_eq_false HFF.out.symm
            have HF := hide hf
            clear hf
            by_cases hni : n = a + i
            · omega
            · go_wp2
              go_ret
              exact ⟨0, a + i, some ⟨g, (a + i) * 2, none⟩, rfl, hain, HA1.out, HA2.out, by rw [if_neg HF.out], cell_set hcp1, fun _ => rfl, hbp.setCell (Nat.le_refl _) _⟩
    · by_cases hn0 : n = 0
      · subst hn0
        obtain rfl : a = 0 := by have := HAN.out; omega
        obtain rfl : b = 1 := by omega
        have hgw : g < w.heap.size := by omega
        go_wp2
        go_region_with (go_at_call 16; refine (search_f g 0 0 0 H N q _ (by omega) (by exact hgw) (by exact HE.out) (by exact HRi.out)).mono ?_; rintro e w1 ⟨i, f, hi, rfl, HFD, h1, h2, hb1⟩)
        all_goals
          obtain rfl : i = 0 := by omega
          obtain rfl : f = false := by rw [HFD.out]; simp
          have hcp1 : w1.cell? ⟨p, 0, none⟩ = some (.slice (some ⟨g, 0, none⟩) 0 0) := (hb1.cell (by exact hp)).trans hcp
          have hfp1 : w1.frozen? ⟨p, 0, none⟩ = false := (hb1.frozen (by exact hp)).trans hfp
          have hpw1 : p < w1.heap.size := Nat.lt_of_lt_of_le hp hb1.size
          have hbp : Below p w w1 := below_of_drew hb1 (by omega)
          clear h1 h2 HFD
          go_wp2
          go_ret
          exact ⟨0, 0, _, rfl, Nat.le_refl _, fun t ht => by omega, fun t _ ht => by omega, by simp, cell_set hcp1, fun h => by omega, hbp.setCell (Nat.le_refl _) _⟩
      · have hna : ¬ n = a := by have := HAN.out; omega
        have ham : a < n := by have := HAN.out; omega
        by_cases hnb : n < b
        · have hnbi : (n : Int) < (b : Int) := by omega
          have HM3 : Hid (n < n → ∃ t, a ≤ t ∧ t < n ∧ q ≤ H t) := hide (fun h => by omega)
          have HE2 : Hid (Ents w g (a * 2) (n - a) (fun t => H (a + t)) (fun t => N (a + t))) := hide (ents_sub HE.out (by omega))
          have HR2 : Hid (Rising (fun t => H (a + t)) (n - a)) := hide (rising_sub HRi.out (by omega))
          have hgw : g < w.heap.size := by omega
          go_wp2
          go_region_with (go_at_call 16; refine (search_f g (a * 2) (n - a) (n - a) (fun t => H (a + t)) (fun t => N (a + t)) q _ (by omega) (by exact hgw) (by exact HE2.out) (by exact HR2.out)).mono ?_; rintro e w1 ⟨i, f, hi, rfl, HFD, h1, h2, hb1⟩)
          all_goals
            obtain ⟨A1, A2, A3⟩ := whole_of HRi.out (by omega) (by omega) hi HLO.out h1.out h2.out HM3.out
            have HA1 := hide A1
            have HA2 := hide A2
            have HFF : Hid (f = decide (a + i < n ∧ H (a + i) = q)) := hide (HFD.out.trans A3)
            clear A1 A2 A3 h1 h2 HFD
            have hain : a + i ≤ n := by omega
            have hcp1 : w1.cell? ⟨p, 0, none⟩ = some (.slice (some ⟨g, 0, none⟩) n n) := (hb1.cell (by exact hp)).trans hcp
            have hfp1 : w1.frozen? ⟨p, 0, none⟩ = false := (hb1.frozen (by exact hp)).trans hfp
            have hpw1 : p < w1.heap.size := Nat.lt_of_lt_of_le hp hb1.size
            have hbp : Below p w w1 := below_of_drew hb1 (by omega)
            have hgp' : ¬ g = p := by omega
            have hpg' : ¬ p = g := by omega
            cases f with
            | true =>
              have hf : a + i < n ∧ H (a + i) = q := of_decide_eq_true HFF.out.symm
              have HF := hide hf
              have hni : ¬ n = a + i := by omega
              have hlt0 : (0 : Int) < (n : Int) - ((a : Int) + (i : Int)) := by omega
              obtain ⟨c0, c1⟩ := HE.out (a + i) hf.1
              rw [Nat.zero_add] at c1
              have d1 : w1.cell? ⟨g, (a + i) * 2 + 1, none⟩ = some (.int .u64 (N (a + i))) := (hb1.cell (by exact hgw)).trans c1
              clear hf c0 c1
              go_wp2
              go_ret
              exact ⟨N (a + i), a + i, some ⟨g, (a + i) * 2, none⟩, rfl, hain, HA1.out, HA2.out, by rw [if_pos HF.out], cell_set hcp1, fun _ => rfl, hbp.setCell (Nat.le_refl _) _⟩
            | false =>
              have hf : ¬ (a + i < n ∧ H (a + i) = q) := of_decide_eq_false HFF.out.symm
              have HF := hide hf
              clear hf
              by_cases hni : n = a + i
              · subst hni
                go_wp2
                go_ret
                exact ⟨0, a + i, _, rfl, Nat.le_refl _, HA1.out, HA2.out, by rw [if_neg HF.out], by rw [Nat.sub_self]; exact cell_set hcp1, fun h => by omega, hbp.setCell (Nat.le_refl _) _⟩
              · go_wp2
                go_ret
                exact ⟨0, a + i, some ⟨g, (a + i) * 2, none⟩, rfl, hain, HA1.out, HA2.out, by rw [if_neg HF.out], cell_set hcp1, fun _ => rfl, hbp.setCell (Nat.le_refl _) _⟩
        · obtain rfl : n = b := by omega
          have HM3 : Hid (n < n → ∃ t, a ≤ t ∧ t < n ∧ q ≤ H t) := hide (fun h => by omega)
          have HE2 : Hid (Ents w g (a * 2) (n - a) (fun t => H (a + t)) (fun t => N (a + t))) := hide (ents_sub HE.out (by omega))
          have HR2 : Hid (Rising (fun t => H (a + t)) (n - a)) := hide (rising_sub HRi.out (by omega))
          have hgw : g < w.heap.size := by omega
          go_wp2
          go_region_with (go_at_call 16; refine (search_f g (a * 2) (n - a) (n - a) (fun t => H (a + t)) (fun t => N (a + t)) q _ (by omega) (by exact hgw) (by exact HE2.out) (by exact HR2.out)).mono ?_; rintro e w1 ⟨i, f, hi, rfl, HFD, h1, h2, hb1⟩)
          all_goals
            obtain ⟨A1, A2, A3⟩ := whole_of HRi.out (by omega) (by omega) hi HLO.out h1.out h2.out HM3.out
            have HA1 := hide A1
            have HA2 := hide A2
            have HFF : Hid (f = decide (a + i < n ∧ H (a + i) = q)) := hide (HFD.out.trans A3)
            clear A1 A2 A3 h1 h2 HFD
            have hain : a + i ≤ n := by omega
            have hcp1 : w1.cell? ⟨p, 0, none⟩ = some (.slice (some ⟨g, 0, none⟩) n n) := (hb1.cell (by exact hp)).trans hcp
            have hfp1 : w1.frozen? ⟨p, 0, none⟩ = false := (hb1.frozen (by exact hp)).trans hfp
            have hpw1 : p < w1.heap.size := Nat.lt_of_lt_of_le hp hb1.size
            have hbp : Below p w w1 := below_of_drew hb1 (by omega)
            have hgp' : ¬ g = p := by omega
            have hpg' : ¬ p = g := by omega
            cases f with
            | true =>
              have hf : a + i < n ∧ H (a + i) = q := of_decide_eq_true HFF.out.symm
              have HF := hide hf
              have hni : ¬ n = a + i := by omega
              have hlt0 : (0 : Int) < (n : Int) - ((a : Int) + (i : Int)) := by omega
              obtain ⟨c0, c1⟩ := HE.out (a + i) hf.1
              rw [Nat.zero_add] at c1
              have d1 : w1.cell? ⟨g, (a + i) * 2 + 1, none⟩ = some (.int .u64 (N (a + i))) := (hb1.cell (by exact hgw)).trans c1
              clear hf c0 c1
              go_wp2
              go_ret
              exact ⟨N (a + i), a + i, some ⟨g, (a + i) * 2, none⟩, rfl, hain, HA1.out, HA2.out, by rw [if_pos HF.out], cell_set hcp1, fun _ => rfl, hbp.setCell (Nat.le_refl _) _⟩
            | false =>
              have hf : ¬ (a + i < n ∧ H (a + i) = q) := of_decide_eq_false HFF.out.symm
              have HF := hide hf
              clear hf
              by_cases hni : n = a + i
              · subst hni
                go_wp2
                go_ret
                exact ⟨0, a + i, _, rfl, Nat.le_refl _, HA1.out, HA2.out, by rw [if_neg HF.out], by rw [Nat.sub_self]; exact cell_set hcp1, fun h => by omega, hbp.setCell (Nat.le_refl _) _⟩
              · go_wp2
                go_ret
                exact ⟨0, a + i, some ⟨g, (a + i) * 2, none⟩, rfl, hain, HA1.out, HA2.out, by rw [if_neg HF.out], cell_set hcp1, fun _ => rfl, hbp.setCell (Nat.le_refl _) _⟩

end Go.Proofs.Ybulkgdoo.lawS9010CWhole
