/-
  THE WALK of zzs8969bmodel (function 5).
-/
import Derived.Test.YbulkgcsmDoorProg
import Derived.Test.YbulkgcsmDoorPlain
import Derived.WalkKit
import Derived.WalkSpells
import Derived.WalkSmall
import Derived.Laws.BitsAllLaws
namespace Go.Proofs.YbulkgcsmDoor.lawS8969BWhole
open Go.RowKit Go.Lib

theorem hide {p : Prop} (h : p) : Hid p := h
theorem info5 : (Ybad.prog.info? 5).map (fun i => (i.zero, i.size, i.bytes)) = some (some (.int .u8 0), 1, 1) := by kernel_rfl

def quo (m k : Nat) : Nat := m / 10 ^ k
theorem quo_succ (m k : Nat) : quo m (k + 1) = quo m k / 10 := by
  unfold quo
  rw [Nat.pow_succ, Nat.div_div_eq_div_mul]
theorem quo_zero (m : Nat) : quo m 0 = m := by simp [quo]
theorem quo_le (m k : Nat) : quo m k ≤ m := Nat.div_le_self _ _

def cellOf (b : UInt8) : Value := .int .u8 (b.toNat : Int)
/-- The digits, least significant first, as cells. -/
def revs (m k : Nat) : List Value := (List.range k).map fun i => cellOf (dg m i)
theorem revs_succ (m k : Nat) : revs m (k + 1) = revs m k ++ [cellOf (dg m k)] := by
  simp [revs, List.range_succ]
theorem revs_length (m k : Nat) : (revs m k).length = k := by simp [revs]
theorem cell_dg (m k : Nat) : cellOf (dg m k) = .int .u8 (48 + (quo m k : Int) % 10) := by
  unfold cellOf dg quo
  congr 1
  have : m / 10 ^ k % 10 < 10 := Nat.mod_lt _ (by omega)
  rw [UInt8.toNat_ofNat']
  omega

/-- The bytes of the text so far, as cells. -/
def outc (neg : Bool) (m sc t : Nat) : List Value := (sign neg ++ upto m sc t).map cellOf
theorem outc_length (neg : Bool) (m sc t : Nat) : (outc neg m sc t).length ≤ len m sc + 2 := by
  have h1 : (sign neg).length ≤ 1 := by cases neg <;> simp [sign]
  have h2 : (upto m sc t).length ≤ len m sc + 1 := by
    have hp := padded_length m sc
    have := len_pos m sc
    unfold upto
    split
    · rw [List.length_take]; omega
    · rw [List.length_append, List.length_cons, List.length_drop, List.length_take, List.length_take]; omega
  simp only [outc, List.length_map, List.length_append]
  omega
theorem outc_step (neg : Bool) (m sc i : Nat) (h : i < len m sc) (hk : ¬ (0 < sc ∧ i = sc - 1)) : outc neg m sc i = outc neg m sc (i + 1) ++ [cellOf (dg m i)] := by
  unfold outc
  rw [upto_step m sc i h hk]
  simp
theorem outc_point (neg : Bool) (m sc i : Nat) (h : 0 < sc ∧ i = sc - 1) : outc neg m sc i = outc neg m sc (i + 1) ++ [.int .u8 46, cellOf (dg m i)] := by
  obtain ⟨h1, rfl⟩ := h
  unfold outc
  rw [upto_point m sc h1, show sc - 1 + 1 = sc by omega]
  simp only [List.map_append, List.map_cons, List.map_nil, List.append_assoc]
  rfl
theorem outc_top (neg : Bool) (m sc : Nat) : outc neg m sc (len m sc) = (sign neg).map cellOf := by
  unfold outc
  rw [upto_top, List.append_nil]
theorem add_head (b j : Nat) : Addr.add ⟨b, 0, none⟩ j = ⟨b, j, none⟩ := by
  unfold Addr.add
  split <;> simp_all
theorem outc_pos (neg : Bool) (m sc : Nat) : 0 < (outc neg m sc 0).length := by
  have hp := padded_length m sc
  have hs := len_pos m sc
  have h2 : 0 < (upto m sc 0).length := by
    unfold upto
    split
    · rw [List.length_take]; omega
    · rw [List.length_append, List.length_cons]; omega
  simp only [outc, List.length_map, List.length_append]
  omega
theorem ret_str {a b : ByteArray} (h : a = b) : Ending.returned (.string a) = .returned (.string b) := by rw [h]
/-- 'string(out)'. -/
theorem conv_out (neg : Bool) (m sc : Nat) (w : World) (base g cap : Nat) (ho : w.ownsRow base 5 1 (.slice (some ⟨g, 0, none⟩) (outc neg m sc 0).length cap) (outc neg m sc 0).length (outc neg m sc 0)) :
    (convert 32 9 (.slice (some ⟨g, 0, none⟩) (outc neg m sc 0).length cap)).run Ybad.prog w = .ok (.string ⟨(text neg m sc).toArray⟩) w := by
  have hl : (outc neg m sc 0).length = (text neg m sc).length := by simp [outc, text]
  have h := run_convert_bytes_back (P := Ybad.prog) w 32 9 5 ⟨g, 0, none⟩ cap (text neg m sc) Ybad.underlying32 Ybad.underlying5 Ybad.underlying9 (fun j hj => by
    rw [add_head, ho.cellAt j (by omega)]
    simp only [outc]
    rw [List.getElem?_map]
    show Option.map cellOf (text neg m sc)[j]? = _
    rw [List.getElem?_eq_getElem hj]
    rfl)
  rw [hl]
  exact h

/-- What one append of one byte leaves. -/
theorem below_append {B : Nat} {w wr w' : World} {o : Obj} {r : Value} {k : Nat} {xs : List Value} (ho : wr.ownsRow B 5 1 r k xs) (hb : Below B w wr) (hB : B ≤ wr.heap.size)
    (hg : (wr.alloc o).grownBy w' r.ownBlock) : Below B w w' :=
  (hb.alloc hB o).grown hg (by simp; omega) (fun g hg' => (ho.lt g hg').1)

set_option maxHeartbeats 4000000 in
theorem model_pos (coef : Int) (m sc : Nat) (w : World) (hc : coef = (m : Int)) (hm : m ≤ 9223372036854775808) (hm2 : m < 9223372036854775808) (hsc : sc ≤ 65536) :
    Calls Ybad.prog 5 #[.int .i64 coef, .int .i64 sc] w fun e w' => e = .returned (.string ⟨(text false m sc).toArray⟩) ∧ Below w.heap.size w w' := by
  obtain ⟨i0, hi, hz0, hz1, hz2⟩ := info_parts info5
  have hlen := len_le m sc (by omega) hsc
  have hscl := len_pos m sc
  have HG : Hid (∀ i, (0 < quo m i ∨ i ≤ sc) ↔ i < len m sc) := goes_on m sc
  subst hc
  go_enter Ybad.func5, Ybad.ntmps5
  go_wp2
  go_loopw [5, 6, 7] (fun q r i wr => ∃ k : Nat, k ≤ len m sc ∧ q = .int .u64 (quo m k) ∧ i = .int .i64 k ∧ wr.ownsRow w.heap.size 5 1 r k (revs m k) ∧ Below w.heap.size w wr)
    (fun _ _ i _ => len m sc - (intOf i).toNat)
  case atStart => exact ⟨0, Nat.zero_le _, by rw [quo_zero], rfl, World.ownsRow_nil _ _ _ _, Below.refl _ _⟩
  case round =>
    obtain ⟨k, hk, rfl, rfl, ho, hb⟩ := hrel
    have hq := quo_le m k
    have HQ := hide (quo_succ m k)
    have hgo := HG.out k
    have hB : w.heap.size ≤ wr.heap.size := hb.size
    have HO := hide ho
    clear ho
    by_cases hlt : k < len m sc
    · have hor : 0 < quo m k ∨ (¬ 0 < quo m k ∧ k ≤ sc) := by have := hgo.2 hlt; omega
      clear hgo
      rcases hor with hp | ⟨hp, hk2⟩
      all_goals
        go_wp2_with (at_builtin; refine wpList_append_own _ rfl _ _ 32 rfl w.heap.size 5 i0 (.int .u8 0) 1 1 Ybad.underlying32 hi hz0 hz1 hz2 rfl (by decide) _ _ _ rfl (HO.out.alloc _) ⟨wr.heap.size, 0, none⟩ 1 1 [.int .u8 (48 + (quo m k : Int) % 10)] rfl rfl ?c1 ?c2 ?c3 ?c4 ?c5 ?_)
        case c1 => exact cell_one_new _ _ _
        case c2 => intro u hu; simp at hu; subst hu; rfl
        case c3 => unfold maxLen; omega
        case c4 => omega
        case c5 => simp; omega
        intro v' w1 ho1 hg1 _
        have hb1 := below_append HO.out hb hB hg1
        rw [← cell_dg, ← revs_succ] at ho1
        clear hg1 HO hb
        have HO1 := hide ho1
        clear ho1
        go_wp2
        go_roundw
        case rel => exact ⟨k + 1, by omega, by rw [HQ.out]; go_num, by go_num, HO1.out, hb1⟩
        case measure => simp [intOf]; omega
    · have hno : ¬ 0 < quo m k ∧ ¬ k ≤ sc := by have := mt hgo.1 hlt; omega
      obtain ⟨hp, hk2⟩ := hno
      have HKL : Hid (k = len m sc) := by exact (by omega : k = len m sc)
      clear hgo HQ
      obtain ⟨g, cap, hv⟩ : ∃ g cap, u6 = .slice (some ⟨g, 0, none⟩) k cap := by
        rcases HO.out.2 with ⟨_, h0⟩ | ⟨g, cap, _, h1, _⟩
        · omega
        · exact ⟨g, cap, h1⟩
      subst hv
      have hgs := HO.out.lt g rfl
      have hrc : ∀ i, i < k → wr.cell? ⟨g, i, none⟩ = some (cellOf (dg m i)) := fun i hi => by
        rw [HO.out.cellAt i (by omega)]
        simp [revs, hi]
      clear HO
      have HR := hide hrc
      clear hrc
      go_wp2
      go_loopw [8, 9] (fun o j wx => ∃ t : Nat, t ≤ k ∧ j = .int .i64 ((t : Int) - 1) ∧ wx.ownsRow wr.heap.size 5 1 o (outc false m sc t).length (outc false m sc t) ∧ Below wr.heap.size wr wx)
        (fun _ j _ => (intOf j + 1).toNat)
      case atStart => exact ⟨k, Nat.le_refl _, rfl, by rw [HKL.out, outc_top]; exact World.ownsRow_nil _ _ _ _, Below.refl _ _⟩
      case round =>
        obtain ⟨t, ht, rfl, ho, hb2⟩ := hrel
        rename World => wx
        have hB2 := hb2.size
        have hol := outc_length false m sc t
        have HO := hide ho
        clear ho
        by_cases htp : 0 < t
        · obtain ⟨i, rfl⟩ : ∃ i, t = i + 1 := ⟨t - 1, by omega⟩
          have hil : i < len m sc := by have := HKL.out; omega
          obtain ⟨d, hd⟩ : ∃ d, cellOf (dg m i) = .int .u8 d := ⟨_, rfl⟩
          have HD := hide hd
          have hcx : wx.cell? ⟨g, i, none⟩ = some (.int .u8 d) := by rw [hb2.cell (by exact hgs.2), HR.out i (by omega), hd]
          clear hd
          by_cases hpt : 0 < sc ∧ i = sc - 1
          · have HS := hide (outc_point false m sc i hpt)
            have hs0 : (0 : Int) < (sc : Int) := by omega
            have heq : ((i : Int) == (sc : Int) - 1) = true := by simp; omega
            clear hpt
            go_wp2_with (at_builtin; refine wpList_append_own _ rfl _ _ 32 rfl wr.heap.size 5 i0 (.int .u8 0) 1 1 Ybad.underlying32 hi hz0 hz1 hz2 rfl (by decide) _ _ _ rfl (HO.out.alloc _) ⟨wx.heap.size, 0, none⟩ 1 1 [.int .u8 46] rfl rfl ?c1 ?c2 ?c3 ?c4 ?c5 ?_)
            case c1 => exact cell_one_new _ _ _
            case c2 => intro u hu; simp at hu; subst hu; rfl
            case c3 => unfold maxLen; omega
            case c4 => omega
            case c5 => simp; omega
            intro v1 w1 ho1 hg1 _
            have hb1 := below_append HO.out hb2 hB2 hg1
            have hcx1 : w1.cell? ⟨g, i, none⟩ = some (.int .u8 d) := by rw [hb1.cell (by exact hgs.2), HR.out i (by omega), HD.out]
            have hB3 := hb1.size
            clear hg1 HO hb2 hcx
            have HO := hide ho1
            clear ho1
            go_wp2_with (at_builtin; refine wpList_append_own _ rfl _ _ 32 rfl wr.heap.size 5 i0 (.int .u8 0) 1 1 Ybad.underlying32 hi hz0 hz1 hz2 rfl (by decide) _ _ _ rfl (HO.out.alloc _) ⟨w1.heap.size, 0, none⟩ 1 1 [.int .u8 d] rfl rfl ?c1 ?c2 ?c3 ?c4 ?c5 ?_)
            case c1 => exact cell_one_new _ _ _
            case c2 => intro u hu; simp at hu; subst hu; rfl
            case c3 => unfold maxLen; omega
            case c4 => omega
            case c5 => simp; omega
            intro v2 w2 ho2 hg2 _
            have hb3 := below_append HO.out hb1 hB3 hg2
            rw [← HD.out, ← HS.out] at ho2
            have HN : Hid ((outc false m sc (i + 1)).length + 1 + 1 = (outc false m sc i).length) := by rw [Hid, HS.out]; simp
            clear hg2 HO hb1 hcx1
            have HO1 := hide ho2
            clear ho2
            go_wp2
            go_roundw
            case rel => exact ⟨i, by omega, by go_num, by have h := HO1.out; rw [HN.out] at h; exact h, hb3⟩
            case measure => simp [intOf]
          · have HS := hide (outc_step false m sc i hil hpt)
            by_cases hs0 : (0 : Int) < (sc : Int)
            · have heq : ((i : Int) == (sc : Int) - 1) = false := by simp; omega
              clear hpt
              go_wp2_with (at_builtin; refine wpList_append_own _ rfl _ _ 32 rfl wr.heap.size 5 i0 (.int .u8 0) 1 1 Ybad.underlying32 hi hz0 hz1 hz2 rfl (by decide) _ _ _ rfl (HO.out.alloc _) ⟨wx.heap.size, 0, none⟩ 1 1 [.int .u8 d] rfl rfl ?c1 ?c2 ?c3 ?c4 ?c5 ?_)
              case c1 => exact cell_one_new _ _ _
              case c2 => intro u hu; simp at hu; subst hu; rfl
              case c3 => unfold maxLen; omega
              case c4 => omega
              case c5 => simp; omega
              intro v' w1 ho1 hg1 _
              have hb1 := below_append HO.out hb2 hB2 hg1
              rw [← HD.out, ← HS.out] at ho1
              have HN : Hid ((outc false m sc (i + 1)).length + 1 = (outc false m sc i).length) := by rw [Hid, HS.out]; simp
              clear hg1 HO hb2 hcx
              have HO1 := hide ho1
              clear ho1
              go_wp2
              go_roundw
              case rel => exact ⟨i, by omega, by go_num, by have h := HO1.out; rw [HN.out] at h; exact h, hb1⟩
              case measure => simp [intOf]
            · obtain rfl : sc = 0 := by omega
              clear hpt hs0
              go_wp2_with (at_builtin; refine wpList_append_own _ rfl _ _ 32 rfl wr.heap.size 5 i0 (.int .u8 0) 1 1 Ybad.underlying32 hi hz0 hz1 hz2 rfl (by decide) _ _ _ rfl (HO.out.alloc _) ⟨wx.heap.size, 0, none⟩ 1 1 [.int .u8 d] rfl rfl ?c1 ?c2 ?c3 ?c4 ?c5 ?_)
              case c1 => exact cell_one_new _ _ _
              case c2 => intro u hu; simp at hu; subst hu; rfl
              case c3 => unfold maxLen; omega
              case c4 => omega
              case c5 => simp; omega
              intro v' w1 ho1 hg1 _
              have hb1 := below_append HO.out hb2 hB2 hg1
              rw [← HD.out, ← HS.out] at ho1
              have HN : Hid ((outc false m 0 (i + 1)).length + 1 = (outc false m 0 i).length) := by rw [Hid, HS.out]; simp
              clear hg1 HO hb2 hcx
              have HO1 := hide ho1
              clear ho1
              go_wp2
              go_roundw
              case rel =>
                repeat apply Exists.intro
                exact ⟨⟨i, by omega, by go_num, by have h := HO1.out; rw [HN.out] at h; exact h, hb1⟩, rfl⟩
              case measure => simp [intOf]
        · obtain rfl : t = 0 := by omega
          obtain ⟨g2, cap2, hv2⟩ : ∃ g2 cap2, u8 = .slice (some ⟨g2, 0, none⟩) (outc false m sc 0).length cap2 := by
            rcases HO.out.2 with ⟨_, h0⟩ | ⟨g2, cap2, _, h1, _⟩
            · have := outc_pos false m sc; omega
            · exact ⟨g2, cap2, h1⟩
          subst hv2
          have hcv := conv_out false m sc _ _ _ _ HO.out
          go_wp2
          go_ret
          exact ⟨rfl, hb.trans (hb2.mono hB)⟩


theorem u64_not (u : Nat) (hu : u < 18446744073709551616) : bits .xor .u64 IntKind.u64.max (u : Int) = 18446744073709551615 - (u : Int) := by
  show IntKind.u64.wrap ((BitVec.ofInt 64 IntKind.u64.max ^^^ BitVec.ofInt 64 (u : Int)).toNat : Int) = _
  have h1 : BitVec.ofInt 64 IntKind.u64.max = BitVec.allOnes 64 := by decide
  rw [h1, BitVec.allOnes_xor, BitVec.toNat_not, ofInt_u64 u (by omega), IntKind.wrap_u64]
  omega
theorem neg_facts (coef : Int) (m : Nat) (hc : coef = -(m : Int)) (h1 : 1 ≤ m) (h2 : m ≤ 9223372036854775808) :
    ∃ U X : Int, (∀ W, (convert 2 28 (.int .i64 coef)).run Ybad.prog W = .ok (.int .u64 U) W) ∧ bits .xor .u64 IntKind.u64.max U = X ∧ IntKind.u64.wrap (X + 1) = (m : Int) := by
  subst hc
  refine ⟨((18446744073709551616 - m : Nat) : Int), (m : Int) - 1, fun W => ?_, ?_, ?_⟩
  · have e : IntKind.u64.wrap (-(m : Int)) = ((18446744073709551616 - m : Nat) : Int) := by rw [IntKind.wrap_u64]; omega
    rw [← e]
    go_simp
  · rw [u64_not _ (by omega)]
    omega
  · rw [IntKind.wrap_u64]
    omega

set_option maxHeartbeats 4000000 in
theorem model_neg (coef : Int) (m sc : Nat) (w : World) (hc : coef = -(m : Int)) (hm : m ≤ 9223372036854775808) (hm2 : 1 ≤ m) (hsc : sc ≤ 65536) :
    Calls Ybad.prog 5 #[.int .i64 coef, .int .i64 sc] w fun e w' => e = .returned (.string ⟨(text true m sc).toArray⟩) ∧ Below w.heap.size w w' := by
  obtain ⟨i0, hi, hz0, hz1, hz2⟩ := info_parts info5
  have hlen := len_le m sc (by omega) hsc
  have hscl := len_pos m sc
  have HG : Hid (∀ i, (0 < quo m i ∨ i ≤ sc) ↔ i < len m sc) := goes_on m sc
  obtain ⟨U, X, hcv1, hxo, hwr⟩ := neg_facts coef m hc hm2 hm
  have hneg : coef < 0 := by omega
  clear hc
  go_enter Ybad.func5, Ybad.ntmps5
  go_wp2
  go_loopw [5, 6, 7] (fun q r i wr => ∃ k : Nat, k ≤ len m sc ∧ q = .int .u64 (quo m k) ∧ i = .int .i64 k ∧ wr.ownsRow w.heap.size 5 1 r k (revs m k) ∧ Below w.heap.size w wr)
    (fun _ _ i _ => len m sc - (intOf i).toNat)
  case atStart => exact ⟨0, Nat.zero_le _, by rw [quo_zero], rfl, World.ownsRow_nil _ _ _ _, Below.refl _ _⟩
  case round =>
    obtain ⟨k, hk, rfl, rfl, ho, hb⟩ := hrel
    have hq := quo_le m k
    have HQ := hide (quo_succ m k)
    have hgo := HG.out k
    have hB : w.heap.size ≤ wr.heap.size := hb.size
    have HO := hide ho
    clear ho
    by_cases hlt : k < len m sc
    · have hor : 0 < quo m k ∨ (¬ 0 < quo m k ∧ k ≤ sc) := by have := hgo.2 hlt; omega
      clear hgo
      rcases hor with hp | ⟨hp, hk2⟩
      all_goals
        go_wp2_with (at_builtin; refine wpList_append_own _ rfl _ _ 32 rfl w.heap.size 5 i0 (.int .u8 0) 1 1 Ybad.underlying32 hi hz0 hz1 hz2 rfl (by decide) _ _ _ rfl (HO.out.alloc _) ⟨wr.heap.size, 0, none⟩ 1 1 [.int .u8 (48 + (quo m k : Int) % 10)] rfl rfl ?c1 ?c2 ?c3 ?c4 ?c5 ?_)
        case c1 => exact cell_one_new _ _ _
        case c2 => intro u hu; simp at hu; subst hu; rfl
        case c3 => unfold maxLen; omega
        case c4 => omega
        case c5 => simp; omega
        intro v' w1 ho1 hg1 _
        have hb1 := below_append HO.out hb hB hg1
        rw [← cell_dg, ← revs_succ] at ho1
        clear hg1 HO hb
        have HO1 := hide ho1
        clear ho1
        go_wp2
        go_roundw
        case rel => exact ⟨k + 1, by omega, by rw [HQ.out]; go_num, by go_num, HO1.out, hb1⟩
        case measure => simp [intOf]; omega
    · have hno : ¬ 0 < quo m k ∧ ¬ k ≤ sc := by have := mt hgo.1 hlt; omega
      obtain ⟨hp, hk2⟩ := hno
      have HKL : Hid (k = len m sc) := by exact (by omega : k = len m sc)
      clear hgo HQ
      obtain ⟨g, cap, hv⟩ : ∃ g cap, u6 = .slice (some ⟨g, 0, none⟩) k cap := by
        rcases HO.out.2 with ⟨_, h0⟩ | ⟨g, cap, _, h1, _⟩
        · omega
        · exact ⟨g, cap, h1⟩
      subst hv
      have hgs := HO.out.lt g rfl
      have hrc : ∀ i, i < k → wr.cell? ⟨g, i, none⟩ = some (cellOf (dg m i)) := fun i hi => by
        rw [HO.out.cellAt i (by omega)]
        simp [revs, hi]
      clear HO
      have HR := hide hrc
      clear hrc
      have hB0 : wr.heap.size ≤ wr.heap.size := Nat.le_refl _
      have HO := hide (World.ownsRow_nil wr wr.heap.size 5 1)
      go_wp2_with (at_builtin; refine wpList_append_own _ rfl _ _ 32 rfl wr.heap.size 5 i0 (.int .u8 0) 1 1 Ybad.underlying32 hi hz0 hz1 hz2 rfl (by decide) _ _ _ rfl (HO.out.alloc _) ⟨wr.heap.size, 0, none⟩ 1 1 [.int .u8 45] rfl rfl ?c1 ?c2 ?c3 ?c4 ?c5 ?_)
      case c1 => exact cell_one_new _ _ _
      case c2 => intro u hu; simp at hu; subst hu; rfl
      case c3 => unfold maxLen; omega
      case c4 => omega
      case c5 => simp
      intro v1 w1 ho1 hg1 _
      have hbm := below_append HO.out (Below.refl _ _) hB0 hg1
      have HOM : Hid (w1.ownsRow wr.heap.size 5 1 v1 (outc true m sc k).length (outc true m sc k)) := by rw [Hid, HKL.out, outc_top]; exact ho1
      clear HO ho1 hg1 hB0
      go_wp2
      go_loopw [8, 9] (fun o j wx => ∃ t : Nat, t ≤ k ∧ j = .int .i64 ((t : Int) - 1) ∧ wx.ownsRow wr.heap.size 5 1 o (outc true m sc t).length (outc true m sc t) ∧ Below wr.heap.size wr wx)
        (fun _ j _ => (intOf j + 1).toNat)
      case atStart => exact ⟨k, Nat.le_refl _, rfl, HOM.out, hbm⟩
      case round =>
        obtain ⟨t, ht, rfl, ho, hb2⟩ := hrel
        rename World => wx
        have hB2 := hb2.size
        have hol := outc_length true m sc t
        have HO := hide ho
        clear ho
        by_cases htp : 0 < t
        · obtain ⟨i, rfl⟩ : ∃ i, t = i + 1 := ⟨t - 1, by omega⟩
          have hil : i < len m sc := by have := HKL.out; omega
          obtain ⟨d, hd⟩ : ∃ d, cellOf (dg m i) = .int .u8 d := ⟨_, rfl⟩
          have HD := hide hd
          have hcx : wx.cell? ⟨g, i, none⟩ = some (.int .u8 d) := by rw [hb2.cell (by exact hgs.2), HR.out i (by omega), hd]
          clear hd
          by_cases hpt : 0 < sc ∧ i = sc - 1
          · have HS := hide (outc_point true m sc i hpt)
            have hs0 : (0 : Int) < (sc : Int) := by omega
            have heq : ((i : Int) == (sc : Int) - 1) = true := by simp; omega
            clear hpt
            go_wp2_with (at_builtin; refine wpList_append_own _ rfl _ _ 32 rfl wr.heap.size 5 i0 (.int .u8 0) 1 1 Ybad.underlying32 hi hz0 hz1 hz2 rfl (by decide) _ _ _ rfl (HO.out.alloc _) ⟨wx.heap.size, 0, none⟩ 1 1 [.int .u8 46] rfl rfl ?c1 ?c2 ?c3 ?c4 ?c5 ?_)
            case c1 => exact cell_one_new _ _ _
            case c2 => intro u hu; simp at hu; subst hu; rfl
            case c3 => unfold maxLen; omega
            case c4 => omega
            case c5 => simp; omega
            intro v1 w1 ho1 hg1 _
            have hb1 := below_append HO.out hb2 hB2 hg1
            have hcx1 : w1.cell? ⟨g, i, none⟩ = some (.int .u8 d) := by rw [hb1.cell (by exact hgs.2), HR.out i (by omega), HD.out]
            have hB3 := hb1.size
            clear hg1 HO hb2 hcx
            have HO := hide ho1
            clear ho1
            go_wp2_with (at_builtin; refine wpList_append_own _ rfl _ _ 32 rfl wr.heap.size 5 i0 (.int .u8 0) 1 1 Ybad.underlying32 hi hz0 hz1 hz2 rfl (by decide) _ _ _ rfl (HO.out.alloc _) ⟨w1.heap.size, 0, none⟩ 1 1 [.int .u8 d] rfl rfl ?c1 ?c2 ?c3 ?c4 ?c5 ?_)
            case c1 => exact cell_one_new _ _ _
            case c2 => intro u hu; simp at hu; subst hu; rfl
            case c3 => unfold maxLen; omega
            case c4 => omega
            case c5 => simp; omega
            intro v2 w2 ho2 hg2 _
            have hb3 := below_append HO.out hb1 hB3 hg2
            rw [← HD.out, ← HS.out] at ho2
            have HN : Hid ((outc true m sc (i + 1)).length + 1 + 1 = (outc true m sc i).length) := by rw [Hid, HS.out]; simp
            clear hg2 HO hb1 hcx1
            have HO1 := hide ho2
            clear ho2
            go_wp2
            go_roundw
            case rel => exact ⟨i, by omega, by go_num, by have h := HO1.out; rw [HN.out] at h; exact h, hb3⟩
            case measure => simp [intOf]
          · have HS := hide (outc_step true m sc i hil hpt)
            by_cases hs0 : (0 : Int) < (sc : Int)
            · have heq : ((i : Int) == (sc : Int) - 1) = false := by simp; omega
              clear hpt
              go_wp2_with (at_builtin; refine wpList_append_own _ rfl _ _ 32 rfl wr.heap.size 5 i0 (.int .u8 0) 1 1 Ybad.underlying32 hi hz0 hz1 hz2 rfl (by decide) _ _ _ rfl (HO.out.alloc _) ⟨wx.heap.size, 0, none⟩ 1 1 [.int .u8 d] rfl rfl ?c1 ?c2 ?c3 ?c4 ?c5 ?_)
              case c1 => exact cell_one_new _ _ _
              case c2 => intro u hu; simp at hu; subst hu; rfl
              case c3 => unfold maxLen; omega
              case c4 => omega
              case c5 => simp; omega
              intro v' w1 ho1 hg1 _
              have hb1 := below_append HO.out hb2 hB2 hg1
              rw [← HD.out, ← HS.out] at ho1
              have HN : Hid ((outc true m sc (i + 1)).length + 1 = (outc true m sc i).length) := by rw [Hid, HS.out]; simp
              clear hg1 HO hb2 hcx
              have HO1 := hide ho1
              clear ho1
              go_wp2
              go_roundw
              case rel => exact ⟨i, by omega, by go_num, by have h := HO1.out; rw [HN.out] at h; exact h, hb1⟩
              case measure => simp [intOf]
            · obtain rfl : sc = 0 := by omega
              clear hpt hs0
              go_wp2_with (at_builtin; refine wpList_append_own _ rfl _ _ 32 rfl wr.heap.size 5 i0 (.int .u8 0) 1 1 Ybad.underlying32 hi hz0 hz1 hz2 rfl (by decide) _ _ _ rfl (HO.out.alloc _) ⟨wx.heap.size, 0, none⟩ 1 1 [.int .u8 d] rfl rfl ?c1 ?c2 ?c3 ?c4 ?c5 ?_)
              case c1 => exact cell_one_new _ _ _
              case c2 => intro u hu; simp at hu; subst hu; rfl
              case c3 => unfold maxLen; omega
              case c4 => omega
              case c5 => simp; omega
              intro v' w1 ho1 hg1 _
              have hb1 := below_append HO.out hb2 hB2 hg1
              rw [← HD.out, ← HS.out] at ho1
              have HN : Hid ((outc true m 0 (i + 1)).length + 1 = (outc true m 0 i).length) := by rw [Hid, HS.out]; simp
              clear hg1 HO hb2 hcx
              have HO1 := hide ho1
              clear ho1
              go_wp2
              go_roundw
              case rel =>
                repeat apply Exists.intro
                exact ⟨⟨i, by omega, by go_num, by have h := HO1.out; rw [HN.out] at h; exact h, hb1⟩, rfl⟩
              case measure => simp [intOf]
        · obtain rfl : t = 0 := by omega
          obtain ⟨g2, cap2, hv2⟩ : ∃ g2 cap2, u8 = .slice (some ⟨g2, 0, none⟩) (outc true m sc 0).length cap2 := by
            rcases HO.out.2 with ⟨_, h0⟩ | ⟨g2, cap2, _, h1, _⟩
            · have := outc_pos true m sc; omega
            · exact ⟨g2, cap2, h1⟩
          subst hv2
          have hcv := conv_out true m sc _ _ _ _ HO.out
          go_wp2
          go_ret
          exact ⟨rfl, hb.trans (hb2.mono hB)⟩


end Go.Proofs.YbulkgcsmDoor.lawS8969BWhole
