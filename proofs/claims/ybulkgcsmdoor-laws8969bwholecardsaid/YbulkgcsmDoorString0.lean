/-
  THE WALK of (Decimal).String (4) at the scale 0.
-/
import Derived.Test.YbulkgcsmDoorString
namespace Go.Proofs.YbulkgcsmDoor.lawS8969BWhole
open Go.Shelf Go.RowKit Go.Sort Go.Lib
set_option linter.unusedSimpArgs false
set_option linter.unusedVariables false

set_option maxHeartbeats 4000000 in
theorem str_pos_0 (coef : Int) (m sc : Nat) (w : World) (hc : coef = (m : Int)) (hm : m < 9223372036854775808) (hsc : sc ≤ 65536) (hp : ¬ nDigits m ≤ sc) (hs : sc = 0) (htab : Tab w) :
    Calls Ybad.prog 4 #[.agg #[.int .i64 coef, .int .i64 sc]] w fun e w' => e = .returned (.string ⟨(text false m sc).toArray⟩) ∧ Below w.heap.size w w' := by
  have hnd := nDigits_20 m (by omega)
  have hpos := nDigits_pos m
  have htab1 := hide (Lib.tabIs_alloc htab (.cells #[.int .i64 coef, .int .i64 sc] 23))
  have HT := hide (text_eq false m sc)
  have HL := hide (len_le m sc (by omega) hsc)
  have HPL := hide (padded_length m sc)
  have hneg : ¬ coef < 0 := by omega
  subst hc
  subst hs
  go_enter Ybad.func4, Ybad.ntmps4
  go_wp2_with fail
  refine (mag_pos m _ hm).mono ?_
  rintro e w1 ⟨rfl, rfl⟩
  go_wp2_with fail
  refine (format_s m (by omega) _ htab1.out).mono ?_
  rintro e w2 ⟨D, rfl, HD, HDs, hb2⟩
  have H2 : Hid (Below (w.heap.size + 1) (w.alloc (.cells #[.int .i64 (m : Int), .int .i64 0] 23)) w2) := hide (by simpa using hb2)
  obtain ⟨c0, c1⟩ := box_cells H2.out
  have hsz2 : w.heap.size < w2.heap.size := by have := hb2.size; simp at this; omega
  clear hb2 htab1
  have hD1 : D.size ≤ 20 := by have := HDs.out; omega
  have hD2 : ¬ D.size ≤ 0 := by have := HDs.out; omega
  have HS : Hid (D.data.toList = padded m 0) := hide (by rw [HD.out]; exact padded_long m 0 hp)
  have HSz : Hid (D.size = len m 0) := hide (size_of_padded _ m 0 HS.out)
  have hge : 0 < D.size := by omega
  have hDe : ¬ D = ByteArray.empty := fun h => by subst h; exact absurd hge (by decide)
  have HB0 : Hid (Lib.IsBuilder 34 5 w2.heap.size w2.heap.size (Lib.byteCells []) (w2.alloc (.cells #[.pointer none, .slice none 0 0] 34))) := hide (fresh_builder w2)
  have HX0 : Hid (Below (w.heap.size + 1) (w.alloc (.cells #[.int .i64 (m : Int), .int .i64 0] 23)) (w2.alloc (.cells #[.pointer none, .slice none 0 0] 34))) := hide (H2.out.alloc (by omega) _)
  have hz0 : w2.heap.size ≤ (w2.alloc (.cells #[.pointer none, .slice none 0 0] 34)).heap.size := by simp
  have HTK : Hid (D.data.toList = ((padded m 0).take (len m 0 - 0))) := hide (by rw [HS.out, List.take_of_length_le (by rw [padded_length]; omega)])
  go_wp2_with fail
  refine (ws w2.heap.size w2.heap.size _ ((padded m 0).take (len m 0 - 0)) _ _ HB0.out (by simp only [List.length_append, List.length_cons, List.length_nil, List.length_take, List.length_drop]; have := HPL.out; have := HL.out; omega) HTK.out (by simp only [List.length_append, List.length_cons, List.length_nil, List.length_take, List.length_drop]; have := HPL.out; have := HL.out; omega) hz0).mono ?_
  rintro e w5 ⟨rfl, HB1, hb5⟩
  have HX1 : Hid (Below (w.heap.size + 1) (w.alloc (.cells #[.int .i64 (m : Int), .int .i64 0] 23)) w5) := hide (HX0.out.trans (hb5.mono (by omega)))
  obtain ⟨x1, y1⟩ := box_cells HX1.out
  have hz1 : w2.heap.size ≤ w5.heap.size := by have := hb5.size; omega
  have hv1 : w.heap.size < w5.heap.size := by omega
  go_wp2_with fail
  refine (Ybad.Builder_String_any w2.heap.size w2.heap.size _ _ HB1.out hz1).mono ?_
  rintro e w8 ⟨rfl, hb8⟩
  have HF : Hid (Below w.heap.size w w8) := hide (((Below.refl _ _).alloc (Nat.le_refl _) _).trans ((HX1.out.trans (hb8.mono (by omega))).mono (Nat.le_succ _)))
  go_wp2
  go_ret
  exact ⟨ret_str (by rw [HT.out]; simp [sign]), HF.out⟩

set_option maxHeartbeats 4000000 in
theorem str_neg_0 (coef : Int) (m sc : Nat) (w : World) (hc : coef = -(m : Int)) (hm : m ≤ 9223372036854775808) (hm1 : 1 ≤ m) (hsc : sc ≤ 65536) (hp : ¬ nDigits m ≤ sc) (hs : sc = 0) (htab : Tab w) :
    Calls Ybad.prog 4 #[.agg #[.int .i64 coef, .int .i64 sc]] w fun e w' => e = .returned (.string ⟨(text true m sc).toArray⟩) ∧ Below w.heap.size w w' := by
  have hnd := nDigits_20 m (by omega)
  have hpos := nDigits_pos m
  have htab1 := hide (Lib.tabIs_alloc htab (.cells #[.int .i64 coef, .int .i64 sc] 23))
  have HT := hide (text_eq true m sc)
  have HL := hide (len_le m sc (by omega) hsc)
  have HPL := hide (padded_length m sc)
  have HC := hide hc
  have hneg : coef < 0 := by omega
  clear hc
  subst hs
  go_enter Ybad.func4, Ybad.ntmps4
  go_wp2_with fail
  refine (mag_neg coef m _ HC.out hm1 hm).mono ?_
  rintro e w1 ⟨rfl, rfl⟩
  go_wp2_with fail
  refine (format_s m (by omega) _ htab1.out).mono ?_
  rintro e w2 ⟨D, rfl, HD, HDs, hb2⟩
  have H2 : Hid (Below (w.heap.size + 1) (w.alloc (.cells #[.int .i64 coef, .int .i64 0] 23)) w2) := hide (by simpa using hb2)
  obtain ⟨c0, c1⟩ := box_cells H2.out
  have hsz2 : w.heap.size < w2.heap.size := by have := hb2.size; simp at this; omega
  clear hb2 htab1
  have hD1 : D.size ≤ 20 := by have := HDs.out; omega
  have hD2 : ¬ D.size ≤ 0 := by have := HDs.out; omega
  have HS : Hid (D.data.toList = padded m 0) := hide (by rw [HD.out]; exact padded_long m 0 hp)
  have HSz : Hid (D.size = len m 0) := hide (size_of_padded _ m 0 HS.out)
  have hge : 0 < D.size := by omega
  have hDe : ¬ D = ByteArray.empty := fun h => by subst h; exact absurd hge (by decide)
  have HB0 : Hid (Lib.IsBuilder 34 5 w2.heap.size w2.heap.size (Lib.byteCells []) (w2.alloc (.cells #[.pointer none, .slice none 0 0] 34))) := hide (fresh_builder w2)
  have HX0 : Hid (Below (w.heap.size + 1) (w.alloc (.cells #[.int .i64 coef, .int .i64 0] 23)) (w2.alloc (.cells #[.pointer none, .slice none 0 0] 34))) := hide (H2.out.alloc (by omega) _)
  have hz0 : w2.heap.size ≤ (w2.alloc (.cells #[.pointer none, .slice none 0 0] 34)).heap.size := by simp
  go_wp2_with fail
  refine (wb45 w2.heap.size w2.heap.size _ _ HB0.out (by simp) hz0).mono ?_
  rintro e w4 ⟨rfl, HB1, hb4⟩
  have HX1 : Hid (Below (w.heap.size + 1) (w.alloc (.cells #[.int .i64 coef, .int .i64 0] 23)) w4) := hide (HX0.out.trans (hb4.mono (by omega)))
  obtain ⟨x1, y1⟩ := box_cells HX1.out
  have hz1 : w2.heap.size ≤ w4.heap.size := by have := hb4.size; omega
  have hv1 : w.heap.size < w4.heap.size := by omega
  have HTK : Hid (D.data.toList = ((padded m 0).take (len m 0 - 0))) := hide (by rw [HS.out, List.take_of_length_le (by rw [padded_length]; omega)])
  go_wp2_with fail
  refine (ws w2.heap.size w2.heap.size _ ((padded m 0).take (len m 0 - 0)) _ _ HB1.out (by simp only [List.length_append, List.length_cons, List.length_nil, List.length_take, List.length_drop]; have := HPL.out; have := HL.out; omega) HTK.out (by simp only [List.length_append, List.length_cons, List.length_nil, List.length_take, List.length_drop]; have := HPL.out; have := HL.out; omega) hz1).mono ?_
  rintro e w5 ⟨rfl, HB2, hb5⟩
  have HX2 : Hid (Below (w.heap.size + 1) (w.alloc (.cells #[.int .i64 coef, .int .i64 0] 23)) w5) := hide (HX1.out.trans (hb5.mono (by omega)))
  obtain ⟨x2, y2⟩ := box_cells HX2.out
  have hz2 : w2.heap.size ≤ w5.heap.size := by have := hb5.size; omega
  have hv2 : w.heap.size < w5.heap.size := by omega
  go_wp2_with fail
  refine (Ybad.Builder_String_any w2.heap.size w2.heap.size _ _ HB2.out hz2).mono ?_
  rintro e w8 ⟨rfl, hb8⟩
  have HF : Hid (Below w.heap.size w w8) := hide (((Below.refl _ _).alloc (Nat.le_refl _) _).trans ((HX2.out.trans (hb8.mono (by omega))).mono (Nat.le_succ _)))
  go_wp2
  go_ret
  exact ⟨ret_str (by rw [HT.out]; simp [sign]), HF.out⟩

end Go.Proofs.YbulkgcsmDoor.lawS8969BWhole
