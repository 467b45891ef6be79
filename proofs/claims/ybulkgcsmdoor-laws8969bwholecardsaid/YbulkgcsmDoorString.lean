/-
  THE WALK of (Decimal).String (4), a theorem for each sign and each side of the padding and of the point.
-/
import Derived.Test.YbulkgcsmDoorFormat
namespace Go.Proofs.YbulkgcsmDoor.lawS8969BWhole
open Go.Shelf Go.RowKit Go.Sort Go.Lib
set_option linter.unusedSimpArgs false
set_option linter.unusedVariables false

/-- A new builder. -/
theorem fresh_builder (w : World) : Lib.IsBuilder 34 5 w.heap.size w.heap.size (Lib.byteCells []) (w.alloc (.cells #[.pointer none, .slice none 0 0] 34)) :=
  .inl ⟨Nat.le_refl _, .slice none 0 0, heap_alloc_new w _, World.ownsRow_nil _ _ _ _, by simp [Value.ownBlock]⟩
theorem strCells_ext (s : ByteArray) (l : List UInt8) (h : s.data.toList = l) : Lib.strCells s = Lib.byteCells l := by rw [Lib.strCells_eq, h]
theorem byteCells_append (a b : List UInt8) : Lib.byteCells a ++ Lib.byteCells b = Lib.byteCells (a ++ b) := by simp [Lib.byteCells]
theorem sub_take (S : ByteArray) (m sc : Nat) (hS : S.data.toList = padded m sc) (hl : S.size = len m sc) : (S.extract 0 (S.size - sc)).data.toList = (padded m sc).take (len m sc - sc) := by
  rw [Lib.extract_data, hS, hl]
  simp
theorem sub_drop (S : ByteArray) (m sc : Nat) (hS : S.data.toList = padded m sc) (hl : S.size = len m sc) : (S.extract (S.size - sc) S.size).data.toList = (padded m sc).drop (len m sc - sc) := by
  rw [Lib.extract_data, hS, hl]
  rw [List.take_of_length_le (by rw [List.length_drop, padded_length]; omega)]
theorem box_cells {w wx : World} {c s : Value} (h : Below (w.heap.size + 1) (w.alloc (.cells #[c, s] 23)) wx) : wx.cell? ⟨w.heap.size, 0, none⟩ = some c ∧ wx.cell? ⟨w.heap.size, 1, none⟩ = some s := by
  constructor
  · rw [h.cell (by simp)]
    simp
  · rw [h.cell (by simp)]
    simp
/-- strconv.FormatUint, its result under a name. -/
theorem format_s (u : Nat) (hu64 : u < 18446744073709551616) (w : World) (htab : Tab w) :
    Calls Ybad.prog 6 #[.int .u64 u, .int .i64 10] w fun e w' => ∃ D : ByteArray, e = .returned (.string D) ∧ Hid (D.data.toList = Lib.decDigits u) ∧ Hid (D.size = nDigits u) ∧ Below w.heap.size w w' := by
  refine (format_any u hu64 w htab).mono ?_
  rintro e w' ⟨rfl, hb⟩
  exact ⟨_, rfl, hide (by simp), hide (by show (Lib.decDigits u).toArray.size = _; simp [Lib.decDigits_length]), hb⟩
theorem rep_s (c : Nat) (w : World) (hc : c ≤ 100000) :
    Calls Ybad.prog 8 #[.string ⟨#[48]⟩, .int .i64 c] w fun e w' => ∃ R : ByteArray, e = .returned (.string R) ∧ Hid (R.data.toList = List.replicate c 48) ∧ R.size ≤ 100000 ∧ Below w.heap.size w w' := by
  refine (rep_any c w hc).mono ?_
  rintro e w' ⟨rfl, hb⟩
  exact ⟨_, rfl, hide (by simp), by show (List.replicate c (48 : UInt8)).toArray.size ≤ _; simpa using hc, hb⟩
theorem wb (B b : Nat) (l : List UInt8) (c : UInt8) (w : World) (h : Lib.IsBuilder 34 5 B b (Lib.byteCells l) w) (hlen : l.length ≤ 1000000) (hBw : B ≤ w.heap.size) :
    Calls Ybad.prog 9 #[.pointer (some ⟨b, 0, none⟩), .int .u8 (c.toNat : Int)] w fun e w' => e = .returned .nilIface ∧ Hid (Lib.IsBuilder 34 5 B b (Lib.byteCells (l ++ [c])) w') ∧ Below B w w' := by
  refine (Ybad.Builder_WriteByte B b _ (c.toNat : Int) w h (by rw [Lib.byteCells_length]; omega) hBw).mono ?_
  rintro e w' ⟨rfl, h1, hb⟩
  refine ⟨rfl, hide (.inr ?_), hb⟩
  rw [← byteCells_append]
  exact h1
theorem ws (B b : Nat) (l l2 : List UInt8) (s : ByteArray) (w : World) (h : Lib.IsBuilder 34 5 B b (Lib.byteCells l) w) (hlen : l.length ≤ 1000000) (hs : s.data.toList = l2) (hl2 : l2.length ≤ 1000000) (hBw : B ≤ w.heap.size) :
    Calls Ybad.prog 10 #[.pointer (some ⟨b, 0, none⟩), .string s] w fun e w' => e = .returned (.tuple #[.int .i64 s.size, .nilIface]) ∧ Hid (Lib.IsBuilder 34 5 B b (Lib.byteCells (l ++ l2)) w') ∧ Below B w w' := by
  have hsz : s.size = l2.length := by rw [← hs]; simp
  refine (Ybad.Builder_WriteString B b _ s w h (by rw [Lib.byteCells_length]; omega) hBw).mono ?_
  rintro e w' ⟨rfl, h1, hb⟩
  refine ⟨rfl, hide (.inr ?_), hb⟩
  rw [← byteCells_append, ← strCells_ext s l2 hs]
  exact h1
theorem wb45 (B b : Nat) (l : List UInt8) (w : World) (h : Lib.IsBuilder 34 5 B b (Lib.byteCells l) w) (hlen : l.length ≤ 1000000) (hBw : B ≤ w.heap.size) :
    Calls Ybad.prog 9 #[.pointer (some ⟨b, 0, none⟩), .int .u8 45] w fun e w' => e = .returned .nilIface ∧ Hid (Lib.IsBuilder 34 5 B b (Lib.byteCells (l ++ [45])) w') ∧ Below B w w' := wb B b l 45 w h hlen hBw
theorem wb46 (B b : Nat) (l : List UInt8) (w : World) (h : Lib.IsBuilder 34 5 B b (Lib.byteCells l) w) (hlen : l.length ≤ 1000000) (hBw : B ≤ w.heap.size) :
    Calls Ybad.prog 9 #[.pointer (some ⟨b, 0, none⟩), .int .u8 46] w fun e w' => e = .returned .nilIface ∧ Hid (Lib.IsBuilder 34 5 B b (Lib.byteCells (l ++ [46])) w') ∧ Below B w w' := wb B b l 46 w h hlen hBw
theorem pad_str (R D : ByteArray) (m sc c : Nat) (hp : nDigits m ≤ sc) (hR : R.data.toList = List.replicate c 48) (hD : D.data.toList = Lib.decDigits m) (hc : c = sc - nDigits m + 1) : (R ++ D).data.toList = padded m sc := by
  rw [← padded_short m sc hp, ← hc, ← hR, ← hD]
  simp [ByteArray.data_append]
theorem size_of_padded (S : ByteArray) (m sc : Nat) (hS : S.data.toList = padded m sc) : S.size = len m sc := by
  rw [← padded_length, ← hS]
  simp

set_option maxHeartbeats 4000000 in
theorem str_pos_pad (coef : Int) (m sc : Nat) (w : World) (hc : coef = (m : Int)) (hm : m < 9223372036854775808) (hsc : sc ≤ 65536) (hp : nDigits m ≤ sc) (hs : 0 < sc) (htab : Tab w) :
    Calls Ybad.prog 4 #[.agg #[.int .i64 coef, .int .i64 sc]] w fun e w' => e = .returned (.string ⟨(text false m sc).toArray⟩) ∧ Below w.heap.size w w' := by
  have hnd := nDigits_20 m (by omega)
  have hpos := nDigits_pos m
  have htab1 := hide (Lib.tabIs_alloc htab (.cells #[.int .i64 coef, .int .i64 sc] 23))
  have HT := hide (text_eq false m sc)
  have HL := hide (len_le m sc (by omega) hsc)
  have HPL := hide (padded_length m sc)
  have hneg : ¬ coef < 0 := by omega
  subst hc
  go_enter Ybad.func4, Ybad.ntmps4
  go_wp2_with fail
  refine (mag_pos m _ hm).mono ?_
  rintro e w1 ⟨rfl, rfl⟩
  go_wp2_with fail
  refine (format_s m (by omega) _ htab1.out).mono ?_
  rintro e w2 ⟨D, rfl, HD, HDs, hb2⟩
  have H2 : Hid (Below (w.heap.size + 1) (w.alloc (.cells #[.int .i64 (m : Int), .int .i64 (sc : Int)] 23)) w2) := hide (by simpa using hb2)
  obtain ⟨c0, c1⟩ := box_cells H2.out
  have hsz2 : w.heap.size < w2.heap.size := by have := hb2.size; simp at this; omega
  clear hb2 htab1
  have hD1 : D.size ≤ 20 := by have := HDs.out; omega
  have hD2 : D.size ≤ sc := by have := HDs.out; omega
  obtain ⟨c, hcc⟩ : ∃ c : Nat, (sc : Int) - (D.size : Int) + 1 = (c : Int) := ⟨sc - D.size + 1, by omega⟩
  have HCC := hide hcc
  clear hcc
  go_wp2_with fail
  rw [HCC.out]
  refine (rep_s c _ (by have := HCC.out; omega)).mono ?_
  rintro e w3 ⟨R, rfl, HR, hRs, hb3⟩
  have H3 : Hid (Below (w.heap.size + 1) (w.alloc (.cells #[.int .i64 (m : Int), .int .i64 (sc : Int)] 23)) w3) := hide (H2.out.trans (hb3.mono (by omega)))
  obtain ⟨d0, d1⟩ := box_cells H3.out
  have hsz3 : w.heap.size < w3.heap.size := by have := hb3.size; omega
  clear hb3 H2 c0 c1
  have HS : Hid ((R ++ D).data.toList = padded m sc) := hide (pad_str R D m sc c hp HR.out HD.out (by have := HCC.out; have := HDs.out; omega))
  have HSz : Hid (R.size + D.size = len m sc) := hide (by have := size_of_padded _ m sc HS.out; simpa using this)
  have hge : sc < R.size + D.size := by have := HSz.out; have := len_pos m sc; omega
  have hle : R.size + D.size ≤ 65557 := by have := HSz.out; have := HL.out; omega
  have HB0 : Hid (Lib.IsBuilder 34 5 w3.heap.size w3.heap.size (Lib.byteCells []) (w3.alloc (.cells #[.pointer none, .slice none 0 0] 34))) := hide (fresh_builder w3)
  have HX0 : Hid (Below (w.heap.size + 1) (w.alloc (.cells #[.int .i64 (m : Int), .int .i64 (sc : Int)] 23)) (w3.alloc (.cells #[.pointer none, .slice none 0 0] 34))) := hide (H3.out.alloc (by omega) _)
  have hz0 : w3.heap.size ≤ (w3.alloc (.cells #[.pointer none, .slice none 0 0] 34)).heap.size := by simp
  have HTK : Hid (((R ++ D).extract 0 ((R.size + D.size) - sc)).data.toList = ((padded m sc).take (len m sc - sc))) := hide (by have h := sub_take (R ++ D) m sc HS.out (size_of_padded _ _ _ HS.out); simpa using h)
  go_wp2_with fail
  refine (ws w3.heap.size w3.heap.size _ ((padded m sc).take (len m sc - sc)) _ _ HB0.out (by simp only [List.length_append, List.length_cons, List.length_nil, List.length_take, List.length_drop]; have := HPL.out; have := HL.out; omega) HTK.out (by simp only [List.length_append, List.length_cons, List.length_nil, List.length_take, List.length_drop]; have := HPL.out; have := HL.out; omega) hz0).mono ?_
  rintro e w5 ⟨rfl, HB1, hb5⟩
  have HX1 : Hid (Below (w.heap.size + 1) (w.alloc (.cells #[.int .i64 (m : Int), .int .i64 (sc : Int)] 23)) w5) := hide (HX0.out.trans (hb5.mono (by omega)))
  obtain ⟨x1, y1⟩ := box_cells HX1.out
  have hz1 : w3.heap.size ≤ w5.heap.size := by have := hb5.size; omega
  have hv1 : w.heap.size < w5.heap.size := by omega
  have HDR : Hid (((R ++ D).extract ((R.size + D.size) - sc) (R.size + D.size)).data.toList = ((padded m sc).drop (len m sc - sc))) := hide (by have h := sub_drop (R ++ D) m sc HS.out (size_of_padded _ _ _ HS.out); simpa using h)
  go_wp2_with fail
  refine (wb46 w3.heap.size w3.heap.size _ _ HB1.out (by simp only [List.length_append, List.length_cons, List.length_nil, List.length_take, List.length_drop]; have := HPL.out; have := HL.out; omega) hz1).mono ?_
  rintro e w6 ⟨rfl, HB2, hb6⟩
  have HX2 : Hid (Below (w.heap.size + 1) (w.alloc (.cells #[.int .i64 (m : Int), .int .i64 (sc : Int)] 23)) w6) := hide (HX1.out.trans (hb6.mono (by omega)))
  obtain ⟨x2, y2⟩ := box_cells HX2.out
  have hz2 : w3.heap.size ≤ w6.heap.size := by have := hb6.size; omega
  have hv2 : w.heap.size < w6.heap.size := by omega
  go_wp2_with fail
  refine (ws w3.heap.size w3.heap.size _ ((padded m sc).drop (len m sc - sc)) _ _ HB2.out (by simp only [List.length_append, List.length_cons, List.length_nil, List.length_take, List.length_drop]; have := HPL.out; have := HL.out; omega) HDR.out (by simp only [List.length_append, List.length_cons, List.length_nil, List.length_take, List.length_drop]; have := HPL.out; have := HL.out; omega) hz2).mono ?_
  rintro e w7 ⟨rfl, HB3, hb7⟩
  have HX3 : Hid (Below (w.heap.size + 1) (w.alloc (.cells #[.int .i64 (m : Int), .int .i64 (sc : Int)] 23)) w7) := hide (HX2.out.trans (hb7.mono (by omega)))
  obtain ⟨x3, y3⟩ := box_cells HX3.out
  have hz3 : w3.heap.size ≤ w7.heap.size := by have := hb7.size; omega
  have hv3 : w.heap.size < w7.heap.size := by omega
  go_wp2_with fail
  refine (Ybad.Builder_String_any w3.heap.size w3.heap.size _ _ HB3.out hz3).mono ?_
  rintro e w8 ⟨rfl, hb8⟩
  have HF : Hid (Below w.heap.size w w8) := hide (((Below.refl _ _).alloc (Nat.le_refl _) _).trans ((HX3.out.trans (hb8.mono (by omega))).mono (Nat.le_succ _)))
  go_wp2
  go_ret
  exact ⟨ret_str (by rw [HT.out]; simp [sign]; omega), HF.out⟩

set_option maxHeartbeats 4000000 in
theorem str_pos_pt (coef : Int) (m sc : Nat) (w : World) (hc : coef = (m : Int)) (hm : m < 9223372036854775808) (hsc : sc ≤ 65536) (hp : ¬ nDigits m ≤ sc) (hs : 0 < sc) (htab : Tab w) :
    Calls Ybad.prog 4 #[.agg #[.int .i64 coef, .int .i64 sc]] w fun e w' => e = .returned (.string ⟨(text false m sc).toArray⟩) ∧ Below w.heap.size w w' := by
  have hnd := nDigits_20 m (by omega)
  have hpos := nDigits_pos m
  have htab1 := hide (Lib.tabIs_alloc htab (.cells #[.int .i64 coef, .int .i64 sc] 23))
  have HT := hide (text_eq false m sc)
  have HL := hide (len_le m sc (by omega) hsc)
  have HPL := hide (padded_length m sc)
  have hneg : ¬ coef < 0 := by omega
  subst hc
  go_enter Ybad.func4, Ybad.ntmps4
  go_wp2_with fail
  refine (mag_pos m _ hm).mono ?_
  rintro e w1 ⟨rfl, rfl⟩
  go_wp2_with fail
  refine (format_s m (by omega) _ htab1.out).mono ?_
  rintro e w2 ⟨D, rfl, HD, HDs, hb2⟩
  have H2 : Hid (Below (w.heap.size + 1) (w.alloc (.cells #[.int .i64 (m : Int), .int .i64 (sc : Int)] 23)) w2) := hide (by simpa using hb2)
  obtain ⟨c0, c1⟩ := box_cells H2.out
  have hsz2 : w.heap.size < w2.heap.size := by have := hb2.size; simp at this; omega
  clear hb2 htab1
  have hD1 : D.size ≤ 20 := by have := HDs.out; omega
  have hD2 : ¬ D.size ≤ sc := by have := HDs.out; omega
  have HS : Hid (D.data.toList = padded m sc) := hide (by rw [HD.out]; exact padded_long m sc hp)
  have HSz : Hid (D.size = len m sc) := hide (size_of_padded _ m sc HS.out)
  have hge : sc < D.size := by omega
  have HB0 : Hid (Lib.IsBuilder 34 5 w2.heap.size w2.heap.size (Lib.byteCells []) (w2.alloc (.cells #[.pointer none, .slice none 0 0] 34))) := hide (fresh_builder w2)
  have HX0 : Hid (Below (w.heap.size + 1) (w.alloc (.cells #[.int .i64 (m : Int), .int .i64 (sc : Int)] 23)) (w2.alloc (.cells #[.pointer none, .slice none 0 0] 34))) := hide (H2.out.alloc (by omega) _)
  have hz0 : w2.heap.size ≤ (w2.alloc (.cells #[.pointer none, .slice none 0 0] 34)).heap.size := by simp
  have HTK : Hid ((D.extract 0 (D.size - sc)).data.toList = ((padded m sc).take (len m sc - sc))) := hide (by have h := sub_take D m sc HS.out (size_of_padded _ _ _ HS.out); simpa using h)
  go_wp2_with fail
  refine (ws w2.heap.size w2.heap.size _ ((padded m sc).take (len m sc - sc)) _ _ HB0.out (by simp only [List.length_append, List.length_cons, List.length_nil, List.length_take, List.length_drop]; have := HPL.out; have := HL.out; omega) HTK.out (by simp only [List.length_append, List.length_cons, List.length_nil, List.length_take, List.length_drop]; have := HPL.out; have := HL.out; omega) hz0).mono ?_
  rintro e w5 ⟨rfl, HB1, hb5⟩
  have HX1 : Hid (Below (w.heap.size + 1) (w.alloc (.cells #[.int .i64 (m : Int), .int .i64 (sc : Int)] 23)) w5) := hide (HX0.out.trans (hb5.mono (by omega)))
  obtain ⟨x1, y1⟩ := box_cells HX1.out
  have hz1 : w2.heap.size ≤ w5.heap.size := by have := hb5.size; omega
  have hv1 : w.heap.size < w5.heap.size := by omega
  have HDR : Hid ((D.extract (D.size - sc) D.size).data.toList = ((padded m sc).drop (len m sc - sc))) := hide (by have h := sub_drop D m sc HS.out (size_of_padded _ _ _ HS.out); simpa using h)
  go_wp2_with fail
  refine (wb46 w2.heap.size w2.heap.size _ _ HB1.out (by simp only [List.length_append, List.length_cons, List.length_nil, List.length_take, List.length_drop]; have := HPL.out; have := HL.out; omega) hz1).mono ?_
  rintro e w6 ⟨rfl, HB2, hb6⟩
  have HX2 : Hid (Below (w.heap.size + 1) (w.alloc (.cells #[.int .i64 (m : Int), .int .i64 (sc : Int)] 23)) w6) := hide (HX1.out.trans (hb6.mono (by omega)))
  obtain ⟨x2, y2⟩ := box_cells HX2.out
  have hz2 : w2.heap.size ≤ w6.heap.size := by have := hb6.size; omega
  have hv2 : w.heap.size < w6.heap.size := by omega
  go_wp2_with fail
  refine (ws w2.heap.size w2.heap.size _ ((padded m sc).drop (len m sc - sc)) _ _ HB2.out (by simp only [List.length_append, List.length_cons, List.length_nil, List.length_take, List.length_drop]; have := HPL.out; have := HL.out; omega) HDR.out (by simp only [List.length_append, List.length_cons, List.length_nil, List.length_take, List.length_drop]; have := HPL.out; have := HL.out; omega) hz2).mono ?_
  rintro e w7 ⟨rfl, HB3, hb7⟩
  have HX3 : Hid (Below (w.heap.size + 1) (w.alloc (.cells #[.int .i64 (m : Int), .int .i64 (sc : Int)] 23)) w7) := hide (HX2.out.trans (hb7.mono (by omega)))
  obtain ⟨x3, y3⟩ := box_cells HX3.out
  have hz3 : w2.heap.size ≤ w7.heap.size := by have := hb7.size; omega
  have hv3 : w.heap.size < w7.heap.size := by omega
  go_wp2_with fail
  refine (Ybad.Builder_String_any w2.heap.size w2.heap.size _ _ HB3.out hz3).mono ?_
  rintro e w8 ⟨rfl, hb8⟩
  have HF : Hid (Below w.heap.size w w8) := hide (((Below.refl _ _).alloc (Nat.le_refl _) _).trans ((HX3.out.trans (hb8.mono (by omega))).mono (Nat.le_succ _)))
  go_wp2
  go_ret
  exact ⟨ret_str (by rw [HT.out]; simp [sign]; omega), HF.out⟩

set_option maxHeartbeats 4000000 in
theorem str_neg_pad (coef : Int) (m sc : Nat) (w : World) (hc : coef = -(m : Int)) (hm : m ≤ 9223372036854775808) (hm1 : 1 ≤ m) (hsc : sc ≤ 65536) (hp : nDigits m ≤ sc) (hs : 0 < sc) (htab : Tab w) :
    Calls Ybad.prog 4 #[.agg #[.int .i64 coef, .int .i64 sc]] w fun e w' => e = .returned (.string ⟨(text true m sc).toArray⟩) ∧ Below w.heap.size w w' := by
  have hnd := nDigits_20 m (by omega)
  have hpos := nDigits_pos m
  have htab1 := hide (Lib.tabIs_alloc htab (.cells #[.int .i64 coef, .int .i64 sc] 23))
  have HT := hide (text_eq true m sc)
  have HL := hide (len_le m sc (by omega) hsc)
  have HPL := hide (padded_length m sc)
  have HC := hide hc
  have hneg : coef < 0 := by omega
  clear hc
  go_enter Ybad.func4, Ybad.ntmps4
  go_wp2_with fail
  refine (mag_neg coef m _ HC.out hm1 hm).mono ?_
  rintro e w1 ⟨rfl, rfl⟩
  go_wp2_with fail
  refine (format_s m (by omega) _ htab1.out).mono ?_
  rintro e w2 ⟨D, rfl, HD, HDs, hb2⟩
  have H2 : Hid (Below (w.heap.size + 1) (w.alloc (.cells #[.int .i64 coef, .int .i64 (sc : Int)] 23)) w2) := hide (by simpa using hb2)
  obtain ⟨c0, c1⟩ := box_cells H2.out
  have hsz2 : w.heap.size < w2.heap.size := by have := hb2.size; simp at this; omega
  clear hb2 htab1
  have hD1 : D.size ≤ 20 := by have := HDs.out; omega
  have hD2 : D.size ≤ sc := by have := HDs.out; omega
  obtain ⟨c, hcc⟩ : ∃ c : Nat, (sc : Int) - (D.size : Int) + 1 = (c : Int) := ⟨sc - D.size + 1, by omega⟩
  have HCC := hide hcc
  clear hcc
  go_wp2_with fail
  rw [HCC.out]
  refine (rep_s c _ (by have := HCC.out; omega)).mono ?_
  rintro e w3 ⟨R, rfl, HR, hRs, hb3⟩
  have H3 : Hid (Below (w.heap.size + 1) (w.alloc (.cells #[.int .i64 coef, .int .i64 (sc : Int)] 23)) w3) := hide (H2.out.trans (hb3.mono (by omega)))
  obtain ⟨d0, d1⟩ := box_cells H3.out
  have hsz3 : w.heap.size < w3.heap.size := by have := hb3.size; omega
  clear hb3 H2 c0 c1
  have HS : Hid ((R ++ D).data.toList = padded m sc) := hide (pad_str R D m sc c hp HR.out HD.out (by have := HCC.out; have := HDs.out; omega))
  have HSz : Hid (R.size + D.size = len m sc) := hide (by have := size_of_padded _ m sc HS.out; simpa using this)
  have hge : sc < R.size + D.size := by have := HSz.out; have := len_pos m sc; omega
  have hle : R.size + D.size ≤ 65557 := by have := HSz.out; have := HL.out; omega
  have HB0 : Hid (Lib.IsBuilder 34 5 w3.heap.size w3.heap.size (Lib.byteCells []) (w3.alloc (.cells #[.pointer none, .slice none 0 0] 34))) := hide (fresh_builder w3)
  have HX0 : Hid (Below (w.heap.size + 1) (w.alloc (.cells #[.int .i64 coef, .int .i64 (sc : Int)] 23)) (w3.alloc (.cells #[.pointer none, .slice none 0 0] 34))) := hide (H3.out.alloc (by omega) _)
  have hz0 : w3.heap.size ≤ (w3.alloc (.cells #[.pointer none, .slice none 0 0] 34)).heap.size := by simp
  go_wp2_with fail
  refine (wb45 w3.heap.size w3.heap.size _ _ HB0.out (by simp) hz0).mono ?_
  rintro e w4 ⟨rfl, HB1, hb4⟩
  have HX1 : Hid (Below (w.heap.size + 1) (w.alloc (.cells #[.int .i64 coef, .int .i64 (sc : Int)] 23)) w4) := hide (HX0.out.trans (hb4.mono (by omega)))
  obtain ⟨x1, y1⟩ := box_cells HX1.out
  have hz1 : w3.heap.size ≤ w4.heap.size := by have := hb4.size; omega
  have hv1 : w.heap.size < w4.heap.size := by omega
  have HTK : Hid (((R ++ D).extract 0 ((R.size + D.size) - sc)).data.toList = ((padded m sc).take (len m sc - sc))) := hide (by have h := sub_take (R ++ D) m sc HS.out (size_of_padded _ _ _ HS.out); simpa using h)
  go_wp2_with fail
  refine (ws w3.heap.size w3.heap.size _ ((padded m sc).take (len m sc - sc)) _ _ HB1.out (by simp only [List.length_append, List.length_cons, List.length_nil, List.length_take, List.length_drop]; have := HPL.out; have := HL.out; omega) HTK.out (by simp only [List.length_append, List.length_cons, List.length_nil, List.length_take, List.length_drop]; have := HPL.out; have := HL.out; omega) hz1).mono ?_
  rintro e w5 ⟨rfl, HB2, hb5⟩
  have HX2 : Hid (Below (w.heap.size + 1) (w.alloc (.cells #[.int .i64 coef, .int .i64 (sc : Int)] 23)) w5) := hide (HX1.out.trans (hb5.mono (by omega)))
  obtain ⟨x2, y2⟩ := box_cells HX2.out
  have hz2 : w3.heap.size ≤ w5.heap.size := by have := hb5.size; omega
  have hv2 : w.heap.size < w5.heap.size := by omega
  have HDR : Hid (((R ++ D).extract ((R.size + D.size) - sc) (R.size + D.size)).data.toList = ((padded m sc).drop (len m sc - sc))) := hide (by have h := sub_drop (R ++ D) m sc HS.out (size_of_padded _ _ _ HS.out); simpa using h)
  go_wp2_with fail
  refine (wb46 w3.heap.size w3.heap.size _ _ HB2.out (by simp only [List.length_append, List.length_cons, List.length_nil, List.length_take, List.length_drop]; have := HPL.out; have := HL.out; omega) hz2).mono ?_
  rintro e w6 ⟨rfl, HB3, hb6⟩
  have HX3 : Hid (Below (w.heap.size + 1) (w.alloc (.cells #[.int .i64 coef, .int .i64 (sc : Int)] 23)) w6) := hide (HX2.out.trans (hb6.mono (by omega)))
  obtain ⟨x3, y3⟩ := box_cells HX3.out
  have hz3 : w3.heap.size ≤ w6.heap.size := by have := hb6.size; omega
  have hv3 : w.heap.size < w6.heap.size := by omega
  go_wp2_with fail
  refine (ws w3.heap.size w3.heap.size _ ((padded m sc).drop (len m sc - sc)) _ _ HB3.out (by simp only [List.length_append, List.length_cons, List.length_nil, List.length_take, List.length_drop]; have := HPL.out; have := HL.out; omega) HDR.out (by simp only [List.length_append, List.length_cons, List.length_nil, List.length_take, List.length_drop]; have := HPL.out; have := HL.out; omega) hz3).mono ?_
  rintro e w7 ⟨rfl, HB4, hb7⟩
  have HX4 : Hid (Below (w.heap.size + 1) (w.alloc (.cells #[.int .i64 coef, .int .i64 (sc : Int)] 23)) w7) := hide (HX3.out.trans (hb7.mono (by omega)))
  obtain ⟨x4, y4⟩ := box_cells HX4.out
  have hz4 : w3.heap.size ≤ w7.heap.size := by have := hb7.size; omega
  have hv4 : w.heap.size < w7.heap.size := by omega
  go_wp2_with fail
  refine (Ybad.Builder_String_any w3.heap.size w3.heap.size _ _ HB4.out hz4).mono ?_
  rintro e w8 ⟨rfl, hb8⟩
  have HF : Hid (Below w.heap.size w w8) := hide (((Below.refl _ _).alloc (Nat.le_refl _) _).trans ((HX4.out.trans (hb8.mono (by omega))).mono (Nat.le_succ _)))
  go_wp2
  go_ret
  exact ⟨ret_str (by rw [HT.out]; simp [sign]; omega), HF.out⟩

set_option maxHeartbeats 4000000 in
theorem str_neg_pt (coef : Int) (m sc : Nat) (w : World) (hc : coef = -(m : Int)) (hm : m ≤ 9223372036854775808) (hm1 : 1 ≤ m) (hsc : sc ≤ 65536) (hp : ¬ nDigits m ≤ sc) (hs : 0 < sc) (htab : Tab w) :
    Calls Ybad.prog 4 #[.agg #[.int .i64 coef, .int .i64 sc]] w fun e w' => e = .returned (.string ⟨(text true m sc).toArray⟩) ∧ Below w.heap.size w w' := by
  have hnd := nDigits_20 m (by omega)
  have hpos := nDigits_pos m
  have htab1 := hide (Lib.tabIs_alloc htab (.cells #[.int .i64 coef, .int .i64 sc] 23))
  have HT := hide (text_eq true m sc)
  have HL := hide (len_le m sc (by omega) hsc)
  have HPL := hide (padded_length m sc)
  have HC := hide hc
  have hneg : coef < 0 := by omega
  clear hc
  go_enter Ybad.func4, Ybad.ntmps4
  go_wp2_with fail
  refine (mag_neg coef m _ HC.out hm1 hm).mono ?_
  rintro e w1 ⟨rfl, rfl⟩
  go_wp2_with fail
  refine (format_s m (by omega) _ htab1.out).mono ?_
  rintro e w2 ⟨D, rfl, HD, HDs, hb2⟩
  have H2 : Hid (Below (w.heap.size + 1) (w.alloc (.cells #[.int .i64 coef, .int .i64 (sc : Int)] 23)) w2) := hide (by simpa using hb2)
  obtain ⟨c0, c1⟩ := box_cells H2.out
  have hsz2 : w.heap.size < w2.heap.size := by have := hb2.size; simp at this; omega
  clear hb2 htab1
  have hD1 : D.size ≤ 20 := by have := HDs.out; omega
  have hD2 : ¬ D.size ≤ sc := by have := HDs.out; omega
  have HS : Hid (D.data.toList = padded m sc) := hide (by rw [HD.out]; exact padded_long m sc hp)
  have HSz : Hid (D.size = len m sc) := hide (size_of_padded _ m sc HS.out)
  have hge : sc < D.size := by omega
  have HB0 : Hid (Lib.IsBuilder 34 5 w2.heap.size w2.heap.size (Lib.byteCells []) (w2.alloc (.cells #[.pointer none, .slice none 0 0] 34))) := hide (fresh_builder w2)
  have HX0 : Hid (Below (w.heap.size + 1) (w.alloc (.cells #[.int .i64 coef, .int .i64 (sc : Int)] 23)) (w2.alloc (.cells #[.pointer none, .slice none 0 0] 34))) := hide (H2.out.alloc (by omega) _)
  have hz0 : w2.heap.size ≤ (w2.alloc (.cells #[.pointer none, .slice none 0 0] 34)).heap.size := by simp
  go_wp2_with fail
  refine (wb45 w2.heap.size w2.heap.size _ _ HB0.out (by simp) hz0).mono ?_
  rintro e w4 ⟨rfl, HB1, hb4⟩
  have HX1 : Hid (Below (w.heap.size + 1) (w.alloc (.cells #[.int .i64 coef, .int .i64 (sc : Int)] 23)) w4) := hide (HX0.out.trans (hb4.mono (by omega)))
  obtain ⟨x1, y1⟩ := box_cells HX1.out
  have hz1 : w2.heap.size ≤ w4.heap.size := by have := hb4.size; omega
  have hv1 : w.heap.size < w4.heap.size := by omega
  have HTK : Hid ((D.extract 0 (D.size - sc)).data.toList = ((padded m sc).take (len m sc - sc))) := hide (by have h := sub_take D m sc HS.out (size_of_padded _ _ _ HS.out); simpa using h)
  go_wp2_with fail
  refine (ws w2.heap.size w2.heap.size _ ((padded m sc).take (len m sc - sc)) _ _ HB1.out (by simp only [List.length_append, List.length_cons, List.length_nil, List.length_take, List.length_drop]; have := HPL.out; have := HL.out; omega) HTK.out (by simp only [List.length_append, List.length_cons, List.length_nil, List.length_take, List.length_drop]; have := HPL.out; have := HL.out; omega) hz1).mono ?_
  rintro e w5 ⟨rfl, HB2, hb5⟩
  have HX2 : Hid (Below (w.heap.size + 1) (w.alloc (.cells #[.int .i64 coef, .int .i64 (sc : Int)] 23)) w5) := hide (HX1.out.trans (hb5.mono (by omega)))
  obtain ⟨x2, y2⟩ := box_cells HX2.out
  have hz2 : w2.heap.size ≤ w5.heap.size := by have := hb5.size; omega
  have hv2 : w.heap.size < w5.heap.size := by omega
  have HDR : Hid ((D.extract (D.size - sc) D.size).data.toList = ((padded m sc).drop (len m sc - sc))) := hide (by have h := sub_drop D m sc HS.out (size_of_padded _ _ _ HS.out); simpa using h)
  go_wp2_with fail
  refine (wb46 w2.heap.size w2.heap.size _ _ HB2.out (by simp only [List.length_append, List.length_cons, List.length_nil, List.length_take, List.length_drop]; have := HPL.out; have := HL.out; omega) hz2).mono ?_
  rintro e w6 ⟨rfl, HB3, hb6⟩
  have HX3 : Hid (Below (w.heap.size + 1) (w.alloc (.cells #[.int .i64 coef, .int .i64 (sc : Int)] 23)) w6) := hide (HX2.out.trans (hb6.mono (by omega)))
  obtain ⟨x3, y3⟩ := box_cells HX3.out
  have hz3 : w2.heap.size ≤ w6.heap.size := by have := hb6.size; omega
  have hv3 : w.heap.size < w6.heap.size := by omega
  go_wp2_with fail
  refine (ws w2.heap.size w2.heap.size _ ((padded m sc).drop (len m sc - sc)) _ _ HB3.out (by simp only [List.length_append, List.length_cons, List.length_nil, List.length_take, List.length_drop]; have := HPL.out; have := HL.out; omega) HDR.out (by simp only [List.length_append, List.length_cons, List.length_nil, List.length_take, List.length_drop]; have := HPL.out; have := HL.out; omega) hz3).mono ?_
  rintro e w7 ⟨rfl, HB4, hb7⟩
  have HX4 : Hid (Below (w.heap.size + 1) (w.alloc (.cells #[.int .i64 coef, .int .i64 (sc : Int)] 23)) w7) := hide (HX3.out.trans (hb7.mono (by omega)))
  obtain ⟨x4, y4⟩ := box_cells HX4.out
  have hz4 : w2.heap.size ≤ w7.heap.size := by have := hb7.size; omega
  have hv4 : w.heap.size < w7.heap.size := by omega
  go_wp2_with fail
  refine (Ybad.Builder_String_any w2.heap.size w2.heap.size _ _ HB4.out hz4).mono ?_
  rintro e w8 ⟨rfl, hb8⟩
  have HF : Hid (Below w.heap.size w w8) := hide (((Below.refl _ _).alloc (Nat.le_refl _) _).trans ((HX4.out.trans (hb8.mono (by omega))).mono (Nat.le_succ _)))
  go_wp2
  go_ret
  exact ⟨ret_str (by rw [HT.out]; simp [sign]; omega), HF.out⟩

end Go.Proofs.YbulkgcsmDoor.lawS8969BWhole
