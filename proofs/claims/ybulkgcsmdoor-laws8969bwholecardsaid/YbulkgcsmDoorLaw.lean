/-
  THE WALK of LawS8969BWhole itself, out of its callees' contracts.
-/
import Derived.Test.YbulkgcsmDoorString
import Derived.Test.YbulkgcsmDoorString0
namespace Go.Proofs.YbulkgcsmDoor.lawS8969BWhole
open Go.Shelf Go.RowKit Go.Sort Go.Lib

theorem str_any (coef : Int) (sc : Nat) (w : World) (h1 : -9223372036854775808 ≤ coef) (h2 : coef ≤ 9223372036854775807) (hsc : sc ≤ 65536) (htab : Tab w) :
    Calls Ybad.prog 4 #[.agg #[.int .i64 coef, .int .i64 sc]] w fun e w' => e = .returned (.string ⟨(text (decide (coef < 0)) coef.natAbs sc).toArray⟩) ∧ Below w.heap.size w w' := by
  by_cases hneg : coef < 0
  · rw [decide_eq_true hneg]
    have hc : coef = -((coef.natAbs : Nat) : Int) := by omega
    by_cases hp : nDigits coef.natAbs ≤ sc
    · exact str_neg_pad coef _ sc w hc (by omega) (by omega) hsc hp (by have := nDigits_pos coef.natAbs; omega) htab
    · by_cases hs : 0 < sc
      · exact str_neg_pt coef _ sc w hc (by omega) (by omega) hsc hp hs htab
      · exact str_neg_0 coef _ sc w hc (by omega) (by omega) hsc hp (by omega) htab
  · rw [decide_eq_false hneg]
    have hc : coef = ((coef.natAbs : Nat) : Int) := by omega
    by_cases hp : nDigits coef.natAbs ≤ sc
    · exact str_pos_pad coef _ sc w hc (by omega) hsc hp (by have := nDigits_pos coef.natAbs; omega) htab
    · by_cases hs : 0 < sc
      · exact str_pos_pt coef _ sc w hc (by omega) hsc hp hs htab
      · exact str_pos_0 coef _ sc w hc (by omega) hsc hp (by omega) htab

theorem model_any (coef : Int) (sc : Nat) (w : World) (h1 : -9223372036854775808 ≤ coef) (h2 : coef ≤ 9223372036854775807) (hsc : sc ≤ 65536) :
    Calls Ybad.prog 5 #[.int .i64 coef, .int .i64 sc] w fun e w' => e = .returned (.string ⟨(text (decide (coef < 0)) coef.natAbs sc).toArray⟩) ∧ Below w.heap.size w w' := by
  by_cases hneg : coef < 0
  · rw [decide_eq_true hneg]
    exact model_neg coef _ sc w (by omega) (by omega) (by omega) hsc
  · rw [decide_eq_false hneg]
    exact model_pos coef _ sc w (by omega) (by omega) (by omega) hsc

/-- The two calls give one string: under a name. -/
theorem str_name (coef : Int) (sc : Nat) : ∃ T : ByteArray, (⟨(text (decide (coef < 0)) coef.natAbs sc).toArray⟩ : ByteArray) = T := ⟨_, rfl⟩

theorem law_out (coef s : Int) (w : World) (h : s < 0 ∨ 65536 < s) :
    Calls Ybad.prog 3 #[.int .i64 coef, .int .i64 s] w fun e w' => e = .returned (.bool true) ∧ Below w.heap.size w w' := by
  rcases h with h | h
  · go_enter Ybad.func3, Ybad.ntmps3
    go_wp2
    go_ret
    exact ⟨rfl, Below.refl _ _⟩
  · go_enter Ybad.func3, Ybad.ntmps3
    go_wp2
    go_ret
    exact ⟨rfl, Below.refl _ _⟩

set_option maxHeartbeats 1000000 in
theorem law_in (coef : Int) (sc : Nat) (w : World) (h1 : -9223372036854775808 ≤ coef) (h2 : coef ≤ 9223372036854775807) (hsc : sc ≤ 65536) (htab : Tab w) :
    Calls Ybad.prog 3 #[.int .i64 coef, .int .i64 sc] w fun e w' => e = .returned (.bool true) ∧ Below w.heap.size w w' := by
  obtain ⟨T, hT⟩ := str_name coef sc
  have HS := hide (str_any coef sc (w.alloc (.cells #[.int .i64 coef, .int .i64 sc] 23)) h1 h2 hsc (Lib.tabIs_alloc htab _))
  have HM := hide (fun W => model_any coef sc W h1 h2 hsc)
  rw [hT] at HS HM
  clear hT htab
  go_enter Ybad.func3, Ybad.ntmps3
  go_wp2_with fail
  refine HS.out.mono ?_
  rintro e w1 ⟨rfl, hb1⟩
  have hbw : Below w.heap.size w w1 := ((Below.refl _ _).alloc (Nat.le_refl _) _).trans (hb1.mono (by simp))
  have hsz := hbw.size
  clear hb1
  go_wp2_with fail
  refine (HM.out _).mono ?_
  rintro e w2 ⟨rfl, hb2⟩
  go_wp2
  go_ret
  exact ⟨rfl, hbw.trans (hb2.mono hsz)⟩

theorem law (coef s : Int) (w : World) (h1 : -9223372036854775808 ≤ coef) (h2 : coef ≤ 9223372036854775807) (htab : Tab w) :
    Calls Ybad.prog 3 #[.int .i64 coef, .int .i64 s] w fun e w' => e = .returned (.bool true) ∧ Below w.heap.size w w' := by
  by_cases h : s < 0 ∨ 65536 < s
  · exact law_out coef s w h
  · obtain ⟨sc, rfl⟩ : ∃ sc : Nat, s = (sc : Int) := ⟨s.toNat, by omega⟩
    exact law_in coef sc w h1 h2 (by omega) htab

end Go.Proofs.YbulkgcsmDoor.lawS8969BWhole
