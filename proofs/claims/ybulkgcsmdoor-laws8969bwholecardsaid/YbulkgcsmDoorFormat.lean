/-
  THE WALKS of magnitude (7), internal/strconv.FormatUint at base 10 (12), strconv.FormatUint (6), strings.Repeat of one zero (8).
-/
import Derived.Test.YbulkgcsmDoorRows
import Derived.Test.YbulkgcsmDoorShelf
import Derived.Test.YbulkgcsmDoorModel
import Derived.Lib.ItoaMem
import Derived.WalkKit
import Derived.WalkSpells
namespace Go.Proofs.YbulkgcsmDoor.lawS8969BWhole
open Go.Shelf Go.RowKit Go.Sort Go.Lib

/-- The name of the table of powers of ten, off the given row. -/
def powName : String := ((Rows.lawS8969BWholeRow.laid[2]?).map (·.1)).getD ""
def Tab (w : World) : Prop := Lib.TabIs Ybad.prog w powName .u64 Lib.pow10Tab

theorem num_digits (u : Nat) (h1 : 1 ≤ u) (h2 : u < 18446744073709551616) (w : World) (htab : Tab w) :
    Calls Ybad.prog 19 #[.int .u64 u] w fun e w' => e = .returned (.int .i64 (Lib.nDigits u)) ∧ w' = w :=
  Any.internal_strconv_numDigits Ybad.laysM284 u h1 h2 w htab

theorem mag_pos (m : Nat) (w : World) (hm : m < 9223372036854775808) :
    Calls Ybad.prog 7 #[.int .i64 m] w fun e w' => e = .returned (.int .u64 m) ∧ w' = w := by
  go_enter Ybad.func7, Ybad.ntmps7
  go_wp2
  go_ret
  exact ⟨rfl, rfl⟩

theorem mag_neg (coef : Int) (m : Nat) (w : World) (hc : coef = -(m : Int)) (h1 : 1 ≤ m) (hm : m ≤ 9223372036854775808) :
    Calls Ybad.prog 7 #[.int .i64 coef] w fun e w' => e = .returned (.int .u64 m) ∧ w' = w := by
  have hwr : IntKind.u64.wrap (-IntKind.u64.wrap coef) = (m : Int) := by subst hc; rw [IntKind.wrap_u64, IntKind.wrap_u64]; omega
  have hneg : coef < 0 := by omega
  clear hc
  go_enter Ybad.func7, Ybad.ntmps7
  go_wp2
  go_ret
  exact ⟨rfl, rfl⟩

theorem holds_zero0 (w : World) (T : TypeId) (nd : Nat) (hs : nd ≤ 24) : Holds (fun (b : UInt8) => Value.int .u8 (b.toNat : Int)) (w.alloc (.cells zeros24 T)) w.heap.size 0 (Array.replicate nd (0 : UInt8)) := fun j hj => by
  have hj' : j < nd := by simpa using hj
  refine ⟨?_, World.frozen?_alloc_new _ _ _ _⟩
  rw [World.cell?_alloc_new, zeros24_at _ (by omega), getElem!_pos _ j hj]
  simp

theorem fin0 (w : World) (o : Obj) (dk : Array UInt8) (k : Nat) : Below w.heap.size w ((putRow (fun (b : UInt8) => Value.int .u8 (b.toNat : Int)) (w.alloc o) w.heap.size 0 dk).drewN k) := by
  rw [alloc_eq_grow]
  obtain ⟨os', _, e⟩ := putRow_grow_new (fun (b : UInt8) => Value.int .u8 (b.toNat : Int)) w #[o] w.heap.size 0 dk (Nat.le_refl _)
  rw [e]
  have hb : Below w.heap.size w (grow w os') := ⟨rfl, rfl, rfl, by simp, fun k hk => heap_grow_old w os' hk⟩
  exact below_drewN hb k

set_option maxHeartbeats 4000000 in
/-- internal/strconv.FormatUint at base 10. -/
theorem format_inner (u : Nat) (hu64 : u < 18446744073709551616) (w : World) (htab : Tab w) :
    Calls Ybad.prog 12 #[.int .u64 u, .int .i64 10] w fun e w' => e = .returned (.string ⟨(Lib.decDigits u).toArray⟩) ∧ Below w.heap.size w w' := by
  by_cases hs : u < 100
  · go_enter Ybad.func12, Ybad.ntmps12
    go_wp2_with (go_at_call 18; refine (Ybad.internal_strconv_small u hs _).mono ?_; rintro e w' ⟨rfl, rfl⟩)
    go_ret
    exact ⟨rfl, Below.refl _ _⟩
  · have hu1 : 1 ≤ u := by omega
    have hnd20 : Lib.nDigits u ≤ 20 := nDigits_20 u hu64
    have hal : Ybad.prog.arrayLen 48 = 24 := by kernel_rfl
    have hsl1 : ∀ W, (Instr.sliceAt 48 (.pointer (some ⟨w.heap.size, 0, none⟩)) none (some (.int .i64 (Lib.nDigits u : Int))) none).run Ybad.prog W = .ok (.slice (some ⟨w.heap.size, 0, none⟩) (Lib.nDigits u) 24) W := fun W => by
      rw [run_sliceAt_array_h W 48 ⟨w.heap.size, 0, none⟩ (by simp [Program.arrayLen, Program.elem, Ybad.underlying48]) .i64 (Lib.nDigits u : Int) (by omega) (by rw [hal]; omega)]
      go_simp
    have hH0 := holds_zero0 w 48 (Lib.nDigits u) (by omega)
    have hfmt := Ybad.internal_strconv_formatBase10 w.heap.size 0 24 u (Array.replicate (Lib.nDigits u) 0) (w.alloc (.cells Lib.zeros24 48)) hH0 (by rw [Array.size_replicate]; exact Lib.lt_pow_nDigits u) hu64 (by rw [Array.size_replicate]; omega)
    rw [Array.size_replicate] at hfmt
    have HH0 := Lib.hid hH0
    have HF := hide hfmt
    clear hH0 hal hfmt
    go_enter Ybad.func12, Ybad.ntmps12
    go_wp2_with (go_at_call 19; refine (num_digits u hu1 hu64 _ (Lib.tabIs_alloc htab _)).mono ?_; rintro e w' ⟨rfl, rfl⟩)
    refine HF.out.mono ?_
    rintro e w' ⟨rfl, k, v', dk, rfl, hF⟩
    have hal : Ybad.prog.arrayLen 48 = 24 := by kernel_rfl
    have hcv : (convert 32 9 (.slice (some ⟨w.heap.size, 0, none⟩) (Lib.nDigits u) 24)).run Ybad.prog ((putRow (fun (b : UInt8) => Value.int .u8 (b.toNat : Int)) (w.alloc (.cells Lib.zeros24 48)) w.heap.size 0 dk).drewN k) = .ok (.string ⟨(Lib.decDigits u).toArray⟩) ((putRow (fun (b : UInt8) => Value.int .u8 (b.toNat : Int)) (w.alloc (.cells Lib.zeros24 48)) w.heap.size 0 dk).drewN k) := by
      have h := run_convert_bytes_back (P := Ybad.prog) ((putRow (fun (b : UInt8) => Value.int .u8 (b.toNat : Int)) (w.alloc (.cells Lib.zeros24 48)) w.heap.size 0 dk).drewN k) 32 9 5 ⟨w.heap.size, 0, none⟩ 24 (Lib.decDigits u) Ybad.underlying32 Ybad.underlying5 Ybad.underlying9 (fun j hj => by
        rw [Lib.row_is_numeral hF j hj, Lib.add_plain, World.cell?_drewN]
        exact cell?_putRow (fun (b : UInt8) => Value.int .u8 (b.toNat : Int)) _ w.heap.size 0 _ dk HH0.out (by rw [hF.size, Array.size_replicate]) j (by rw [hF.size]; rw [Lib.decDigits_length] at hj; exact hj))
      rw [Lib.decDigits_length] at h
      exact h
    have HFF := hide hF
    clear hF hal
    go_wp2
    go_ret
    exact ⟨rfl, fin0 w _ dk k⟩

theorem format_any (u : Nat) (hu64 : u < 18446744073709551616) (w : World) (htab : Tab w) :
    Calls Ybad.prog 6 #[.int .u64 u, .int .i64 10] w fun e w' => e = .returned (.string ⟨(Lib.decDigits u).toArray⟩) ∧ Below w.heap.size w w' := by
  go_enter Ybad.func6, Ybad.ntmps6
  go_wp2_with fail
  refine (format_inner u hu64 _ htab).mono ?_
  rintro e w' ⟨rfl, hb⟩
  go_wp2
  go_ret
  exact ⟨rfl, hb⟩

theorem repeat_zero (c : Nat) : Lib.repeatL [48] c = List.replicate c 48 := by
  induction c with
  | zero => rfl
  | succ c ih => rw [Lib.repeatL, ih]; rfl

theorem rep_any (c : Nat) (w : World) (hc : c ≤ 100000) :
    Calls Ybad.prog 8 #[.string ⟨#[48]⟩, .int .i64 c] w fun e w' => e = .returned (.string ⟨(List.replicate c 48).toArray⟩) ∧ Below w.heap.size w w' := by
  have h := Ybad.strings_Repeat ⟨#[48]⟩ c w (by omega) (by show 1 * c ≤ _; omega)
  rw [show (⟨#[48]⟩ : ByteArray).data.toList = [48] from rfl, repeat_zero] at h
  exact h

/-- The table outlives whatever leaves the old blocks alone. -/
theorem Tab.below {w w' : World} (h : Tab w) (hb : Below w.heap.size w w') : Tab w' := by
  unfold Tab Lib.TabIs World.var? at *
  cases hg : Ybad.prog.globalNamed powName with
  | none => simp [hg] at h
  | some g =>
    simp only [hg, Option.bind_some] at h ⊢
    have hlt : g < w.heap.size := by
      rcases Nat.lt_or_ge g w.heap.size with h' | h'
      · exact h'
      · rw [Array.getElem?_eq_none h'] at h; simp at h
    rw [hb.block g hlt]
    exact h

end Go.Proofs.YbulkgcsmDoor.lawS8969BWhole
