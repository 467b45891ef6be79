/-
  PROOF OF 'Rows.LawS8970AWholeSaid': the frame is the guide's own (its shell for this function); the plain law and the two walks ('digits_any', 'walk') are ours.
-/
import Derived.Test.YbulkgctaRows
import Derived.WalkKit
import Derived.ProofKit
import Derived.OpenShut
import Derived.ShutString
namespace Go.Proofs.Ybulkgcta.lawS8970AWhole
open Go.ChangeShapes Go.WideShapes Go.ChangeAt Go.RowKit
open Go.ChangeMaps (open_string shut_string)
set_option linter.unusedVariables false

theorem own : ownKnob Yba.prog.godebug = none := by kernel_rfl

/-! ### THE PLAIN LAW: the digits of a list of bytes -/
def isd (c : UInt8) : Bool := 48 ≤ c && c ≤ 57
def dig (l : List UInt8) : Nat := (l.filter isd).length
theorem isd_iff (c : UInt8) : isd c = decide (48 ≤ (c.toNat : Int) ∧ (c.toNat : Int) ≤ 57) := by
  unfold isd
  rw [Bool.eq_iff_iff]
  simp [UInt8.le_iff_toNat_le]
  omega
theorem dig_le (l : List UInt8) : dig l ≤ l.length := List.length_filter_le isd l
theorem drop_cons (s : ByteArray) (k : Nat) (h : k < s.size) : s.data.toList.drop k = s[k] :: s.data.toList.drop (k + 1) := by
  rw [List.drop_eq_getElem_cons (by simpa using h)]
  rfl
theorem dig_cons (c : UInt8) (l : List UInt8) : dig (c :: l) = dig l + if 48 ≤ (c.toNat : Int) ∧ (c.toNat : Int) ≤ 57 then 1 else 0 := by
  unfold dig
  by_cases h : 48 ≤ (c.toNat : Int) ∧ (c.toNat : Int) ≤ 57 <;> simp [isd_iff, h]
theorem dig_all (l : List UInt8) : (l.all isd == ((dig l : Int) == (l.length : Int))) = true := by
  have h := @List.length_filter_eq_length_iff _ isd l
  rw [beq_iff_eq, Bool.eq_iff_iff, List.all_eq_true, ← h, beq_iff_eq]
  unfold dig
  omega

/-- All bytes from the k-th on are digits. -/
def allD (s : ByteArray) (k : Nat) : Bool := (s.data.toList.drop k).all isd
theorem ret_bool {a b : Bool} (h : a = b) : Ending.returned (.bool a) = .returned (.bool b) := by rw [h]

/-! ### THE CALLEE: digits -/
set_option maxHeartbeats 400000 in
theorem digits_any (s : ByteArray) (w : World) (hs : s.size ≤ 1048576) :
    Calls Yba.prog 4 #[.string s] w fun e w' => e = .returned (.bool (allD s 0)) ∧ w' = w := by
  go_enter Yba.func4, Yba.ntmps4
  go_wp2
  go_loop [3] (fun i => ∃ k : Nat, k ≤ s.size ∧ i = .int .i64 k ∧ allD s k = allD s 0) (fun i => s.size - (intOf i).toNat)
  case atStart => exact ⟨0, Nat.zero_le _, rfl, rfl⟩
  case round =>
    obtain ⟨k, hk, rfl, hall⟩ := hrel
    have HA : Hid (allD s k = allD s 0) := hall
    clear hall
    by_cases hlt : k < s.size
    · have HC : Hid (allD s k = (isd s[k] && allD s (k + 1))) := by unfold allD; rw [Hid, drop_cons s k hlt]; rfl
      have HI : Hid (isd s[k] = decide (48 ≤ (s[k].toNat : Int) ∧ (s[k].toNat : Int) ≤ 57)) := isd_iff _
      by_cases hd : 48 ≤ (s[k].toNat : Int) ∧ (s[k].toNat : Int) ≤ 57
      · obtain ⟨h1, h2⟩ := hd
        go_wp2
        go_round
        case rel => exact ⟨k + 1, by omega, by go_num, by rw [← HA.out, HC.out, HI.out]; simp [h1, h2]⟩
        case measure => simp [intOf]; omega
      · by_cases h1 : 48 ≤ (s[k].toNat : Int)
        · have h2 : ¬ (s[k].toNat : Int) ≤ 57 := fun h => hd ⟨h1, h⟩
          clear hd
          go_wp2
          go_ret
          exact ⟨ret_bool (by rw [← HA.out, HC.out, HI.out, decide_eq_false (by omega)]; rfl), rfl⟩
        · clear hd
          go_wp2
          go_ret
          exact ⟨ret_bool (by rw [← HA.out, HC.out, HI.out, decide_eq_false (by omega)]; rfl), rfl⟩
    · go_wp2
      go_ret
      exact ⟨ret_bool (by rw [← HA.out]; unfold allD; rw [List.drop_of_length_le (by simp; omega)]; rfl), rfl⟩

/-! ### THE LAW -/
set_option maxHeartbeats 1000000 in
theorem walk (a0 : ByteArray) (w0 : a0.size ≤ maxLen) (w : World) :
    Calls Yba.prog 3 #[.string a0] w fun e w' => e = .returned (.bool true) ∧ Grown w w' := by
  unfold maxLen at w0
  by_cases hbig : 1048576 < a0.size
  · go_enter Yba.func3, Yba.ntmps3
    go_wp2
    go_ret
    exact ⟨rfl, Grown.refl _⟩
  · have hle : a0.size ≤ 1048576 := by omega
    go_enter Yba.func3, Yba.ntmps3
    go_wp2
    go_loop [3, 4] (fun n j => ∃ k : Nat, k ≤ a0.size ∧ j = .int .i64 ((k : Int) - 1) ∧ n = .int .i64 (dig (a0.data.toList.drop k))) (fun _ j => (intOf j + 1).toNat)
    case atStart => exact ⟨a0.size, Nat.le_refl _, rfl, by rw [List.drop_of_length_le (by simp)]; rfl⟩
    case round =>
      obtain ⟨k, hk, rfl, rfl⟩ := hrel
      have hd := dig_le (a0.data.toList.drop k)
      have hl : (a0.data.toList.drop k).length ≤ 1048576 := by simp; omega
      by_cases hlt : 0 < k
      · obtain ⟨m, rfl⟩ : ∃ m, k = m + 1 := ⟨k - 1, by omega⟩
        have hms : m < a0.size := by omega
        have HC : Hid (dig (a0.data.toList.drop m) = dig (a0.data.toList.drop (m + 1)) + if 48 ≤ (a0[m].toNat : Int) ∧ (a0[m].toNat : Int) ≤ 57 then 1 else 0) := by rw [drop_cons a0 m hms]; exact dig_cons _ _
        have hb : a0[m].toNat < 256 := a0[m].toNat_lt
        go_wp2
        · have hlow : ((a0[m].toNat : Int) - 48) % 256 < 10 := by assumption
          go_round
          case rel => exact ⟨m, by omega, rfl, by rw [HC.out, if_pos (by omega)]; go_num⟩
          case measure => simp [intOf]
        · have hhigh : 10 ≤ ((a0[m].toNat : Int) - 48) % 256 := by assumption
          go_round
          case rel => exact ⟨m, by omega, rfl, by rw [HC.out, if_neg (by omega)]; rfl⟩
          case measure => simp [intOf]
      · have hk0 : k = 0 := by omega
        subst hk0
        go_wp2_with (go_at_call 4; refine (digits_any _ _ hle).mono ?_; rintro e w' ⟨rfl, rfl⟩)
        go_ret
        exact ⟨ret_bool (by simpa [allD] using dig_all a0.data.toList), Grown.refl _⟩

/-! ### THE ROW's STEP: WRITTEN OUT: LEAVE IT -/
set_option maxRecDepth 100000 in
theorem lifted (os : Os) (started : os.Started) (H : Type) (enc : TypeId × Value → H) :
    ReturnsInHanded {} Yba.checked os 3 .any (Rows.lawS8970AWholeSpec.pre6 enc Yba.prog Yba.f3 Rows.lawS8970AWholeRow.domain false) (Rows.lawS8970AWholeSpec.post enc Yba.prog Yba.f3 false true false false) := by
  refine returnsInHanded_of_change (C := Yba.checked) own started (by kernel_rfl) Yba.func3
    (ChangeSpec.witness6 (enc := enc) (C := Yba.checked) false ⟨#[], #[.string ByteArray.empty], []⟩ 8 (by kernel_rfl) (by kernel_rfl) (by kernel_rfl) (by kernel_rfl)) ?_
  intro W base args ds gs before hval0 hW hcnd _
  have hval : ∀ (j : Nat) t v, Yba.f3.params[j]? = some t → args[j]? = some v → Value.okWide Yba.prog W .any base t v := hval0
  have hW' := hW
  obtain ⟨p, q, hA0, hV, rfl, hfz, hnd⟩ := hW
  have hA : DataW.TrodAll enc Yba.prog W 0 (fun _ => true) true Yba.f3.params.toList args.toList ds p := hA0
  rw [Yba.params3] at hA hval
  obtain ⟨v0, vs0, d0, ds0, p0, q0, hargs, rfl, rfl, h0, r0⟩ := trodAll_cons hA
  obtain ⟨rfl, rfl, rfl⟩ := trodAll_nil r0
  obtain rfl : args = #[v0] := by cases args; simp_all
  obtain ⟨rfl, rfl⟩ := trodVars_none hV
  obtain ⟨a0, rfl, rfl, rfl, w0⟩ := open_string Yba.underlying9 (hval 0 9 v0 rfl rfl) h0
  clear hA0 hval0
  simp only [List.append_nil] at hW'
  refine (walk a0 w0 W).mono fun e W' ⟨he, hg⟩ => ?_
  subst he
  exact ⟨_, rfl, post_of_same (pa := []) (pv := []) hW' (fun _ _ _ => (trodAll_cons_mk (shut_bool Yba.underlying4 _) trodAll_mk0)) (fun sp _ => (trodAll_cons_mk (shut_string Yba.underlying9 w0) trodAll_mk0)) (fun _ _ => rfl) rfl
    (hg.frame _) hg.2.1 (ok_one (by kernel_rfl) rfl (okWide_bool_mk Yba.underlying4 _))⟩

theorem over : Rows.lawS8970AWholeRow.holds Yba.pinned (OpenSpec.ofChange Rows.lawS8970AWholeSpec) :=
  OpenClaim.holds_of_wide 3 Yba.f3 rfl rfl rfl rfl rfl rfl rfl ⟨rfl, rfl, rfl, rfl, rfl⟩ rfl rfl rfl rfl rfl (by kernel_rfl) Yba.func3 (by kernel_rfl)
    (of_decide_eq_true (by kernel_rfl)) (by unfold Func.isWrapper; first | (rw [if_pos (by decide +kernel)]; kernel_rfl) | (rw [if_neg (by decide +kernel)]; exact ⟨rfl, rfl⟩))
    (fun os started H enc _ => lifted os started H enc)

/-- ████ THE STATEMENT ████ -/
theorem proved : Rows.LawS8970AWholeSaid :=
  over
end Go.Proofs.Ybulkgcta.lawS8970AWhole
