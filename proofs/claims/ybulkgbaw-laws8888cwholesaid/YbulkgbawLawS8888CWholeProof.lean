/-
  PROOF OF 'Rows.LawS8888CWholeSaid': the frame is the guide's own (its shell for this function); the two walks ('de_any', 'walk') are ours.
-/
import Derived.Test.YbulkgbawRows
import Derived.WalkKit
import Derived.ProofKit
import Derived.OpenShut
import Derived.ShutString
namespace Go.Proofs.Ybulkgbaw.lawS8888CWhole
open Go.ChangeShapes Go.WideShapes Go.ChangeAt Go.RowKit
open Go.ChangeMaps (open_string shut_string)
set_option linter.unusedVariables false

theorem own : ownKnob Yba.prog.godebug = none := by kernel_rfl

/-! ### THE CALLEE: digitsEnd -/
set_option maxHeartbeats 400000 in
theorem de_any (s : ByteArray) (n : Nat) (w : World) (hs : s.size ≤ 1048576) (hn : n ≤ 9223372036854775807) :
    Calls Yba.prog 4 #[.string s, .int .i64 n] w fun e w' => ∃ r : Nat, e = .returned (.int .i64 r) ∧ w' = w ∧ n ≤ r ∧ (s.size ≤ n → r = n) ∧ (n < s.size → r ≤ s.size) ∧
      (∀ k (hk : k < s.size), n ≤ k → k < r → 48 ≤ (s[k].toNat : Int) ∧ (s[k].toNat : Int) ≤ 57) ∧ (∀ hr : r < s.size, (48 ≤ (s[r].toNat : Int) ∧ (s[r].toNat : Int) ≤ 57) → False) := by
  go_enter Yba.func4, Yba.ntmps4
  go_wp2
  go_loop [1] (fun i => ∃ r : Nat, i = .int .i64 r ∧ n ≤ r ∧ (s.size ≤ n → r = n) ∧ (n < s.size → r ≤ s.size) ∧
      (∀ k (hk : k < s.size), n ≤ k → k < r → 48 ≤ (s[k].toNat : Int) ∧ (s[k].toNat : Int) ≤ 57)) (fun i => s.size - (intOf i).toNat)
  case atStart => exact ⟨n, rfl, by omega, fun _ => rfl, by omega, by omega⟩
  case round =>
    obtain ⟨r, rfl, h1, h2, h3, h4⟩ := hrel
    have H2 : Hid (s.size ≤ n → r = n) := h2
    have H4 : Hid (∀ k (hk : k < s.size), n ≤ k → k < r → 48 ≤ (s[k].toNat : Int) ∧ (s[k].toNat : Int) ≤ 57) := h4
    clear h2 h4
    by_cases hlt : r < s.size
    · by_cases hc : 48 ≤ (s[r].toNat : Int)
      · by_cases hd : (s[r].toNat : Int) ≤ 57
        · go_wp2
          go_round
          case rel =>
            refine ⟨r + 1, by go_num, by omega, ?_, by omega, ?_⟩
            · intro hh; have := H2.out hh; omega
            · intro k hk hk1 hk2
              by_cases e : k = r
              · subst e; exact ⟨hc, hd⟩
              · exact H4.out k hk hk1 (by omega)
          case measure => simp [intOf]; omega
        · go_wp2
          go_ret
          exact ⟨r, rfl, rfl, h1, H2.out, h3, H4.out, fun _ h => by omega⟩
      · go_wp2
        go_ret
        exact ⟨r, rfl, rfl, h1, H2.out, h3, H4.out, fun _ h => by omega⟩
    · go_wp2
      go_ret
      exact ⟨r, rfl, rfl, h1, H2.out, h3, H4.out, fun h => absurd h hlt⟩

/-! ### THE LAW -/
set_option maxHeartbeats 1000000 in
theorem walk (a0 : ByteArray) (a1 : Int) (w0 : a0.size ≤ maxLen) (w1 : (Lit.int .i64 a1).wf = true) (w : World) :
    Calls Yba.prog 3 #[.string a0, .int .i64 a1] w fun e w' => e = .returned (.bool true) ∧ Grown w w' := by
  unfold maxLen at w0
  have hb := bounds_i64 w1
  clear w1
  by_cases hbig : 1048576 < a0.size
  · go_enter Yba.func3, Yba.ntmps3
    go_wp2
    go_ret
    exact ⟨rfl, Grown.refl _⟩
  · by_cases hneg : a1 < 0
    · obtain ⟨n, hn⟩ : ∃ n : Nat, -(a1 + 1) = (n : Int) := ⟨(-(a1 + 1)).toNat, by omega⟩
      go_enter Yba.func3, Yba.ntmps3
      have hnb : (n : Int) ≤ 9223372036854775807 := by omega
      have HN : Hid (-(a1 + 1) = (n : Int)) := hn
      clear hn
      go_wp2_with fail
      rw [HN.out]
      refine (de_any _ _ _ (by omega) (by omega)).mono ?_
      rintro e w' ⟨r, rfl, rfl, h1, h2, h3, h4, h5⟩
      have H2 : Hid (a0.size ≤ n → r = n) := h2
      have H4 : Hid (∀ k (hk : k < a0.size), n ≤ k → k < r → 48 ≤ (a0[k].toNat : Int) ∧ (a0[k].toNat : Int) ≤ 57) := h4
      have H5 : Hid (∀ hr : r < a0.size, (48 ≤ (a0[r].toNat : Int) ∧ (a0[r].toNat : Int) ≤ 57) → False) := h5
      clear h2 h4 h5
      by_cases hge : a0.size ≤ n
      · have := H2.out hge
        subst this
        go_wp2
        go_ret
        exact ⟨rfl, Grown.refl _⟩
      · have h3' := h3 (by omega)
        clear h3
        have hn1 : ¬ r < n := by omega
        have hn2 : ¬ a0.size < r := by omega
        go_wp2
        go_loop [6] (fun i => ∃ k : Nat, i = .int .i64 k ∧ n ≤ k ∧ k ≤ r) (fun i => r - (intOf i).toNat)
        case atStart => exact ⟨n, rfl, by omega, by omega⟩
        case round =>
          obtain ⟨k, rfl, hk1, hk2⟩ := hrel
          by_cases hlt : k < r
          · have hd := H4.out k (by omega) hk1 hlt
            go_wp2
            go_round
            case rel => exact ⟨k + 1, by go_num, by omega, by omega⟩
            case measure => simp [intOf]; omega
          · by_cases hlr : r < a0.size
            · have h5' := H5.out hlr
              by_cases hc : 48 ≤ (a0[r].toNat : Int)
              · have hd : ¬ (a0[r].toNat : Int) ≤ 57 := fun hd => h5' ⟨hc, hd⟩
                clear h5'
                go_wp2
                go_ret
                exact ⟨rfl, Grown.refl _⟩
              · clear h5'
                go_wp2
                go_ret
                exact ⟨rfl, Grown.refl _⟩
            · go_wp2
              go_ret
              exact ⟨rfl, Grown.refl _⟩
    · obtain ⟨n, rfl⟩ : ∃ n : Nat, a1 = (n : Int) := ⟨a1.toNat, by omega⟩
      go_enter Yba.func3, Yba.ntmps3
      go_wp2_with fail
      refine (de_any _ _ _ (by omega) (by omega)).mono ?_
      rintro e w' ⟨r, rfl, rfl, h1, h2, h3, h4, h5⟩
      have H2 : Hid (a0.size ≤ n → r = n) := h2
      have H4 : Hid (∀ k (hk : k < a0.size), n ≤ k → k < r → 48 ≤ (a0[k].toNat : Int) ∧ (a0[k].toNat : Int) ≤ 57) := h4
      have H5 : Hid (∀ hr : r < a0.size, (48 ≤ (a0[r].toNat : Int) ∧ (a0[r].toNat : Int) ≤ 57) → False) := h5
      clear h2 h4 h5
      by_cases hge : a0.size ≤ n
      · have := H2.out hge
        subst this
        go_wp2
        go_ret
        exact ⟨rfl, Grown.refl _⟩
      · have h3' := h3 (by omega)
        clear h3
        have hn1 : ¬ r < n := by omega
        have hn2 : ¬ a0.size < r := by omega
        go_wp2
        go_loop [6] (fun i => ∃ k : Nat, i = .int .i64 k ∧ n ≤ k ∧ k ≤ r) (fun i => r - (intOf i).toNat)
        case atStart => exact ⟨n, rfl, by omega, by omega⟩
        case round =>
          obtain ⟨k, rfl, hk1, hk2⟩ := hrel
          by_cases hlt : k < r
          · have hd := H4.out k (by omega) hk1 hlt
            go_wp2
            go_round
            case rel => exact ⟨k + 1, by go_num, by omega, by omega⟩
            case measure => simp [intOf]; omega
          · by_cases hlr : r < a0.size
            · have h5' := H5.out hlr
              by_cases hc : 48 ≤ (a0[r].toNat : Int)
              · have hd : ¬ (a0[r].toNat : Int) ≤ 57 := fun hd => h5' ⟨hc, hd⟩
                clear h5'
                go_wp2
                go_ret
                exact ⟨rfl, Grown.refl _⟩
              · clear h5'
                go_wp2
                go_ret
                exact ⟨rfl, Grown.refl _⟩
            · go_wp2
              go_ret
              exact ⟨rfl, Grown.refl _⟩

/-! ### THE ROW's STEP: WRITTEN OUT: LEAVE IT -/
set_option maxRecDepth 100000 in
theorem lifted (os : Os) (started : os.Started) (H : Type) (enc : TypeId × Value → H) :
    ReturnsInHanded {} Yba.checked os 3 .any (Rows.lawS8888CWholeSpec.pre6 enc Yba.prog Yba.f3 Rows.lawS8888CWholeRow.domain false) (Rows.lawS8888CWholeSpec.post enc Yba.prog Yba.f3 false true false false) := by
  refine returnsInHanded_of_change (C := Yba.checked) own started (by kernel_rfl) Yba.func3
    (ChangeSpec.witness6 (enc := enc) (C := Yba.checked) false ⟨#[], #[.string ByteArray.empty, .int .i64 0], []⟩ 8 (by kernel_rfl) (by kernel_rfl) (by kernel_rfl) (by kernel_rfl)) ?_
  intro W base args ds gs before hval0 hW hcnd _
  have hval : ∀ (j : Nat) t v, Yba.f3.params[j]? = some t → args[j]? = some v → Value.okWide Yba.prog W .any base t v := hval0
  have hW' := hW
  obtain ⟨p, q, hA0, hV, rfl, hfz, hnd⟩ := hW
  have hA : DataW.TrodAll enc Yba.prog W 0 (fun _ => true) true Yba.f3.params.toList args.toList ds p := hA0
  rw [Yba.params3] at hA hval
  obtain ⟨v0, vs0, d0, ds0, p0, q0, hargs, rfl, rfl, h0, r0⟩ := trodAll_cons hA
  obtain ⟨v1, vs1, d1, ds1, p1, q1, rfl, rfl, rfl, h1, r1⟩ := trodAll_cons r0
  obtain ⟨rfl, rfl, rfl⟩ := trodAll_nil r1
  obtain rfl : args = #[v0, v1] := by cases args; simp_all
  obtain ⟨rfl, rfl⟩ := trodVars_none hV
  obtain ⟨a0, rfl, rfl, rfl, w0⟩ := open_string Yba.underlying9 (hval 0 9 v0 rfl rfl) h0
  obtain ⟨a1, rfl, rfl, rfl, w1⟩ := open_int Yba.underlying3 (hval 1 3 v1 rfl rfl) h1
  clear hA0 hval0
  simp only [List.append_nil] at hW'
  refine (walk a0 a1 w0 w1 W).mono fun e W' ⟨he, hg⟩ => ?_
  subst he
  exact ⟨_, rfl, post_of_same (pa := []) (pv := []) hW' (fun _ _ _ => (trodAll_cons_mk (shut_bool Yba.underlying4 _) trodAll_mk0)) (fun sp _ => (trodAll_cons_mk (shut_string Yba.underlying9 w0) (trodAll_cons_mk (shut_int Yba.underlying3 w1) trodAll_mk0))) (fun _ _ => rfl) rfl
    (hg.frame _) hg.2.1 (ok_one (by kernel_rfl) rfl (okWide_bool_mk Yba.underlying4 _))⟩

theorem over : Rows.lawS8888CWholeRow.holds Yba.pinned (OpenSpec.ofChange Rows.lawS8888CWholeSpec) :=
  OpenClaim.holds_of_wide 3 Yba.f3 rfl rfl rfl rfl rfl rfl rfl ⟨rfl, rfl, rfl, rfl, rfl⟩ rfl rfl rfl rfl rfl (by kernel_rfl) Yba.func3 (by kernel_rfl)
    (of_decide_eq_true (by kernel_rfl)) (by unfold Func.isWrapper; first | (rw [if_pos (by decide +kernel)]; kernel_rfl) | (rw [if_neg (by decide +kernel)]; exact ⟨rfl, rfl⟩))
    (fun os started H enc _ => lifted os started H enc)

/-- ████ THE STATEMENT ████ -/
theorem proved : Rows.LawS8888CWholeSaid :=
  over
end Go.Proofs.Ybulkgbaw.lawS8888CWhole
