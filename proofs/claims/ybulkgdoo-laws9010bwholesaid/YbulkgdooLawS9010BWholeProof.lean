/-
  PROOF OF 'Rows.LawS9010BWholeSaid': the frame after the guide's shell for slices, with the reach of each slice handed on.
-/
import Derived.Test.YbulkgdooRows
import Derived.Test.YbulkgdooLawB
import Derived.WalkKit
import Derived.ProofKit
import Derived.OpenShut
import Derived.ShutString
import Derived.ChangeOld
import Derived.Below
import Derived.SizedLaws
import Derived.Deep.SlicePairs
namespace Go.Proofs.Ybulkgdoo.lawS9010BWhole
open Go.ChangeShapes Go.WideShapes Go.ChangeAt Go.RowKit Go.Deep
open Go.Proofs.Ybulkgdoo.events
set_option linter.unusedVariables false

theorem own : ownKnob Yba.prog.godebug = none := by kernel_rfl
theorem laidOut : laidOutB Yba.prog = true := by kernel_rfl

/-! ### THE ROW's STEP -/
set_option maxRecDepth 100000 in
theorem lifted (os : Os) (started : os.Started) (H : Type) (enc : TypeId × Value → H) :
    ReturnsInHanded {} Yba.checked os 4 .any (Rows.lawS9010BWholeSpec.pre6 enc Yba.prog Yba.f4 Rows.lawS9010BWholeRow.domain false) (Rows.lawS9010BWholeSpec.post enc Yba.prog Yba.f4 false true false false) := by
  refine returnsInHanded_of_change_sized (C := Yba.checked) own started (by kernel_rfl) Yba.func4
    (ChangeSpec.witness6 (enc := enc) (C := Yba.checked) false ⟨#[], #[.slice none 0 0, .slice none 0 0], []⟩ 8 (by kernel_rfl) (by kernel_rfl) (by kernel_rfl) (by kernel_rfl)) ?_
  intro W base args ds gs before hval0 hW hcnd hsz _
  have hval : ∀ (j : Nat) t v, Yba.f4.params[j]? = some t → args[j]? = some v → Value.okWide Yba.prog W .any base t v := hval0
  have hW' := hW
  obtain ⟨p, q, hA0, hV, rfl, hfz, hnd⟩ := hW
  have hA : DataW.TrodAll enc Yba.prog W 0 (fun _ => true) true Yba.f4.params.toList args.toList ds p := hA0
  have hsz' : (DataW.weightsEach Yba.prog (Yba.f4.params.toList ++ Rows.lawS9010BWholeSpec.plain.varTypes Yba.prog) (ds ++ gs)).all (· ≤ reachBytes) = true := hsz
  rw [Yba.params4] at hA hval hsz'
  obtain ⟨v0, v1, d0, d1, p0, p1, rfl, rfl, rfl, h0, h1⟩ := trodAll_two hA
  obtain ⟨rfl, rfl⟩ := trodVars_none hV
  have hwt : (d1.weights Yba.prog 34).all (· ≤ reachBytes) = true := by
    simp only [List.cons_append, DataW.weightsEach, List.all_append, Bool.and_eq_true] at hsz'
    exact hsz'.2.1
  obtain ⟨a0, len0, cap0, rfl⟩ := okWide_slice Yba.underlying33 (hval 0 33 v0 rfl rfl)
  obtain ⟨a1, len1, cap1, rfl⟩ := okWide_slice Yba.underlying34 (hval 1 34 v1 rfl rfl)
  have k0 := h0
  have k1 := h1
  have lt0 : ∀ x ∈ p0, x.block < W.heap.size := by obtain ⟨m, hm⟩ := k0; exact DataW.trod_lt m _ _ _ hm
  have lt1 : ∀ x ∈ p1, x.block < W.heap.size := by obtain ⟨m, hm⟩ := k1; exact DataW.trod_lt m _ _ _ hm
  obtain ⟨S, hS⟩ : ∃ S, IsNames W a0 len0 S := by
    obtain ⟨fuel, hf⟩ := h0
    obtain ⟨a, n, c, S, e, hS⟩ := open_names (v := .slice a0 len0 cap0) (by simpa [Value.cells] using hf)
    cases e
    exact ⟨S, hS⟩
  obtain ⟨g, e2, e3, hgA, hgF, hgv⟩ : ∃ g : ArgD, len1 = g.nv ∧ cap1 = g.cv ∧ g.At W.heap.size W ∧ g.Fit ∧ (0 < g.nv → a1 = some ⟨g.bv, g.ov, none⟩) := by
    obtain ⟨fuel, hf⟩ := h1
    obtain ⟨g, a, e, hgA, hgF, hgv⟩ := open_evs (v := .slice a1 len1 cap1) (y := (d1, p1)) (by simpa [Value.cells] using hf) hwt
    cases e
    exact ⟨g, rfl, rfl, hgA, hgF, hgv⟩
  subst e2 e3
  clear hA0 hval0
  refine (f4_any hS hgA hgF hgv).mono fun e W' ⟨he, bel⟩ => ?_
  subst he
  exact ⟨_, rfl, _, _, _, [], _, [], hW', trodAll_mk1 (shut_bool Yba.underlying4 _), trodAll_mk2 (Below.trod laidOut (by kernel_rfl) (of_decide_eq_true (by kernel_rfl)) k0 bel lt0) (Below.trod laidOut (by kernel_rfl) (of_decide_eq_true (by kernel_rfl)) k1 bel lt1), rfl, bel.frame _, fun h => by cases h⟩

theorem over : Rows.lawS9010BWholeRow.holds Yba.pinned (OpenSpec.ofChange Rows.lawS9010BWholeSpec) :=
  OpenClaim.holds_of_wide 4 Yba.f4 rfl rfl rfl rfl rfl rfl rfl ⟨rfl, rfl, rfl, rfl, rfl⟩ rfl rfl rfl rfl rfl (by kernel_rfl) Yba.func4 (by kernel_rfl)
    (of_decide_eq_true (by kernel_rfl)) (by unfold Func.isWrapper; first | (rw [if_pos (by decide +kernel)]; kernel_rfl) | (rw [if_neg (by decide +kernel)]; exact ⟨rfl, rfl⟩))
    (fun os started H enc _ => lifted os started H enc)

/-- ████ THE STATEMENT ████ -/
theorem proved : Rows.LawS9010BWholeSaid := over
end Go.Proofs.Ybulkgdoo.lawS9010BWhole
