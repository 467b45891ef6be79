/-
  PROOF OF 'Rows.LawS9010CWholeSaid': the frame is the guide's own (its shell for this function); the walks are ours.
-/
import Derived.Test.YbulkgdooRows
import Derived.Test.YbulkgdooLawC
import Derived.WalkKit
import Derived.ProofKit
import Derived.OpenShut
import Derived.ShutString
import Derived.ChangeOld
import Derived.Below
namespace Go.Proofs.Ybulkgdoo.lawS9010CWhole
open Go.ChangeShapes Go.WideShapes Go.ChangeAt Go.RowKit
open Go.ChangeMaps (open_string shut_string)
set_option linter.unusedVariables false

theorem own : ownKnob Yba.prog.godebug = none := by kernel_rfl
theorem laidOut : laidOutB Yba.prog = true := by kernel_rfl

/-- WHAT THE WALK IS TOLD OF A SLICE OF INTEGERS THAT CAME IN: it is nil; or it leads to a row of 'cap' cells, the numbers 'zs' (the first 'len' are its elements, the rest its spare room), each fitting its kind. -/
def IsRow (k : IntKind) (w : World) (a : Option Addr) (len cap : Nat) (zs : List Int) : Prop :=
  (a = none ∧ len = 0 ∧ cap = 0 ∧ zs = []) ∨
  ∃ x, a = some x ∧ len ≤ cap ∧ cap ≤ maxLen ∧ zs.length = cap ∧ (∀ i, i < zs.length → w.cell? (x.add i) = some (.int k (zs.getD i 0))) ∧ ∀ n ∈ zs, (Lit.int k n).wf = true

theorem add_shape {x : Addr} {w : World} {v : Value} (h : w.cell? x = some v) : x = ⟨x.block, x.off, none⟩ := by
  obtain ⟨b, o, s⟩ := x
  cases s with
  | none => rfl
  | some s =>
    exfalso
    unfold World.cell? at h
    split at h
    · simp at h
    · cases h
theorem add_plain (b o j : Nat) : (⟨b, o, none⟩ : Addr).add j = ⟨b, o + j, none⟩ := by
  unfold Addr.add
  split
  · rename_i h; subst h; rfl
  · rfl
/-- A row that holds an element: where it lies, and its cells. -/
theorem row_at {k : IntKind} {w : World} {a : Option Addr} {len cap : Nat} {zs : List Int} (h : IsRow k w a len cap zs) (h0 : 0 < len) :
    ∃ b o, a = some ⟨b, o, none⟩ ∧ (∀ i, i < len → w.cell? ⟨b, o + i, none⟩ = some (.int k (zs.getD i 0))) ∧ (∀ i, i < len → (Lit.int k (zs.getD i 0)).wf = true) := by
  rcases h with ⟨_, rfl, _, _⟩ | ⟨x, rfl, hl, _, hz, hc, hw⟩
  · omega
  · have hx := add_shape (x := x) (by simpa [Addr.add] using hc 0 (by omega))
    refine ⟨x.block, x.off, by rw [← hx], fun i hi => ?_, fun i hi => ?_⟩
    · have := hc i (by omega)
      rw [hx, add_plain] at this
      exact this
    · rw [List.getD_eq_getElem?_getD, List.getElem?_eq_getElem (by omega)]
      exact hw _ (List.getElem_mem _)
theorem row_len {k : IntKind} {w : World} {a : Option Addr} {len cap : Nat} {zs : List Int} (h : IsRow k w a len cap zs) : len ≤ maxLen := by
  rcases h with ⟨_, rfl, _, _⟩ | ⟨x, _, hl, hm, _⟩
  · exact Nat.zero_le _
  · omega

theorem walk (a0 : Int) (a1 : Option Addr) (len1 cap1 : Nat) (z1 : List Int) (a2 : Option Addr) (len2 cap2 : Nat) (z2 : List Int) (a3 : Int) (w : World) (w0 : (Lit.int .i16 a0).wf = true) (w1 : IsRow .u8 w a1 len1 cap1 z1) (w2 : IsRow .u64 w a2 len2 cap2 z2) (w3 : (Lit.int .i16 a3).wf = true) :
    Calls Yba.prog 5 #[.int .i16 a0, .slice a1 len1 cap1, .slice a2 len2 cap2, .int .i16 a3] w fun e w' => e = .returned (.bool true) ∧ Below w.heap.size w w' := by
  have hb := bounds_i16 w0
  have hq := bounds_i16 w3
  by_cases hbig : 1048576 < len1
  · exact walk_big a0 a3 a1 len1 cap1 _ w (row_len w1) hbig
  · by_cases h1 : 0 < len1
    · obtain ⟨b1, o1, rfl, hc1, hw1⟩ := row_at w1 h1
      have hD : ∀ i, i < len1 → 0 ≤ z1.getD i 0 ∧ z1.getD i 0 ≤ 255 := fun i hi => ⟨(bounds_u8 (hw1 i hi)).1, (bounds_u8 (hw1 i hi)).2⟩
      by_cases h2 : 0 < len2
      · obtain ⟨b2, o2, rfl, hc2, _⟩ := row_at w2 h2
        have hm2 := row_len w2
        unfold maxLen at hm2
        exact law_core a0 a3 _ _ len1 (host a0 (fun i => z1.getD i 0)) (fun i => z2.getD (i % len2) 0) w hq.1 hq.2 (by omega) (host_rising _ _ _) _ cap1 rfl
          (build_ns a0 b1 o1 len1 cap1 b2 o2 len2 cap2 (fun i => z1.getD i 0) _ w hb.1 hb.2 (by omega) hc1 hD (fun i => z2.getD i 0) h2 (by omega) hc2 (fun i _ => rfl))
      · obtain rfl : len2 = 0 := by omega
        exact law_core a0 a3 _ _ len1 (host a0 (fun i => z1.getD i 0)) (fun i => (i : Int) + 1) w hq.1 hq.2 (by omega) (host_rising _ _ _) _ cap1 rfl
          (build_ns0 a0 b1 o1 len1 cap1 a2 cap2 (fun i => z1.getD i 0) _ w hb.1 hb.2 (by omega) hc1 hD (fun i _ => rfl))
    · obtain rfl : len1 = 0 := by omega
      exact law_core a0 a3 _ _ 0 (fun _ => 0) (fun _ => 0) w hq.1 hq.2 (by omega) (fun i j h1 h2 => by omega) _ cap1 rfl (build_empty a0 a1 cap1 _ _ _ w hb.1 hb.2)

/-! ### THE ROW's STEP: WRITTEN OUT: LEAVE IT -/
set_option maxRecDepth 100000 in
theorem lifted (os : Os) (started : os.Started) (H : Type) (enc : TypeId × Value → H) :
    ReturnsInHanded {} Yba.checked os 5 .any (Rows.lawS9010CWholeSpec.pre6 enc Yba.prog Yba.f5 Rows.lawS9010CWholeRow.domain false) (Rows.lawS9010CWholeSpec.post enc Yba.prog Yba.f5 false true false false) := by
  refine returnsInHanded_of_change (C := Yba.checked) own started (by kernel_rfl) Yba.func5
    (ChangeSpec.witness6 (enc := enc) (C := Yba.checked) false ⟨#[], #[.int .i16 0, .slice none 0 0, .slice none 0 0, .int .i16 0], []⟩ 8 (by kernel_rfl) (by kernel_rfl) (by kernel_rfl) (by kernel_rfl)) ?_
  intro W base args ds gs before hval0 hW hcnd _
  have hval : ∀ (j : Nat) t v, Yba.f5.params[j]? = some t → args[j]? = some v → Value.okWide Yba.prog W .any base t v := hval0
  have hW' := hW
  obtain ⟨p, q, hA0, hV, rfl, hfz, hnd⟩ := hW
  have hA : DataW.TrodAll enc Yba.prog W 0 (fun _ => true) true Yba.f5.params.toList args.toList ds p := hA0
  rw [Yba.params5] at hA hval
  obtain ⟨v0, vs0, d0, ds0, p0, q0, hargs, rfl, rfl, h0, r0⟩ := trodAll_cons hA
  obtain ⟨v1, vs1, d1, ds1, p1, q1, rfl, rfl, rfl, h1, r1⟩ := trodAll_cons r0
  obtain ⟨v2, vs2, d2, ds2, p2, q2, rfl, rfl, rfl, h2, r2⟩ := trodAll_cons r1
  obtain ⟨v3, vs3, d3, ds3, p3, q3, rfl, rfl, rfl, h3, r3⟩ := trodAll_cons r2
  obtain ⟨rfl, rfl, rfl⟩ := trodAll_nil r3
  obtain rfl : args = #[v0, v1, v2, v3] := by cases args; simp_all
  obtain ⟨rfl, rfl⟩ := trodVars_none hV
  obtain ⟨a0, rfl, rfl, rfl, w0⟩ := open_int Yba.underlying23 (hval 0 23 v0 rfl rfl) h0
  obtain ⟨a1, len1, cap1, rfl⟩ := okWide_slice Yba.underlying36 (hval 1 36 v1 rfl rfl)
  have k1 := h1
  have lt1 : ∀ x ∈ p1, x.block < W.heap.size := by obtain ⟨m, hm⟩ := k1; exact DataW.trod_lt m _ _ _ hm
  obtain ⟨z1, w1⟩ : ∃ zs, IsRow .u8 W a1 len1 cap1 zs := by
    obtain ⟨fuel, hf⟩ := h1
    rcases open_ints Yba.underlying36 Yba.underlying5 (by kernel_rfl) hf with ⟨hcs, _⟩ | ⟨x, l, c, zs, hcs, _, hl, hm, hz, _, hcell, hwz⟩
    · simp [Value.cells] at hcs
      obtain ⟨rfl, rfl, rfl⟩ := hcs
      exact ⟨[], .inl ⟨rfl, rfl, rfl, rfl⟩⟩
    · simp [Value.cells] at hcs
      obtain ⟨rfl, rfl, rfl⟩ := hcs
      exact ⟨zs, .inr ⟨_, rfl, hl, hm, by simpa using hz, hcell, hwz⟩⟩
  obtain ⟨a2, len2, cap2, rfl⟩ := okWide_slice Yba.underlying64 (hval 2 64 v2 rfl rfl)
  have k2 := h2
  have lt2 : ∀ x ∈ p2, x.block < W.heap.size := by obtain ⟨m, hm⟩ := k2; exact DataW.trod_lt m _ _ _ hm
  obtain ⟨z2, w2⟩ : ∃ zs, IsRow .u64 W a2 len2 cap2 zs := by
    obtain ⟨fuel, hf⟩ := h2
    rcases open_ints Yba.underlying64 Yba.underlying25 (by kernel_rfl) hf with ⟨hcs, _⟩ | ⟨x, l, c, zs, hcs, _, hl, hm, hz, _, hcell, hwz⟩
    · simp [Value.cells] at hcs
      obtain ⟨rfl, rfl, rfl⟩ := hcs
      exact ⟨[], .inl ⟨rfl, rfl, rfl, rfl⟩⟩
    · simp [Value.cells] at hcs
      obtain ⟨rfl, rfl, rfl⟩ := hcs
      exact ⟨zs, .inr ⟨_, rfl, hl, hm, by simpa using hz, hcell, hwz⟩⟩
  obtain ⟨a3, rfl, rfl, rfl, w3⟩ := open_int Yba.underlying23 (hval 3 23 v3 rfl rfl) h3
  clear hA0 hval0
  refine (walk a0 a1 len1 cap1 z1 a2 len2 cap2 z2 a3 W w0 w1 w2 w3).mono fun e W' ⟨he, bel⟩ => ?_
  subst he
  exact ⟨_, rfl, _, _, _, [], _, [], hW', trodAll_mk1 (shut_bool Yba.underlying4 _), (trodAll_cons_mk (shut_int Yba.underlying23 w0) (trodAll_cons_mk (Below.trod laidOut (by kernel_rfl) (of_decide_eq_true (by kernel_rfl)) k1 bel lt1) (trodAll_cons_mk (Below.trod laidOut (by kernel_rfl) (of_decide_eq_true (by kernel_rfl)) k2 bel lt2) (trodAll_cons_mk (shut_int Yba.underlying23 w3) trodAll_mk0)))), rfl, bel.frame _, fun h => by cases h⟩

theorem over : Rows.lawS9010CWholeRow.holds Yba.pinned (OpenSpec.ofChange Rows.lawS9010CWholeSpec) :=
  OpenClaim.holds_of_wide 5 Yba.f5 rfl rfl rfl rfl rfl rfl rfl ⟨rfl, rfl, rfl, rfl, rfl⟩ rfl rfl rfl rfl rfl (by kernel_rfl) Yba.func5 (by kernel_rfl)
    (of_decide_eq_true (by kernel_rfl)) (by unfold Func.isWrapper; first | (rw [if_pos (by decide +kernel)]; kernel_rfl) | (rw [if_neg (by decide +kernel)]; exact ⟨rfl, rfl⟩))
    (fun os started H enc _ => lifted os started H enc)

/-- ████ THE STATEMENT ████ -/
theorem proved : Rows.LawS9010CWholeSaid := over
end Go.Proofs.Ybulkgdoo.lawS9010CWhole
