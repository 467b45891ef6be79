/-
  PROOF OF 'Rows.LawS9010AWholeSaid': the frame after the guide's shell for slices, the slice of structs opened by 'open_slice_pairs'.
-/
import Derived.Test.YbulkgdooRows
import Derived.Test.YbulkgdooLawA
import Derived.WalkKit
import Derived.ProofKit
import Derived.OpenShut
import Derived.ShutString
import Derived.ChangeOld
import Derived.Below
import Derived.Deep.SlicePairs
namespace Go.Proofs.Ybulkgdoo.lawS9010AWhole
open Go.ChangeShapes Go.WideShapes Go.ChangeAt Go.RowKit Go.Deep
open Go.ChangeMaps (open_string shut_string)
set_option linter.unusedVariables false

theorem own : ownKnob Yba.prog.godebug = none := by kernel_rfl
theorem laidOut : laidOutB Yba.prog = true := by kernel_rfl

/-- What the walk is told of the slice of entries that came in. -/
def IsEnts (w : World) (a : Option Addr) (len cap : Nat) (G N : Nat → Int) : Prop :=
  len ≤ maxLen ∧ (0 < len → ∃ b off, a = some ⟨b, off, none⟩ ∧ (∀ i, i < len → w.cell? ⟨b, off + i * 2, none⟩ = some (.int .u8 (G i)) ∧ w.cell? ⟨b, off + i * 2 + 1, none⟩ = some (.int .u64 (N i))) ∧ ∀ i, i < len → 0 ≤ G i ∧ G i ≤ 255)

theorem walk (base q : Int) (a : Option Addr) (len cap : Nat) (G N : Nat → Int) (w : World) (w0 : (Lit.int .i32 base).wf = true) (w1 : IsEnts w a len cap G N) (w2 : (Lit.int .i16 q).wf = true) :
    Calls Yba.prog 3 #[.int .i32 base, .slice a len cap, .int .i16 q] w fun e w' => e = .returned (.bool true) ∧ Below w.heap.size w w' := by
  have hb := bounds_i32 w0
  have hq := bounds_i16 w2
  by_cases hbig : 1048576 < len
  · exact walk_big base q a len cap w w1.1 hbig
  · by_cases h0 : 0 < len
    · obtain ⟨b, off, rfl, hc, hG⟩ := w1.2 h0
      exact walk_some base q b off len cap G N w hb.1 hb.2 hq.1 hq.2 (by omega) hc hG
    · obtain rfl : len = 0 := by omega
      exact walk_none base q a cap w hb.1 hb.2 hq.1 hq.2

theorem add_shape {x : Addr} {w : World} {v : Value} (h : w.cell? x = some v) : x = ⟨x.block, x.off, none⟩ := by
  obtain ⟨b, o, s⟩ := x
  cases s with
  | none => rfl
  | some s =>
    exfalso
    unfold World.cell? at h
    split at h
    · simp at h
    · cases h
theorem add_plain (b o j : Nat) : (⟨b, o, none⟩ : Addr).add j = ⟨b, o + j, none⟩ := by
  unfold Addr.add
  split
  · rename_i h; subst h; rfl
  · rfl

theorem open_ents {H : Type} {enc : TypeId × Value → H} {W : World} {a : Option Addr} {len cap : Nat} {y : DataW H × List MemPlace} {fuel : Nat}
    (hf : DataW.trod enc Yba.prog W 0 (fun _ => true) true fuel 22 (Value.slice a len cap).cells.toList = some y) : ∃ G N, IsEnts W a len cap G N := by
  rcases open_slice_pairs Yba.underlying22 Yba.underlying27 (by kernel_rfl) rfl rfl (by kernel_rfl) (by kernel_rfl) hf with ⟨hcs, _⟩ | ⟨x, l, c, m, n, V0, V1, D0, D1, P0, P1, hcs, _, hl, hm, hmm, _, hel⟩
  · simp [Value.cells] at hcs
    obtain ⟨rfl, rfl, rfl⟩ := hcs
    exact ⟨fun _ => 0, fun _ => 0, Nat.zero_le _, fun h => absurd h (by omega)⟩
  · simp [Value.cells] at hcs
    obtain ⟨rfl, rfl, rfl⟩ := hcs
    have hlm : len ≤ m := by rw [hmm]; simp; omega
    have e0 : ∀ i, i < m → ∃ k : Int, V0 i = .int .u8 k ∧ 0 ≤ k ∧ k ≤ 255 := fun i hi => by
      obtain ⟨_, _, h0, _⟩ := hel i hi
      obtain ⟨k, e1, _, wk⟩ := DataW.trod_int Yba.underlying5 h0
      simp at e1
      exact ⟨k, e1, (bounds_u8 wk).1, (bounds_u8 wk).2⟩
    have e1 : ∀ i, i < m → ∃ k : Int, V1 i = .int .u64 k := fun i hi => by
      obtain ⟨_, _, _, h1⟩ := hel i hi
      obtain ⟨k, e1, _, wk⟩ := DataW.trod_int Yba.underlying25 h1
      simp at e1
      exact ⟨k, e1⟩
    obtain ⟨G, hG⟩ := choose_lt e0
    obtain ⟨N, hN⟩ := choose_lt e1
    refine ⟨G, N, by omega, fun h0 => ?_⟩
    have hx := add_shape (x := x) (by simpa [Addr.add] using (hel 0 (by omega)).1)
    refine ⟨x.block, x.off, by rw [← hx], fun i hi => ?_, fun i hi => (hG i (by omega)).2⟩
    obtain ⟨c0, c1, _, _⟩ := hel i (by omega)
    rw [(hG i (by omega)).1] at c0
    rw [hN i (by omega)] at c1
    rw [hx] at c0 c1
    rw [add_plain] at c0 c1
    exact ⟨c0, by rw [Nat.add_assoc]; exact c1⟩

/-! ### THE ROW's STEP: WRITTEN OUT: LEAVE IT -/
set_option maxRecDepth 100000 in
theorem lifted (os : Os) (started : os.Started) (H : Type) (enc : TypeId × Value → H) :
    ReturnsInHanded {} Yba.checked os 3 .any (Rows.lawS9010AWholeSpec.pre6 enc Yba.prog Yba.f3 Rows.lawS9010AWholeRow.domain false) (Rows.lawS9010AWholeSpec.post enc Yba.prog Yba.f3 false true false false) := by
  refine returnsInHanded_of_change (C := Yba.checked) own started (by kernel_rfl) Yba.func3
    (ChangeSpec.witness6 (enc := enc) (C := Yba.checked) false ⟨#[], #[.int .i32 0, .slice none 0 0, .int .i16 0], []⟩ 8 (by kernel_rfl) (by kernel_rfl) (by kernel_rfl) (by kernel_rfl)) ?_
  intro W base args ds gs before hval0 hW hcnd _
  have hval : ∀ (j : Nat) t v, Yba.f3.params[j]? = some t → args[j]? = some v → Value.okWide Yba.prog W .any base t v := hval0
  have hW' := hW
  obtain ⟨p, q, hA0, hV, rfl, hfz, hnd⟩ := hW
  have hA : DataW.TrodAll enc Yba.prog W 0 (fun _ => true) true Yba.f3.params.toList args.toList ds p := hA0
  rw [Yba.params3] at hA hval
  obtain ⟨v0, v1, v2, d0, d1, d2, p0, p1, p2, rfl, rfl, rfl, h0, h1, h2⟩ := trodAll_three hA
  obtain ⟨rfl, rfl⟩ := trodVars_none hV
  obtain ⟨a0, rfl, rfl, rfl, w0⟩ := open_int Yba.underlying21 (hval 0 21 v0 rfl rfl) h0
  obtain ⟨a1, len1, cap1, rfl⟩ := okWide_slice Yba.underlying22 (hval 1 22 v1 rfl rfl)
  have k1 := h1
  have lt1 : ∀ x ∈ p1, x.block < W.heap.size := by obtain ⟨m, hm⟩ := k1; exact DataW.trod_lt m _ _ _ hm
  obtain ⟨G, N, w1⟩ : ∃ G N, IsEnts W a1 len1 cap1 G N := by
    obtain ⟨fuel, hf⟩ := h1
    exact open_ents hf
  obtain ⟨a2, rfl, rfl, rfl, w2⟩ := open_int Yba.underlying23 (hval 2 23 v2 rfl rfl) h2
  clear hA0 hval0
  refine (walk a0 a2 a1 len1 cap1 G N W w0 w1 w2).mono fun e W' ⟨he, bel⟩ => ?_
  subst he
  exact ⟨_, rfl, _, _, _, [], _, [], hW', trodAll_mk1 (shut_bool Yba.underlying4 _), trodAll_mk3 (shut_int Yba.underlying21 w0) (Below.trod laidOut (by kernel_rfl) (of_decide_eq_true (by kernel_rfl)) k1 bel lt1) (shut_int Yba.underlying23 w2), rfl, bel.frame _, fun h => by cases h⟩

theorem over : Rows.lawS9010AWholeRow.holds Yba.pinned (OpenSpec.ofChange Rows.lawS9010AWholeSpec) :=
  OpenClaim.holds_of_wide 3 Yba.f3 rfl rfl rfl rfl rfl rfl rfl ⟨rfl, rfl, rfl, rfl, rfl⟩ rfl rfl rfl rfl rfl (by kernel_rfl) Yba.func3 (by kernel_rfl)
    (of_decide_eq_true (by kernel_rfl)) (by unfold Func.isWrapper; first | (rw [if_pos (by decide +kernel)]; kernel_rfl) | (rw [if_neg (by decide +kernel)]; exact ⟨rfl, rfl⟩))
    (fun os started H enc _ => lifted os started H enc)

/-- ████ THE STATEMENT ████ -/
theorem proved : Rows.LawS9010AWholeSaid := over
end Go.Proofs.Ybulkgdoo.lawS9010AWhole
