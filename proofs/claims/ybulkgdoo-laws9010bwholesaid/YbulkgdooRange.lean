/-
  'for .. := range g { .. }' WHERE NO ROUND LEAVES: the iterator may itself be a loop over an iterator, and the body may turn blocks that lay ahead of the loop (a map). Stated at the wide fence.
-/
import Derived.RangeFuncNested
import Derived.RangeFuncBound
import Derived.RangeFuncCalls
import Derived.RangeFuncLeaves
import Derived.Below
namespace Go.Proofs.Ybulkgdoo.range
open Go Go.RowKit
set_option linter.unusedVariables false

/-- All that lay lies as it lay, but for the blocks of X. -/
structure Keeps (X : Nat → Prop) (W W' : World) : Prop where
  os : W'.os = W.os
  tape : W'.tape = W.tape
  output : W'.output = W.output
  size : W.heap.size ≤ W'.heap.size
  block : ∀ k, k < W.heap.size → ¬ X k → W'.heap[k]? = W.heap[k]?

theorem Keeps.refl (X : Nat → Prop) (W : World) : Keeps X W W := ⟨rfl, rfl, rfl, Nat.le_refl _, fun _ _ _ => rfl⟩
theorem Keeps.trans {X : Nat → Prop} {A B C : World} (h : Keeps X A B) (k : Keeps X B C) : Keeps X A C :=
  ⟨k.os.trans h.os, k.tape.trans h.tape, k.output.trans h.output, Nat.le_trans h.size k.size, fun i hi hx => (k.block i (Nat.lt_of_lt_of_le hi h.size) hx).trans (h.block i hi hx)⟩
theorem Keeps.mono {X Y : Nat → Prop} {A B : World} (h : Keeps X A B) (hXY : ∀ k, X k → Y k) : Keeps Y A B :=
  ⟨h.os, h.tape, h.output, h.size, fun i hi hx => h.block i hi (fun e => hx (hXY i e))⟩
theorem Keeps.below {X : Nat → Prop} {A B : World} {n : Nat} (h : Keeps X A B) (hn : n ≤ A.heap.size) (hX : ∀ k, X k → n ≤ k) : Below n A B :=
  ⟨h.os, h.tape, h.output, h.size, fun k hk => h.block k (by omega) (fun e => by have := hX k e; omega)⟩
theorem Keeps.of_below {A B : World} (h : Below A.heap.size A B) (X : Nat → Prop) : Keeps X A B := ⟨h.os, h.tape, h.output, h.size, fun k hk _ => h.block k hk⟩
theorem Keeps.grown {X : Nat → Prop} {A B : World} {r : Nat} (h : A.grownBy B (some r)) (hr : X r) : Keeps X A B :=
  ⟨h.os, h.tape, h.output, h.size, fun k hk hx => h.block k hk (fun e => hx (by cases e; exact hr))⟩
theorem Keeps.cell {X : Nat → Prop} {A B : World} (h : Keeps X A B) {p : Addr} (hp : p.block < A.heap.size) (hx : ¬ X p.block) : B.cell? p = A.cell? p := World.cell?_of_block (h.block _ hp hx)
theorem Keeps.frozen {X : Nat → Prop} {A B : World} (h : Keeps X A B) {p : Addr} (hp : p.block < A.heap.size) (hx : ¬ X p.block) : B.frozen? p = A.frozen? p := World.frozen?_of_block (h.block _ hp hx)
theorem below_put {n : Nat} (W : World) (l : Nat) (o : Obj) (h : n ≤ l) : Below n W (W.putObj l o) :=
  ⟨rfl, rfl, rfl, by simp, fun k hk => World.putObj_heap_other (by omega)⟩
theorem keeps_put {X : Nat → Prop} (W : World) (l : Nat) (o : Obj) (h : X l) : Keeps X W (W.putObj l o) := Keeps.grown (grownBy_putObj' W l o) h

/-- **WHAT AN ITERATOR PROMISES A BODY THAT NEVER LEAVES:** the m-th round is given the m-th of xs; between two rounds nothing that lay when it was called has turned by its own doing; a round keeps all but the blocks of X. -/
def IterAll {α : Type} (P : Program) (g : Nat) (lb : Array Value) (encs : α → Array Value) (xs : List α) (X : Nat → Prop) (l : Nat) (W : World) : Prop :=
  ∀ (J : Nat → World → Prop), (∀ m A B, J m A → Below W.heap.size A B → J m B) →
    (∀ m x A, J m A → xs[m]? = some x → YieldAt Fence.wide 0 P l (encs x) A fun e A' => e = .returned (.bool true) ∧ J (m + 1) A' ∧ Keeps X A A') →
    J 0 W → CallsIn Fence.wide 0 P g (#[.func (.yield l) #[] #[]] ++ lb) W fun e W' => (∃ v, e = .returned v) ∧ J xs.length W'

variable {P : Program}

/-- How a round of such a body is left. -/
def onPost (X : Nat → Prop) (I : Nat → World → Prop) (m : Nat) (W : World) : Exit → Act → World → Prop
  | .normal, _, W' => Keeps X W W' ∧ I m W'
  | _, _, _ => False

theorem wpIn_range_all {α : Type} {g : Operand} {ps : Array Tmp} {assign body : Code} {Q : Exit → Act → World → Prop} {a : Act} {w : World}
    {gf : Nat} {lb : Array Value} (hg : a.eval g = .func (.func gf) #[] lb) (eg : ∀ args w, (callFunc gf args).run P w = .ok (.enter gf args) w)
    {encs : α → Array Value} (hps : ∀ x, (encs x).size = ps.size) {xs : List α} {X : Nat → Prop} (hX : ∀ k, X k → k < w.heap.size)
    (hseq : ∀ W1, W1.heap.size = w.heap.size + 2 → Below w.heap.size w W1 → IterAll P gf lb encs xs (fun k => X k ∨ k = w.heap.size + 1) (w.heap.size + 1) W1)
    (I : Nat → World → Prop) (hI : ∀ m A B, I m A → Below w.heap.size A B → I m B) (h0 : I 0 w) (a₁ : α → Act)
    (hassign : ∀ (l : Nat) (x : α) (W : World) (K : Act → World → Prop), K (a₁ x) W →
      assign.wpIn (Fence.wide.inRound l) 0 P (Exit.then K (fun _ _ _ => False)) { tmps := (ps.zip (encs x)).foldl (fun t (p, v) => t.setIfInBounds p v) a.tmps, defers := [] } W)
    (hbody : ∀ (l m : Nat) (x : α) (W : World), I m W → w.heap.size + 2 ≤ W.heap.size → xs[m]? = some x → body.wpIn (Fence.wide.inRound l) 0 P (onPost X I (m + 1) W) (a₁ x) W)
    (hdone : ∀ (W : World), I xs.length W → W.heap[w.heap.size]? = some (.deferred (some [])) → Q .normal { a with defers := { target := .collected w.heap.size, args := #[] } :: a.defers } W) :
    (Code.rangeFunc g ps assign body).wpIn Fence.wide 0 P Q a w := by
  refine wpIn_rangeFunc ?_
  intro fn hfn
  obtain ⟨rec, hrec⟩ : ∃ rec : LoopState → Loop, rec = fun st => { state := st, pending := none, fn, tmps := a.tmps, params := ps, assign, body, defers := w.heap.size } := ⟨_, rfl⟩
  obtain ⟨W1, hW1⟩ : ∃ W1, (w.alloc (.deferred (some []))).alloc (.loop (rec .ready)) = W1 := ⟨_, rfl⟩
  have hs1 : W1.heap.size = w.heap.size + 2 := by rw [← hW1]; simp
  have hL1 : W1.heap[w.heap.size + 1]? = some (.loop (rec .ready)) := by
    rw [← hW1]; have := World.alloc_heap_new (w.alloc (.deferred (some []))) (.loop (rec .ready)); rwa [World.size_alloc] at this
  have hK1 : W1.heap[w.heap.size]? = some (.deferred (some [])) := by
    rw [← hW1]; exact (Below.heap_alloc _ _ _ (by simp)).trans (World.alloc_heap_new w _)
  have hb1 : Below w.heap.size w W1 := by
    rw [← hW1]; exact ((Below.refl _ w).alloc (Nat.le_refl _) _).alloc (by simp) _
  refine ⟨w.heap.size + 1, [{ target := .collected w.heap.size, args := #[] }], W1, { target := .fn (.func gf) lb, args := #[.func (.yield (w.heap.size + 1)) #[] #[]] }, W1, gf,
    #[.func (.yield (w.heap.size + 1)) #[] #[]] ++ lb, W1, ?_, ?_, fun _ _ => trivial, ?_, fun h => by simp [Fence.wide] at h, ?_⟩
  · rw [← hW1, hrec]; exact run_enterLoop_outer _ _ _ _ _
  · simp only [resolve, hg]
    simp [go_sem]
  · simp [invoke, go_sem, eg]
  · refine (hseq W1 hs1 hb1 (fun m W => I m W ∧ W.heap[w.heap.size + 1]? = some (.loop (rec .ready)) ∧ W.heap[w.heap.size]? = some (.deferred (some []))) ?_ ?_ ⟨hI _ _ _ h0 hb1, hL1, hK1⟩).mono ?_
    · rintro m A B ⟨hi, hl, hk⟩ hAB
      exact ⟨hI _ _ _ hi (hAB.mono (by omega)), (hAB.block _ (by omega)).trans hl, (hAB.block _ (by omega)).trans hk⟩
    · rintro m x W ⟨hi, hl, hk⟩ hx
      have hlt : w.heap.size + 1 < W.heap.size := (Array.getElem?_eq_some_iff.1 hl).1
      have hy := run_yield (P := P) (args := encs x) hl (by rw [hrec]; exact hps x)
      rw [hrec] at hy
      refine ⟨fn, _, assign, body, hy, roundIn_of_wpIn hfn (hassign _ x W _ ⟨_, run_beginRound hl (by rw [hrec]), ?_⟩)⟩
      have hl2 : (W.putObj (w.heap.size + 1) (.loop { rec .ready with state := .busy })).heap[w.heap.size + 1]? = some (.loop { rec .ready with state := .busy }) := World.putObj_heap_same hlt
      have hk2 : (W.putObj (w.heap.size + 1) (.loop { rec .ready with state := .busy })).heap[w.heap.size]? = some (.deferred (some [])) := (World.putObj_heap_other (by omega)).trans hk
      refine wpIn_mono (hbody _ m x _ (hI _ _ _ hi (below_put _ _ _ (by omega))) (by simp; omega) hx) ?_
      rintro e a3 W3 hp
      cases e with
      | normal =>
        obtain ⟨hk3, hi3⟩ := hp
        have hnX : ∀ k, w.heap.size ≤ k → ¬ X k := fun k hk hx => by have := hX k hx; omega
        have hl3 := (hk3.block (w.heap.size + 1) (by simp; omega) (hnX _ (by omega))).trans hl2
        have hd3 := (hk3.block w.heap.size (by simp; omega) (hnX _ (by omega))).trans hk2
        have hend := run_endRound (P := P) none hl3
        refine ⟨_, _, hend, rfl, ⟨hI _ _ _ hi3 (below_put _ _ _ (by omega)), ?_, (World.putObj_heap_other (by omega)).trans hd3⟩, ?_⟩
        · rw [World.putObj_heap_same (Array.getElem?_eq_some_iff.1 hl3).1, hrec]; rfl
        · exact ((keeps_put W _ _ (.inr rfl)).trans (hk3.mono fun k h => .inl h)).trans (keeps_put W3 _ _ (.inr rfl))
      | _ => exact hp.elim
    · rintro e W2 ⟨⟨v, rfl⟩, hi, hl, hk⟩
      exact ⟨none, _, by have := run_endLoop (P := P) hl (by rw [hrec]; simp); rw [hrec] at this; exact this, hdone _ (hI _ _ _ hi (below_put _ _ _ (by omega))) ((World.putObj_heap_other (by omega)).trans hk)⟩

end Go.Proofs.Ybulkgdoo.range
