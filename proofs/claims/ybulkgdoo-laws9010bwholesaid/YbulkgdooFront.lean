/-
  A REGION THAT DRAWS ITS ORDER, WHOSE READING PART IS WAITED FOR BY THE REST (a call of yield at the end; a store at the end): the reading part is walked once, the rest one operation at a time. Outside a fence and inside one.
-/
import Derived.Deep.Quiet
import Derived.Sort.QuietThIn
import Derived.Tactics
import Derived.TacticsIn
namespace Go.Proofs.Ybulkgdoo.front
open Go
set_option linter.unusedSimpArgs false
set_option linter.unusedVariables false

/-- Some other operation of L waits for i. -/
def awaited (md : Region.Mode) (ops : Array Oper) (L : Array Bool) (i : Nat) : Bool :=
  (List.range ops.size).any fun j => j != i && L.getD j false && (match ops[j]? with | some o => o.after.any fun e => Region.binds md e && e.on == i | none => false)

/-- Whatever is listed has had listed ahead of it all that it waits for. -/
def Closed (md : Region.Mode) (ops : Array Oper) (listed : Array Bool) : Prop :=
  ∀ j o, ops[j]? = some o → listed.getD j false = true → ∀ e ∈ o.after, Region.binds md e = true → listed.getD e.on false = true

theorem Closed.none (md : Region.Mode) (ops : Array Oper) (n : Nat) : Closed md ops (Array.replicate n false) := by
  intro j o _ h
  simp [Array.getElem?_replicate] at h
  split at h <;> simp_all

theorem getD_set_true {listed : Array Bool} {i j : Nat} (h : listed.getD j false = true) : (listed.setIfInBounds i true).getD j false = true := by
  by_cases e : i = j
  · subst e
    rcases Nat.lt_or_ge i listed.size with h' | h'
    · simp [h']
    · simp [Array.getElem?_eq_none h'] at h
  · simp only [Array.getD_eq_getD_getElem?] at h ⊢
    rw [Array.getElem?_setIfInBounds_ne e]; exact h

theorem Closed.step {md : Region.Mode} {ops : Array Oper} {listed : Array Bool} {i : Nat} (h : Closed md ops listed) (hi : i ∈ Region.ready md ops listed) : Closed md ops (listed.setIfInBounds i true) := by
  intro j o hj hl e he hb
  by_cases e' : i = j
  · subst e'
    obtain ⟨_, o', ho', hall⟩ := mem_ready.1 hi
    rw [hj] at ho'; cases ho'
    exact getD_set_true (hall e he hb)
  · refine getD_set_true (h j o hj ?_ e he hb)
    simp only [Array.getD_eq_getD_getElem?] at hl ⊢
    rw [Array.getElem?_setIfInBounds_ne e'] at hl; exact hl

theorem awaited_absurd {md : Region.Mode} {ops : Array Oper} {L listed : Array Bool} {i : Nat} (h : awaited md ops L i = true) (e : L.setIfInBounds i false = listed) (hc : Closed md ops listed) (hl : listed.getD i true = false) : False := by
  simp only [awaited, List.any_eq_true, Bool.and_eq_true, bne_iff_ne] at h
  obtain ⟨j, _, ⟨hj, hL⟩, hm⟩ := h
  cases ho : ops[j]? with
  | none => simp [ho] at hm
  | some o =>
    simp only [ho, Array.any_eq_true', Bool.and_eq_true, beq_iff_eq] at hm
    obtain ⟨x, hx, hb, hon⟩ := hm
    have h1 : listed.getD j false = true := by
      subst e
      simp only [Array.getD_eq_getD_getElem?] at hL ⊢
      rw [Array.getElem?_setIfInBounds_ne (Ne.symm hj)]; exact hL
    have h2 := hc j o ho h1 x hx hb
    rw [hon] at h2
    rcases Nat.lt_or_ge i listed.size with h' | h'
    · simp [h'] at hl h2; rw [hl] at h2; cases h2
    · simp [Array.getElem?_eq_none h'] at hl

/-- From 'listed' on: s operations, k the next, each ready and free, each the only one that is ready where it alone is missing from L; at the end L is listed. -/
def frontFrom (md : Region.Mode) (ops : Array Oper) (L : Array Bool) : Nat → Nat → Array Bool → Bool
  | 0, _, listed => listed == L
  | s + 1, k, listed => (Region.ready md ops listed).contains k && Region.free md ops listed k && ((Region.ready md ops (L.setIfInBounds k false) == [k]) || awaited md ops L k) && frontFrom md ops L s (k + 1) (listed.setIfInBounds k true)

/-- From 'listed' on: s operations, one at a time. -/
def chainFrom (md : Region.Mode) (ops : Array Oper) : Nat → Nat → Array Bool → Bool
  | 0, _, listed => Region.ready md ops listed == []
  | s + 1, k, listed => (Region.ready md ops listed == [k]) && chainFrom md ops s (k + 1) (listed.setIfInBounds k true)

def frontL (l : List Oper) (p : Nat) : Array Bool := (List.replicate p true ++ List.replicate (l.length - p) false).toArray

def frontB (l : List Oper) (p : Nat) : Bool :=
  decide (p ≤ l.length) && Region.noSelect l.toArray && frontFrom .any l.toArray (frontL l p) p 0 (Array.replicate l.length false) && chainFrom .any l.toArray (l.drop p).length p (frontL l p)

section
variable {P : Program} {ops : Array Oper} {md : Region.Mode} {C : World → Prop}

/-- So many operations come up, in whatever order, each of them quiet in the set C; then E, with just L listed. -/
def mixQ (P : Program) (md : Region.Mode) (ops : Array Oper) (C : World → Prop) (L : Array Bool) (E : Act → Prop) : Nat → Array Bool → Act → Prop
  | 0, listed, a => listed = L ∧ E a
  | s + 1, listed, a => Region.ready md ops listed ≠ [] ∧ ∀ i ∈ Region.ready md ops listed, qOp P ops C i (mixQ P md ops C L E s (listed.setIfInBounds i true)) a

theorem mixQ_any {L : Array Bool} {E : Act → Prop} {Q' : Exit → Act → World → Prop} {f : Nat} (hE : ∀ a w, C w → E a → wpAny P md ops Q' f L a w) :
    ∀ (s : Nat) (listed : Array Bool) (a : Act) (w : World), C w → mixQ P md ops C L E s listed a → wpAny P md ops Q' (s + f) listed a w
  | 0, _, _, _, hw, h => by obtain ⟨rfl, h⟩ := h; simpa using hE _ _ hw h
  | s + 1, _, _, _, hw, h => by
    rw [Nat.add_right_comm]
    exact ⟨fun h0 => absurd h0 h.1, fun i hi => wpOp_of_qOp hw (fun a' w' hw' => mixQ_any hE s _ a' w' hw') (h.2 i hi)⟩

theorem mixQ_first {L : Array Bool} {E : Act → Prop} {i : Nat} {oi : Oper} {v : Value} (hi : ops[i]? = some oi) (hsel : ∀ (j : Nat) (o : Oper) cs b, ops[j]? = some o → o.op ≠ .select cs b)
    (hlast : Region.ready md ops (L.setIfInBounds i false) = [i] ∨ awaited md ops L i = true) :
    ∀ (s : Nat) (listed : Array Bool) (a : Act), Closed md ops listed →
      (∀ j oj, ops[j]? = some oj → j ≠ i → listed.getD j true = false → (∀ e ∈ oj.after, Region.binds md e = true → e.on ≠ i) → oi.apart ops oj = true) →
      i ∈ Region.ready md ops listed → YieldsIn P ops C oi v a →
      mixQ P md ops C L E s (listed.setIfInBounds i true) (a.put oi.dst v) → mixQ P md ops C L E (s + 1) listed a := by
  intro s
  induction s with
  | zero =>
    intro listed a hcl _ hr hy H
    refine ⟨fun h => (by rw [h] at hr; cases hr), fun j hj => ?_⟩
    have hl : listed.getD i true = false := (mem_ready.1 hr).1
    have e : L.setIfInBounds i false = listed := by
      rw [← H.1, Array.setIfInBounds_setIfInBounds]
      apply Array.ext_getElem?
      intro k
      by_cases hk : i = k
      · subst hk
        rcases Nat.lt_or_ge i listed.size with h' | h'
        · simp [h'] at hl ⊢; exact hl
        · simp [Array.getElem?_eq_none h'] at hl
      · rw [Array.getElem?_setIfInBounds_ne hk]
    rcases hlast with hlast | haw
    · rw [← e, hlast] at hj
      obtain rfl : j = i := by simpa using hj
      exact hy.qOp hi H
    · exact (awaited_absurd haw e hcl hl).elim
  | succ s ih =>
    intro listed a hcl hfree hr hy H
    refine ⟨fun h => (by rw [h] at hr; cases hr), fun j hj => ?_⟩
    by_cases hji : j = i
    · subst hji; exact hy.qOp hi H
    · have h1 := H.2 j (ready_mono hj hji)
      obtain ⟨hjun, oj, hoj, hall⟩ := mem_ready.1 hj
      have hnot : ∀ e ∈ oj.after, Region.binds md e = true → e.on ≠ i := fun e he hb heq => by
        have h1 := hall e he hb
        have h0 := (mem_ready.1 hr).1
        rw [heq] at h1
        rcases Nat.lt_or_ge i listed.size with h' | h'
        · simp [h'] at h0 h1; rw [h0] at h1; cases h1
        · simp [Array.getElem?_eq_none h'] at h1
      have h2 := qOp_put hoj (hfree j oj hoj hji hjun hnot) (fun cs b => hsel i oi cs b hi) (fun cs b => hsel j oj cs b hoj) hy h1
      refine qOp_mono (fun a' h3 => ih (listed.setIfInBounds j true) a' (hcl.step hj) (fun k ok hk hki hun hno => hfree k ok hk hki ?_ hno) (ready_mono hr (Ne.symm hji)) h3.1 ?_) h2
      · by_cases hjk : j = k
        · subst hjk; exact hjun
        · rw [getD_set_ne true hjk] at hun; exact hun
      · rw [Array.setIfInBounds_comm _ _ hji]
        exact h3.2

theorem mixQ_lex {L : Array Bool} {E : Act → Prop} (hs : Region.noSelect ops = true) : ∀ (l : List Oper) (k : Nat) (listed : Array Bool) (a : Act), Closed md ops listed → (∀ j, j < l.length → l[j]? = ops[k + j]?) →
    frontFrom md ops L l.length k listed = true → wpQuiet P ops C E l a → mixQ P md ops C L E l.length listed a
  | [], _, _, _, _, _, hB, h => ⟨by simpa [frontFrom] using hB, h⟩
  | o :: l, k, listed, a, hcl, hl, hB, h => by
    have h0 : ops[k]? = some o := by simpa using (hl 0 (by simp)).symm
    simp only [List.length_cons, frontFrom, Bool.and_eq_true] at hB
    obtain ⟨⟨⟨hr, hf⟩, hx⟩, hB'⟩ := hB
    have hst : qOp P ops C k (wpQuiet P ops C E l) a := by unfold qOp; simp only [h0]; exact h
    obtain ⟨v, hy, hK⟩ := yieldsIn_of_qOp h0 hst
    exact mixQ_first h0 (Region.noSelect_spec hs) (by simpa using hx) l.length listed a hcl (Region.free_spec h0 hf) (by simpa using hr) hy
      (mixQ_lex hs l (k + 1) _ _ (hcl.step (by simpa using hr)) (fun j hj => by have := hl (j + 1) (by simpa using hj); simpa [Nat.add_assoc, Nat.add_comm 1 j] using this) hB' hK)

theorem mixQ_chain {Q : Exit → Act → World → Prop} : ∀ (l : List Oper) (k : Nat) (listed : Array Bool) (a : Act) (w : World), (∀ j, j < l.length → l[j]? = ops[k + j]?) →
    chainFrom md ops l.length k listed = true → wpList P ops Q l a w → wpAny P md ops Q l.length listed a w
  | [], _, _, _, _, _, hB, h => ⟨by simpa [chainFrom] using hB, h⟩
  | o :: l, k, listed, a, w, hl, hB, h => by
    have h0 : ops[k]? = some o := by simpa using (hl 0 (by simp)).symm
    simp only [List.length_cons, chainFrom, Bool.and_eq_true] at hB
    obtain ⟨hr, hB'⟩ := hB
    have hr' : Region.ready md ops listed = [k] := by simpa using hr
    refine ⟨fun h0 => (by rw [hr'] at h0; cases h0), fun i hi => ?_⟩
    rw [hr'] at hi
    obtain rfl : i = k := by simpa using hi
    refine wpOp_mono (fun a' w' h' => mixQ_chain l (i + 1) _ a' w' (fun j hj => by have := hl (j + 1) (by simpa using hj); simpa [Nat.add_assoc, Nat.add_comm 1 j] using this) hB' h') ?_
    unfold wpOp
    simp only [h0]
    exact h

/-- **A REGION THAT DRAWS, WHOSE FIRST p OPERATIONS ONLY READ AND ARE WAITED FOR BY ALL THE OTHERS, THE OTHERS COMING UP ONE BY ONE:** the first p are walked once, in the order of the text; the others as in a region that draws nothing. -/
theorem wp_region_front {id : Nat} {Q : Exit → Act → World → Prop} {a : Act} {w : World} {l : List Oper} (p : Nat) (hm : P.follows .mixedOrders = true) (hB : frontB l p = true)
    (h : wpQuiet P l.toArray (fun w' => ∃ n, w' = w.drewN n) (fun a' => ∀ w', (∃ n, w' = w.drewN n) → wpList P l.toArray Q (l.drop p) a' w') (l.take p) a) : (Code.region id l.toArray true).wp P Q a w := by
  simp only [frontB, Bool.and_eq_true, decide_eq_true_eq] at hB
  obtain ⟨⟨⟨hp, hs⟩, hf⟩, hc⟩ := hB
  have h1 : (l.take p).length = p := by simp; omega
  have hsz : l.toArray.size = (l.take p).length + (l.drop p).length := by simp; omega
  refine wp_region_any hm ?_
  rw [hsz]
  refine mixQ_any (C := fun w' => ∃ n, w' = w.drewN n) (L := frontL l p) (fun a' w' hw' h' => mixQ_chain (l.drop p) p _ a' w' (fun j _ => by simp) hc (h' w' hw')) _ _ _ _ ⟨1, rfl⟩ (mixQ_lex hs (l.take p) 0 _ _ (Closed.none _ _ _) (fun j hj => by simp at hj ⊢; simp [List.getElem?_take, hj]) ?_ h)
  rw [h1, show p + (l.drop p).length = l.length from by simp; omega]
  exact hf
end

section
variable {F : Fence} {n : Nat} {P : Program} {ops : Array Oper} {md : Region.Mode} {C : World → Prop}

/-- So many operations come up, in whatever order, each of them quiet in the set C; then E, with just L listed. -/
def mixQIn (F : Fence) (n : Nat) (P : Program) (md : Region.Mode) (ops : Array Oper) (C : World → Prop) (L : Array Bool) (E : Act → Prop) : Nat → Array Bool → Act → Prop
  | 0, listed, a => listed = L ∧ E a
  | s + 1, listed, a => Region.ready md ops listed ≠ [] ∧ ∀ i ∈ Region.ready md ops listed, qOpIn F n P ops C i (mixQIn F n P md ops C L E s (listed.setIfInBounds i true)) a

theorem mixQIn_any {L : Array Bool} {E : Act → Prop} {Q' : Exit → Act → World → Prop} {f : Nat} (hro : F.round = none) (hE : ∀ a w, C w → E a → wpAnyIn F n P md ops Q' f L a w) :
    ∀ (s : Nat) (listed : Array Bool) (a : Act) (w : World), C w → mixQIn F n P md ops C L E s listed a → wpAnyIn F n P md ops Q' (s + f) listed a w
  | 0, _, _, _, hw, h => by obtain ⟨rfl, h⟩ := h; simpa using hE _ _ hw h
  | s + 1, _, _, _, hw, h => by
    rw [Nat.add_right_comm]
    exact ⟨fun h0 => absurd h0 h.1, fun i hi => wpOpIn_of_qOpIn hro hw (fun a' w' hw' => mixQIn_any hro hE s _ a' w' hw') (h.2 i hi)⟩

theorem mixQIn_first {L : Array Bool} {E : Act → Prop} {i : Nat} {oi : Oper} {v : Value} (hi : ops[i]? = some oi) (hsel : ∀ (j : Nat) (o : Oper) cs b, ops[j]? = some o → o.op ≠ .select cs b)
    (hlast : Region.ready md ops (L.setIfInBounds i false) = [i] ∨ awaited md ops L i = true) :
    ∀ (s : Nat) (listed : Array Bool) (a : Act), Closed md ops listed →
      (∀ j oj, ops[j]? = some oj → j ≠ i → listed.getD j true = false → (∀ e ∈ oj.after, Region.binds md e = true → e.on ≠ i) → oi.apart ops oj = true) →
      i ∈ Region.ready md ops listed → YieldsQuiet F n P ops C oi v a →
      mixQIn F n P md ops C L E s (listed.setIfInBounds i true) (a.put oi.dst v) → mixQIn F n P md ops C L E (s + 1) listed a := by
  intro s
  induction s with
  | zero =>
    intro listed a hcl _ hr hy H
    refine ⟨fun h => (by rw [h] at hr; cases hr), fun j hj => ?_⟩
    have hl : listed.getD i true = false := (mem_ready.1 hr).1
    have e : L.setIfInBounds i false = listed := by
      rw [← H.1, Array.setIfInBounds_setIfInBounds]
      apply Array.ext_getElem?
      intro k
      by_cases hk : i = k
      · subst hk
        rcases Nat.lt_or_ge i listed.size with h' | h'
        · simp [h'] at hl ⊢; exact hl
        · simp [Array.getElem?_eq_none h'] at hl
      · rw [Array.getElem?_setIfInBounds_ne hk]
    rcases hlast with hlast | haw
    · rw [← e, hlast] at hj
      obtain rfl : j = i := by simpa using hj
      exact hy.qOpIn hi H
    · exact (awaited_absurd haw e hcl hl).elim
  | succ s ih =>
    intro listed a hcl hfree hr hy H
    refine ⟨fun h => (by rw [h] at hr; cases hr), fun j hj => ?_⟩
    by_cases hji : j = i
    · subst hji; exact hy.qOpIn hi H
    · have h1 := H.2 j (ready_mono hj hji)
      obtain ⟨hjun, oj, hoj, hall⟩ := mem_ready.1 hj
      have hnot : ∀ e ∈ oj.after, Region.binds md e = true → e.on ≠ i := fun e he hb heq => by
        have h1 := hall e he hb
        have h0 := (mem_ready.1 hr).1
        rw [heq] at h1
        rcases Nat.lt_or_ge i listed.size with h' | h'
        · simp [h'] at h0 h1; rw [h0] at h1; cases h1
        · simp [Array.getElem?_eq_none h'] at h1
      have h2 := qOpIn_put hoj (hfree j oj hoj hji hjun hnot) (fun cs b => hsel i oi cs b hi) (fun cs b => hsel j oj cs b hoj) hy h1
      refine qOpIn_mono (fun a' h3 => ih (listed.setIfInBounds j true) a' (hcl.step hj) (fun k ok hk hki hun hno => hfree k ok hk hki ?_ hno) (ready_mono hr (Ne.symm hji)) h3.1 ?_) h2
      · by_cases hjk : j = k
        · subst hjk; exact hjun
        · rw [getD_set_ne true hjk] at hun; exact hun
      · rw [Array.setIfInBounds_comm _ _ hji]
        exact h3.2

theorem mixQIn_lex {L : Array Bool} {E : Act → Prop} (hs : Region.noSelect ops = true) : ∀ (l : List Oper) (k : Nat) (listed : Array Bool) (a : Act), Closed md ops listed → (∀ j, j < l.length → l[j]? = ops[k + j]?) →
    frontFrom md ops L l.length k listed = true → wpQuietIn F n P ops C E l a → mixQIn F n P md ops C L E l.length listed a
  | [], _, _, _, _, _, hB, h => ⟨by simpa [frontFrom] using hB, h⟩
  | o :: l, k, listed, a, hcl, hl, hB, h => by
    have h0 : ops[k]? = some o := by simpa using (hl 0 (by simp)).symm
    simp only [List.length_cons, frontFrom, Bool.and_eq_true] at hB
    obtain ⟨⟨⟨hr, hf⟩, hx⟩, hB'⟩ := hB
    have hst : qOpIn F n P ops C k (wpQuietIn F n P ops C E l) a := by unfold qOpIn; simp only [h0]; exact h
    obtain ⟨v, hy, hK⟩ := yieldsQuiet_of_qOpIn h0 hst
    exact mixQIn_first h0 (Region.noSelect_spec hs) (by simpa using hx) l.length listed a hcl (Region.free_spec h0 hf) (by simpa using hr) hy
      (mixQIn_lex hs l (k + 1) _ _ (hcl.step (by simpa using hr)) (fun j hj => by have := hl (j + 1) (by simpa using hj); simpa [Nat.add_assoc, Nat.add_comm 1 j] using this) hB' hK)

theorem mixQIn_chain {Q : Exit → Act → World → Prop} : ∀ (l : List Oper) (k : Nat) (listed : Array Bool) (a : Act) (w : World), (∀ j, j < l.length → l[j]? = ops[k + j]?) →
    chainFrom md ops l.length k listed = true → wpListIn F n P ops Q l a w → wpAnyIn F n P md ops Q l.length listed a w
  | [], _, _, _, _, _, hB, h => ⟨by simpa [chainFrom] using hB, h⟩
  | o :: l, k, listed, a, w, hl, hB, h => by
    have h0 : ops[k]? = some o := by simpa using (hl 0 (by simp)).symm
    simp only [List.length_cons, chainFrom, Bool.and_eq_true] at hB
    obtain ⟨hr, hB'⟩ := hB
    have hr' : Region.ready md ops listed = [k] := by simpa using hr
    refine ⟨fun h0 => (by rw [hr'] at h0; cases h0), fun i hi => ?_⟩
    rw [hr'] at hi
    obtain rfl : i = k := by simpa using hi
    refine wpOpIn_mono (fun a' w' h' => mixQIn_chain l (i + 1) _ a' w' (fun j hj => by have := hl (j + 1) (by simpa using hj); simpa [Nat.add_assoc, Nat.add_comm 1 j] using this) hB' h') ?_
    unfold wpOpIn
    simp only [h0]
    exact h

/-- **A REGION THAT DRAWS, WHOSE FIRST p OPERATIONS ONLY READ AND ARE WAITED FOR BY ALL THE OTHERS, THE OTHERS COMING UP ONE BY ONE:** the first p are walked once, in the order of the text; the others as in a region that draws nothing. -/
theorem wpIn_region_front {id : Nat} {Q : Exit → Act → World → Prop} {a : Act} {w : World} {l : List Oper} (p : Nat) (hro : F.round = none) (hm : P.follows .mixedOrders = true) (hB : frontB l p = true)
    (h : wpQuietIn F n P l.toArray (fun w' => ∃ n, w' = w.drewN n) (fun a' => ∀ w', (∃ n, w' = w.drewN n) → wpListIn F n P l.toArray Q (l.drop p) a' w') (l.take p) a) : (Code.region id l.toArray true).wpIn F n P Q a w := by
  simp only [frontB, Bool.and_eq_true, decide_eq_true_eq] at hB
  obtain ⟨⟨⟨hp, hs⟩, hf⟩, hc⟩ := hB
  have h1 : (l.take p).length = p := by simp; omega
  have hsz : l.toArray.size = (l.take p).length + (l.drop p).length := by simp; omega
  refine wpIn_region_any hm ?_
  rw [hsz]
  refine mixQIn_any (C := fun w' => ∃ n, w' = w.drewN n) (L := frontL l p) hro (fun a' w' hw' h' => mixQIn_chain (l.drop p) p _ a' w' (fun j _ => by simp) hc (h' w' hw')) _ _ _ _ ⟨1, rfl⟩ (mixQIn_lex hs (l.take p) 0 _ _ (Closed.none _ _ _) (fun j hj => by simp at hj ⊢; simp [List.getElem?_take, hj]) ?_ h)
  rw [h1, show p + (l.drop p).length = l.length from by simp; omega]
  exact hf
end
end Go.Proofs.Ybulkgdoo.front
