/-
  The plain law on a clock as a map: what the map holds at a name, and how many entries it has.
-/
import Derived.Test.YbulkgdooEvents
import Derived.Maps.Views
namespace Go.Proofs.Ybulkgdoo.events
open Go Go.RowKit
set_option linter.unusedSimpArgs false
set_option linter.unusedVariables false

theorem snoc_ind {α : Type} {p : List α → Prop} (h0 : p []) (hs : ∀ l x, p l → p (l ++ [x])) (l : List α) : p l := by
  have h : ∀ r : List α, p r.reverse := fun r => by
    induction r with
    | nil => exact h0
    | cons x r ih => rw [List.reverse_cons]; exact hs _ _ ih
  have := h l.reverse
  rwa [List.reverse_reverse] at this

/-- The name's bytes. -/
def key (x : ByteArray × Int) : List UInt8 := x.1.data.toList

/-- How many names there are: each is counted where it stands last. -/
def cnt : List (ByteArray × Int) → Nat
  | [] => 0
  | x :: xs => (if key x ∈ xs.map key then 0 else 1) + cnt xs

theorem cnt_snoc (x : ByteArray × Int) : ∀ xs, cnt (xs ++ [x]) = cnt xs + (if key x ∈ xs.map key then 0 else 1)
  | [] => by simp [cnt]
  | y :: ys => by
    simp only [List.cons_append, cnt, cnt_snoc x ys, List.map_append, List.map_cons, List.map_nil, List.mem_append, List.mem_cons, List.not_mem_nil, or_false]
    by_cases e : key y = key x
    · rw [e]
      by_cases h : key x ∈ ys.map key <;> simp only [h, true_or, or_true, if_true, if_false, not_false_eq_true] <;> omega
    · have e' : ¬ key x = key y := fun h => e h.symm
      by_cases h : key x ∈ ys.map key <;> by_cases h' : key y ∈ ys.map key <;> simp only [h, h', e, e', or_false, false_or, or_true, true_or, if_true, if_false] <;> omega

theorem data_inj {a b : ByteArray} (h : a.data.toList = b.data.toList) : a = b := by
  cases a; cases b
  simpa using h

theorem keyLit (s : List UInt8) : WideAt.IsKeyLit (.string s) := by simp [WideAt.IsKeyLit]

theorem clockD_tidy (xs : List (ByteArray × Int)) : Maps.Tidy (clockD xs) := by
  induction xs using snoc_ind with
  | h0 => exact Maps.tidy_empty
  | hs xs x ih => rw [clockD_snoc]; exact ih.put (keyLit _) _

theorem clockD_has (s : List UInt8) (xs : List (ByteArray × Int)) : Maps.has (clockD xs) (.string s) = decide (s ∈ xs.map key) := by
  induction xs using snoc_ind with
  | h0 => simp [clockD, Maps.has]
  | hs xs x ih =>
    rw [clockD_snoc]
    by_cases e : s = key x
    · subst e
      rw [show (Lit.string (key x)) = .string x.1.data.toList from rfl, Maps.has_put_same (clockD_tidy xs).isMap (keyLit _)]
      simp
    · rw [Maps.has_put_other (fun h => e (by simpa [key] using h)), ih]
      simp [e]

theorem clockD_size (xs : List (ByteArray × Int)) : Maps.size (clockD xs) = cnt xs := by
  induction xs using snoc_ind with
  | h0 => rfl
  | hs xs x ih =>
    rw [clockD_snoc, Maps.size_put (clockD_tidy xs), clockD_has, ih, cnt_snoc]
    show (if decide (key x ∈ xs.map key) = true then cnt xs else cnt xs + 1) = _
    by_cases h : key x ∈ xs.map key
    · simp only [h, decide_true, if_true]; omega
    · simp only [h, decide_false, if_false]; simp

theorem clockD_at (s : ByteArray) (v : Int) (z : DataW Value) (pre : List (ByteArray × Int)) : ∀ post : List (ByteArray × Int), s.data.toList ∉ post.map key → (clockD (pre ++ (s, v) :: post)).atKey (.string s.data.toList) z = .held (.int .u64 v) := by
  intro post
  induction post using snoc_ind with
  | h0 =>
    intro _
    rw [clockD_snoc]
    exact Maps.atKey_put_same (clockD_tidy pre).isMap (keyLit _) _ _
  | hs post x ih =>
    intro h
    simp only [List.map_append, List.map_cons, List.map_nil, List.mem_append, List.mem_singleton, not_or] at h
    rw [show pre ++ (s, v) :: (post ++ [x]) = (pre ++ (s, v) :: post) ++ [x] by simp, clockD_snoc, Maps.atKey_put_other (fun e => h.2 (by simpa [key] using e))]
    exact ih h.1

/-- One step of the count, from the front. -/
theorem cnt_drop {xs : List (ByteArray × Int)} {j : Nat} {s : ByteArray} {v : Int} (h : xs[j]? = some (s, v)) :
    cnt (xs.drop j) = (if s.data.toList ∈ (xs.drop (j + 1)).map key then 0 else 1) + cnt (xs.drop (j + 1)) := by
  obtain ⟨hj, e⟩ := List.getElem?_eq_some_iff.1 h
  rw [List.drop_eq_getElem_cons hj, e]
  rfl

/-- A name that stands later, or not. -/
theorem later_iff {xs : List (ByteArray × Int)} {j : Nat} {s : List UInt8} : s ∈ (xs.drop (j + 1)).map key ↔ ∃ t x, j < t ∧ xs[t]? = some x ∧ key x = s := by
  rw [List.mem_map]
  constructor
  · rintro ⟨x, hx, rfl⟩
    obtain ⟨i, hi⟩ := List.getElem?_of_mem hx
    rw [List.getElem?_drop] at hi
    exact ⟨j + 1 + i, x, by omega, hi, rfl⟩
  · rintro ⟨t, x, ht, hx, rfl⟩
    refine ⟨x, List.mem_of_getElem? (i := t - (j + 1)) ?_, rfl⟩
    rw [List.getElem?_drop, show j + 1 + (t - (j + 1)) = t by omega]
    exact hx

/-- What the map holds at a name that does not stand later. -/
theorem clockD_last {xs : List (ByteArray × Int)} {j : Nat} {s : ByteArray} {v : Int} (h : xs[j]? = some (s, v)) (hl : s.data.toList ∉ (xs.drop (j + 1)).map key) (z : DataW Value) :
    Maps.has (clockD xs) (.string s.data.toList) = true ∧ (clockD xs).atKey (.string s.data.toList) z = .held (.int .u64 v) := by
  obtain ⟨hj, e⟩ := List.getElem?_eq_some_iff.1 h
  have hx : xs = xs.take j ++ (s, v) :: xs.drop (j + 1) := by
    conv => lhs; rw [← List.take_append_drop j xs, List.drop_eq_getElem_cons hj, e]
  constructor
  · rw [clockD_has]
    exact decide_eq_true (List.mem_map.2 ⟨(s, v), List.mem_of_getElem? h, rfl⟩)
  · rw [hx]
    exact clockD_at s v z _ _ hl

end Go.Proofs.Ybulkgdoo.events
