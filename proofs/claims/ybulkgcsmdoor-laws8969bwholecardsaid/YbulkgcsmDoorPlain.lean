/-
  THE PLAIN MATHEMATICS of LawS8969BWhole: a decimal's text. No Go in sight.
-/
import Derived.Lib.ItoaNum
namespace Go.Proofs.YbulkgcsmDoor.lawS8969BWhole
open Go.Lib

/-- How many digits are written: at least one more than the scale. -/
def len (m sc : Nat) : Nat := max (nDigits m) (sc + 1)
/-- The digits, most significant first. -/
def padded (m sc : Nat) : List UInt8 := (List.range (len m sc)).map fun t => dg m (len m sc - 1 - t)
/-- What stands of the text when the digits down to place k are written (behind the sign). -/
def upto (m sc k : Nat) : List UInt8 :=
  if sc = 0 ∨ sc ≤ k then (padded m sc).take (len m sc - k)
  else (padded m sc).take (len m sc - sc) ++ 46 :: ((padded m sc).take (len m sc - k)).drop (len m sc - sc)
def sign (neg : Bool) : List UInt8 := if neg then [45] else []
def text (neg : Bool) (m sc : Nat) : List UInt8 := sign neg ++ upto m sc 0

theorem padded_length (m sc : Nat) : (padded m sc).length = len m sc := by simp [padded]
theorem len_pos (m sc : Nat) : sc < len m sc := by unfold len; omega
theorem nDigits_20 (u : Nat) (h : u < 18446744073709551616) : nDigits u ≤ 20 := by
  rcases Nat.eq_zero_or_pos u with rfl | h1
  · rw [nDigits_small (by omega)]; omega
  · have := numDigits_eq u h1 h
    split at this <;> omega
theorem len_le (m sc : Nat) (hm : m < 18446744073709551616) (_hsc : sc ≤ 65536) : len m sc ≤ 65557 := by
  have := nDigits_20 m hm
  unfold len
  omega

theorem pow_le_iff (m : Nat) (hm : 1 ≤ m) (i : Nat) : i < nDigits m ↔ 10 ^ i ≤ m := by
  constructor
  · intro h
    induction m using Nat.strongRecOn generalizing i with
    | _ m ih =>
      by_cases hs : m < 10
      · rw [nDigits_small hs] at h
        have : i = 0 := by omega
        subst this
        simpa using hm
      · rw [nDigits_big hs] at h
        cases i with
        | zero => simpa using hm
        | succ i =>
          have := ih (m / 10) (by omega) (by omega) i (by omega)
          rw [Nat.pow_succ]
          omega
  · intro h
    rcases Nat.lt_or_ge i (nDigits m) with h' | h'
    · exact h'
    · have h1 := lt_pow_nDigits m
      have h2 : 10 ^ nDigits m ≤ 10 ^ i := Nat.pow_le_pow_right (by omega) h'
      omega

/-- The model's loop goes on just as long as a digit is wanted. -/
theorem goes_on (m sc i : Nat) : (0 < m / 10 ^ i ∨ i ≤ sc) ↔ i < len m sc := by
  unfold len
  rcases Nat.eq_zero_or_pos m with rfl | hm
  · rw [nDigits_small (by omega)]
    simp
    omega
  · have h := pow_le_iff m hm i
    have hp : 0 < 10 ^ i := Nat.pow_pos (by omega)
    have hd : 0 < m / 10 ^ i ↔ 10 ^ i ≤ m := by
      rw [Nat.div_pos_iff]
      omega
    rw [hd, ← h]
    omega

theorem dg_high (m j : Nat) (h : nDigits m ≤ j) : dg m j = 48 := by
  have h1 := lt_pow_nDigits m
  have h2 : 10 ^ nDigits m ≤ 10 ^ j := Nat.pow_le_pow_right (by omega) h
  unfold dg
  rw [Nat.div_eq_of_lt (by omega)]
  rfl

theorem padded_short (m sc : Nat) (h : nDigits m ≤ sc) : List.replicate (sc - nDigits m + 1) 48 ++ decDigits m = padded m sc := by
  have hl : len m sc = sc + 1 := by unfold len; omega
  apply List.ext_getElem
  · simp [padded, decDigits_length, hl]
    omega
  · intro i h1 h2
    simp only [padded, List.length_map, List.length_range, hl] at h2
    simp only [padded, List.getElem_map, List.getElem_range, hl]
    rw [List.getElem_append]
    split
    · rename_i hi
      simp only [List.length_replicate] at hi
      rw [List.getElem_replicate, dg_high _ _ (by omega)]
    · rename_i hi
      simp only [List.length_replicate] at hi
      simp only [decDigits_eq m, List.getElem_map, List.getElem_range, List.length_replicate]
      congr 1
      omega

theorem padded_long (m sc : Nat) (h : ¬ nDigits m ≤ sc) : decDigits m = padded m sc := by
  have hl : len m sc = nDigits m := by unfold len; omega
  rw [decDigits_eq]
  unfold padded
  rw [hl]

theorem take_next (l : List UInt8) (n : Nat) (h : n < l.length) : l.take (n + 1) = l.take n ++ [l[n]] := by
  rw [List.take_succ_eq_append_getElem h]

theorem padded_get (m sc k : Nat) (h : k < len m sc) : (padded m sc)[len m sc - 1 - k]'(by rw [padded_length]; omega) = dg m k := by
  simp only [padded, List.getElem_map, List.getElem_range]
  congr 1
  omega

theorem upto_top (m sc : Nat) : upto m sc (len m sc) = [] := by
  have := len_pos m sc
  unfold upto
  rw [if_pos (by omega)]
  simp

/-- A digit behind the point, or no point at all, or ahead of it. -/
theorem upto_step (m sc k : Nat) (h : k < len m sc) (hk : ¬ (0 < sc ∧ k = sc - 1)) : upto m sc k = upto m sc (k + 1) ++ [dg m k] := by
  have hp := len_pos m sc
  have hl := padded_length m sc
  have ht := take_next (padded m sc) (len m sc - 1 - k) (by rw [hl]; omega)
  rw [padded_get m sc k h, show len m sc - 1 - k + 1 = len m sc - k by omega, show len m sc - 1 - k = len m sc - (k + 1) by omega] at ht
  unfold upto
  by_cases h1 : sc = 0 ∨ sc ≤ k
  · rw [if_pos h1, if_pos (by omega)]
    exact ht
  · rw [if_neg h1, if_neg (by omega), ht, List.drop_append, List.append_assoc, List.cons_append]
    congr 3
    rw [show len m sc - sc - (List.take (len m sc - (k + 1)) (padded m sc)).length = 0 by rw [List.length_take, hl]; omega]
    rfl

/-- The first digit behind the point, the point ahead of it. -/
theorem upto_point (m sc : Nat) (hs : 0 < sc) : upto m sc (sc - 1) = (upto m sc sc ++ [46]) ++ [dg m (sc - 1)] := by
  have hp := len_pos m sc
  have hl := padded_length m sc
  have ht := take_next (padded m sc) (len m sc - 1 - (sc - 1)) (by rw [hl]; omega)
  rw [padded_get m sc (sc - 1) (by omega), show len m sc - 1 - (sc - 1) + 1 = len m sc - (sc - 1) by omega, show len m sc - 1 - (sc - 1) = len m sc - sc by omega] at ht
  unfold upto
  rw [if_neg (by omega), if_pos (by omega), ht, List.drop_append, List.append_assoc]
  congr 1
  have e1 : (List.take (len m sc - sc) (padded m sc)).length = len m sc - sc := by rw [List.length_take, hl]; omega
  rw [e1, Nat.sub_self, List.drop_of_length_le (by omega)]
  rfl

/-- What Decimal.String writes. -/
theorem text_eq (neg : Bool) (m sc : Nat) : text neg m sc = sign neg ++ ((padded m sc).take (len m sc - sc) ++ if 0 < sc then 46 :: (padded m sc).drop (len m sc - sc) else []) := by
  have hl := padded_length m sc
  unfold text upto
  congr 1
  by_cases h : sc = 0
  · subst h
    simp
  · rw [if_neg (by omega), if_pos (by omega), Nat.sub_zero, ← hl, List.take_length]

end Go.Proofs.YbulkgcsmDoor.lawS8969BWhole
