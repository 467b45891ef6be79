/-
  THE ITERATORS OF A LOG: (*Log).namesOf, (*Log).named and their closures; maps.Insert over them.
-/
import Derived.Test.YbulkgdooSearch
import Derived.Test.YbulkgdooFront
import Derived.Test.YbulkgdooRange
import Derived.Sort.QuietIn
import Derived.Shelf.Abstract
import Derived.OwnWalkIn
import Derived.TacticsInMore
import Derived.LoopNIn
import Derived.LoopIn
import Derived.Maps.OwnIn
namespace Go.Proofs.Ybulkgdoo.iter
open Go Go.RowKit Go.Shelf
open Go.Proofs.Ybulkgdoo.search Go.Proofs.Ybulkgdoo.front Go.Proofs.Ybulkgdoo.range
set_option linter.unusedVariables false
set_option linter.unusedSimpArgs false

attribute [local go_sem] Oper.semAt_some

theorem below_drewN {B : Nat} {a w : World} (h : Below B a w) (n : Nat) : Below B a (w.drewN n) := ⟨h.os, h.tape, h.output, h.size, h.block⟩

/-- What 'for name, n := range l.namesOf(c)' gives: the entries of a clock, each by its name. -/
def clockSeq (L : Nat → ByteArray) (H N : Nat → Int) (n : Nat) : List (ByteArray × Int) := (List.range n).map fun i => (L (H i).toNat, N i)

def enc (x : ByteArray × Int) : Array Value := #[.string x.1, .int .u64 x.2]

set_option maxRecDepth 100000 in
set_option maxHeartbeats 2000000 in
theorem f23_iter (X : Nat → Prop) (l : Nat) (W : World) (Bc Bl bL bn k ck bc nc cc : Nat) (L : Nat → ByteArray) (H N : Nat → Int)
    (hBc : W.cell? ⟨Bc, 0, none⟩ = some (.slice (some ⟨bc, 0, none⟩) nc cc)) (hBl : W.cell? ⟨Bl, 0, none⟩ = some (.pointer (some ⟨bL, 0, none⟩)))
    (hL2 : W.cell? ⟨bL, 2, none⟩ = some (.slice (some ⟨bn, 0, none⟩) k ck)) (hS : ∀ i, i < k → W.cell? ⟨bn, i, none⟩ = some (.string (L i)))
    (hE : Ents W bc 0 nc H N) (hH : ∀ i, i < nc → 0 ≤ H i ∧ H i < k) (hnc : nc ≤ 4096) (hk : k ≤ 4096)
    (x1 : ¬ X Bc) (x2 : ¬ X Bl) (x3 : ¬ X bL) (x4 : ¬ X bn) (x5 : ¬ X bc) :
    IterAll Yba.prog 23 #[.pointer (some ⟨Bc, 0, none⟩), .pointer (some ⟨Bl, 0, none⟩)] enc (clockSeq L H N nc) X l W := by
  intro J hJ hY h0
  have HJ := hide hJ
  have HY := hide hY
  have HS := hide hS
  have HE := hide hE
  have HH := hide hH
  clear hJ hY hS hE hH
  refine callsIn_of_wp Yba.func23 rfl trivial ?_ rfl
  simp only [Yba.ntmps23, List.size_toArray, List.length_cons, List.length_nil, Nat.reduceAdd, Nat.reduceSub, Array.replicate_succ, Array.replicate_zero, List.push_toArray, List.append_toArray, List.nil_append, List.cons_append]
  gi_wp2
  gi_loopw [8] (fun i wr => ∃ m : Nat, m ≤ nc ∧ i = .int .i64 m ∧ J m wr ∧ Keeps X W wr) (fun i _ => nc - (intOf i).toNat)
  case atStart => exact ⟨0, Nat.zero_le _, rfl, h0, Keeps.refl _ _⟩
  case round =>
    obtain ⟨m, hm, rfl, hJs, hK⟩ := hrel
    by_cases hlt : m < nc
    · obtain ⟨e1, e2⟩ := HE.out m hlt
      rw [Nat.zero_add] at e1 e2
      obtain ⟨q1, q2⟩ := HH.out m hlt
      have c1 : wr.cell? ⟨bc, m * 2, none⟩ = some (.int .i64 (H m)) := by
        exact (hK.cell (block_lt_of_cell e1) x5).trans e1
      have c2 : wr.cell? ⟨bc, m * 2 + 1, none⟩ = some (.int .u64 (N m)) := by
        exact (hK.cell (block_lt_of_cell e2) x5).trans e2
      have c3 : wr.cell? ⟨Bl, 0, none⟩ = some (.pointer (some ⟨bL, 0, none⟩)) := (hK.cell (block_lt_of_cell hBl) x2).trans hBl
      have c4 : wr.cell? ⟨bL, 2, none⟩ = some (.slice (some ⟨bn, 0, none⟩) k ck) := (hK.cell (block_lt_of_cell hL2) x3).trans hL2
      have hs := HS.out (H m).toNat (by omega)
      have c5 : wr.cell? ⟨bn, (H m).toNat, none⟩ = some (.string (L (H m).toNat)) := (hK.cell (block_lt_of_cell hs) x4).trans hs
      gi_wp2
      have hb2 : Below wr.heap.size wr (wr.alloc (.cells #[.int .i64 (H m), .int .u64 (N m)] 30)) := (Below.refl _ _).alloc (Nat.le_refl _) _
      have n1 : (wr.alloc (.cells #[.int .i64 (H m), .int .u64 (N m)] 30)).cell? ⟨wr.heap.size, 0, none⟩ = some (.int .i64 (H m)) := by unfold World.cell?; rw [World.alloc_heap_new]; rfl
      have n2 : (wr.alloc (.cells #[.int .i64 (H m), .int .u64 (N m)] 30)).cell? ⟨wr.heap.size, 1, none⟩ = some (.int .u64 (N m)) := by unfold World.cell?; rw [World.alloc_heap_new]; rfl
      replace c3 := (hb2.cell (p := ⟨Bl, 0, none⟩) (block_lt_of_cell c3)).trans c3
      replace c4 := (hb2.cell (p := ⟨bL, 2, none⟩) (block_lt_of_cell c4)).trans c4
      replace c5 := (hb2.cell (p := ⟨bn, (H m).toNat, none⟩) (block_lt_of_cell c5)).trans c5
      have hJ2 := HJ.out m _ _ hJs (hb2.mono hK.size)
      have hK2 : Keeps X W _ := hK.trans (Keeps.of_below hb2 X)
      clear c1 c2 hb2 hJs hK
      generalize wr.alloc (.cells #[.int .i64 (H m), .int .u64 (N m)] 30) = w2 at n1 n2 c3 c4 c5 hJ2 hK2 ⊢
      refine wpIn_region_front 12 rfl (by kernel_rfl) (by kernel_rfl) ?_
      dsimp only [List.take, List.drop]
      repeat (gi_big_quiet_step (fail))
      refine wpQuietIn_nil ?_
      intro _ hw'
      obtain ⟨nq, hw''⟩ := hw'
      subst hw''
      have hb3 : Below w2.heap.size w2 (w2.drewN nq) := below_drewN (Below.refl _ _) nq
      have hJ3 := HJ.out m _ _ hJ2 (hb3.mono hK2.size)
      have hK3 : Keeps X W _ := hK2.trans (Keeps.of_below hb3 X)
      clear n1 n2 c3 c4 c5 hJ2 hK2 hb3
      generalize w2.drewN nq = w3 at hJ3 hK3 ⊢
      obtain ⟨fn, tmps, assign, body, hy, hR⟩ := HY.out m (L (H m).toNat, N m) w3 hJ3 (by simp [clockSeq, hlt])
      dsimp only [enc] at hy
      gi_wp2
      refine ⟨rfl, hR.mono ?_⟩
      rintro e W3 ⟨rfl, hJ4, hK4⟩
      gi_wp2
      go_roundw
      case rel => exact ⟨m + 1, by omega, by simp, hJ4, hK3.trans hK4⟩
      case measure => simp [intOf]; omega
    · obtain rfl : m = nc := by omega
      gi_wp2
      go_end0
      exact ⟨⟨_, rfl⟩, by simpa [clockSeq] using hJs⟩

theorem _root_.Go.Proofs.Ybulkgdoo.range.Keeps.below_right {X : Nat → Prop} {W A B : World} (h : Keeps X W A) (k : Below W.heap.size A B) : Keeps X W B :=
  ⟨k.os.trans h.os, k.tape.trans h.tape, k.output.trans h.output, Nat.le_trans h.size k.size, fun i hi hx => (k.block i hi).trans (h.block i hi hx)⟩

theorem cell_box (W : World) (v : Value) (t : TypeId) : (W.alloc (.cells #[v] t)).cell? ⟨W.heap.size, 0, none⟩ = some v := by
  unfold World.cell?; rw [World.alloc_heap_new]; rfl

set_option maxHeartbeats 1000000 in
/-- 'l.namesOf(c)': both are boxed; the function value captures the boxes. -/
theorem f22_in (p : Option Addr) (s : Option Addr) (len cap : Nat) (w : World) :
    CallsIn Fence.wide 0 Yba.prog 22 #[.pointer p, .slice s len cap] w fun e w' => e = .returned (.func (.func 23) #[] #[.pointer (some ⟨w.heap.size + 1, 0, none⟩), .pointer (some ⟨w.heap.size, 0, none⟩)]) ∧
      w' = (w.alloc (.cells #[.pointer p] 46)).alloc (.cells #[.slice s len cap] 24) := by
  refine callsIn_of_wp Yba.func22 rfl trivial ?_ rfl
  simp only [Yba.ntmps22, List.size_toArray, List.length_cons, List.length_nil, Nat.reduceAdd, Nat.reduceSub, Array.replicate_succ, Array.replicate_zero, List.push_toArray, List.append_toArray, List.nil_append, List.cons_append]
  gi_wp2
  go_ret
  exact ⟨by simp, rfl⟩

set_option maxHeartbeats 1000000 in
/-- 'l.named(i)'. -/
theorem f19_in (p : Option Addr) (i : Int) (w : World) :
    CallsIn Fence.wide 0 Yba.prog 19 #[.pointer p, .int .i64 i] w fun e w' => e = .returned (.func (.func 21) #[] #[.pointer (some ⟨w.heap.size, 0, none⟩), .pointer (some ⟨w.heap.size + 1, 0, none⟩)]) ∧
      w' = (w.alloc (.cells #[.pointer p] 46)).alloc (.cells #[.int .i64 i] 3) := by
  refine callsIn_of_wp Yba.func19 rfl trivial ?_ rfl
  simp only [Yba.ntmps19, List.size_toArray, List.length_cons, List.length_nil, Nat.reduceAdd, Nat.reduceSub, Array.replicate_succ, Array.replicate_zero, List.push_toArray, List.append_toArray, List.nil_append, List.cons_append]
  gi_wp2
  go_ret
  exact ⟨by simp, rfl⟩

/-- What l.zeros[i] adds. -/
def zeroSeq (L : Nat → ByteArray) (Z : Nat → Int) (n : Nat) : List (ByteArray × Int) := (List.range n).map fun i => (L (Z i).toNat, 0)

set_option maxRecDepth 100000 in
set_option maxHeartbeats 4000000 in
theorem f21_iter (X : Nat → Prop) (l : Nat) (W : World) (Bl Bi bL bn k ck be ne ce i bc nc cc : Nat) (mz : Option Nat) (az : Option Addr) (nz cz : Nat) (L : Nat → ByteArray) (H N Z : Nat → Int)
    (hBl : W.cell? ⟨Bl, 0, none⟩ = some (.pointer (some ⟨bL, 0, none⟩))) (hBi : W.cell? ⟨Bi, 0, none⟩ = some (.int .i64 i))
    (hL2 : W.cell? ⟨bL, 2, none⟩ = some (.slice (some ⟨bn, 0, none⟩) k ck)) (hS : ∀ i, i < k → W.cell? ⟨bn, i, none⟩ = some (.string (L i)))
    (hL3 : W.cell? ⟨bL, 3, none⟩ = some (.slice (some ⟨be, 0, none⟩) ne ce)) (hi : i < ne) (hne : ne ≤ 4096) (hev : W.cell? ⟨be, i * 5 + 4, none⟩ = some (.slice (some ⟨bc, 0, none⟩) nc cc))
    (hL7 : W.cell? ⟨bL, 7, none⟩ = some (.map mz)) (hZl : ∀ A : World, (∀ b, mz = some b → A.heap[b]? = W.heap[b]?) → (Instr.lookup 40 (.map mz) (.int .i64 i) false).run Yba.prog A = .ok (.slice az nz cz) A)
    (hZc : nz = 0 ∨ ∃ bz, az = some ⟨bz, 0, none⟩ ∧ ¬ X bz ∧ ∀ j, j < nz → W.cell? ⟨bz, j, none⟩ = some (.int .i64 (Z j)))
    (hmz : ∀ b, mz = some b → b < W.heap.size ∧ ¬ X b)
    (hE : Ents W bc 0 nc H N) (hH : ∀ i, i < nc → 0 ≤ H i ∧ H i < k) (hZ : ∀ i, i < nz → 0 ≤ Z i ∧ Z i < k) (hnc : nc ≤ 4096) (hk : k ≤ 4096) (hnz : nz ≤ 4096)
    (hX : ∀ b, X b → b < W.heap.size) (hbc : bc < W.heap.size) (hbn : bn < W.heap.size)
    (x1 : ¬ X Bl) (x2 : ¬ X Bi) (x3 : ¬ X bL) (x4 : ¬ X bn) (x5 : ¬ X be) (x6 : ¬ X bc) :
    IterAll Yba.prog 21 #[.pointer (some ⟨Bl, 0, none⟩), .pointer (some ⟨Bi, 0, none⟩)] enc (clockSeq L H N nc ++ zeroSeq L Z nz) X l W := by
  intro J hJ hY h0
  have HJ := hide hJ
  have HY := hide hY
  have HS := hide hS
  have HE := hide hE
  have HH := hide hH
  have HZ := hide hZ
  have HZl := hide hZl
  have HZc := hide hZc
  have Hmz := hide hmz
  have HX := hide hX
  clear hJ hY hS hE hH hZ hZl hZc hmz hX
  refine callsIn_of_wp_marks Yba.func21 rfl trivial ?_ rfl
  simp only [Yba.ntmps21, List.size_toArray, List.length_cons, List.length_nil, Nat.reduceAdd, Nat.reduceSub, Array.replicate_succ, Array.replicate_zero, List.push_toArray, List.append_toArray, List.nil_append, List.cons_append]
  gi_wp2
  have hb1 : Below W.heap.size W (W.alloc (.cells #[.func (.yield l) #[] #[]] 85)) := (Below.refl _ _).alloc (Nat.le_refl _) _
  have hK1 : Keeps X W (W.alloc (.cells #[.func (.yield l) #[] #[]] 85)) := Keeps.of_below hb1 X
  have hy1 := cell_box W (.func (.yield l) #[] #[]) 85
  have hJ1 := HJ.out 0 _ _ h0 hb1
  have hs1 : (W.alloc (.cells #[.func (.yield l) #[] #[]] 85)).heap.size = W.heap.size + 1 := by simp
  have HS1 := hide hs1
  have Hb1 := hide hb1
  clear hb1 hs1
  generalize W.alloc (.cells #[.func (.yield l) #[] #[]] 85) = W1 at hK1 hy1 hJ1 HS1 Hb1 ⊢
  have c1 : W1.cell? ⟨Bl, 0, none⟩ = some (.pointer (some ⟨bL, 0, none⟩)) := (hK1.cell (block_lt_of_cell hBl) x1).trans hBl
  have c2 : W1.cell? ⟨Bi, 0, none⟩ = some (.int .i64 i) := (hK1.cell (block_lt_of_cell hBi) x2).trans hBi
  have c3 : W1.cell? ⟨bL, 3, none⟩ = some (.slice (some ⟨be, 0, none⟩) ne ce) := (hK1.cell (block_lt_of_cell hL3) x3).trans hL3
  have c4 : W1.cell? ⟨be, i * 5 + 4, none⟩ = some (.slice (some ⟨bc, 0, none⟩) nc cc) := (hK1.cell (block_lt_of_cell hev) x5).trans hev
  refine wpIn_region_front 9 rfl (by kernel_rfl) (by kernel_rfl) ?_
  dsimp only [List.take, List.drop]
  repeat (gi_big_quiet_step (fail))
  refine wpQuietIn_nil ?_
  intro _ hw'
  obtain ⟨nq, hw''⟩ := hw'
  subst hw''
  gi_wp2
  refine ⟨trivial, rfl, (f22_in _ _ _ _ _).mono ?_⟩
  rintro e w' ⟨rfl, rfl⟩
  gi_wp2
  have hb2 : Below W1.heap.size W1 (((W1.drewN nq).alloc (.cells #[.pointer (some ⟨bL, 0, none⟩)] 46)).alloc (.cells #[.slice (some ⟨bc, 0, none⟩) nc cc] 24)) :=
    ((below_drewN (Below.refl _ _) nq).alloc (Nat.le_refl _) _).alloc (by simp) _
  have d1 := (((Below.refl _ _).alloc (Nat.le_refl _) (.cells #[.slice (some ⟨bc, 0, none⟩) nc cc] 24)).cell (block_lt_of_cell (cell_box (W1.drewN nq) (.pointer (some ⟨bL, 0, none⟩)) 46))).trans (cell_box (W1.drewN nq) (.pointer (some ⟨bL, 0, none⟩)) 46)
  have d2 := cell_box ((W1.drewN nq).alloc (.cells #[.pointer (some ⟨bL, 0, none⟩)] 46)) (.slice (some ⟨bc, 0, none⟩) nc cc) 24
  have hsd : (W1.drewN nq).heap.size = W1.heap.size := rfl
  have hs2 : (((W1.drewN nq).alloc (.cells #[.pointer (some ⟨bL, 0, none⟩)] 46)).alloc (.cells #[.slice (some ⟨bc, 0, none⟩) nc cc] 24)).heap.size = W1.heap.size + 2 := by simp [hsd]
  rw [World.size_alloc] at d2
  rw [hsd] at d1 d2
  generalize ((W1.drewN nq).alloc (.cells #[.pointer (some ⟨bL, 0, none⟩)] 46)).alloc (.cells #[.slice (some ⟨bc, 0, none⟩) nc cc] 24) = W2 at hb2 d1 d2 hs2 ⊢
  have hK2 : Keeps X W W2 := hK1.trans (Keeps.of_below hb2 X)
  have hy2 : W2.cell? ⟨W.heap.size, 0, none⟩ = some (.func (.yield l) #[] #[]) := (hb2.cell (block_lt_of_cell hy1)).trans hy1
  have hJ2 := HJ.out 0 _ _ hJ1 (hb2.mono (by have := HS1.out; omega))
  have hw1 := HS1.out
  have hB2 : Below W.heap.size W W2 := Hb1.out.trans (hb2.mono (by omega))
  have Hd1 := hide d1
  have Hd2 := hide d2
  have HB2 := hide hB2
  have Hs2 := hide hs2
  have HK2 := hide hK2
  have Hw1 := hide hw1
  clear c1 c2 c3 c4 hb2 hJ1 hK1 hy1 HS1 Hb1 d1 d2 hsd hB2 hs2 hw1
  refine wpIn_range_all (gf := 23) (lb := #[.pointer (some ⟨W1.heap.size + 1, 0, none⟩), .pointer (some ⟨W1.heap.size, 0, none⟩)]) rfl (enters_of Yba.func23 (by kernel_rfl) rfl)
    (encs := enc) (fun _ => rfl) (xs := clockSeq L H N nc) (X := X) (fun b hb => Nat.lt_of_lt_of_le (HX.out b hb) hK2.size) ?seq (fun m A => J m A ∧ Keeps X W2 A) ?stab ⟨hJ2, Keeps.refl _ _⟩ ?a1 ?assign ?body ?done
  case seq =>
    intro W3 hs3 hb3
    have nx : ∀ b, b < W.heap.size → ¬ X b → ¬ (X b ∨ b = W2.heap.size + 1) := fun b hb hx h => by
      rcases h with h | h
      · exact hx h
      · have := hK2.size; omega
    have nx2 : ∀ b, W.heap.size ≤ b → b ≤ W2.heap.size → ¬ (X b ∨ b = W2.heap.size + 1) := fun b hb hb' h => by
      rcases h with h | h
      · have := HX.out b h; omega
      · omega
    have hW : ∀ {p : Addr} {v : Value}, W.cell? p = some v → W3.cell? p = some v := fun {p v} h => by
      rw [hb3.cell (Nat.lt_of_lt_of_le (block_lt_of_cell h) hK2.size), HB2.out.cell (block_lt_of_cell h)]; exact h
    have hs2 := Hs2.out
    have hw1 := Hw1.out
    exact f23_iter _ _ W3 (W1.heap.size + 1) W1.heap.size bL bn k ck bc nc cc L H N
      ((hb3.cell (p := ⟨W1.heap.size + 1, 0, none⟩) (by simp; omega)).trans Hd2.out) ((hb3.cell (p := ⟨W1.heap.size, 0, none⟩) (by simp; omega)).trans Hd1.out)
      (hW hL2) (fun j hj => hW (HS.out j hj)) (fun j hj => ⟨hW (HE.out j hj).1, hW (HE.out j hj).2⟩) HH.out hnc hk
      (nx2 _ (by omega) (by omega)) (nx2 _ (by omega) (by omega)) (nx _ (block_lt_of_cell hL2) x3) (nx _ hbn x4) (nx _ hbc x6)
  case stab =>
    rintro m A B ⟨hj, hk⟩ hb
    exact ⟨HJ.out m _ _ hj (hb.mono HK2.out.size), hk.below_right hb⟩
  case assign =>
    intro l' x A K' hK'
    dsimp only [enc]
    gi_wp2
    exact hK'
  case body =>
    rintro l' m x A ⟨hj, hk⟩ hsz hx
    have hlt2 := block_lt_of_cell hy2
    have hyA : A.cell? ⟨W.heap.size, 0, none⟩ = some (.func (.yield l) #[] #[]) := (hk.cell (p := ⟨W.heap.size, 0, none⟩) hlt2 (fun h => by have := HX.out _ h; simp at this)).trans hy2
    obtain ⟨fn, tmps, assign, body, hy, hR⟩ := HY.out m x A hj (by rw [List.getElem?_append_left (List.getElem?_eq_some_iff.1 hx).1]; exact hx)
    dsimp only [enc] at hy
    gi_wp2
    refine ⟨rfl, RoundIn.mono (show RoundIn (Fence.wide.inRound l') 0 Yba.prog l fn tmps assign body A _ from hR) ?_⟩
    rintro e A' ⟨rfl, hj', hk'⟩
    gi_wp2
    exact ⟨hk', hj', hk.trans hk'⟩
  case done =>
    rintro A ⟨hj, hk⟩ hd
    have hKA : Keeps X W A := HK2.out.trans hk
    have c1 : A.cell? ⟨Bl, 0, none⟩ = some (.pointer (some ⟨bL, 0, none⟩)) := (hKA.cell (block_lt_of_cell hBl) x1).trans hBl
    have c2 : A.cell? ⟨Bi, 0, none⟩ = some (.int .i64 i) := (hKA.cell (block_lt_of_cell hBi) x2).trans hBi
    have c7 : A.cell? ⟨bL, 7, none⟩ = some (.map mz) := (hKA.cell (block_lt_of_cell hL7) x3).trans hL7
    have hlk : ∀ n, (Instr.lookup 40 (.map mz) (.int .i64 i) false).run Yba.prog (A.drewN n) = .ok (.slice az nz cz) (A.drewN n) := fun n =>
      HZl.out _ (fun b hb => hKA.block b (Hmz.out b hb).1 (Hmz.out b hb).2)
    have hD : W.heap.size + 3 ≤ W2.heap.size := by have := Hs2.out; have := Hw1.out; omega
    have HD := hide hD
    clear hD
    gi_wp2
    gi_big_quiet_th (fail)
    have hbq : Below A.heap.size A (A.drewN nq) := below_drewN (Below.refl _ _) _
    have hj0 := HJ.out _ _ _ hj (hbq.mono hKA.size)
    have hK0 : Keeps X W (A.drewN nq) := hKA.trans (Keeps.of_below hbq X)
    have hk0 : Keeps X W2 (A.drewN nq) := hk.trans (Keeps.of_below hbq X)
    have hd0 : (A.drewN nq).heap[W2.heap.size]? = some (.deferred (some [])) := hd
    clear hbq hj hKA hk hd hlk c1 c2 c7
    generalize A.drewN nq = A0 at hj0 hK0 hk0 hd0 ⊢
    have Hy2 := hide hy2
    have HK0 := hide hK0
    have Hk0 := hide hk0
    have Hj0 := hide hj0
    have Hd0 := hide hd0
    clear hy2 hK0 hk0 hj0 hd0 hJ2 hK2
    rw [show (clockSeq L H N nc).length = nc by simp [clockSeq]] at Hj0
    gi_wp2
    gi_loopw [32] (fun v wr => ∃ m : Nat, m ≤ nz ∧ v = .int .i64 m ∧ J (nc + m) wr ∧ Keeps X W wr ∧ Keeps X W2 wr ∧ wr.heap[W2.heap.size]? = some (.deferred (some []))) (fun v _ => nz - (intOf v).toNat)
    case atStart => exact ⟨0, Nat.zero_le _, rfl, Hj0.out, HK0.out, Hk0.out, Hd0.out⟩
    case round =>
      obtain ⟨m, hm, rfl, hJs, hKr, hkr, hdr⟩ := hrel
      clear HK0 Hk0 Hj0 Hd0
      by_cases hlt : m < nz
      · obtain ⟨bz, rfl, xz, hzc⟩ := HZc.out.resolve_left (by omega)
        have hz0 := hzc m hlt
        obtain ⟨q1, q2⟩ := HZ.out m hlt
        have hs := HS.out (Z m).toNat (by omega)
        have c1 : wr.cell? ⟨Bl, 0, none⟩ = some (.pointer (some ⟨bL, 0, none⟩)) := (hKr.cell (block_lt_of_cell hBl) x1).trans hBl
        have c2 : wr.cell? ⟨bL, 2, none⟩ = some (.slice (some ⟨bn, 0, none⟩) k ck) := (hKr.cell (block_lt_of_cell hL2) x3).trans hL2
        have c3 : wr.cell? ⟨bz, m, none⟩ = some (.int .i64 (Z m)) := (hKr.cell (block_lt_of_cell hz0) xz).trans hz0
        have c4 : wr.cell? ⟨bn, (Z m).toNat, none⟩ = some (.string (L (Z m).toNat)) := (hKr.cell (block_lt_of_cell hs) x4).trans hs
        have c5 : wr.cell? ⟨W.heap.size, 0, none⟩ = some (.func (.yield l) #[] #[]) := (hkr.cell (p := ⟨W.heap.size, 0, none⟩) (block_lt_of_cell Hy2.out) (fun h => by have := HX.out _ h; simp at this)).trans Hy2.out
        have HKr := hide hKr
        have Hkr := hide hkr
        have Hdr := hide hdr
        have HJs := hide hJs
        clear hKr hkr hdr hJs hs hz0 hzc
        gi_wp2
        refine wpIn_region_front 9 rfl (by kernel_rfl) (by kernel_rfl) ?_
        dsimp only [List.take, List.drop]
        repeat (gi_big_quiet_step (fail))
        refine wpQuietIn_nil ?_
        intro _ hw'
        obtain ⟨nq, hw''⟩ := hw'
        subst hw''
        have hb3 : Below wr.heap.size wr (wr.drewN nq) := below_drewN (Below.refl _ _) nq
        have hJ3 := HJ.out _ _ _ HJs.out (hb3.mono HKr.out.size)
        have hK3 : Keeps X W _ := HKr.out.trans (Keeps.of_below hb3 X)
        have hk3 : Keeps X W2 _ := Hkr.out.trans (Keeps.of_below hb3 X)
        have hd3 : (wr.drewN nq).heap[W2.heap.size]? = some (.deferred (some [])) := Hdr.out
        clear c1 c2 c3 c4 c5 hb3 HKr Hkr Hdr HJs
        generalize wr.drewN nq = w3 at hJ3 hK3 hk3 hd3 ⊢
        obtain ⟨fn, tmps, assign, body, hy, hR⟩ := HY.out (nc + m) (L (Z m).toNat, 0) w3 hJ3 (by rw [List.getElem?_append_right (by simp [clockSeq])]; simp [clockSeq, zeroSeq, hlt])
        dsimp only [enc] at hy
        gi_wp2
        refine ⟨rfl, hR.mono ?_⟩
        rintro e A' ⟨rfl, hJ4, hK4⟩
        gi_wp2
        go_roundw
        case rel => exact ⟨m + 1, by omega, by simp, hJ4, hK3.trans hK4, hk3.trans hK4, (hK4.block _ (Array.getElem?_eq_some_iff.1 hd3).1 (fun h => by have := HX.out _ h; have := HD.out; omega)).trans hd3⟩
        case measure => simp [intOf]; omega
      · obtain rfl : m = nz := by omega
        gi_wp2
        refine ⟨by simp, .inl ⟨_, _, rfl, run_takeDeferred hdr, ?_⟩⟩
        refine ⟨_, results_none rfl _ _ _, ⟨_, rfl⟩, ?_⟩
        rw [show (clockSeq L H N nc ++ zeroSeq L Z m).length = nc + m by simp [clockSeq, zeroSeq]]
        exact HJ.out _ _ _ hJs (below_put _ _ _ (by have := HD.out; omega))

end Go.Proofs.Ybulkgdoo.iter
