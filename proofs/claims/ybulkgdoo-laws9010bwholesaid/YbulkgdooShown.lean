/-
  (*Log).Events: the events of a log, each as the package shows it, its clock a map of its own.
-/
import Derived.Test.YbulkgdooEvents
import Derived.Laws.MakeOwn
namespace Go.Proofs.Ybulkgdoo.events
open Go Go.RowKit Go.Shelf
open Go.Proofs.Ybulkgdoo.search Go.Proofs.Ybulkgdoo.front Go.Proofs.Ybulkgdoo.range Go.Proofs.Ybulkgdoo.iter
set_option linter.unusedVariables false
set_option linter.unusedSimpArgs false

/-- The first m events are written: e 0 .. e 3 the four cells of each. -/
def Wr4 (e0 e1 e2 e3 : Nat → Value) (xs : List Value) (m : Nat) : Prop :=
  ∀ j, j < m → xs[j * 4]? = some (e0 j) ∧ xs[j * 4 + 1]? = some (e1 j) ∧ xs[j * 4 + 2]? = some (e2 j) ∧ xs[j * 4 + 3]? = some (e3 j)
theorem wr4_succ {e0 e1 e2 e3 f1 : Nat → Value} {xs : List Value} {m n : Nat} (hl : xs.length = n * 4) (hm : m < n) (h : Wr4 e0 e1 e2 e3 xs m) (hf : ∀ j, j < m → f1 j = e1 j) :
    Wr4 e0 f1 e2 e3 ((((xs.set (m * 4) (e0 m)).set (m * 4 + 1) (f1 m)).set (m * 4 + 2) (e2 m)).set (m * 4 + 3) (e3 m)) (m + 1) := by
  intro j hj
  by_cases e : j = m
  · subst e
    refine ⟨?_, ?_, ?_, ?_⟩
    · rw [List.getElem?_set_ne (by omega), List.getElem?_set_ne (by omega), List.getElem?_set_ne (by omega), List.getElem?_set_self (by omega)]
    · rw [List.getElem?_set_ne (by omega), List.getElem?_set_ne (by omega), List.getElem?_set_self (by simp; omega)]
    · rw [List.getElem?_set_ne (by omega), List.getElem?_set_self (by simp; omega)]
    · rw [List.getElem?_set_self (by simp; omega)]
  · obtain ⟨h1, h2, h3, h4⟩ := h j (by omega)
    rw [hf j (by omega)]
    refine ⟨?_, ?_, ?_, ?_⟩ <;> rw [List.getElem?_set_ne (by omega), List.getElem?_set_ne (by omega), List.getElem?_set_ne (by omega), List.getElem?_set_ne (by omega)] <;> assumption

theorem info62 : (Yba.prog.info? 62).map (fun i => (i.zero, i.size, i.bytes)) = some (some (.agg #[.string { data := #[] }, .map none, .string { data := #[] }, .int .i64 0]), 4, 48) := by kernel_rfl

theorem grown_of_below {w w' : World} (h : Below w.heap.size w w') : w.grownBy w' none := ⟨h.os, h.tape, h.output, h.size, fun k hk _ => h.block k hk⟩

/-- The events that a log shows, in the row of block bg, their clocks the maps of blocks M. -/
structure EvsAt (d : LogD) (bg : Nat) (M : Nat → Nat) (W : World) : Prop where
  cells : ∀ j, j < d.ne → W.cell? ⟨bg, j * 4, none⟩ = some (.string (d.L (d.host j).toNat)) ∧ W.cell? ⟨bg, j * 4 + 1, none⟩ = some (.map (some (M j))) ∧ W.cell? ⟨bg, j * 4 + 2, none⟩ = some (.string (d.text j)) ∧ W.cell? ⟨bg, j * 4 + 3, none⟩ = some (.int .i64 (d.line j))
  maps : ∀ j, j < d.ne → W.ownsMap Yba.prog 9 heldR (M j) (d.nc j + d.nz j) (clockD (evSeq d j))
  frozen : ∀ p, W.frozen? ⟨bg, p, none⟩ = false
  lt : bg < W.heap.size
  ne : ∀ j, j < d.ne → M j ≠ bg

set_option maxRecDepth 100000 in
set_option maxHeartbeats 4000000 in
/-- 'l.Events()'. -/
theorem f7_any {d : LogD} {w : World} (h : d.At w.heap.size w) (ok : d.Ok) :
    Calls Yba.prog 7 #[.pointer (some ⟨d.bL, 0, none⟩)] w fun e w' =>
      ∃ M : Nat → Nat, e = .returned (.slice (some ⟨w.heap.size, 0, none⟩) d.ne d.ne) ∧ EvsAt d w.heap.size M w' ∧ (∀ j, j < d.ne → w.heap.size ≤ M j) ∧ Below w.heap.size w w' := by
  obtain ⟨i0, hi, hz0, hz1, hz2⟩ := info_parts info62
  have HA := hide h
  have HOk := hide ok
  have c3 := h.c3
  have hne := ok.ne
  clear h ok
  go_enter Yba.func7, Yba.ntmps7
  go_wp2_with (at_make; refine wpList_make_full w rfl _ _ 55 rfl w.heap.size 62 i0 (.agg #[.string { data := #[] }, .map none, .string { data := #[] }, .int .i64 0]) 4 Yba.underlying55 hi hz0 hz1 .i64 .i64 _ _ d.ne rfl rfl rfl rfl ?b2 ?b3 (Nat.le_refl _) ?_)
  case b2 => rw [hz2]; omega
  case b3 => unfold maxLen; omega
  intro w1 hown hgr
  have hbel : Below w.heap.size w w1 := (Below.refl _ _).grown hgr (Nat.le_refl _) (by simp)
  have hsz : w.heap.size < w1.heap.size := (hown.lt _ rfl).2
  have HOwn := hide hown
  have c31 := (hbel.cell (p := ⟨d.bL, 3, none⟩) HA.out.bL).trans c3
  clear hown hgr
  go_wp2
  go_loopw [16] (fun v wr => ∃ m : Nat, ∃ xs : List Value, ∃ M : Nat → Nat, m ≤ d.ne ∧ v = .int .i64 m ∧ wr.ownsRow w.heap.size 62 4 (.slice (some ⟨w.heap.size, 0, none⟩) d.ne d.ne) d.ne xs ∧ Below w.heap.size w wr ∧ w.heap.size < wr.heap.size ∧
      Wr4 (fun j => .string (d.L (d.host j).toNat)) (fun j => .map (some (M j))) (fun j => .string (d.text j)) (fun j => .int .i64 (d.line j)) xs m ∧
      ∀ j, j < m → wr.ownsMap Yba.prog 9 heldR (M j) (d.nc j + d.nz j) (clockD (evSeq d j)) ∧ w.heap.size < M j)
    (fun v _ => d.ne - (intOf v).toNat)
  case atStart => exact ⟨0, _, fun _ => 0, Nat.zero_le _, rfl, HOwn.out, hbel, hsz, fun j hj => by omega, fun j hj => by omega⟩
  case round =>
    obtain ⟨m, xs, M, hm, rfl, ho, hb, hs, hx, hM⟩ := hrel
    have HX := hide hx
    have HO := hide ho
    have HM := hide hM
    have Hb := hide hb
    clear hx ho hM hb HOwn hbel c31 hsz
    by_cases hlt : m < d.ne
    · have hlti : (m : Int) < (d.ne : Int) := by omega
      have hA1 : d.At wr.heap.size wr := by
        have h1 := HA.out.keep Hb.out
        exact ⟨Nat.le_refl _, h1.c2, h1.names, h1.c3, h1.ev0, h1.ev1, h1.ev2, h1.ev3, h1.ev4, h1.c7, h1.ents, h1.look, fun i hi => rightBy (h1.zc i hi) fun ⟨bz, e, hl, hc⟩ => ⟨bz, e, by omega, hc⟩,
          by have := h1.bL; omega, by have := h1.bn; omega, by have := h1.be; omega, fun i hi => by have := h1.bc i hi; omega, fun b e => by have := h1.bz b e; omega⟩
      have HA1 := hide hA1
      clear hA1
      have hxl : xs.length = d.ne * 4 := HO.out.1
      have HXl := hide hxl
      clear hxl
      go_wp2_with (go_at_call 14; refine (callsIn_wide.1 (f14_in HA1.out HOk.out hlt)).mono ?_; rintro e w5 ⟨bm, rfl, hbm, ho5, hb5⟩; have HO5 := hide (HO.out.kept (grown_of_below hb5) (.inr (by simp [Value.ownBlock]))); obtain ⟨v0, hv0⟩ : ∃ v, w5.cell? ⟨w.heap.size, m * 4, none⟩ = some v := ⟨_, (HO5.out.cellAt (m * 4) (by omega)).trans (List.getElem?_eq_getElem (by have := HXl.out; omega))⟩; obtain ⟨v1, hv1⟩ : ∃ v, w5.cell? ⟨w.heap.size, m * 4 + 1, none⟩ = some v := ⟨_, (HO5.out.cellAt (m * 4 + 1) (by omega)).trans (List.getElem?_eq_getElem (by have := HXl.out; omega))⟩; obtain ⟨v2, hv2⟩ : ∃ v, w5.cell? ⟨w.heap.size, m * 4 + 2, none⟩ = some v := ⟨_, (HO5.out.cellAt (m * 4 + 2) (by omega)).trans (List.getElem?_eq_getElem (by have := HXl.out; omega))⟩; obtain ⟨v3, hv3⟩ : ∃ v, w5.cell? ⟨w.heap.size, m * 4 + 3, none⟩ = some v := ⟨_, (HO5.out.cellAt (m * 4 + 3) (by omega)).trans (List.getElem?_eq_getElem (by have := HXl.out; omega))⟩; have hf0 := HO5.out.frozenAt (m * 4); have hf1 := HO5.out.frozenAt (m * 4 + 1); have hf2 := HO5.out.frozenAt (m * 4 + 2); have hf3 := HO5.out.frozenAt (m * 4 + 3); have Hb5 := hide hb5; have Ho5 := hide ho5; clear hb5 ho5)
      go_roundw
      case rel =>
        have hst := ((((HO5.out.stored (m * 4) (.string (d.L (d.host m).toNat))).1.stored (m * 4 + 1) (.map (some bm))).1.stored (m * 4 + 2) (.string (d.text m))).1.stored (m * 4 + 3) (.int .i64 (d.line m))).1
        refine ⟨m + 1, _, fun j => if j = m then bm else M j, by omega, by go_num, hst, ?_, ?_, ?_, ?_⟩
        · exact ((((Hb.out.trans (Hb5.out.mono (by omega))).setCell (p := ⟨w.heap.size, _, none⟩) (Nat.le_refl _) _).setCell (p := ⟨w.heap.size, _, none⟩) (Nat.le_refl _) _).setCell (p := ⟨w.heap.size, _, none⟩) (Nat.le_refl _) _).setCell (p := ⟨w.heap.size, _, none⟩) (Nat.le_refl _) _
        · have := Hb5.out.size
          simp; omega
        · have := wr4_succ (f1 := fun j => .map (some (if j = m then bm else M j))) HXl.out hlt HX.out (fun j hj => by rw [if_neg (by omega)])
          simpa using this
        · intro j hj
          dsimp only
          have hset : ∀ {b n : Nat} {D : DataW Value}, w5.ownsMap Yba.prog 9 heldR b n D → b ≠ w.heap.size → ((((w5.setCell ⟨w.heap.size, m * 4, none⟩ (.string (d.L (d.host m).toNat))).setCell ⟨w.heap.size, m * 4 + 1, none⟩ (.map (some bm))).setCell ⟨w.heap.size, m * 4 + 2, none⟩ (.string (d.text m))).setCell ⟨w.heap.size, m * 4 + 3, none⟩ (.int .i64 (d.line m))).ownsMap Yba.prog 9 heldR b n D :=
            fun ho hne => (((ho.setCell hne _).setCell hne _).setCell hne _).setCell hne _
          by_cases e : j = m
          · subst e
            rw [if_pos rfl]
            exact ⟨hset Ho5.out (by omega), by omega⟩
          · rw [if_neg e]
            obtain ⟨h1, h2⟩ := HM.out j (by omega)
            exact ⟨hset (h1.kept (grown_of_below Hb5.out) (by simp)) (by omega), h2⟩
      case measure => simp [intOf]; omega
    · obtain rfl : m = d.ne := by omega
      go_wp2
      go_ret
      refine ⟨M, rfl, ⟨fun j hj => ?_, fun j hj => (HM.out j hj).1, fun p => HO.out.frozenAt p, hs, fun j hj => by have := (HM.out j hj).2; omega⟩, fun j hj => by have := (HM.out j hj).2; omega, Hb.out⟩
      obtain ⟨h1, h2, h3, h4⟩ := HX.out j hj
      exact ⟨(HO.out.cellAt _ (by omega)).trans h1, (HO.out.cellAt _ (by omega)).trans h2, (HO.out.cellAt _ (by omega)).trans h3, (HO.out.cellAt _ (by omega)).trans h4⟩

end Go.Proofs.Ybulkgdoo.events
