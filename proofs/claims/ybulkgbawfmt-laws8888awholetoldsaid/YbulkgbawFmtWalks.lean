/-
  THE WALKS of LawS8888AWhole's callees: zzs8888acopy (4), zzs8888asame (6), precisionModifier (5), its closure (7).
-/
import Derived.Test.YbulkgbawFmtFacts
import Derived.WalkKit
import Derived.WalkSpells
import Derived.Deep.QuietTactic
import Derived.BigQuiet
import Derived.LaidEql
namespace Go.Proofs.YbulkgbawFmt.lawS8888AWhole
open Go.RowKit Go.Extern.Stop Go.Stop Go.Extern

theorem hide {p : Prop} (h : p) : Hid p := h
theorem info21 : (Ybaf.prog.info? 21).map (fun i => (i.zero, i.size, i.bytes)) = some (some (.int .i32 0), 1, 4) := by kernel_rfl

/-- zzs8888acopy of nil. -/
theorem copy_nil (w : World) : Calls Ybaf.prog 4 #[.slice none 0 0] w fun e w' => e = .returned (.slice none 0 0) ∧ w' = w := by
  have q22 := fun (w : World) (a : Option Addr) (n c n' c' : Nat) => Lib.run_eql_slice_nil (P := Ybaf.prog) w 22 21 a n c n' c' Ybaf.underlying22
  go_enter Ybaf.func4, Ybaf.ntmps4
  go_wp2
  go_ret
  exact ⟨rfl, rfl⟩

set_option maxHeartbeats 1000000 in
/-- zzs8888acopy of a slice that is not nil. -/
theorem copy_some (x : Addr) (len cap : Nat) (zs : List Int) (w : World) (hlen : len ≤ 1048576)
    (hc : ∀ j, j < len → w.cell? (x.add j) = some (.int .i32 (zs.getD j 0))) :
    Calls Ybaf.prog 4 #[.slice (some x) len cap] w fun e w' => e = .returned (.slice (some ⟨w.heap.size, 0, none⟩) len len) ∧ Below w.heap.size w w' ∧
      w.heap.size < w'.heap.size ∧ ∀ j, j < len → w'.cell? ⟨w.heap.size, j, none⟩ = some (.int .i32 (zs.getD j 0)) := by
  have q22 := fun (w : World) (a : Option Addr) (n c n' c' : Nat) => Lib.run_eql_slice_nil (P := Ybaf.prog) w 22 21 a n c n' c' Ybaf.underlying22
  obtain ⟨i0, hi, hz0, hz1, hz2⟩ := info_parts info21
  go_enter Ybaf.func4, Ybaf.ntmps4
  go_wp2_with (at_make; refine wpList_make_full w rfl _ _ 22 rfl w.heap.size 21 i0 (.int .i32 0) 1 Ybaf.underlying22 hi hz0 hz1 .i64 .i64 _ _ len rfl rfl rfl rfl ?b2 ?b3 (Nat.le_refl _) ?_)
  case b2 => rw [hz2]; omega
  case b3 => unfold maxLen; omega
  intro w1 hown hgr
  have hbel : Below w.heap.size w w1 := (Below.refl _ _).grown hgr (Nat.le_refl _) (by simp)
  have hsz : w.heap.size < w1.heap.size := (hown.lt _ rfl).2
  go_wp2
  go_loopw [4] (fun i wr => ∃ k : Nat, ∃ xs : List Value, k ≤ len ∧ i = .int .i64 k ∧ wr.ownsRow w.heap.size 21 1 (.slice (some ⟨w.heap.size, 0, none⟩) len len) len xs ∧ Below w.heap.size w wr ∧
      w.heap.size < wr.heap.size ∧ ∀ j, j < k → xs[j]? = some (.int .i32 (zs.getD j 0)))
    (fun i _ => len - (intOf i).toNat)
  case atStart => exact ⟨0, _, Nat.zero_le _, rfl, hown, hbel, hsz, by omega⟩
  case round =>
    obtain ⟨k, xs, hk, rfl, ho, hb, hs, hx⟩ := hrel
    have HX : Hid (∀ j, j < k → xs[j]? = some (.int .i32 (zs.getD j 0))) := hx
    have HO := hide ho
    clear hx
    by_cases hlt : k < len
    · have hcx : wr.cell? (x.add k) = some (.int .i32 (zs.getD k 0)) := (hb.cell (by exact block_lt_of_cell (hc k hlt))).trans (hc k hlt)
      obtain ⟨v, hv⟩ : ∃ v, wr.cell? ⟨w.heap.size, k, none⟩ = some v := by
        have hl : xs.length = len * 1 := ho.1
        exact ⟨_, (ho.cellAt k (by omega)).trans (List.getElem?_eq_getElem (by omega))⟩
      have hfr := ho.frozenAt k
      clear ho
      go_wp2
      go_roundw
      case rel =>
        have hst := HO.out.stored k (.int .i32 (zs.getD k 0))
        have hl : xs.length = len * 1 := HO.out.1
        refine ⟨k + 1, xs.set k (.int .i32 (zs.getD k 0)), by omega, by go_num, hst.1, hb.setCell (Nat.le_refl _) _, by simp; omega, ?_⟩
        intro j hj
        by_cases e : j = k
        · subst e
          rw [List.getElem?_set_self (by omega)]
        · rw [List.getElem?_set_ne (fun h => e h.symm)]
          exact HX.out j (by omega)
      case measure => simp [intOf]; omega
    · go_wp2
      go_ret
      have hkl : k = len := by omega
      subst hkl
      exact ⟨rfl, hb, hs, fun j hj => ((HO.out).cellAt j (by omega)).trans (HX.out j hj)⟩

/-- zzs8888asame of two nils. -/
theorem same_nil (w : World) : Calls Ybaf.prog 6 #[.slice none 0 0, .slice none 0 0] w fun e w' => e = .returned (.bool true) ∧ ∃ n, w' = w.drewN n := by
  have q22 := fun (w : World) (a : Option Addr) (n c n' c' : Nat) => Lib.run_eql_slice_nil (P := Ybaf.prog) w 22 21 a n c n' c' Ybaf.underlying22
  go_enter Ybaf.func6, Ybaf.ntmps6
  go_wp2
  refine wp_loop_rounds 1 ?_; rw [rounds_succ]
  go_wp2
  go_ret
  exact ⟨rfl, 0, rfl⟩

set_option maxHeartbeats 1000000 in
theorem same_some (x y : Addr) (len c1 c2 : Nat) (zs : List Int) (w : World) (hlen : len ≤ 1048576)
    (hx : ∀ j, j < len → w.cell? (x.add j) = some (.int .i32 (zs.getD j 0))) (hy : ∀ j, j < len → w.cell? (y.add j) = some (.int .i32 (zs.getD j 0))) :
    Calls Ybaf.prog 6 #[.slice (some x) len c1, .slice (some y) len c2] w fun e w' => e = .returned (.bool true) ∧ ∃ n, w' = w.drewN n := by
  have q22 := fun (w : World) (a : Option Addr) (n c n' c' : Nat) => Lib.run_eql_slice_nil (P := Ybaf.prog) w 22 21 a n c n' c' Ybaf.underlying22
  go_enter Ybaf.func6, Ybaf.ntmps6
  go_wp2
  go_loopw [5] (fun i wr => ∃ k n : Nat, k ≤ len ∧ i = .int .i64 k ∧ wr = w.drewN n) (fun i _ => len - (intOf i).toNat)
  case atStart => exact ⟨0, 0, Nat.zero_le _, rfl, rfl⟩
  case round =>
    obtain ⟨k, n, hk, rfl, rfl⟩ := hrel
    by_cases hlt : k < len
    · have hcx := hx k hlt
      have hcy := hy k hlt
      have hki : (k : Int) < (len : Int) := by omega
      have HX := hide hx
      have HY := hide hy
      clear hx hy
      go_wp2
      go_quiet (fail)
      go_wp2
      go_roundw
      case rel => exact ⟨k + 1, _, by omega, by go_num, rfl⟩
      case measure => simp [intOf]; omega
    · go_wp2
      go_ret
      exact ⟨rfl, n, rfl⟩

/-- precisionModifier: the two strings are boxed; the closure holds pointers to them. -/
theorem prec_any (nm zn : ByteArray) (w : World) : Calls Ybaf.prog 5 #[.string nm, .string zn] w fun e w' =>
    e = .returned (.func (.func 7) #[] #[.pointer (some ⟨w.heap.size, 0, none⟩), .pointer (some ⟨w.heap.size + 1, 0, none⟩)]) ∧ w' = (w.alloc (.cells #[.string nm] 9)).alloc (.cells #[.string zn] 9) := by
  go_enter Ybaf.func5, Ybaf.ntmps5
  go_wp2
  go_ret
  exact ⟨rfl, rfl⟩

attribute [local go_sem] call9 guard fmt0 fmt0r op9_115 op9_115w op21_100 op21_100w ptr35 elem35 isError35 ptr34 elem34 isError34

/-- The rule, at a number of values that is not one. -/
theorem rule_count (p1 p2 : Value) (v : Option Addr) (len cap : Nat) (ae : Addr) (w : World) (_hlen : len ≤ 1048576) (hn : ¬ len = 1) (hg : w.cell? ⟨0, 0, none⟩ = some (.iface 35 (.pointer (some ae)))) :
    Calls Ybaf.prog 7 #[.slice v len cap, p1, p2] w fun e w' => e = .returned (.iface 35 (.pointer (some ae))) ∧ w' = w := by
  have hn' : ((len : Int) == 1) = false := by simpa using (by omega : ¬ (len : Int) = 1)
  go_enter Ybaf.func7, Ybaf.ntmps7
  go_wp2
  go_ret
  exact ⟨rfl, rfl⟩

theorem rule_ok (p1 p2 : Value) (x : Addr) (cap : Nat) (z : Int) (w : World) (hx : w.cell? x = some (.int .i32 z)) (hz : 0 ≤ z) :
    Calls Ybaf.prog 7 #[.slice (some x) 1 cap, p1, p2] w fun e w' => e = .returned .nilIface ∧ w' = w := by
  go_enter Ybaf.func7, Ybaf.ntmps7
  go_wp2
  go_ret
  exact ⟨rfl, rfl⟩

theorem two_new (w : World) (o1 o2 : Obj) : ((w.alloc o1).alloc o2).drew.heap[w.heap.size + 1]? = some o2 := by
  show ((w.heap.push o1).push o2)[w.heap.size + 1]? = some o2
  rw [Array.getElem?_push, if_pos (by simp)]

theorem rule_neg (F : Interp) (a1 a2 x : Addr) (nm zn : ByteArray) (cap : Nat) (z : Int) (w : World) (hF : F.answers w.tape) (hx : w.cell? x = some (.int .i32 z)) (hz : z < 0)
    (h1 : w.cell? a1 = some (.string nm)) (h2 : w.cell? a2 = some (.string zn)) :
    Calls Ybaf.prog 7 #[.slice (some x) 1 cap, .pointer (some a1), .pointer (some a2)] w fun e w' => e = .returned (.iface 35 (.pointer (some ⟨w.heap.size + 1, 0, none⟩))) ∧ Below w.heap.size w w' ∧ ∃ c, w'.heap[w.heap.size + 1]? = some (.cells c 37 (0, 0)) := by
  have hF' := answers_open hF
  go_enter Ybaf.func7, Ybaf.ntmps7
  go_wp2
  go_ret
  exact ⟨rfl, (((Below.refl _ _).alloc (Nat.le_refl _) _).alloc (by simp) _).drew, _, two_new w _ _⟩

/-! ### '==' between errors -/
theorem sameAddr_new (w : World) {a b : Addr} {c : Array Value} {t : TypeId} {v : Value} (hne : a.block ≠ b.block) (ha : w.heap[a.block]? = some (.cells c t (0, 0))) (hb : w.cell? b = some v) :
    (sameAddr a b).run Ybaf.prog w = .ok false w := by
  unfold World.cell? at hb
  split at hb
  · rename_i cb tb fb hbl
    obtain ⟨lo, hi⟩ := fb
    have hpos : cb.size ≠ 0 := by
      intro h0
      split at hb
      · cases hb
      · have : cb = #[] := by simpa using h0
        subst this
        simp at hb
    simp [sameAddr, hne, World.frozen?, ha, hbl, noView, viewAt, World.shape?, mayBeOne, stringish, hpos]
  · cases hb

theorem info35 : ∃ i, Ybaf.prog.info? 35 = some i ∧ i.comparable = true := ⟨_, rfl, by kernel_rfl⟩
theorem info37 : ∃ i, Ybaf.prog.info? 37 = some i ∧ i.size = 1 := ⟨_, rfl, by kernel_rfl⟩

theorem neq_new (w : World) {a b : Addr} {c : Array Value} {t : TypeId} {v : Value} (hne : a.block ≠ b.block) (ha : w.heap[a.block]? = some (.cells c t (0, 0))) (hb : w.cell? b = some v) :
    (binOp .neq 28 (.iface 35 (.pointer (some a))) (.iface 35 (.pointer (some b)))).run Ybaf.prog w = .ok (.bool true) w := by
  obtain ⟨i, hi, hc⟩ := info35
  obtain ⟨j, hj, hz⟩ := info37
  have h : ∀ d : Nat, (Op.equalIn (d + 2) 28 (.iface 35 (.pointer (some a))) (.iface 35 (.pointer (some b)))).run Ybaf.prog w = .ok false w := fun d => by
    simp [Op.equalIn, run_underlying Ybaf.underlying28, run_underlying Ybaf.underlying35, typeInfo, hi, hc, sizeOf, hj, hz, sameAddr_new w hne ha hb]
  simp only [binOp]
  simp [Op.equal, Op.maxDepth, h 9998]

theorem eql_same (w : World) (a : Addr) : (binOp .eql 28 (.iface 35 (.pointer (some a))) (.iface 35 (.pointer (some a)))).run Ybaf.prog w = .ok (.bool true) w := by
  obtain ⟨i, hi, hc⟩ := info35
  obtain ⟨j, hj, _⟩ := info37
  exact run_eql_iface_ptr_same w a Ybaf.underlying28 Ybaf.underlying35 hi hc hj

end Go.Proofs.YbulkgbawFmt.lawS8888AWhole
