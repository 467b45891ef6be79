/-
  THE WALK of LawS8888AWhole itself, out of its callees' contracts.
-/
import Derived.Test.YbulkgbawFmtWalks
import Derived.WalkSmall
namespace Go.Proofs.YbulkgbawFmt.lawS8888AWhole
open Go.RowKit Go.Extern.Stop Go.Stop Go.Extern
set_option linter.unusedVariables false

theorem add_head (b j : Nat) : Addr.add ⟨b, 0, none⟩ j = ⟨b, j, none⟩ := by
  unfold Addr.add
  split <;> simp_all

theorem prec_cells (nm zn : ByteArray) (w : World) : Calls Ybaf.prog 5 #[.string nm, .string zn] w fun e w' =>
    e = .returned (.func (.func 7) #[] #[.pointer (some ⟨w.heap.size, 0, none⟩), .pointer (some ⟨w.heap.size + 1, 0, none⟩)]) ∧ Below w.heap.size w w' ∧
      w'.cell? ⟨w.heap.size, 0, none⟩ = some (.string nm) ∧ w'.cell? ⟨w.heap.size + 1, 0, none⟩ = some (.string zn) := by
  refine (prec_any nm zn w).mono ?_
  rintro e w' ⟨rfl, rfl⟩
  exact ⟨rfl, ((Below.refl _ _).alloc (Nat.le_refl _) _).alloc (by simp) _, by go_simp, by go_simp⟩

set_option maxHeartbeats 1000000 in
theorem law_nil (nm zn : ByteArray) (ae : Addr) (w : World) (hg : w.cell? ⟨0, 0, none⟩ = some (.iface 35 (.pointer (some ae)))) :
    Calls Ybaf.prog 3 #[.string nm, .string zn, .slice none 0 0] w fun e w' => e = .returned (.bool true) ∧ Below w.heap.size w w' := by
  have h0 : 0 < w.heap.size := block_lt_of_cell hg
  have he := eql_same
  go_enter Ybaf.func3, Ybaf.ntmps3
  go_wp2_with fail
  refine (copy_nil _).mono ?_
  rintro e w1 ⟨rfl, rfl⟩
  go_wp2_with fail
  refine (prec_cells _ _ _).mono ?_
  rintro e w2 ⟨rfl, hb2, hc1, hc2⟩
  have hg2 : w2.cell? ⟨0, 0, none⟩ = some (.iface 35 (.pointer (some ae))) := (hb2.cell (by exact h0)).trans hg
  clear hc1 hc2
  go_wp2_with fail
  refine (rule_count _ _ _ _ _ ae _ (by omega) (by omega) hg2).mono ?_
  rintro e w3 ⟨rfl, rfl⟩
  go_wp2_with fail
  refine (same_nil _).mono ?_
  rintro e w4 ⟨rfl, n, rfl⟩
  go_wp2
  go_ret
  exact ⟨rfl, below_drewN hb2 n⟩

set_option maxHeartbeats 1000000 in
theorem law_count (F : Interp) (nm zn : ByteArray) (ae x : Addr) (len cap : Nat) (zs : List Int) (se : ByteArray) (w : World) (hF : F.answers w.tape) (hg : w.cell? ⟨0, 0, none⟩ = some (.iface 35 (.pointer (some ae))))
    (hse : w.cell? ae = some (.string se)) (hlen : len ≤ 1048576) (hc : ∀ j, j < len → w.cell? (x.add j) = some (.int .i32 (zs.getD j 0))) (hn : ¬ len = 1) :
    Calls Ybaf.prog 3 #[.string nm, .string zn, .slice (some x) len cap] w fun e w' => e = .returned (.bool true) ∧ Below w.heap.size w w' := by
  have h0 : 0 < w.heap.size := block_lt_of_cell hg
  have he := eql_same
  have hn' : ((len : Int) == 1) = false := by simpa using (by omega : ¬ (len : Int) = 1)
  go_enter Ybaf.func3, Ybaf.ntmps3
  go_wp2_with fail
  refine (copy_some x _ _ zs _ hlen hc).mono ?_
  rintro e w1 ⟨rfl, hb1, hs1, hcp⟩
  go_wp2_with fail
  refine (prec_cells _ _ _).mono ?_
  rintro e w2 ⟨rfl, hb2, hc1, hc2⟩
  have hbw2 : Below w.heap.size w w2 := hb1.trans (hb2.mono (by omega))
  have hg2 : w2.cell? ⟨0, 0, none⟩ = some (.iface 35 (.pointer (some ae))) := (hbw2.cell (by exact h0)).trans hg
  clear hc1 hc2
  go_wp2_with fail
  refine (rule_count _ _ _ _ _ ae _ hlen hn hg2).mono ?_
  rintro e w3 ⟨rfl, rfl⟩
  have hb13 : Below w1.heap.size w1 w3 := hb2
  have hbw3 : Below w.heap.size w w3 := hbw2
  have hx3 : ∀ j, j < len → w3.cell? (x.add j) = some (.int .i32 (zs.getD j 0)) := fun j hj => (hbw3.cell (by exact block_lt_of_cell (hc j hj))).trans (hc j hj)
  have hy3 : ∀ j, j < len → w3.cell? (Addr.add ⟨w.heap.size, 0, none⟩ j) = some (.int .i32 (zs.getD j 0)) := fun j hj => by
    have h1 := hcp j hj
    have h2 := hb13.cell (p := ⟨w.heap.size, j, none⟩) (by exact hs1)
    rw [add_head]
    exact h2.trans h1
  have hg3 : w3.cell? ⟨0, 0, none⟩ = some (.iface 35 (.pointer (some ae))) := (hbw3.cell (by exact h0)).trans hg
  clear hcp hg2 hg hc
  have HX := hide hx3
  have HY := hide hy3
  clear hx3 hy3
  go_wp2_with fail
  refine (same_some x _ _ _ _ zs _ hlen HX.out HY.out).mono ?_
  rintro e w4 ⟨rfl, n, rfl⟩
  go_wp2
  go_ret
  exact ⟨rfl, below_drewN hbw3 n⟩

set_option maxHeartbeats 1000000 in
theorem law_ok (F : Interp) (nm zn : ByteArray) (ae x : Addr) (len cap : Nat) (zs : List Int) (se : ByteArray) (w : World) (hF : F.answers w.tape) (hg : w.cell? ⟨0, 0, none⟩ = some (.iface 35 (.pointer (some ae))))
    (hse : w.cell? ae = some (.string se)) (hlen : len ≤ 1048576) (hc : ∀ j, j < len → w.cell? (x.add j) = some (.int .i32 (zs.getD j 0))) (hn : len = 1) (z : Int) (hz0 : zs.getD 0 0 = z) (hz : 0 ≤ z) :
    Calls Ybaf.prog 3 #[.string nm, .string zn, .slice (some x) len cap] w fun e w' => e = .returned (.bool true) ∧ Below w.heap.size w w' := by
  have h0 : 0 < w.heap.size := block_lt_of_cell hg
  subst hn
  have hc0 : w.cell? x = some (.int .i32 z) := by rw [← hz0]; simpa [Addr.add] using hc 0 (by omega)
  go_enter Ybaf.func3, Ybaf.ntmps3
  go_wp2_with fail
  refine (copy_some x _ _ zs _ hlen hc).mono ?_
  rintro e w1 ⟨rfl, hb1, hs1, hcp⟩
  go_wp2_with fail
  refine (prec_cells _ _ _).mono ?_
  rintro e w2 ⟨rfl, hb2, hc1, hc2⟩
  have hbw2 : Below w.heap.size w w2 := hb1.trans (hb2.mono (by omega))
  have hg2 : w2.cell? ⟨0, 0, none⟩ = some (.iface 35 (.pointer (some ae))) := (hbw2.cell (by exact h0)).trans hg
  have hx2 : w2.cell? x = some (.int .i32 z) := (hbw2.cell (by exact block_lt_of_cell hc0)).trans hc0
  clear hc1 hc2
  go_wp2_with fail
  refine (rule_ok _ _ _ _ _ _ hx2 hz).mono ?_
  rintro e w3 ⟨rfl, rfl⟩
  have hb13 : Below w1.heap.size w1 w3 := hb2
  have hbw3 : Below w.heap.size w w3 := hbw2
  have hx3 : ∀ j, j < 1 → w3.cell? (x.add j) = some (.int .i32 (zs.getD j 0)) := fun j hj => (hbw3.cell (by exact block_lt_of_cell (hc j hj))).trans (hc j hj)
  have hy3 : ∀ j, j < 1 → w3.cell? (Addr.add ⟨w.heap.size, 0, none⟩ j) = some (.int .i32 (zs.getD j 0)) := fun j hj => by
    have h1 := hcp j hj
    have h2 := hb13.cell (p := ⟨w.heap.size, j, none⟩) (by exact hs1)
    rw [add_head]
    exact h2.trans h1
  have hg3 : w3.cell? ⟨0, 0, none⟩ = some (.iface 35 (.pointer (some ae))) := (hbw3.cell (by exact h0)).trans hg
  have hy0 : w3.cell? ⟨w.heap.size, 0, none⟩ = some (.int .i32 z) := by rw [← hz0]; simpa [Addr.add] using hy3 0 (by omega)
  clear hz0
  clear hcp hg2 hg hc hc0 hx2
  have HX := hide hx3
  have HY := hide hy3
  clear hx3 hy3
  go_wp2_with fail
  refine (same_some x _ _ _ _ zs _ (by omega) HX.out HY.out).mono ?_
  rintro e w4 ⟨rfl, n, rfl⟩
  go_wp2
  go_ret
  exact ⟨rfl, below_drewN hbw3 n⟩

set_option maxHeartbeats 1000000 in
theorem law_neg (F : Interp) (nm zn : ByteArray) (ae x : Addr) (len cap : Nat) (zs : List Int) (se : ByteArray) (w : World) (hF : F.answers w.tape) (hg : w.cell? ⟨0, 0, none⟩ = some (.iface 35 (.pointer (some ae))))
    (hse : w.cell? ae = some (.string se)) (hlen : len ≤ 1048576) (hc : ∀ j, j < len → w.cell? (x.add j) = some (.int .i32 (zs.getD j 0))) (hn : len = 1) (z : Int) (hz0 : zs.getD 0 0 = z) (hz : z < 0) :
    Calls Ybaf.prog 3 #[.string nm, .string zn, .slice (some x) len cap] w fun e w' => e = .returned (.bool true) ∧ Below w.heap.size w w' := by
  have h0 : 0 < w.heap.size := block_lt_of_cell hg
  subst hn
  have hc0 : w.cell? x = some (.int .i32 z) := by rw [← hz0]; simpa [Addr.add] using hc 0 (by omega)
  go_enter Ybaf.func3, Ybaf.ntmps3
  go_wp2_with fail
  refine (copy_some x _ _ zs _ hlen hc).mono ?_
  rintro e w1 ⟨rfl, hb1, hs1, hcp⟩
  go_wp2_with fail
  refine (prec_cells _ _ _).mono ?_
  rintro e w2 ⟨rfl, hb2, hc1, hc2⟩
  have hbw2 : Below w.heap.size w w2 := hb1.trans (hb2.mono (by omega))
  have hg2 : w2.cell? ⟨0, 0, none⟩ = some (.iface 35 (.pointer (some ae))) := (hbw2.cell (by exact h0)).trans hg
  have hx2 : w2.cell? x = some (.int .i32 z) := (hbw2.cell (by exact block_lt_of_cell hc0)).trans hc0
  have hF2 : F.answers w2.tape := by rw [hbw2.tape]; exact hF
  go_wp2_with fail
  refine (rule_neg F _ _ _ nm zn _ _ _ hF2 hx2 hz hc1 hc2).mono ?_
  rintro e w3 ⟨rfl, hb3, c, hnew⟩
  have hb13 : Below w1.heap.size w1 w3 := hb2.trans (hb3.mono hb2.size)
  have hbw3 : Below w.heap.size w w3 := hb1.trans (hb13.mono (by omega))
  have hx3 : ∀ j, j < 1 → w3.cell? (x.add j) = some (.int .i32 (zs.getD j 0)) := fun j hj => (hbw3.cell (by exact block_lt_of_cell (hc j hj))).trans (hc j hj)
  have hy3 : ∀ j, j < 1 → w3.cell? (Addr.add ⟨w.heap.size, 0, none⟩ j) = some (.int .i32 (zs.getD j 0)) := fun j hj => by
    have h1 := hcp j hj
    have h2 := hb13.cell (p := ⟨w.heap.size, j, none⟩) (by exact hs1)
    rw [add_head]
    exact h2.trans h1
  have hg3 : w3.cell? ⟨0, 0, none⟩ = some (.iface 35 (.pointer (some ae))) := (hbw3.cell (by exact h0)).trans hg
  have hy0 : w3.cell? ⟨w.heap.size, 0, none⟩ = some (.int .i32 z) := by rw [← hz0]; simpa [Addr.add] using hy3 0 (by omega)
  clear hz0
  have hse3 : w3.cell? ae = some (.string se) := (hbw3.cell (by exact block_lt_of_cell hse)).trans hse
  have hlt : ae.block < w2.heap.size + 1 := by have := block_lt_of_cell hse; have := hbw2.size; omega
  have hneq : ∀ n, (binOp .neq 28 (.iface 35 (.pointer (some ⟨w2.heap.size + 1, 0, none⟩))) (.iface 35 (.pointer (some ae)))).run Ybaf.prog (w3.drewN n) = .ok (.bool true) (w3.drewN n) := fun n =>
    neq_new (w3.drewN n) (a := ⟨w2.heap.size + 1, 0, none⟩) (b := ae) (by simp; omega) (by simpa using hnew) (by simpa using hse3)
  clear hcp hg2 hg hc hc0 hx2 hc1 hc2 hse3 hse hnew
  have HX := hide hx3
  have HY := hide hy3
  clear hx3 hy3
  go_wp2_with fail
  refine (same_some x _ _ _ _ zs _ (by omega) HX.out HY.out).mono ?_
  rintro e w4 ⟨rfl, n, rfl⟩
  go_wp2
  go_ret
  exact ⟨rfl, below_drewN hbw3 n⟩

theorem law_big (nm zn : ByteArray) (v : Option Addr) (len cap : Nat) (w : World) (hm : len ≤ maxLen) (hlen : 1048576 < len) :
    Calls Ybaf.prog 3 #[.string nm, .string zn, .slice v len cap] w fun e w' => e = .returned (.bool true) ∧ Below w.heap.size w w' := by
  unfold maxLen at hm
  go_enter Ybaf.func3, Ybaf.ntmps3
  go_wp2
  go_ret
  exact ⟨rfl, Below.refl _ _⟩

/-- What the walk is told of a slice of integers that came in. -/
def IsRow (k : IntKind) (w : World) (a : Option Addr) (len cap : Nat) (zs : List Int) : Prop :=
  (a = none ∧ len = 0 ∧ cap = 0 ∧ zs = []) ∨
  ∃ x, a = some x ∧ len ≤ cap ∧ cap ≤ maxLen ∧ zs.length = cap ∧ (∀ i, i < zs.length → w.cell? (x.add i) = some (.int k (zs.getD i 0))) ∧ ∀ n ∈ zs, (Lit.int k n).wf = true

theorem law (F : Interp) (nm zn : ByteArray) (ae : Addr) (v : Option Addr) (len cap : Nat) (zs : List Int) (se : ByteArray) (w : World) (hF : F.answers w.tape) (hg : w.cell? ⟨0, 0, none⟩ = some (.iface 35 (.pointer (some ae))))
    (hse : w.cell? ae = some (.string se)) (hr : IsRow .i32 w v len cap zs) :
    Calls Ybaf.prog 3 #[.string nm, .string zn, .slice v len cap] w fun e w' => e = .returned (.bool true) ∧ Below w.heap.size w w' := by
  rcases hr with ⟨rfl, rfl, rfl, rfl⟩ | ⟨x, rfl, hl, hm, hz, hc, _⟩
  · exact law_nil nm zn ae w hg
  · have hc' : ∀ j, j < len → w.cell? (x.add j) = some (.int .i32 (zs.getD j 0)) := fun j hj => hc j (by omega)
    by_cases hbig : 1048576 < len
    · exact law_big nm zn _ len cap w (by omega) hbig
    · by_cases hn : len = 1
      · by_cases hneg : zs.getD 0 0 < 0
        · exact law_neg F nm zn ae x len cap zs se w hF hg hse (by omega) hc' hn _ rfl hneg
        · exact law_ok F nm zn ae x len cap zs se w hF hg hse (by omega) hc' hn _ rfl (by omega)
      · exact law_count F nm zn ae x len cap zs se w hF hg hse (by omega) hc' hn

end Go.Proofs.YbulkgbawFmt.lawS8888AWhole
