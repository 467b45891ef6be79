/-
  LawS9010BWhole: a log made of descriptions shows the events that they tell, is not turned by showing them, and shows the same again behind a caller's writes.
-/
import Derived.Test.YbulkgdooCheck
import Derived.Test.YbulkgdooMade
import Derived.Deep.CutRange
import Derived.Maps.Own
import Derived.Laws.MakeOwn
namespace Go.Proofs.Ybulkgdoo.events
open Go Go.RowKit Go.Shelf
open Go.Proofs.Ybulkgdoo.search Go.Proofs.Ybulkgdoo.front Go.Proofs.Ybulkgdoo.range Go.Proofs.Ybulkgdoo.iter
set_option linter.unusedVariables false
set_option linter.unusedSimpArgs false

theorem f7_log {d : LogD} {bL nv : Nat} (e1 : d.bL = bL) (e2 : d.ne = nv) {w : World} (h : d.At w.heap.size w) (ok : d.Ok) :
    Calls Yba.prog 7 #[.pointer (some ⟨bL, 0, none⟩)] w fun e w' =>
      ∃ M : Nat → Nat, e = .returned (.slice (some ⟨w.heap.size, 0, none⟩) nv nv) ∧ EvsAt d w.heap.size M w' ∧ (∀ j, j < nv → w.heap.size ≤ M j) ∧ Below w.heap.size w w' := by
  subst e1 e2
  exact f7_any h ok
theorem f8_log {d : LogD} {g : ArgD} {n₀ nv bn k ck : Nat} {w : World} {bg : Nat} {M : Nat → Nat} (e2 : d.ne = nv) (e3 : d.bn = bn) (e4 : d.k = k) (e5 : d.ck = ck) (h : d.At n₀ w) (ok : d.Ok) (ha : g.At n₀ w) (hok : g.Ok) (tl : Tells g d) (hk0 : 0 < k) (ev : EvsAt d bg M w) (av : Option Addr) (hav : 0 < g.nv → av = some ⟨g.bv, g.ov, none⟩) :
    Calls Yba.prog 8 #[.slice (some ⟨bg, 0, none⟩) nv nv, .slice av g.nv g.cv, .slice (some ⟨bn, 0, none⟩) k ck] w fun e w' => e = .returned (.bool true) ∧ Below w.heap.size w w' := by
  subst e2 e3 e4 e5
  exact f8_any h ok ha hok tl hk0 ev av hav
theorem f9_log {d : LogD} {g : ArgD} {n₀ bL k : Nat} {w : World} (e1 : d.bL = bL) (e4 : d.k = k) (h : d.At n₀ w) (ha : g.At n₀ w) (hok : g.Ok) (tl : Tells g d) (hk0 : 0 < k) (hk1 : k ≤ 4096) (av : Option Addr) (hav : 0 < g.nv → av = some ⟨g.bv, g.ov, none⟩) :
    Calls Yba.prog 9 #[.pointer (some ⟨bL, 0, none⟩), .slice av g.nv g.cv, .int .i64 k] w fun e w' => e = .returned (.bool true) ∧ Below w.heap.size w w' := by
  subst e1 e4
  exact f9_any h ha hok tl hk0 hk1 av hav

set_option maxRecDepth 1000000 in
set_option maxHeartbeats 16000000 in
theorem f4_any {g : ArgD} {w : World} {an : Option Addr} {nn cn : Nat} {S : Nat → ByteArray} {av : Option Addr} (hS : IsNames w an nn S) (ha : g.At w.heap.size w) (hf : g.Fit) (hav : 0 < g.nv → av = some ⟨g.bv, g.ov, none⟩) :
    Calls Yba.prog 4 #[.slice an nn cn, .slice av g.nv g.cv] w fun e w' => e = .returned (.bool true) ∧ Below w.heap.size w w' := by
  have HS := hide hS.2
  have HG := hide ha
  have HF := hide hf
  have HAv := hide hav
  have hnn := hS.1
  have hnv := hf.nv
  simp only [maxLen] at hnn hnv
  clear hS ha hf hav
  by_cases hbig : 4096 < nn
  · have hbigi : (4096 : Int) < (nn : Int) := by omega
    go_enter Yba.func4, Yba.ntmps4
    go_wp2
    go_ret
    exact ⟨rfl, Below.refl _ _⟩
  by_cases hbig2 : 4096 < g.nv
  · have hbigi : (4096 : Int) < (g.nv : Int) := by omega
    have hbigj : ¬ (4096 : Int) < (nn : Int) := by omega
    go_enter Yba.func4, Yba.ntmps4
    go_wp2
    go_ret
    exact ⟨rfl, Below.refl _ _⟩
  have hbigi : ¬ (4096 : Int) < (g.nv : Int) := by omega
  have hbigj : ¬ (4096 : Int) < (nn : Int) := by omega
  go_enter Yba.func4, Yba.ntmps4
  go_wp2
  go_loopw [5, 6] (fun t v wr => ∃ m nq : Nat, m ≤ g.nv ∧ t = .int .i64 (total g m) ∧ v = .int .i64 m ∧ wr = w.drewN nq) (fun _ v _ => g.nv - (intOf v).toNat)
  case atStart => exact ⟨0, 0, Nat.zero_le _, rfl, rfl, rfl⟩
  case round =>
    obtain ⟨m, nq, hm, rfl, rfl, rfl⟩ := hrel
    have htb := total_bound HF.out m hm
    simp only [reachBytes] at htb
    by_cases hlt : m < g.nv
    · obtain rfl := HAv.out (by omega)
      have u4 := HG.out.e4 m hlt
      have u5 := HG.out.e5 m hlt
      have hc4 := HF.out.nc m hlt
      have hc5 := HF.out.nz m hlt
      simp only [reachBytes] at hc4 hc5
      have hlti : (m : Int) < (g.nv : Int) := by omega
      have htm : (total g m : Int) ≤ 4096 * (140737488355328 + 140737488355328) := by omega
      go_wp2
      go_quiet (fail)
      go_wp2
      go_roundw
      case rel => exact ⟨m + 1, _, by omega, by simp only [total]; go_num, by go_num, rfl⟩
      case measure => simp [intOf]; omega
    · obtain rfl : m = g.nv := by omega
      by_cases htot : 4096 < total g g.nv
      · have htoti : (4096 : Int) < (total g g.nv : Int) := by omega
        go_wp2
        go_ret
        exact ⟨rfl, below_drewN (Below.refl _ _) nq⟩
      have htoti : ¬ (4096 : Int) < (total g g.nv : Int) := by omega
      have HOk := hide (fit_ok HF.out (by omega) (by omega))
      have hG1 : g.At w.heap.size (w.drewN nq) := HG.out.keep (below_drewN (Below.refl _ _) nq)
      have HS1 : Hid (0 < nn → ∃ b o, an = some ⟨b, o, none⟩ ∧ ∀ i, i < nn → (w.drewN nq).cell? ⟨b, o + i, none⟩ = some (.string (S i)) ∧ (S i).size ≤ maxLen) := hide HS.out
      have hb1 : Below w.heap.size w (w.drewN nq) := below_drewN (Below.refl _ _) nq
      have hs1 : (w.drewN nq).heap.size = w.heap.size := rfl
      have HG1 := hide hG1
      have Hb1 := hide hb1
      clear hG1 hb1 HS HF htb
      generalize w.drewN nq = W1 at HG1 HS1 Hb1 hs1 ⊢
      have Hs1 := hide hs1
      clear hs1
      obtain ⟨i9, hi9, hz90, hz91, hz92⟩ := info_parts info9
      go_wp2_with (at_make; refine wpList_make_full W1 rfl _ _ 33 rfl W1.heap.size 9 i9 (.string { data := #[] }) 1 Yba.underlying33 hi9 hz90 hz91 .i64 .i64 _ _ nn rfl rfl rfl rfl ?b2 ?b3 (Nat.le_refl _) ?_)
      case b2 => (try rw [hz92]); omega
      case b3 => unfold maxLen; omega
      clear hi9 hz90 hz91 hz92
      intro W2 hown2 hgr2
      have hb12 : Below W1.heap.size W1 W2 := (Below.refl _ _).grown hgr2 (Nat.le_refl _) (by simp)
      have hsz2 : W1.heap.size < W2.heap.size := (hown2.lt _ rfl).2
      obtain ⟨W3, hcp, hn3, hb23, hs3⟩ := copy_strs_ex W2 W1.heap.size nn cn an S _ (row_whole hown2) (by have := hown2.1; omega) (fun h0 => by
        obtain ⟨b, o, e, hc⟩ := HS1.out h0
        exact ⟨b, o, e, fun i hi => (hb12.cell (p := ⟨b, o + i, none⟩) (block_lt_of_cell (hc i hi).1)).trans (hc i hi).1⟩)
      have Hb13 : Hid (Below W1.heap.size W1 W3) := hide (hb23 _ _ hb12 (Nat.le_refl _))
      have hsz3 : W1.heap.size < W3.heap.size := by omega
      clear hown2 hgr2 hb12 hb23
      go_upto_if 60 with fail
      go_cut [7] from 21 (fun v wc => ∃ (bn k ck : Nat) (L : Nat → ByteArray), v = .slice (some ⟨bn, 0, none⟩) k ck ∧ 0 < k ∧ k ≤ 4096 ∧ bn < wc.heap.size ∧ Hid (∀ i, i < k → (L i).size ≤ maxLen) ∧ Hid (∀ i, i < k → wc.cell? ⟨bn, i, none⟩ = some (.string (L i))) ∧ Hid (Below w.heap.size w wc))
      case first =>
        have hsw : W1.heap.size = w.heap.size := Hs1.out
        by_cases hn0 : nn = 0
        · subst hn0
          go_wp2
          go_meet
          case rel =>
            refine ⟨_, _, _, fun _ => ⟨#[97]⟩, rfl, by omega, by omega, by simp; omega, fun i hi => by simp [maxLen, ByteArray.size], fun i hi => ?_, ?_⟩
            · obtain rfl : i = 0 := by omega
              have := cell_box W3 (.string ⟨#[97]⟩) 9
              rw [hs3] at this
              exact this
            · exact (Hb1.out.trans (Hb13.out.mono (by omega))).alloc (by omega) _
        · have hn0i : ¬ (nn : Int) = 0 := by omega
          go_wp2
          go_meet
          case rel => exact ⟨_, _, _, S, rfl, by omega, by omega, hsz3, fun i hi => by obtain ⟨b, o, e, hc⟩ := HS1.out (by omega); exact (hc i hi).2, hn3.out, Hb1.out.trans (Hb13.out.mono (by omega))⟩
      case rest =>
        obtain ⟨bn, k, ck, L, rfl, hk0, hk1, hbn, HL, HN, HB⟩ := hcut
        have HGc := hide (HG.out.keep HB.out)
        clear HG1 HS1 Hb1 Hs1 Hb13 hn3 hcp
        obtain ⟨i44, hi44, hz440, hz441, hz442⟩ := info_parts info44
        go_wp2_with (at_make; refine wpList_make_full wc rfl _ _ 39 rfl w.heap.size 44 i44 (.agg #[.int .i64 0, .int .u64 0, .int .i64 0, .string { data := #[] }, .slice none 0 0]) 5 Yba.underlying39 hi44 hz440 hz441 .i64 .i64 _ _ g.nv rfl rfl rfl rfl ?b2 ?b3 ?b4 ?_)
        case b2 => (try rw [hz442]); omega
        case b3 => unfold maxLen; omega
        case b4 => exact HB.out.size
        clear hi44 hz440 hz441 hz442
        intro Wa hownA hgrA
        have HBa : Hid (Below w.heap.size w Wa) := hide (HB.out.grown hgrA HB.out.size (by simp))
        have HNa : Hid (∀ i, i < k → Wa.cell? ⟨bn, i, none⟩ = some (.string (L i))) := hide (fun i hi => (World.cell?_of_block (a := ⟨bn, i, none⟩) (hgrA.block bn hbn (by simp))).trans (HN.out i hi))
        have hsA : wc.heap.size < Wa.heap.size := (hownA.lt _ rfl).2
        have HOw := hide hownA
        have hbe0 : w.heap.size ≤ wc.heap.size := HB.out.size
        clear hownA hgrA HN HB HGc
        generalize wc.heap.size = be at HOw hbn hsA hbe0 ⊢
        have HMn := hide (fun (mz : Option Nat) (W : World) => (show (binOp .eql 40 (.map mz) (.map none)).run Yba.prog W = .ok (.bool mz.isNone) W by cases mz with | none => exact map40_is_nil W | some b => exact map40_nil b W))
        go_wp2
        go_loopg [10, 11] g.nv (fun kk z v wr => ∃ (m : Nat) (mz : Option Nat) (bc : Nat → Nat) (az : Nat → Option Addr) (cz : Nat → Nat) (xs : List Value), m + kk = g.nv ∧ z = .map mz ∧ v = .int .i64 m ∧ Hid (Mid g k w.heap.size be m mz bc az cz xs wr) ∧ Hid (Below be Wa wr) ∧ be < wr.heap.size)
        case atStart => exact ⟨0, none, _, _, _, _, Nat.zero_add _, rfl, rfl, Mid.start HOw.out, Below.refl _ _, hsA⟩
        case round =>
          obtain ⟨gk1, hgk1⟩ : ∃ x, x = gk := ⟨_, rfl⟩
          obtain ⟨m, mz, bc, az, cz, xs, hm, rfl, rfl, HMid, Hbe, hsr⟩ := hrel
          clear HOw
          by_cases hlt : m < g.nv
          · obtain rfl := HAv.out (by omega)
            generalize wr = W0 at HMid Hbe hsr ⊢
            clear wr
            have hlti : (m : Int) < (g.nv : Int) := by omega
            have HBr : Hid (Below w.heap.size w W0) := hide (HBa.out.trans (Hbe.out.mono hbe0))
            have hG1 := HG.out.keep HBr.out
            have u0 := hG1.e0 m hlt
            have u1 := hG1.e1 m hlt
            have u2 := hG1.e2 m hlt
            have u3 := hG1.e3 m hlt
            have u4 := hG1.e4 m hlt
            have u5 := hG1.e5 m hlt
            clear hG1
            have hh := HOk.out.h m hlt
            have hcz := HOk.out.n m hlt
            obtain ⟨i30, hi30, hz300, hz301, hz302⟩ := info_parts info30
            go_wp2_with (at_make; refine wpList_make_full _ rfl _ _ 24 rfl be 30 i30 (.agg #[.int .i64 0, .int .u64 0]) 2 Yba.underlying24 hi30 hz300 hz301 .i64 .i64 _ _ (g.nc m) rfl rfl rfl rfl ?b2 ?b3 ?b4 ?_)
            case b2 => (try rw [hz302]); omega
            case b3 => unfold maxLen; omega
            case b4 => (try simp); omega
            clear hi30 hz300 hz301 hz302 u0 u1 u2 u3 u4 u5
            intro W4 hown4 hgr4
            have hb4 : Below W0.heap.size W0 W4 := ((Below.refl _ _).alloc (Nat.le_refl _) _).trans (((Below.refl _ _).grown hgr4 (Nat.le_refl _) (by simp)).mono (by simp))
            have r4 := (hgr4.block W0.heap.size (by simp) (by simp)).trans (World.alloc_heap_new W0 _)
            have hs4 : W0.heap.size + 1 < W4.heap.size := (hown4.lt _ rfl).2
            have Hk0 : Hid (W4.cell? ⟨W0.heap.size, 0, none⟩ = some (.int .u8 (g.h m))) := hide (by unfold World.cell?; rw [r4]; rfl)
            have Hk1 : Hid (W4.cell? ⟨W0.heap.size, 1, none⟩ = some (.int .u64 (g.num m))) := hide (by unfold World.cell?; rw [r4]; rfl)
            have Hk2 : Hid (W4.cell? ⟨W0.heap.size, 2, none⟩ = some (.int .i64 (g.line m))) := hide (by unfold World.cell?; rw [r4]; rfl)
            have Hk3 : Hid (W4.cell? ⟨W0.heap.size, 3, none⟩ = some (.string (g.text m))) := hide (by unfold World.cell?; rw [r4]; rfl)
            have Hk4 : Hid (W4.cell? ⟨W0.heap.size, 4, none⟩ = some (.slice (g.aC m) (g.nc m) (g.cC m))) := hide (by unfold World.cell?; rw [r4]; rfl)
            have Hk5 : Hid (W4.cell? ⟨W0.heap.size, 5, none⟩ = some (.slice (g.aZ m) (g.nz m) (g.cZ m))) := hide (by unfold World.cell?; rw [r4]; rfl)
            have HO4 := hide hown4
            have Hb4 := hide hb4
            have hbw : w.heap.size ≤ W0.heap.size := by omega
            clear hown4 hgr4 hb4 r4
            have hc4 : ∀ (wx : World), Keeps (fun b => b = W0.heap.size + 1) W4 wx → wx.cell? ⟨W0.heap.size, 4, none⟩ = some (.slice (g.aC m) (g.nc m) (g.cC m)) := fun wx hk => (hk.cell (p := ⟨W0.heap.size, 4, none⟩) (by simp; omega) (by simp)).trans Hk4.out
            have Hc4 := hide hc4
            have k4 := Hk4.out
            clear hc4
            go_wp2
            clear k4
            go_loopw [14] (fun v wx => ∃ (j : Nat) (ys : List Value), j ≤ g.nc m ∧ v = .int .i64 j ∧ Hid (wx.ownsRow be 30 2 (.slice (some ⟨W0.heap.size + 1, 0, none⟩) (g.nc m) (g.nc m)) (g.nc m) ys) ∧ Hid (∀ t, t < j → ys[t * 2]? = some (.int .i64 ((g.ch m t : Int) % (k : Int))) ∧ ys[t * 2 + 1]? = some (.int .u64 (g.cn m t))) ∧ Hid (Keeps (fun b => b = W0.heap.size + 1) W4 wx)) (fun v _ => g.nc m - (intOf v).toNat)
            case atStart => exact ⟨0, _, Nat.zero_le _, rfl, HO4.out, fun t ht => absurd ht (Nat.not_lt_zero _), Keeps.refl _ _⟩
            case round =>
              obtain ⟨j, ys, hj, rfl, HO, HY, HK⟩ := hrel
              clear HO4
              have g4 := Hc4.out _ HK.out
              by_cases hjl : j < g.nc m
              · have hjli : (j : Int) < (g.nc m : Int) := by omega
                have HBx : Hid (Below w.heap.size w wr) := hide ((HBr.out.trans (Hb4.out.mono hbw)).trans (HK.out.below (by omega) (fun b e => by omega)))
                obtain ⟨ea, ec, en⟩ := (HG.out.keep HBx.out).c m hlt j hjl
                have hch := HOk.out.ch m hlt j hjl
                rw [ea] at g4
                clear ea
                go_wp2
                refine wp_region_front 18 (by kernel_rfl) (by kernel_rfl) ?_
                dsimp only [List.take, List.drop]
                repeat (go_big_quiet_step (fail))
                refine wpQuiet_nil ?_
                intro _ hw'
                obtain ⟨nqx, hw''⟩ := hw'
                subst hw'' 
                have HO2 : Hid ((wr.drewN nqx).ownsRow be 30 2 (.slice (some ⟨W0.heap.size + 1, 0, none⟩) (g.nc m) (g.nc m)) (g.nc m) ys) := hide HO.out
                have HK2 : Hid (Keeps (fun b => b = W0.heap.size + 1) W4 (wr.drewN nqx)) := hide (HK.out.trans (Keeps.of_below (below_drewN (Below.refl _ _) nqx) _))
                clear g4 ec en HO HK HBx
                generalize wr.drewN nqx = wy at HO2 HK2 ⊢
                have hyl : ys.length = g.nc m * 2 := HO2.out.1
                obtain ⟨v0, hv0⟩ : ∃ v, wy.cell? ⟨W0.heap.size + 1, j * 2, none⟩ = some v := ⟨_, (HO2.out.cellAt (j * 2) (by omega)).trans (List.getElem?_eq_getElem (by omega))⟩
                obtain ⟨v1, hv1⟩ : ∃ v, wy.cell? ⟨W0.heap.size + 1, j * 2 + 1, none⟩ = some v := ⟨_, (HO2.out.cellAt (j * 2 + 1) (by omega)).trans (List.getElem?_eq_getElem (by omega))⟩
                have hf0 := HO2.out.frozenAt (j * 2)
                have hf1 := HO2.out.frozenAt (j * 2 + 1)
                go_wp2
                go_roundw
                case rel =>
                  have hs1 := HO2.out.stored (j * 2) (.int .i64 ((g.ch m j : Int) % (k : Int)))
                  have hs2 := hs1.1.stored (j * 2 + 1) (.int .u64 (g.cn m j))
                  refine ⟨j + 1, _, by omega, by go_num, hs2.1, fun t ht => ?_, (HK2.out.trans (Keeps.grown hs1.2 rfl)).trans (Keeps.grown hs2.2 rfl)⟩
                  by_cases e : t = j
                  · subst e
                    exact ⟨by rw [List.getElem?_set_ne (by omega), List.getElem?_set_self (by omega)], by rw [List.getElem?_set_self (by simp; omega)]⟩
                  · obtain ⟨h1, h2⟩ := HY.out t (by omega)
                    exact ⟨by rw [List.getElem?_set_ne (by omega), List.getElem?_set_ne (by omega)]; exact h1, by rw [List.getElem?_set_ne (by omega), List.getElem?_set_ne (by omega)]; exact h2⟩
                case measure => simp [intOf]; omega
              · obtain rfl : j = g.nc m := by omega
                have HE : Hid (Ents wr (W0.heap.size + 1) 0 (g.nc m) (fun j => (g.ch m j : Int) % (k : Int)) (g.cn m)) := hide (fun t ht => by
                  rw [Nat.zero_add]
                  exact ⟨(HO.out.cellAt _ (by omega)).trans (HY.out t ht).1, (HO.out.cellAt _ (by omega)).trans (HY.out t ht).2⟩)
                have hcx : ∀ {i : Nat} {v : Value}, W4.cell? ⟨W0.heap.size, i, none⟩ = some v → wr.cell? ⟨W0.heap.size, i, none⟩ = some v := fun {i v} hv => (HK.out.cell (p := ⟨W0.heap.size, i, none⟩) (by simp; omega) (by simp)).trans hv
                have g0 := hcx Hk0.out
                have g1 := hcx Hk1.out
                have g2 := hcx Hk2.out
                have g3 := hcx Hk3.out
                have Hg5 := hide (hcx Hk5.out)
                have Hb0 : Hid (Below W0.heap.size W0 wr) := hide (Hb4.out.trans (HK.out.below (by omega) (fun b e => by omega)))
                have hsx : W0.heap.size + 1 < wr.heap.size := by have := HK.out.size; omega
                clear hcx HO HY HK Hc4 Hk0 Hk1 Hk2 Hk3 Hk4 Hk5 Hb4
                go_wp2
                refine wp_region_front 15 (by kernel_rfl) (by kernel_rfl) ?_
                dsimp only [List.take, List.drop]
                repeat (go_big_quiet_step (fail))
                refine wpQuiet_nil ?_
                intro _ hw'
                obtain ⟨nqx, hw''⟩ := hw'
                subst hw'' 
                clear g0 g1 g2 g3 g4
                have HE2 : Hid (Ents (wr.drewN nqx) (W0.heap.size + 1) 0 (g.nc m) (fun j => (g.ch m j : Int) % (k : Int)) (g.cn m)) := hide HE.out
                have Hg52 : Hid ((wr.drewN nqx).cell? ⟨W0.heap.size, 5, none⟩ = some (.slice (g.aZ m) (g.nz m) (g.cZ m))) := hide Hg5.out
                have Hb02 : Hid (Below W0.heap.size W0 (wr.drewN nqx)) := hide (below_drewN Hb0.out nqx)
                have hsx2 : W0.heap.size + 1 < (wr.drewN nqx).heap.size := hsx
                clear HE Hg5 Hb0 hsx
                generalize wr.drewN nqx = WZ at HE2 Hg52 Hb02 hsx2 ⊢
                have HRow : Hid (WZ.ownsRow w.heap.size 44 5 (.slice (some ⟨be, 0, none⟩) g.nv g.nv) g.nv xs) := hide (HMid.out.row.kept (grown_of_below Hb02.out) (.inr (by simp [Value.ownBlock])))
                have hxl : xs.length = g.nv * 5 := HRow.out.1
                obtain ⟨v0, hv0⟩ : ∃ v, WZ.cell? ⟨be, m * 5, none⟩ = some v := ⟨_, (HRow.out.cellAt (m * 5) (by omega)).trans (List.getElem?_eq_getElem (by omega))⟩
                obtain ⟨v1, hv1⟩ : ∃ v, WZ.cell? ⟨be, m * 5 + 1, none⟩ = some v := ⟨_, (HRow.out.cellAt (m * 5 + 1) (by omega)).trans (List.getElem?_eq_getElem (by omega))⟩
                obtain ⟨v2, hv2⟩ : ∃ v, WZ.cell? ⟨be, m * 5 + 2, none⟩ = some v := ⟨_, (HRow.out.cellAt (m * 5 + 2) (by omega)).trans (List.getElem?_eq_getElem (by omega))⟩
                obtain ⟨v3, hv3⟩ : ∃ v, WZ.cell? ⟨be, m * 5 + 3, none⟩ = some v := ⟨_, (HRow.out.cellAt (m * 5 + 3) (by omega)).trans (List.getElem?_eq_getElem (by omega))⟩
                obtain ⟨v4, hv4⟩ : ∃ v, WZ.cell? ⟨be, m * 5 + 4, none⟩ = some v := ⟨_, (HRow.out.cellAt (m * 5 + 4) (by omega)).trans (List.getElem?_eq_getElem (by omega))⟩
                have hf0 := HRow.out.frozenAt (m * 5)
                have hf1 := HRow.out.frozenAt (m * 5 + 1)
                have hf2 := HRow.out.frozenAt (m * 5 + 2)
                have hf3 := HRow.out.frozenAt (m * 5 + 3)
                have hf4 := HRow.out.frozenAt (m * 5 + 4)
                clear hxl
                go_upto_region 27 with fail
                clear hv0 hv1 hv2 hv3 hv4 hf0 hf1 hf2 hf3 hf4
                have st0 := HRow.out.stored (m * 5) (.int .i64 ((g.h m : Int) % (k : Int)))
                have st1 := st0.1.stored (m * 5 + 1) (.int .u64 (g.num m))
                have st2 := st1.1.stored (m * 5 + 2) (.int .i64 (g.line m))
                have st3 := st2.1.stored (m * 5 + 3) (.string (g.text m))
                have st4 := st3.1.stored (m * 5 + 4) (.slice (some ⟨W0.heap.size + 1, 0, none⟩) (g.nc m) (g.nc m))
                have HKZ : Hid (Keeps (fun b => b = be) WZ (((((WZ.setCell ⟨be, m * 5, none⟩ (.int .i64 ((g.h m : Int) % (k : Int)))).setCell ⟨be, m * 5 + 1, none⟩ (.int .u64 (g.num m))).setCell ⟨be, m * 5 + 2, none⟩ (.int .i64 (g.line m))).setCell ⟨be, m * 5 + 3, none⟩ (.string (g.text m))).setCell ⟨be, m * 5 + 4, none⟩ (.slice (some ⟨W0.heap.size + 1, 0, none⟩) (g.nc m) (g.nc m)))) := hide (((((Keeps.grown (X := fun b => b = be) st0.2 rfl).trans (Keeps.grown st1.2 rfl)).trans (Keeps.grown st2.2 rfl)).trans (Keeps.grown st3.2 rfl)).trans (Keeps.grown st4.2 rfl))
                have HRow5 := hide st4.1
                clear st0 st1 st2 st3 st4 HRow
                generalize (((((WZ.setCell ⟨be, m * 5, none⟩ (.int .i64 ((g.h m : Int) % (k : Int)))).setCell ⟨be, m * 5 + 1, none⟩ (.int .u64 (g.num m))).setCell ⟨be, m * 5 + 2, none⟩ (.int .i64 (g.line m))).setCell ⟨be, m * 5 + 3, none⟩ (.string (g.text m))).setCell ⟨be, m * 5 + 4, none⟩ (.slice (some ⟨W0.heap.size + 1, 0, none⟩) (g.nc m) (g.nc m))) = W5 at HKZ HRow5 ⊢
                have HK5 : Hid (Keeps (fun b => b = be) W0 W5) := hide ((Keeps.of_below Hb02.out _).trans HKZ.out)
                have hs5 : W0.heap.size + 1 < W5.heap.size := by have := HKZ.out.size; omega
                have HE5 : Hid (Ents W5 (W0.heap.size + 1) 0 (g.nc m) (fun j => (g.ch m j : Int) % (k : Int)) (g.cn m)) := hide (fun t ht => ⟨(HKZ.out.cell (p := ⟨W0.heap.size + 1, _, none⟩) hsx2 (by simp; omega)).trans (HE2.out t ht).1, (HKZ.out.cell (p := ⟨W0.heap.size + 1, _, none⟩) hsx2 (by simp; omega)).trans (HE2.out t ht).2⟩)
                have g5 : W5.cell? ⟨W0.heap.size, 5, none⟩ = some (.slice (g.aZ m) (g.nz m) (g.cZ m)) := (HKZ.out.cell (p := ⟨W0.heap.size, 5, none⟩) (by simp; omega) (by simp; omega)).trans Hg52.out
                clear HKZ HE2 Hg52 Hb02 hsx2
                by_cases hz : g.nz m = 0
                · have hzi : ¬ (0 : Int) < (g.nz m : Int) := by omega
                  have Hz := hide hz
                  clear hz
                  go_wp2
                  go_roundg (gk1 - 1)
                  case measure => omega
                  case rel =>
                    have hN := HMid.out.next hlt (HK5.out.mono fun b e => .inl e) HRow5.out (by omega) hs5 HE5.out (.inl Hz.out) (HMid.out.zm.skip Hz.out (fun b e => HK5.out.block b (HMid.out.mz b e).2 (by have := (HMid.out.mz b e).1; omega))) (fun b e => ⟨(HMid.out.mz b e).1, by have := (HMid.out.mz b e).2; omega⟩)
                    exact ⟨m + 1, mz, upd bc m (W0.heap.size + 1), upd az m none, upd cz m 0, _, by omega, rfl, by go_num, hN, Hbe.out.trans (HK5.out.below (by omega) (fun b e => by omega)), by omega⟩
                · have hzp : 0 < g.nz m := by omega
                  have hzi : (0 : Int) < (g.nz m : Int) := by omega
                  have hmn := HMn.out mz
                  go_upto_if 128 with fail
                  clear hmn
                  go_cut [10] from 67 to 154 (fun v wx => ∃ (bm : Nat) (D : DataW Value), v = .map (some bm) ∧ be < bm ∧ Hid (wx.ownsMap Yba.prog 3 heldR bm m D) ∧ Hid (∀ i, i < m → D.atKey (.int .i64 i) z0 = .held (.slice (az i) (g.nz i) (cz i))) ∧ Hid (∀ i : Nat, m ≤ i → D.atKey (.int .i64 i) z0 = z0) ∧ Hid (Below W5.heap.size W5 wx) ∧ (mz = some bm ∨ W0.heap.size ≤ bm))
                  case first =>
                    rcases HMid.out.zm with ⟨e, hzz⟩ | ⟨b, D, e, ho, h1, h2⟩
                    · subst e
                      have Hzz := hide hzz
                      have hmk := @run_makeMap Yba.prog
                      clear hzz
                      go_wp2
                      go_meet
                      case rel =>
                        refine ⟨W5.heap.size, .map [], rfl, by omega, (World.ownsMap_made W5 Yba.prog 3 heldR).mono (Nat.zero_le _), fun i hi => ?_, fun i hi => rfl, (Below.refl _ _).alloc (Nat.le_refl _) _, .inr (by omega)⟩
                        obtain ⟨q1, q2, q3⟩ := Hzz.out i hi
                        rw [q1, q2, q3]
                        rfl
                    · subst e
                      have Ho := hide ho
                      have H1 := hide h1
                      have H2 := hide h2
                      clear ho h1 h2
                      go_wp2
                      go_meet
                      case rel => exact ⟨b, D, rfl, (HMid.out.mz b rfl).1, ownsMap_of_heap Ho.out (HK5.out.block b (HMid.out.mz b rfl).2 (by have := (HMid.out.mz b rfl).1; omega)), H1.out, H2.out, Below.refl _ _, .inl rfl⟩
                  case rest =>
                    obtain ⟨bm, D, rfl, hbm, HOm, HD1, HD2, HB6, hmzc⟩ := hcut
                    have hs6 : W5.heap.size ≤ wc.heap.size := HB6.out.size
                    have g6 : wc.cell? ⟨W0.heap.size, 5, none⟩ = some (.slice (g.aZ m) (g.nz m) (g.cZ m)) := (HB6.out.cell (p := ⟨W0.heap.size, 5, none⟩) (by simp; omega)).trans g5
                    have hmb : bm < wc.heap.size := HOm.out.lt
                    clear g5
                    obtain ⟨i28, hi28, hz280, hz281, hz282⟩ := info_parts info28
                    go_wp2_with (at_make; refine wpList_make_full wc rfl _ _ 45 rfl be 28 i28 (.int .i64 0) 1 Yba.underlying45 hi28 hz280 hz281 .i64 .i64 _ _ (g.nz m) rfl rfl rfl rfl ?b2 ?b3 ?b4 ?_)
                    case b2 => (try rw [hz282]); omega
                    case b3 => unfold maxLen; omega
                    case b4 => omega
                    clear hi28 hz280 hz281 hz282
                    intro W7 hown7 hgr7
                    have HB7 : Hid (Below wc.heap.size wc W7) := hide ((Below.refl _ _).grown hgr7 (Nat.le_refl _) (by simp))
                    have hs7 : wc.heap.size < W7.heap.size := (hown7.lt _ rfl).2
                    have HO7 := hide hown7
                    have Hc7 : Hid (∀ (wx : World), Keeps (fun b => b = wc.heap.size) W7 wx → wx.cell? ⟨W0.heap.size, 5, none⟩ = some (.slice (g.aZ m) (g.nz m) (g.cZ m))) := hide (fun wx hk => (hk.cell (p := ⟨W0.heap.size, 5, none⟩) (by simp; omega) (by simp; omega)).trans ((HB7.out.cell (p := ⟨W0.heap.size, 5, none⟩) (by simp; omega)).trans g6))
                    clear hown7 hgr7 g6
                    go_wp2
                    go_loopw [16] (fun v wx => ∃ (j : Nat) (ys : List Value), j ≤ g.nz m ∧ v = .int .i64 j ∧ Hid (wx.ownsRow be 28 1 (.slice (some ⟨wc.heap.size, 0, none⟩) (g.nz m) (g.nz m)) (g.nz m) ys) ∧ Hid (∀ t, t < j → ys[t]? = some (.int .i64 ((g.z m t : Int) % (k : Int)))) ∧ Hid (Keeps (fun b => b = wc.heap.size) W7 wx)) (fun v _ => g.nz m - (intOf v).toNat)
                    case atStart => exact ⟨0, _, Nat.zero_le _, rfl, HO7.out, fun t ht => absurd ht (Nat.not_lt_zero _), Keeps.refl _ _⟩
                    case round =>
                      obtain ⟨j, ys, hj, rfl, HO, HY, HK⟩ := hrel
                      clear HO7
                      have g7 := Hc7.out _ HK.out
                      have Hb0x : Hid (Below W5.heap.size W5 wr) := hide ((HB6.out.trans (HB7.out.mono hs6)).trans (HK.out.below (by omega) (fun b e => by omega)))
                      by_cases hjl : j < g.nz m
                      · have hjli : (j : Int) < (g.nz m : Int) := by omega
                        have HBx : Hid (Below w.heap.size w wr) := hide ((HBr.out.trans (HK5.out.below hbw (fun b e => by omega))).trans (Hb0x.out.mono (by omega)))
                        obtain ⟨ea, ez⟩ := (HG.out.keep HBx.out).z m hlt j hjl
                        have hch := HOk.out.z m hlt j hjl
                        have hyl : ys.length = g.nz m * 1 := HO.out.1
                        obtain ⟨v0, hv0⟩ : ∃ v, wr.cell? ⟨wc.heap.size, j, none⟩ = some v := ⟨_, (HO.out.cellAt j (by omega)).trans (List.getElem?_eq_getElem (by omega))⟩
                        have hf0 := HO.out.frozenAt j
                        rw [ea] at g7
                        clear ea HBx
                        go_wp2
                        go_roundw
                        case rel =>
                          have hs1 := HO.out.stored j (.int .i64 ((g.z m j : Int) % (k : Int)))
                          refine ⟨j + 1, _, by omega, by go_num, hs1.1, fun t ht => ?_, HK.out.trans (Keeps.grown hs1.2 rfl)⟩
                          by_cases e : t = j
                          · subst e
                            rw [List.getElem?_set_self (by omega)]
                          · rw [List.getElem?_set_ne (by omega)]
                            exact HY.out t (by omega)
                        case measure => simp [intOf]; omega
                      · obtain rfl : j = g.nz m := by omega
                        have hkey : keyOf Yba.prog 3 (.int .i64 (m : Int)) = some (.int .i64 m) := Maps.keyOf_int_mk Yba.underlying3 (by simp [Lit.wf, IntKind.min, IntKind.max, IntKind.signed, IntKind.bits]; omega)
                        have Hkey := hide hkey
                        have HO8 : Hid (wr.ownsMap Yba.prog 3 heldR bm m D) := hide (ownsMap_of_heap HOm.out ((HK.out.block bm (by omega) (by omega)).trans (HB7.out.block bm hmb)))
                        have hmx : m < maxLen := by unfold maxLen; omega
                        clear hkey
                        go_wp2_with (at_mapUpdate; refine wpList_mapUpdate_own _ rfl _ _ _ 40 rfl 3 45 (Maps.int_keyed Yba.underlying3) Yba.underlying40 heldR bm m D rfl HO8.out hmx _ _ _ rfl rfl Hkey.out _ [] rfl ?_; intro W8 hown8 hgr8)
                        go_roundg (gk1 - 1)
                        case measure => omega
                        case rel =>
                          have hK8 : Keeps (fun b => b = be ∨ mz = some b) W0 W8 := by
                            refine ⟨?_, ?_, ?_, ?_, fun b hb hx => ?_⟩
                            · exact hgr8.os.trans (Hb0x.out.os.trans HK5.out.os)
                            · exact hgr8.tape.trans (Hb0x.out.tape.trans HK5.out.tape)
                            · exact hgr8.output.trans (Hb0x.out.output.trans HK5.out.output)
                            · have h1 := hgr8.size
                              have h2 := Hb0x.out.size
                              omega
                            · have h2 := Hb0x.out.size
                              have hne : b ≠ bm := fun e => by
                                subst e
                                rcases hmzc with e1 | e1
                                · exact hx (.inr e1)
                                · omega
                              exact (hgr8.block b (by omega) (by simpa using hne)).trans ((Hb0x.out.block b (by omega)).trans (HK5.out.block b hb (fun e => hx (.inl e))))
                          have hs8 := hgr8.size
                          have hsx := Hb0x.out.size
                          have hs9 := HK.out.size
                          have hcell : ∀ {b i : Nat} {v : Value}, b < W5.heap.size → W5.cell? ⟨b, i, none⟩ = some v → W8.cell? ⟨b, i, none⟩ = some v := fun {b i v} hb hv => by
                            have h1 := (Hb0x.out.cell (p := ⟨b, i, none⟩) hb).trans hv
                            refine (World.cell?_of_block (a := ⟨b, i, none⟩) (hgr8.block b (by omega) (fun e => ?_))).trans h1
                            simp only [Option.some.injEq] at e
                            subst e
                            exact ownsMap_no_cell HO8.out h1
                          have hN := HMid.out.next (azm := some ⟨wc.heap.size, 0, none⟩) (czm := g.nz m) (mz' := some bm) hlt hK8 ((HRow5.out.kept (grown_of_below Hb0x.out) (.inr (by simp [Value.ownBlock]))).kept hgr8 (.inr (by simp [Value.ownBlock]; omega))) (by omega) (by omega) (fun t ht => ⟨hcell hs5 (HE5.out t ht).1, hcell hs5 (HE5.out t ht).2⟩) (.inr ⟨wc.heap.size, rfl, by omega, by omega, fun t ht => by
                            have h1 : wr.cell? ⟨wc.heap.size, t, none⟩ = some (.int .i64 ((g.z m t : Int) % (k : Int))) := (HO.out.cellAt t (by omega)).trans (HY.out t ht)
                            refine (World.cell?_of_block (a := ⟨wc.heap.size, t, none⟩) (hgr8.block wc.heap.size (by omega) (fun e => ?_))).trans h1
                            simp only [Option.some.injEq] at e
                            omega⟩) (ZmAt.put hown8 HOm.out.isMap HD1.out HD2.out) (fun b e => by cases e; exact ⟨hbm, by omega⟩)
                          exact ⟨m + 1, some bm, upd bc m (W0.heap.size + 1), upd az m (some ⟨wc.heap.size, 0, none⟩), upd cz m (g.nz m), _, by omega, rfl, by go_num, hN, (Hbe.out.trans (HK5.out.below (by omega) (fun b e => by omega))).trans ((Hb0x.out.mono (by omega)).trans ⟨hgr8.os, hgr8.tape, hgr8.output, hgr8.size, fun b hb => hgr8.block b (by omega) (by simp; omega)⟩), by omega⟩
          · obtain rfl : m = g.nv := by omega
            go_upto_region 37 with fail
            have hb0 : Below wr.heap.size wr (wr.alloc (Obj.cells #[.string { data := #[] }, .map none, .slice (some ⟨bn, 0, none⟩) k ck, .slice (some ⟨be, 0, none⟩) g.nv g.nv, .slice none 0 0, .int .i64 0, .map none, .map mz] 54)) := (Below.refl _ _).alloc (Nat.le_refl _) _
            have hr0 := World.alloc_heap_new wr (Obj.cells #[.string { data := #[] }, .map none, .slice (some ⟨bn, 0, none⟩) k ck, .slice (some ⟨be, 0, none⟩) g.nv g.nv, .slice none 0 0, .int .i64 0, .map none, .map mz] 54)
            have hs0 : (wr.alloc (Obj.cells #[.string { data := #[] }, .map none, .slice (some ⟨bn, 0, none⟩) k ck, .slice (some ⟨be, 0, none⟩) g.nv g.nv, .slice none 0 0, .int .i64 0, .map none, .map mz] 54)).heap.size = wr.heap.size + 1 := by simp
            generalize wr.alloc (Obj.cells #[.string { data := #[] }, .map none, .slice (some ⟨bn, 0, none⟩) k ck, .slice (some ⟨be, 0, none⟩) g.nv g.nv, .slice none 0 0, .int .i64 0, .map none, .map mz] 54) = X0 at hb0 hr0 hs0 ⊢
            have HBw : Hid (Below w.heap.size w X0) := hide (HBa.out.trans ((Hbe.out.mono hbe0).trans (hb0.mono (by omega))))
            have hd : (mkLog g wr.heap.size bn k ck be L mz bc az cz).At X0.heap.size X0 := HMid.out.log HOk.out (fun i hi => (Hbe.out.cell (p := ⟨bn, i, none⟩) hbn).trans (HNa.out i hi)) (by omega) hb0 (by omega) (by unfold World.cell?; rw [hr0]; rfl) (by unfold World.cell?; rw [hr0]; rfl) (by unfold World.cell?; rw [hr0]; rfl)
            have hdok : (mkLog g wr.heap.size bn k ck be L mz bc az cz).Ok := mkLog_ok HOk.out hk0 hk1 HL.out
            have htl := mkLog_tells g wr.heap.size bn k ck be L mz bc az cz
            have d1 : (mkLog g wr.heap.size bn k ck be L mz bc az cz).bL = wr.heap.size := rfl
            have d2 : (mkLog g wr.heap.size bn k ck be L mz bc az cz).ne = g.nv := rfl
            have d3 : (mkLog g wr.heap.size bn k ck be L mz bc az cz).bn = bn := rfl
            have d4 : (mkLog g wr.heap.size bn k ck be L mz bc az cz).k = k := rfl
            have d5 : (mkLog g wr.heap.size bn k ck be L mz bc az cz).ck = ck := rfl
            generalize mkLog g wr.heap.size bn k ck be L mz bc az cz = d at hd hdok htl d1 d2 d3 d4 d5
            have hga : g.At X0.heap.size X0 := (HG.out.keep HBw.out).mono HBw.out.size (Nat.le_refl _)
            have HD := hide hd
            have HDk := hide hdok
            have HT := hide htl
            have HGa := hide hga
            have D1 := hide d1
            have D2 := hide d2
            have D3 := hide d3
            have D4 := hide d4
            have D5 := hide d5
            clear hb0 hr0 hs0 hd hdok htl hga d1 d2 d3 d4 d5 HMid Hbe HBa HNa HL HMn HG
            generalize wr.heap.size = bL at D1 ⊢
            go_wp2_with fail
            refine (f7_log D1.out D2.out HD.out HDk.out).mono ?_
            rintro e X1 ⟨M, rfl, hev, hM, hb1⟩
            have Hev := hide hev
            have HM := hide hM
            have Hb1 := hide hb1
            clear hev hM hb1
            go_wp2_with fail
            refine (f8_log D2.out D3.out D4.out D5.out (HD.out.keep Hb1.out) HDk.out (HGa.out.keep Hb1.out) HOk.out HT.out hk0 Hev.out av HAv.out).mono ?_
            rintro e X2 ⟨rfl, hb2⟩
            have hl1 : X0.heap.size < X1.heap.size := Hev.out.lt
            have Hb2 : Hid (Below X0.heap.size X0 X2) := hide (Hb1.out.trans (hb2.mono (by omega)))
            have Hev2 := hide (Hev.out.keep hb2)
            clear hb2 Hb1 Hev
            go_wp2_with fail
            refine (f9_log D1.out D4.out (HD.out.keep Hb2.out) (HGa.out.keep Hb2.out) HOk.out HT.out hk0 hk1 av HAv.out).mono ?_
            rintro e X3 ⟨rfl, hb3⟩
            have hl2 : X0.heap.size < X2.heap.size := Hev2.out.lt
            have Hb3 : Hid (Below X0.heap.size X0 X3) := hide (Hb2.out.trans (hb3.mono (by omega)))
            have Hev3 := hide (Hev2.out.keep hb3)
            clear hb3 Hb2 Hev2
            go_wp2
            go_loopw [19] (fun v wx => ∃ m : Nat, m ≤ g.nv ∧ v = .int .i64 m ∧ Hid (Below X0.heap.size X0 wx) ∧ Hid (∀ j, j < g.nv → (∃ s, wx.cell? ⟨X0.heap.size, j * 4, none⟩ = some (.string s)) ∧ wx.cell? ⟨X0.heap.size, j * 4 + 1, none⟩ = some (.map (some (M j)))) ∧ Hid (∀ p, wx.frozen? ⟨X0.heap.size, p, none⟩ = false) ∧ Hid (∀ j, j < g.nv → M j ≠ X0.heap.size ∧ ∃ n D, n ≤ 4096 + m ∧ wx.ownsMap Yba.prog 9 heldR (M j) n D) ∧ X0.heap.size < wx.heap.size) (fun v _ => g.nv - (intOf v).toNat)
            case atStart =>
              refine ⟨0, Nat.zero_le _, rfl, Hb3.out, fun j hj => ?_, Hev3.out.frozen, fun j hj => ⟨Hev3.out.ne j (by rw [D2.out]; exact hj), _, _, ?_, Hev3.out.maps j (by rw [D2.out]; exact hj)⟩, Hev3.out.lt⟩
              · have := Hev3.out.cells j (by rw [D2.out]; exact hj)
                exact ⟨⟨_, this.1⟩, this.2.1⟩
              · have := HDk.out.nc j (by rw [D2.out]; exact hj)
                omega
            case round =>
              obtain ⟨m, hm, rfl, Hb, HC, HF, HO, hsz⟩ := hrel
              clear Hb3 Hev3
              by_cases hlt : m < g.nv
              · have hlti : (m : Int) < (g.nv : Int) := by omega
                obtain ⟨⟨s, c0⟩, c1⟩ := HC.out m hlt
                obtain ⟨hne, n, D, hn, ho⟩ := HO.out m hlt
                have Ho := hide ho
                have Hc0 := hide c0
                have Hkey : Hid (keyOf Yba.prog 9 (.string { data := #[122, 122, 45, 119, 114, 105, 116, 116, 101, 110] }) = some (.string [122, 122, 45, 119, 114, 105, 116, 116, 101, 110])) := hide (WideMaps.keyOf_string_mk Yba.underlying9 (by simp [ByteArray.size, maxLen]))
                have hnx : n < maxLen := by unfold maxLen; omega
                clear ho c0
                go_wp2_with (at_mapUpdate; refine wpList_mapUpdate_own _ rfl _ _ _ 60 rfl 9 25 (Maps.string_keyed Yba.underlying9) Yba.underlying60 heldR (M m) n D rfl Ho.out hnx _ _ _ rfl rfl Hkey.out _ [] rfl ?_; intro W8 hown8 hgr8; have c0 := (World.cell?_of_block (a := ⟨X0.heap.size, m * 4, none⟩) (hgr8.block X0.heap.size hsz (by simp; omega))).trans Hc0.out; have f0 := (World.frozen?_of_block (a := ⟨X0.heap.size, m * 4, none⟩) (hgr8.block X0.heap.size hsz (by simp; omega))).trans (HF.out (m * 4)); have Hown8 := hide hown8; have Hgr8 := hide hgr8; clear hown8 hgr8)
                go_roundw
                case rel =>
                  have h8 := Hgr8.out.size
                  refine ⟨m + 1, by omega, by go_num, ?_, fun j hj => ?_, fun p => ?_, fun j hj => ?_, by simp; omega⟩
                  · refine ((Hb.out.trans ⟨Hgr8.out.os, Hgr8.out.tape, Hgr8.out.output, Hgr8.out.size, fun b hb => Hgr8.out.block b (by omega) ?_⟩)).setCell (p := ⟨X0.heap.size, _, none⟩) (Nat.le_refl _) _
                    have := HM.out m hlt
                    simp
                    omega
                  · obtain ⟨⟨s', c0'⟩, c1'⟩ := HC.out j hj
                    have q0 := (World.cell?_of_block (a := ⟨X0.heap.size, j * 4, none⟩) (Hgr8.out.block X0.heap.size hsz (by simp; omega))).trans c0'
                    have q1 := (World.cell?_of_block (a := ⟨X0.heap.size, j * 4 + 1, none⟩) (Hgr8.out.block X0.heap.size hsz (by simp; omega))).trans c1'
                    refine ⟨?_, ?_⟩
                    · by_cases e : j = m
                      · subst e
                        exact ⟨_, World.cell?_setCell_same _ _ _ q0⟩
                      · exact ⟨s', (World.cell?_setCell_other _ _ _ _ (by simp <;> omega)).trans q0⟩
                    · exact (World.cell?_setCell_other _ _ _ _ (by simp <;> omega)).trans q1
                  · have := (World.frozen?_of_block (a := ⟨X0.heap.size, p, none⟩) (Hgr8.out.block X0.heap.size hsz (by simp; omega))).trans (HF.out p)
                    simpa using this
                  · obtain ⟨hnej, nj, Dj, hnj, hoj⟩ := HO.out j hj
                    refine ⟨hnej, ?_⟩
                    by_cases e : M j = M m
                    · rw [e]
                      exact ⟨n + 1, _, by omega, Hown8.out.setCell (by simpa using hne) _⟩
                    · exact ⟨nj, Dj, by omega, (hoj.kept Hgr8.out (by simpa using e)).setCell (by simpa using hnej) _⟩
                case measure => simp [intOf]; omega
              · obtain rfl : m = g.nv := by omega
                have Hw4 : Hid (d.At wr.heap.size wr) := hide ((HD.out.keep Hb.out).mono (by omega) (Nat.le_refl _))
                have Hg4 : Hid (g.At wr.heap.size wr) := hide ((HGa.out.keep Hb.out).mono (by omega) (Nat.le_refl _))
                clear HC HF HO HD HGa
                go_wp2_with fail
                refine (f7_log D1.out D2.out Hw4.out HDk.out).mono ?_
                rintro e X5 ⟨M5, rfl, hev5, hM5, hb5⟩
                have Hev5 := hide hev5
                have Hb5 := hide hb5
                clear hev5 hM5 hb5
                go_wp2_with fail
                refine (f8_log D2.out D3.out D4.out D5.out (Hw4.out.keep Hb5.out) HDk.out (Hg4.out.keep Hb5.out) HOk.out HT.out hk0 Hev5.out av HAv.out).mono ?_
                rintro e X6 ⟨rfl, hb6⟩
                have hl5 : wr.heap.size < X5.heap.size := Hev5.out.lt
                have Hb6 : Hid (Below wr.heap.size wr X6) := hide (Hb5.out.trans (hb6.mono (by omega)))
                clear hb6 Hev5
                go_wp2_with fail
                refine (f9_log D1.out D4.out (Hw4.out.keep Hb6.out) (Hg4.out.keep Hb6.out) HOk.out HT.out hk0 hk1 av HAv.out).mono ?_
                rintro e X7 ⟨rfl, hb7⟩
                have Hb7 : Hid (Below w.heap.size w X7) := hide (((HBw.out.trans (Hb.out.mono HBw.out.size)).trans (Hb6.out.mono (by have := HBw.out.size; omega))).trans (hb7.mono (by have := Hb6.out.size; have := HBw.out.size; omega)))
                clear hb7
                go_wp2
                go_ret
                exact ⟨rfl, Hb7.out⟩
end Go.Proofs.Ybulkgdoo.events
