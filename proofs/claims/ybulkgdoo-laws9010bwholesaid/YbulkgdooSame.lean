/-
  The law's own helpers: zzs9010bname, zzs9010bsame.
-/
import Derived.Test.YbulkgdooEvents
import Derived.Deep.QuietTactic
import Derived.BigQuiet
namespace Go.Proofs.Ybulkgdoo.events
open Go Go.RowKit Go.Shelf
open Go.Proofs.Ybulkgdoo.search Go.Proofs.Ybulkgdoo.front Go.Proofs.Ybulkgdoo.range Go.Proofs.Ybulkgdoo.iter
set_option linter.unusedVariables false
set_option linter.unusedSimpArgs false

set_option maxHeartbeats 1000000 in
/-- 'list[int(h)%len(list)]'. -/
theorem f15_any (bn k ck : Nat) (L : Nat → ByteArray) (h : Int) (w : World) (h0 : 0 ≤ h) (h1 : h ≤ 255) (hk : 0 < k) (hk2 : k ≤ 4096) (hS : ∀ i, i < k → w.cell? ⟨bn, i, none⟩ = some (.string (L i))) :
    Calls Yba.prog 15 #[.slice (some ⟨bn, 0, none⟩) k ck, .int .u8 h] w fun e w' => e = .returned (.string (L (h.toNat % k))) ∧ w' = w := by
  obtain ⟨x, rfl⟩ : ∃ x : Nat, h = x := ⟨h.toNat, by omega⟩
  have hm := Nat.mod_lt x hk
  have hc := hS (x % k) hm
  have HS := hide hS
  clear hS
  go_enter Yba.func15, Yba.ntmps15
  go_wp2
  go_ret
  exact ⟨by simp, rfl⟩

/-- WHAT THE LAW IS GIVEN: the events' descriptions, where they lie and what they say. -/
structure ArgD where
  (bv ov nv cv : Nat)
  h : Nat → Nat
  (num line : Nat → Int)
  text : Nat → ByteArray
  (bC oC nc cC : Nat → Nat)
  ch : Nat → Nat → Nat
  cn : Nat → Nat → Int
  (bZ oZ nz cZ : Nat → Nat)
  z : Nat → Nat → Nat
  (aC aZ : Nat → Option Addr)

structure ArgD.At (g : ArgD) (n₀ : Nat) (W : World) : Prop where
  e0 : ∀ i, i < g.nv → W.cell? ⟨g.bv, g.ov + i * 6, none⟩ = some (.int .u8 (g.h i))
  e1 : ∀ i, i < g.nv → W.cell? ⟨g.bv, g.ov + i * 6 + 1, none⟩ = some (.int .u64 (g.num i))
  e2 : ∀ i, i < g.nv → W.cell? ⟨g.bv, g.ov + i * 6 + 2, none⟩ = some (.int .i64 (g.line i))
  e3 : ∀ i, i < g.nv → W.cell? ⟨g.bv, g.ov + i * 6 + 3, none⟩ = some (.string (g.text i))
  e4 : ∀ i, i < g.nv → W.cell? ⟨g.bv, g.ov + i * 6 + 4, none⟩ = some (.slice (g.aC i) (g.nc i) (g.cC i))
  e5 : ∀ i, i < g.nv → W.cell? ⟨g.bv, g.ov + i * 6 + 5, none⟩ = some (.slice (g.aZ i) (g.nz i) (g.cZ i))
  c : ∀ i, i < g.nv → ∀ j, j < g.nc i → g.aC i = some ⟨g.bC i, g.oC i, none⟩ ∧ W.cell? ⟨g.bC i, g.oC i + j * 2, none⟩ = some (.int .u8 (g.ch i j)) ∧ W.cell? ⟨g.bC i, g.oC i + j * 2 + 1, none⟩ = some (.int .u64 (g.cn i j))
  z : ∀ i, i < g.nv → ∀ j, j < g.nz i → g.aZ i = some ⟨g.bZ i, g.oZ i, none⟩ ∧ W.cell? ⟨g.bZ i, g.oZ i + j, none⟩ = some (.int .u8 (g.z i j))
  size : n₀ ≤ W.heap.size
  bv : g.nv = 0 ∨ g.bv < n₀
  bC : ∀ i, i < g.nv → g.nc i = 0 ∨ g.bC i < n₀
  bZ : ∀ i, i < g.nv → g.nz i = 0 ∨ g.bZ i < n₀

structure ArgD.Ok (g : ArgD) : Prop where
  nv : g.nv ≤ 4096
  n : ∀ i, i < g.nv → g.nc i + g.nz i ≤ 4096
  h : ∀ i, i < g.nv → g.h i ≤ 255
  ch : ∀ i, i < g.nv → ∀ j, j < g.nc i → g.ch i j ≤ 255
  z : ∀ i, i < g.nv → ∀ j, j < g.nz i → g.z i j ≤ 255
  cn : ∀ i, i < g.nv → ∀ j, j < g.nc i → (Lit.int .u64 (g.cn i j)).wf = true

theorem ArgD.At.keep {g : ArgD} {n₀ : Nat} {W W' : World} (h : g.At n₀ W) (hb : Below n₀ W W') : g.At n₀ W' := by
  have v : ∀ i, i < g.nv → g.bv < n₀ := fun i hi => h.bv.resolve_left (by omega)
  exact {
    e0 := fun i hi => (hb.cell (p := ⟨g.bv, _, none⟩) (v i hi)).trans (h.e0 i hi)
    e1 := fun i hi => (hb.cell (p := ⟨g.bv, _, none⟩) (v i hi)).trans (h.e1 i hi)
    e2 := fun i hi => (hb.cell (p := ⟨g.bv, _, none⟩) (v i hi)).trans (h.e2 i hi)
    e3 := fun i hi => (hb.cell (p := ⟨g.bv, _, none⟩) (v i hi)).trans (h.e3 i hi)
    e4 := fun i hi => (hb.cell (p := ⟨g.bv, _, none⟩) (v i hi)).trans (h.e4 i hi)
    e5 := fun i hi => (hb.cell (p := ⟨g.bv, _, none⟩) (v i hi)).trans (h.e5 i hi)
    c := fun i hi j hj => ⟨(h.c i hi j hj).1, (hb.cell (p := ⟨g.bC i, _, none⟩) ((h.bC i hi).resolve_left (by omega))).trans (h.c i hi j hj).2.1, (hb.cell (p := ⟨g.bC i, _, none⟩) ((h.bC i hi).resolve_left (by omega))).trans (h.c i hi j hj).2.2⟩
    z := fun i hi j hj => ⟨(h.z i hi j hj).1, (hb.cell (p := ⟨g.bZ i, _, none⟩) ((h.bZ i hi).resolve_left (by omega))).trans (h.z i hi j hj).2⟩
    size := Nat.le_trans h.size hb.size
    bv := h.bv
    bC := h.bC
    bZ := h.bZ }

/-- THE LOG IS WHAT THE DESCRIPTIONS SAY. -/
structure Tells (g : ArgD) (d : LogD) : Prop where
  ne : d.ne = g.nv
  host : ∀ i, i < g.nv → d.host i = (g.h i : Int) % (d.k : Int)
  num : ∀ i, i < g.nv → d.num i = g.num i
  line : ∀ i, i < g.nv → d.line i = g.line i
  text : ∀ i, i < g.nv → d.text i = g.text i
  nc : ∀ i, i < g.nv → d.nc i = g.nc i
  nz : ∀ i, i < g.nv → d.nz i = g.nz i
  H : ∀ i, i < g.nv → ∀ j, j < g.nc i → d.H i j = (g.ch i j : Int) % (d.k : Int)
  N : ∀ i, i < g.nv → ∀ j, j < g.nc i → d.N i j = g.cn i j
  Z : ∀ i, i < g.nv → ∀ j, j < g.nz i → d.Z i j = (g.z i j : Int) % (d.k : Int)

set_option maxRecDepth 100000 in
set_option maxHeartbeats 4000000 in
/-- 'zzs9010bsame(l, evs, k)': the log is still what the descriptions say. -/
theorem f9_any {d : LogD} {g : ArgD} {n₀ : Nat} {w : World} (h : d.At n₀ w) (ha : g.At n₀ w) (hok : g.Ok) (tl : Tells g d) (hk0 : 0 < d.k) (hk1 : d.k ≤ 4096) (av : Option Addr) (hav : 0 < g.nv → av = some ⟨g.bv, g.ov, none⟩) :
    Calls Yba.prog 9 #[.pointer (some ⟨d.bL, 0, none⟩), .slice av g.nv g.cv, .int .i64 d.k] w fun e w' => e = .returned (.bool true) ∧ Below w.heap.size w w' := by
  have HA := hide h
  have HG := hide ha
  have HOk := hide hok
  have HT := hide tl
  have HAv := hide hav
  have c3 := h.c3
  rw [tl.ne] at c3
  have hnv := hok.nv
  clear h ha hok tl hav
  go_enter Yba.func9, Yba.ntmps9
  go_wp2
  go_loopw [7] (fun v wr => ∃ m : Nat, m ≤ g.nv ∧ v = .int .i64 m ∧ Below w.heap.size w wr) (fun v _ => g.nv - (intOf v).toNat)
  case atStart => exact ⟨0, Nat.zero_le _, rfl, Below.refl _ _⟩
  case round =>
    obtain ⟨m, hm, rfl, hb⟩ := hrel
    have Hb := hide hb
    clear hb
    by_cases hlt : m < g.nv
    · obtain rfl := HAv.out (by omega)
      have hA1 := HA.out.keep (Hb.out.mono HA.out.size)
      have hG1 := HG.out.keep (Hb.out.mono HA.out.size)
      have hlti : (m : Int) < (g.nv : Int) := by omega
      have c3r := hA1.c3
      rw [HT.out.ne] at c3r
      have hmd : m < d.ne := by rw [HT.out.ne]; exact hlt
      have v0 := hA1.ev0 m hmd
      have v1 := hA1.ev1 m hmd
      have v2 := hA1.ev2 m hmd
      have v3 := hA1.ev3 m hmd
      have v4 := hA1.ev4 m hmd
      rw [HT.out.host m hlt] at v0
      rw [HT.out.num m hlt] at v1
      rw [HT.out.line m hlt] at v2
      rw [HT.out.text m hlt] at v3
      rw [HT.out.nc m hlt] at v4
      have old : ∀ {p : Addr} {v : Value} (o : Obj), wr.cell? p = some v → (wr.alloc o).cell? p = some v := fun o hp => (((Below.refl _ _).alloc (Nat.le_refl _) o).cell (block_lt_of_cell hp)).trans hp
      have u0 := fun o => old o (hG1.e0 m hlt)
      have u1 := fun o => old o (hG1.e1 m hlt)
      have u2 := fun o => old o (hG1.e2 m hlt)
      have u3 := fun o => old o (hG1.e3 m hlt)
      have u4 := fun o => old o (hG1.e4 m hlt)
      have u5 := fun o => old o (hG1.e5 m hlt)
      have HA1 := hide hA1
      have HG1 := hide hG1
      have hh := HOk.out.h m hlt
      clear hA1 hG1 old c3
      go_wp2
      clear u0 u1 u2 u3 u4 u5 v0 v1 v2 v3 v4
      obtain ⟨o1, ho1⟩ : ∃ o1, o1 = Obj.cells #[.int .i64 ((g.h m : Int) % (d.k : Int)), .int .u64 (g.num m), .int .i64 (g.line m), .string (g.text m), .slice (some ⟨d.bc m, 0, none⟩) (g.nc m) (d.cc m)] 44 := ⟨_, rfl⟩
      obtain ⟨o2, ho2⟩ : ∃ o2, o2 = Obj.cells #[.int .u8 (g.h m), .int .u64 (g.num m), .int .i64 (g.line m), .string (g.text m), .slice (g.aC m) (g.nc m) (g.cC m), .slice (g.aZ m) (g.nz m) (g.cZ m)] 38 := ⟨_, rfl⟩
      rw [← ho1, ← ho2]
      have hb2 : Below wr.heap.size wr ((wr.alloc o1).alloc o2) := ((Below.refl _ _).alloc (Nat.le_refl _) _).alloc (by simp) _
      have r1 : ((wr.alloc o1).alloc o2).heap[wr.heap.size]? = some o1 := (Below.heap_alloc _ _ _ (by simp)).trans (World.alloc_heap_new wr _)
      have r2 : ((wr.alloc o1).alloc o2).heap[wr.heap.size + 1]? = some o2 := by have := World.alloc_heap_new (wr.alloc o1) o2; rwa [World.size_alloc] at this
      generalize (wr.alloc o1).alloc o2 = W2 at hb2 r1 r2 ⊢
      subst ho1 ho2
      have g0 : W2.cell? ⟨wr.heap.size, 0, none⟩ = some (.int .i64 ((g.h m : Int) % (d.k : Int))) := by unfold World.cell?; rw [r1]; rfl
      have g1 : W2.cell? ⟨wr.heap.size, 1, none⟩ = some (.int .u64 (g.num m)) := by unfold World.cell?; rw [r1]; rfl
      have g2 : W2.cell? ⟨wr.heap.size, 2, none⟩ = some (.int .i64 (g.line m)) := by unfold World.cell?; rw [r1]; rfl
      have g3 : W2.cell? ⟨wr.heap.size, 3, none⟩ = some (.string (g.text m)) := by unfold World.cell?; rw [r1]; rfl
      have g4 : W2.cell? ⟨wr.heap.size, 4, none⟩ = some (.slice (some ⟨d.bc m, 0, none⟩) (g.nc m) (d.cc m)) := by unfold World.cell?; rw [r1]; rfl
      have k0 : W2.cell? ⟨wr.heap.size + 1, 0, none⟩ = some (.int .u8 (g.h m)) := by unfold World.cell?; rw [r2]; rfl
      have k1 : W2.cell? ⟨wr.heap.size + 1, 1, none⟩ = some (.int .u64 (g.num m)) := by unfold World.cell?; rw [r2]; rfl
      have k2 : W2.cell? ⟨wr.heap.size + 1, 2, none⟩ = some (.int .i64 (g.line m)) := by unfold World.cell?; rw [r2]; rfl
      have k3 : W2.cell? ⟨wr.heap.size + 1, 3, none⟩ = some (.string (g.text m)) := by unfold World.cell?; rw [r2]; rfl
      have k4 : W2.cell? ⟨wr.heap.size + 1, 4, none⟩ = some (.slice (g.aC m) (g.nc m) (g.cC m)) := by unfold World.cell?; rw [r2]; rfl
      have k5 : W2.cell? ⟨wr.heap.size + 1, 5, none⟩ = some (.slice (g.aZ m) (g.nz m) (g.cZ m)) := by unfold World.cell?; rw [r2]; rfl
      have hA2 := HA1.out.keep (hb2.mono HA1.out.size)
      have hG2 := HG1.out.keep (hb2.mono HA1.out.size)
      have hB2 : Below w.heap.size w W2 := Hb.out.trans (hb2.mono Hb.out.size)
      have HA2 := hide hA2
      have HG2 := hide hG2
      have HB2 := hide hB2
      have Hk4 := hide k4
      have Hk5 := hide k5
      have Hg4 := hide g4
      clear hA2 hG2 hB2 HA1 HG1 Hb hb2 r1 r2 hm
      go_quiet (fail)
      clear g0 g1 g2 g3 k0 k1 k2 k3
      have hnn := HOk.out.n m hlt
      have q4 : ∀ n, (W2.drewN n).cell? ⟨wr.heap.size, 4, none⟩ = some (.slice (some ⟨d.bc m, 0, none⟩) (g.nc m) (d.cc m)) := fun n => Hg4.out
      have q5 : ∀ n, (W2.drewN n).cell? ⟨wr.heap.size + 1, 4, none⟩ = some (.slice (g.aC m) (g.nc m) (g.cC m)) := fun n => Hk4.out
      go_wp2
      go_loopw [10] (fun v wx => ∃ j nq : Nat, j ≤ g.nc m ∧ v = .int .i64 j ∧ wx = W2.drewN nq) (fun v _ => g.nc m - (intOf v).toNat)
      case atStart => exact ⟨0, nq, Nat.zero_le _, rfl, rfl⟩
      case round =>
        obtain ⟨j, nq1, hj, rfl, rfl⟩ := hrel
        by_cases hjlt : j < g.nc m
        · obtain ⟨ea, ec, en⟩ := HG2.out.c m hlt j hjlt
          have hjd : j < d.nc m := by rw [HT.out.nc m hlt]; exact hjlt
          obtain ⟨hc, hn⟩ := HA2.out.ents m hmd j hjd
          rw [HT.out.H m hlt j hjlt, Nat.zero_add] at hc
          rw [HT.out.N m hlt j hjlt, Nat.zero_add] at hn
          have hch := HOk.out.ch m hlt j hjlt
          have hji : (j : Int) < (g.nc m : Int) := by omega
          rw [ea] at q5 ⊢
          go_wp2
          go_quiet (fail)
          go_wp2
          go_roundw
          case rel => exact ⟨j + 1, _, by omega, by go_num, rfl⟩
          case measure => simp [intOf]; omega
        · obtain rfl : j = g.nc m := by omega
          have c7 := HA2.out.c7
          have hlk : ∀ n, (Instr.lookup 40 (.map d.mz) (.int .i64 m) false).run Yba.prog (W2.drewN n) = .ok (.slice (d.az m) (g.nz m) (d.cz m)) (W2.drewN n) := fun n => by
            have := HA2.out.look m hmd (W2.drewN n) (fun _ _ => rfl)
            rw [HT.out.nz m hlt] at this
            exact this
          have q6 : ∀ n, (W2.drewN n).cell? ⟨wr.heap.size + 1, 5, none⟩ = some (.slice (g.aZ m) (g.nz m) (g.cZ m)) := fun n => Hk5.out
          clear q4 q5
          go_wp2
          go_loopw [12] (fun v wx => ∃ j nq : Nat, j ≤ g.nz m ∧ v = .int .i64 j ∧ wx = W2.drewN nq) (fun v _ => g.nz m - (intOf v).toNat)
          case atStart => exact ⟨0, nq1, Nat.zero_le _, rfl, rfl⟩
          case round =>
            obtain ⟨j, nq2, hj, rfl, rfl⟩ := hrel
            by_cases hjlt : j < g.nz m
            · obtain ⟨ea, ez⟩ := HG2.out.z m hlt j hjlt
              have hjd : j < d.nz m := by rw [HT.out.nz m hlt]; exact hjlt
              obtain ⟨bz, eb, hbz, hzc⟩ := (HA2.out.zc m hmd).resolve_left (by omega)
              have hz := hzc j hjd
              rw [HT.out.Z m hlt j hjlt] at hz
              have hch := HOk.out.z m hlt j hjlt
              have hji : (j : Int) < (g.nz m : Int) := by omega
              rw [eb] at hlk ⊢
              rw [ea] at q6 ⊢
              clear hzc
              go_wp2
              go_quiet (fail)
              go_wp2
              go_roundw
              case rel => exact ⟨j + 1, _, by omega, by go_num, rfl⟩
              case measure => simp [intOf]; omega
            · obtain rfl : j = g.nz m := by omega
              go_wp2
              go_roundw
              case rel => exact ⟨m + 1, by omega, by go_num, below_drewN HB2.out _⟩
              case measure => simp [intOf]; omega
    · obtain rfl : m = g.nv := by omega
      go_wp2
      go_ret
      exact ⟨rfl, Hb.out⟩

end Go.Proofs.Ybulkgdoo.events
