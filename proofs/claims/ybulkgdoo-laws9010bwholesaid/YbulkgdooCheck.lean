/-
  zzs9010bcheck: the events that a log shows are those that the descriptions say.
-/
import Derived.Test.YbulkgdooShown
import Derived.Test.YbulkgdooSame
import Derived.Test.YbulkgdooCount
import Derived.Deep.CutRange
namespace Go.Proofs.Ybulkgdoo.events
open Go Go.RowKit Go.Shelf
open Go.Proofs.Ybulkgdoo.search Go.Proofs.Ybulkgdoo.front Go.Proofs.Ybulkgdoo.range Go.Proofs.Ybulkgdoo.iter
set_option linter.unusedVariables false
set_option linter.unusedSimpArgs false

theorem toNat_mod (a k : Nat) : ((a : Int) % (k : Int)).toNat = a % k := by
  rw [← Int.natCast_emod]; exact Int.toNat_natCast _

theorem f15_nat (bn k ck : Nat) (L : Nat → ByteArray) (x : Nat) (w : World) (h1 : x ≤ 255) (hk : 0 < k) (hk2 : k ≤ 4096) (hS : ∀ i, i < k → w.cell? ⟨bn, i, none⟩ = some (.string (L i))) :
    Calls Yba.prog 15 #[.slice (some ⟨bn, 0, none⟩) k ck, .int .u8 x] w fun e w' => e = .returned (.string (L (x % k))) ∧ w' = w := by
  have := f15_any bn k ck L x w (by omega) (by omega) hk hk2 hS
  simpa using this

theorem zero25 (w : World) : (zeroValue 25).run Yba.prog w = .ok (.int .u64 0) w := by kernel_rfl

theorem EvsAt.keep {d : LogD} {bg : Nat} {M : Nat → Nat} {W W' : World} (h : EvsAt d bg M W) (hb : Below W.heap.size W W') : EvsAt d bg M W' where
  cells j hj := ⟨(hb.cell (p := ⟨bg, _, none⟩) h.lt).trans (h.cells j hj).1, (hb.cell (p := ⟨bg, _, none⟩) h.lt).trans (h.cells j hj).2.1, (hb.cell (p := ⟨bg, _, none⟩) h.lt).trans (h.cells j hj).2.2.1, (hb.cell (p := ⟨bg, _, none⟩) h.lt).trans (h.cells j hj).2.2.2⟩
  maps j hj := (h.maps j hj).kept (grown_of_below hb) (by simp)
  frozen p := (hb.frozen (p := ⟨bg, p, none⟩) h.lt).trans (h.frozen p)
  lt := Nat.lt_of_lt_of_le h.lt hb.size
  ne := h.ne

theorem seq_clock {g : ArgD} {d : LogD} (tl : Tells g d) {m j : Nat} (hm : m < g.nv) (hj : j < g.nc m) : (evSeq d m)[j]? = some (d.L (g.ch m j % d.k), g.cn m j) := by
  have hj' : j < d.nc m := by rw [tl.nc m hm]; exact hj
  rw [evSeq, List.getElem?_append_left (by simpa [clockSeq] using hj')]
  simp [clockSeq, hj', tl.H m hm j hj, tl.N m hm j hj, toNat_mod]

theorem seq_zero {g : ArgD} {d : LogD} (tl : Tells g d) {m j : Nat} (hm : m < g.nv) (hj : j < g.nz m) : (evSeq d m)[g.nc m + j]? = some (d.L (g.z m j % d.k), 0) := by
  have hj' : j < d.nz m := by rw [tl.nz m hm]; exact hj
  rw [evSeq, List.getElem?_append_right (by simp [clockSeq, tl.nc m hm])]
  simp [clockSeq, zeroSeq, tl.nc m hm, hj', tl.Z m hm j hj, toNat_mod]

theorem seq_len {g : ArgD} {d : LogD} (tl : Tells g d) {m : Nat} (hm : m < g.nv) : (evSeq d m).length = g.nc m + g.nz m := by rw [evSeq_length, tl.nc m hm, tl.nz m hm]

theorem slice_nil (a : Addr) (n c : Nat) (w : World) : (binOp .eql 55 (.slice (some a) n c) (.slice none 0 0)).run Yba.prog w = .ok (.bool false) w := by
  have hh : ∀ d : Nat, (Op.equalIn (d + 2) 55 (.slice (some a) n c) (.slice none 0 0)).run Yba.prog w = .ok false w := fun d => by
    simp [Op.equalIn, run_underlying Yba.underlying55]
  simp only [binOp]
  simp [Op.equal, Op.maxDepth, hh 9998]
theorem map_nil (b : Nat) (w : World) : (binOp .eql 60 (.map (some b)) (.map none)).run Yba.prog w = .ok (.bool false) w := by
  have hh : ∀ d : Nat, (Op.equalIn (d + 2) 60 (.map (some b)) (.map none)).run Yba.prog w = .ok false w := fun d => by
    simp [Op.equalIn, run_underlying Yba.underlying60]
  simp only [binOp]
  simp [Op.equal, Op.maxDepth, hh 9998]
theorem map40_nil (b : Nat) (w : World) : (binOp .eql 40 (.map (some b)) (.map none)).run Yba.prog w = .ok (.bool false) w := by
  have hh : ∀ d : Nat, (Op.equalIn (d + 2) 40 (.map (some b)) (.map none)).run Yba.prog w = .ok false w := fun d => by
    simp [Op.equalIn, run_underlying Yba.underlying40]
  simp only [binOp]
  simp [Op.equal, Op.maxDepth, hh 9998]
theorem map40_is_nil (w : World) : (binOp .eql 40 (.map none) (.map none)).run Yba.prog w = .ok (.bool true) w := by
  have hh : ∀ d : Nat, (Op.equalIn (d + 2) 40 (.map none) (.map none)).run Yba.prog w = .ok true w := fun d => by
    simp [Op.equalIn, run_underlying Yba.underlying40]
  simp only [binOp]
  simp [Op.equal, Op.maxDepth, hh 9998]
theorem toList_eq_of {a b : ByteArray} (h : a = b) : (a.toList == b.toList) = true := by subst h; simp
theorem toList_ne_of {a b : ByteArray} (h : ¬ a = b) : (a.toList == b.toList) = false := by
  rw [beq_eq_false_iff_ne]
  intro e
  rw [ByteArray.toList_eq, ByteArray.toList_eq] at e
  exact h (data_inj e)


set_option maxRecDepth 1000000 in
set_option maxHeartbeats 8000000 in
/-- 'zzs9010bcheck(got, evs, list)'. -/
theorem f8_any {d : LogD} {g : ArgD} {n₀ : Nat} {w : World} {bg : Nat} {M : Nat → Nat} (h : d.At n₀ w) (ok : d.Ok) (ha : g.At n₀ w) (hok : g.Ok) (tl : Tells g d) (hk0 : 0 < d.k) (ev : EvsAt d bg M w) (av : Option Addr) (hav : 0 < g.nv → av = some ⟨g.bv, g.ov, none⟩) :
    Calls Yba.prog 8 #[.slice (some ⟨bg, 0, none⟩) d.ne d.ne, .slice av g.nv g.cv, .slice (some ⟨d.bn, 0, none⟩) d.k d.ck] w fun e w' => e = .returned (.bool true) ∧ Below w.heap.size w w' := by
  rw [tl.ne]
  have HA := hide h
  have HG := hide ha
  have HOk := hide hok
  have HDk := hide ok
  have HT := hide tl
  have HAv := hide hav
  have HE := hide ev
  have hnv := hok.nv
  have hk1 := ok.k
  clear h ha hok tl hav ok ev
  have hsn := slice_nil ⟨bg, 0, none⟩ g.nv g.nv
  have hmn : ∀ b w', (binOp .eql 60 (.map (some b)) (.map none)).run Yba.prog w' = .ok (.bool false) w' := map_nil
  go_enter Yba.func8, Yba.ntmps8
  go_wp2
  clear hsn
  go_loopw [7] (fun v wr => ∃ m : Nat, m ≤ g.nv ∧ v = .int .i64 m ∧ Below w.heap.size w wr) (fun v _ => g.nv - (intOf v).toNat)
  case atStart => exact ⟨0, Nat.zero_le _, rfl, Below.refl _ _⟩
  case round =>
    obtain ⟨m, hm, rfl, hb⟩ := hrel
    have Hb := hide hb
    clear hb
    by_cases hlt : m < g.nv
    · obtain rfl := HAv.out (by omega)
      have hA1 := HA.out.keep (Hb.out.mono HA.out.size)
      have hG1 := HG.out.keep (Hb.out.mono HA.out.size)
      have hE1 := HE.out.keep Hb.out
      have hlti : (m : Int) < (g.nv : Int) := by omega
      have hmd : m < d.ne := by rw [HT.out.ne]; exact hlt
      have old : ∀ {p : Addr} {v : Value} (o : Obj), wr.cell? p = some v → (wr.alloc o).cell? p = some v := fun o hp => (((Below.refl _ _).alloc (Nat.le_refl _) o).cell (block_lt_of_cell hp)).trans hp
      obtain ⟨w0, w1, w2, w3⟩ := hE1.cells m hmd
      rw [HT.out.host m hlt, toNat_mod] at w0
      rw [HT.out.text m hlt] at w2
      rw [HT.out.line m hlt] at w3
      have v0 := fun o => old o w0
      have v1 := fun o => old o w1
      have v2 := fun o => old o w2
      have v3 := fun o => old o w3
      have u0 := hG1.e0 m hlt
      have u1 := hG1.e1 m hlt
      have u2 := hG1.e2 m hlt
      have u3 := hG1.e3 m hlt
      have u4 := hG1.e4 m hlt
      have u5 := hG1.e5 m hlt
      have HA1 := hide hA1
      have HG1 := hide hG1
      have HE1 := hide hE1
      have hh := HOk.out.h m hlt
      clear hA1 hG1 hE1 old w0 w1 w2 w3
      go_wp2
      clear u0 u1 u2 u3 u4 u5 v0 v1 v2 v3
      obtain ⟨o1, ho1⟩ : ∃ o1, o1 = Obj.cells #[.int .u8 (g.h m), .int .u64 (g.num m), .int .i64 (g.line m), .string (g.text m), .slice (g.aC m) (g.nc m) (g.cC m), .slice (g.aZ m) (g.nz m) (g.cZ m)] 38 := ⟨_, rfl⟩
      obtain ⟨o2, ho2⟩ : ∃ o2, o2 = Obj.cells #[.string (d.L (g.h m % d.k)), .map (some (M m)), .string (g.text m), .int .i64 (g.line m)] 62 := ⟨_, rfl⟩
      rw [← ho1, ← ho2]
      have hb2 : Below wr.heap.size wr ((wr.alloc o1).alloc o2) := ((Below.refl _ _).alloc (Nat.le_refl _) _).alloc (by simp) _
      have r1 : ((wr.alloc o1).alloc o2).heap[wr.heap.size]? = some o1 := (Below.heap_alloc _ _ _ (by simp)).trans (World.alloc_heap_new wr _)
      have r2 : ((wr.alloc o1).alloc o2).heap[wr.heap.size + 1]? = some o2 := by have := World.alloc_heap_new (wr.alloc o1) o2; rwa [World.size_alloc] at this
      generalize (wr.alloc o1).alloc o2 = W2 at hb2 r1 r2 ⊢
      subst ho1 ho2
      have g0 : W2.cell? ⟨wr.heap.size, 0, none⟩ = some (.int .u8 (g.h m)) := by unfold World.cell?; rw [r1]; rfl
      have g2 : W2.cell? ⟨wr.heap.size, 2, none⟩ = some (.int .i64 (g.line m)) := by unfold World.cell?; rw [r1]; rfl
      have g3 : W2.cell? ⟨wr.heap.size, 3, none⟩ = some (.string (g.text m)) := by unfold World.cell?; rw [r1]; rfl
      have g4 : W2.cell? ⟨wr.heap.size, 4, none⟩ = some (.slice (g.aC m) (g.nc m) (g.cC m)) := by unfold World.cell?; rw [r1]; rfl
      have g5 : W2.cell? ⟨wr.heap.size, 5, none⟩ = some (.slice (g.aZ m) (g.nz m) (g.cZ m)) := by unfold World.cell?; rw [r1]; rfl
      have k0 : W2.cell? ⟨wr.heap.size + 1, 0, none⟩ = some (.string (d.L (g.h m % d.k))) := by unfold World.cell?; rw [r2]; rfl
      have k1 : W2.cell? ⟨wr.heap.size + 1, 1, none⟩ = some (.map (some (M m))) := by unfold World.cell?; rw [r2]; rfl
      have k2 : W2.cell? ⟨wr.heap.size + 1, 2, none⟩ = some (.string (g.text m)) := by unfold World.cell?; rw [r2]; rfl
      have k3 : W2.cell? ⟨wr.heap.size + 1, 3, none⟩ = some (.int .i64 (g.line m)) := by unfold World.cell?; rw [r2]; rfl
      have hA2 := HA1.out.keep (hb2.mono HA1.out.size)
      have hG2 := HG1.out.keep (hb2.mono HA1.out.size)
      have hM2 := (HE1.out.keep hb2).maps m hmd
      have hB2 : Below w.heap.size w W2 := Hb.out.trans (hb2.mono Hb.out.size)
      have HN := hide hA2.names
      have HG2 := hide hG2
      have HB2 := hide hB2
      have HM2 := hide hM2
      clear hA2 hG2 hB2 hM2 HA1 HG1 HE1 Hb hb2 r1 r2 hm
      go_quiet ((go_at_call 15; exact Calls.quiet_of_same (f15_nat d.bn d.k d.ck d.L _ _ hh hk0 hk1 HN.out)))
      have HB3 := hide (below_drewN HB2.out nq)
      have HM3 : Hid ((W2.drewN nq).ownsMap Yba.prog 9 heldR (M m) (d.nc m + d.nz m) (clockD (evSeq d m))) := hide HM2.out
      have HG3 := hide (HG2.out.keep (below_drewN (Below.refl n₀ W2) nq))
      have HN3 : Hid (∀ i, i < d.k → (W2.drewN nq).cell? ⟨d.bn, i, none⟩ = some (.string (d.L i))) := hide HN.out
      replace g4 : (W2.drewN nq).cell? ⟨wr.heap.size, 4, none⟩ = some (.slice (g.aC m) (g.nc m) (g.cC m)) := g4
      replace g5 : (W2.drewN nq).cell? ⟨wr.heap.size, 5, none⟩ = some (.slice (g.aZ m) (g.nz m) (g.cZ m)) := g5
      replace k1 : (W2.drewN nq).cell? ⟨wr.heap.size + 1, 1, none⟩ = some (.map (some (M m))) := k1
      clear g0 g2 g3 k0 k2 k3 HB2 HM2 HG2 HN
      generalize W2.drewN nq = W3 at HB3 HM3 HG3 HN3 g4 g5 k1 ⊢
      have hnn := HOk.out.n m hlt
      have HSl := hide (seq_len HT.out hlt)
      have hlen : ∀ ty, (Builtin.len_ #[60] ty #[.map (some (M m))]).run Yba.prog W3 = .ok (.int .i64 (cnt (evSeq d m))) W3 := fun ty => by
        have := HM3.out.len Yba.underlying60 ty
        rwa [clockD_size] at this
      go_wp2
      go_loopg [13, 14] (g.nc m + g.nz m) (fun k u v wx => ∃ j e : Nat, j + k = g.nc m + g.nz m ∧ u = .int .i64 e ∧ v = .int .i64 j ∧ Hid (e + cnt ((evSeq d m).drop j) = cnt (evSeq d m)) ∧ wx = W3)
      case atStart => exact ⟨0, 0, Nat.zero_add _, rfl, rfl, by show 0 + cnt ((evSeq d m).drop 0) = _; simp, rfl⟩
      case round =>
        obtain ⟨gk1, hgk1⟩ : ∃ x, x = gk := ⟨_, rfl⟩
        obtain ⟨j, e0, hj, rfl, rfl, Hcn, hwx⟩ := hrel
        have hwx2 := hwx.symm
        clear hwx
        subst hwx2
        by_cases hjl : j < g.nc m + g.nz m
        · have hjli : (j : Int) < (g.nc m : Int) + (g.nz m : Int) := by omega
          have he0 : e0 ≤ cnt (evSeq d m) := by have := Hcn.out; omega
          have hcl : cnt (evSeq d m) ≤ 4096 := by have := HM3.out.size_le; rw [clockD_size, HT.out.nc m hlt, HT.out.nz m hlt] at this; omega
          go_upto_if 85 with fail
          go_cut [14, 15, 16] from 78 to 154 (fun c a b wx => ∃ NM VAL, c = .int .i64 j ∧ a = .string NM ∧ b = .int .u64 VAL ∧ (evSeq d m)[j]? = some (NM, VAL) ∧ wx = W3)
          case first =>
            by_cases hc : j < g.nc m
            · have hci : (j : Int) < (g.nc m : Int) := by omega
              obtain ⟨ea, ec, en⟩ := HG3.out.c m hlt j hc
              have hx := hide (seq_clock HT.out hlt hc)
              have hch := HOk.out.ch m hlt j hc
              rw [ea] at g4
              clear ea
              go_wp2_with (go_at_call 15; refine (f15_nat d.bn d.k d.ck d.L _ _ hch hk0 hk1 HN3.out).mono ?_; rintro e w' ⟨rfl, hw'⟩; have hw2 := hw'.symm; clear hw'; subst hw2)
              go_meet
              case rel => exact ⟨_, _, by go_num, rfl, rfl, hx.out, by first | rfl | trivial⟩
            · obtain ⟨i0, hi0⟩ : ∃ i0, j = g.nc m + i0 := ⟨j - g.nc m, by omega⟩
              subst hi0
              have hz : i0 < g.nz m := by omega
              have hzi : (i0 : Int) < (g.nz m : Int) := by omega
              have hni : ¬ (g.nc m : Int) + (i0 : Int) < (g.nc m : Int) := by omega
              obtain ⟨ea, ec⟩ := HG3.out.z m hlt i0 hz
              have hx := hide (seq_zero HT.out hlt hz)
              have hch := HOk.out.z m hlt i0 hz
              rw [ea] at g5
              clear ea
              go_wp2_with (go_at_call 15; refine (f15_nat d.bn d.k d.ck d.L _ _ hch hk0 hk1 HN3.out).mono ?_; rintro e w' ⟨rfl, hw'⟩; have hw2 := hw'.symm; clear hw'; subst hw2)
              go_meet
              case rel => exact ⟨_, _, by go_num, rfl, rfl, hx.out, by first | rfl | trivial⟩
          case rest =>
            obtain ⟨NM, VAL, rfl, rfl, rfl, hxj, hwx⟩ := hcut
            have hwx2 := hwx.symm
            clear hwx
            subst hwx2
            have Hxj := hide hxj
            clear hxj
            go_wp2
            go_loopg [17, 18] (g.nc m + g.nz m - (j + 1)) (fun k u v wx => ∃ t : Nat, j < t ∧ t + k = g.nc m + g.nz m ∧ u = .bool false ∧ v = .int .i64 t ∧ wx = W3 ∧ Hid (∀ t' x, j < t' → t' < t → (evSeq d m)[t']? = some x → key x ≠ NM.data.toList))
            case atStart => exact ⟨j + 1, by omega, by omega, rfl, by go_num, rfl, fun t' x h1 h2 => by omega⟩
            case round =>
              obtain ⟨t, hjt, htn, rfl, rfl, hwx, hno⟩ := hrel
              have hwx2 := hwx.symm
              clear hwx
              subst hwx2
              by_cases htl : t < g.nc m + g.nz m
              · have htli : (t : Int) < (g.nc m : Int) + (g.nz m : Int) := by omega
                go_upto_if 118 with fail
                go_cut [18, 19] from 111 to 138 (fun c a wx => ∃ NM2 V2, c = .int .i64 t ∧ a = .string NM2 ∧ (evSeq d m)[t]? = some (NM2, V2) ∧ wx = W3)
                case first =>
                  by_cases hc : t < g.nc m
                  · have hci : (t : Int) < (g.nc m : Int) := by omega
                    obtain ⟨ea, ec, en⟩ := HG3.out.c m hlt t hc
                    have hx := hide (seq_clock HT.out hlt hc)
                    have hch := HOk.out.ch m hlt t hc
                    rw [ea] at g4
                    clear ea
                    go_wp2_with (go_at_call 15; refine (f15_nat d.bn d.k d.ck d.L _ _ hch hk0 hk1 HN3.out).mono ?_; rintro e w' ⟨rfl, hw'⟩; have hw2 := hw'.symm; clear hw'; subst hw2)
                    go_meet
                    case rel => exact ⟨_, _, by go_num, rfl, hx.out, by first | rfl | trivial⟩
                  · obtain ⟨i0, hi0⟩ : ∃ i0, t = g.nc m + i0 := ⟨t - g.nc m, by omega⟩
                    subst hi0
                    have hz : i0 < g.nz m := by omega
                    have hzi : (i0 : Int) < (g.nz m : Int) := by omega
                    have hni : ¬ (g.nc m : Int) + (i0 : Int) < (g.nc m : Int) := by omega
                    obtain ⟨ea, ec⟩ := HG3.out.z m hlt i0 hz
                    have hx := hide (seq_zero HT.out hlt hz)
                    have hch := HOk.out.z m hlt i0 hz
                    rw [ea] at g5
                    clear ea
                    go_wp2_with (go_at_call 15; refine (f15_nat d.bn d.k d.ck d.L _ _ hch hk0 hk1 HN3.out).mono ?_; rintro e w' ⟨rfl, hw'⟩; have hw2 := hw'.symm; clear hw'; subst hw2)
                    go_meet
                    case rel => exact ⟨_, _, by go_num, rfl, hx.out, by first | rfl | trivial⟩
                case rest =>
                  obtain ⟨NM2, V2, rfl, rfl, hxt, hwx⟩ := hcut
                  have hwx2 := hwx.symm
                  clear hwx
                  subst hwx2
                  have Hxt := hide hxt
                  clear hxt
                  by_cases heq : NM2 = NM
                  · have hst := toList_eq_of heq
                    go_wp2
                    go_roundg (gk1 - 1)
                    case measure => omega
                    case rel =>
                      refine ⟨j + 1, e0, by omega, rfl, by go_num, ?_, by first | rfl | trivial⟩
                      have h1 := Hcn.out
                      rw [cnt_drop Hxj.out, if_pos (later_iff.2 ⟨_, _, hjt, Hxt.out, by rw [key]; exact congrArg (fun s => s.data.toList) heq⟩)] at h1
                      show _ + _ = _
                      omega
                  · have hst := toList_ne_of heq
                    go_wp2
                    go_roundg (gk - 1)
                    case measure => omega
                    case rel =>
                      refine ⟨t + 1, Nat.lt_succ_of_lt hjt, by omega, rfl, by go_num, by first | rfl | trivial, fun t' x h1 h2 h3 => ?_⟩
                      rcases Nat.lt_or_eq_of_le (Nat.le_of_lt_succ h2) with h4 | rfl
                      · exact hno.out t' x h1 h4 h3
                      · rw [Hxt.out] at h3
                        cases h3
                        exact fun e => heq (data_inj e)
              · obtain rfl : t = g.nc m + g.nz m := by omega
                have hnl : NM.data.toList ∉ ((evSeq d m).drop (j + 1)).map key := fun hin => by
                  obtain ⟨t', x, h1, h2, h3⟩ := later_iff.1 hin
                  refine hno.out t' x h1 ?_ h2 h3
                  have := (List.getElem?_eq_some_iff.1 h2).1
                  have := HSl.out
                  omega
                have hlast := clockD_last Hxj.out hnl (.held (.int .u64 0))
                have hszn := evSeq_key HDk.out hmd (List.mem_of_getElem? Hxj.out)
                have hlook : (Instr.lookup 60 (.map (some (M m))) (.string NM) true).run Yba.prog W3 = .ok (.tuple #[.int .u64 VAL, .bool true]) W3 := by
                  obtain ⟨v, ps, hrun, hv⟩ := HM3.out.look_ok (Maps.string_keyed Yba.underlying9) Yba.underlying60 (zero25 _) (zd := .held (.int .u64 0)) (zp := []) rfl (WideMaps.keyOf_string_mk Yba.underlying9 hszn)
                  rw [hlast.1] at hrun
                  rw [hlast.2] at hv
                  obtain rfl : v = .int .u64 VAL := by simp [heldR] at hv; exact hv.1
                  exact hrun
                have Hnl := hide hnl
                clear hlast hnl hszn
                go_wp2
                go_roundg (gk1 - 1)
                case measure => omega
                case rel =>
                  exact ⟨j + 1, e0 + 1, by omega, by go_num, by go_num, by have h1 := Hcn.out; rw [cnt_drop Hxj.out, if_neg Hnl.out] at h1; show _ + _ = _; omega, by first | rfl | trivial⟩
        · obtain rfl : j = g.nc m + g.nz m := by omega
          have hcn0 : e0 = cnt (evSeq d m) := by
            have h1 := Hcn.out
            rw [List.drop_of_length_le (by have := HSl.out; omega)] at h1
            simpa [cnt] using h1
          subst hcn0
          go_wp2
          go_roundw
          case rel => exact ⟨m + 1, by omega, by go_num, HB3.out⟩
          case measure => simp [intOf]; omega
    · obtain rfl : m = g.nv := by omega
      go_wp2
      go_ret
      exact ⟨rfl, Hb.out⟩

end Go.Proofs.Ybulkgdoo.events
