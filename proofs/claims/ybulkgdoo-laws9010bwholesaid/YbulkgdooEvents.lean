/-
  A LOG IN MEMORY; maps.Insert over the entries of one event; (*Log).asEvent; (*Log).Events.
-/
import Derived.Test.YbulkgdooIter
import Derived.Maps.OwnSet
import Derived.StringKeys
namespace Go.Proofs.Ybulkgdoo.events
open Go Go.RowKit Go.Shelf
open Go.Proofs.Ybulkgdoo.search Go.Proofs.Ybulkgdoo.front Go.Proofs.Ybulkgdoo.range Go.Proofs.Ybulkgdoo.iter
set_option linter.unusedVariables false
set_option linter.unusedSimpArgs false

attribute [local go_sem] Oper.semAt_some

theorem rightBy {a b c : Prop} (h : a ∨ b) (f : b → c) : a ∨ c := by
  cases h with
  | inl x => exact .inl x
  | inr x => exact .inr (f x)

/-- WHAT A LOG HOLDS, as the walks want it: where its parts lie, its names, and of each event its fields, its clock, its zeros. -/
structure LogD where
  (bL bn k ck be ne ce : Nat)
  mz : Option Nat
  L : Nat → ByteArray
  (host num line : Nat → Int)
  text : Nat → ByteArray
  (bc nc cc : Nat → Nat)
  (H N : Nat → Nat → Int)
  az : Nat → Option Addr
  (nz cz : Nat → Nat)
  Z : Nat → Nat → Int

structure LogD.At (d : LogD) (n₀ : Nat) (W : World) : Prop where
  size : n₀ ≤ W.heap.size
  c2 : W.cell? ⟨d.bL, 2, none⟩ = some (.slice (some ⟨d.bn, 0, none⟩) d.k d.ck)
  names : ∀ i, i < d.k → W.cell? ⟨d.bn, i, none⟩ = some (.string (d.L i))
  c3 : W.cell? ⟨d.bL, 3, none⟩ = some (.slice (some ⟨d.be, 0, none⟩) d.ne d.ce)
  ev0 : ∀ i, i < d.ne → W.cell? ⟨d.be, i * 5, none⟩ = some (.int .i64 (d.host i))
  ev1 : ∀ i, i < d.ne → W.cell? ⟨d.be, i * 5 + 1, none⟩ = some (.int .u64 (d.num i))
  ev2 : ∀ i, i < d.ne → W.cell? ⟨d.be, i * 5 + 2, none⟩ = some (.int .i64 (d.line i))
  ev3 : ∀ i, i < d.ne → W.cell? ⟨d.be, i * 5 + 3, none⟩ = some (.string (d.text i))
  ev4 : ∀ i, i < d.ne → W.cell? ⟨d.be, i * 5 + 4, none⟩ = some (.slice (some ⟨d.bc i, 0, none⟩) (d.nc i) (d.cc i))
  c7 : W.cell? ⟨d.bL, 7, none⟩ = some (.map d.mz)
  ents : ∀ i, i < d.ne → Ents W (d.bc i) 0 (d.nc i) (d.H i) (d.N i)
  look : ∀ i, i < d.ne → ∀ A : World, (∀ b, d.mz = some b → A.heap[b]? = W.heap[b]?) → (Instr.lookup 40 (.map d.mz) (.int .i64 i) false).run Yba.prog A = .ok (.slice (d.az i) (d.nz i) (d.cz i)) A
  zc : ∀ i, i < d.ne → d.nz i = 0 ∨ ∃ bz, d.az i = some ⟨bz, 0, none⟩ ∧ bz < n₀ ∧ ∀ j, j < d.nz i → W.cell? ⟨bz, j, none⟩ = some (.int .i64 (d.Z i j))
  bL : d.bL < n₀
  bn : d.bn < n₀
  be : d.be < n₀
  bc : ∀ i, i < d.ne → d.bc i < n₀
  bz : ∀ b, d.mz = some b → b < n₀

/-- The log's numbers are in their bounds. -/
structure LogD.Ok (d : LogD) : Prop where
  k : d.k ≤ 4096
  ne : d.ne ≤ 4096
  nc : ∀ i, i < d.ne → d.nc i + d.nz i ≤ 4096
  host : ∀ i, i < d.ne → 0 ≤ d.host i ∧ d.host i < d.k
  H : ∀ i, i < d.ne → ∀ j, j < d.nc i → 0 ≤ d.H i j ∧ d.H i j < d.k
  Z : ∀ i, i < d.ne → ∀ j, j < d.nz i → 0 ≤ d.Z i j ∧ d.Z i j < d.k
  L : ∀ i, i < d.k → (d.L i).size ≤ maxLen
  N : ∀ i, i < d.ne → ∀ j, j < d.nc i → (Lit.int .u64 (d.N i j)).wf = true

theorem LogD.At.keep {d : LogD} {n₀ : Nat} {W W' : World} (h : d.At n₀ W) (hb : Below n₀ W W') : d.At n₀ W' where
  size := Nat.le_trans h.size hb.size
  c2 := (hb.cell (p := ⟨d.bL, 2, none⟩) h.bL).trans h.c2
  names i hi := (hb.cell (p := ⟨d.bn, i, none⟩) h.bn).trans (h.names i hi)
  c3 := (hb.cell (p := ⟨d.bL, 3, none⟩) h.bL).trans h.c3
  ev0 i hi := (hb.cell (p := ⟨d.be, _, none⟩) h.be).trans (h.ev0 i hi)
  ev1 i hi := (hb.cell (p := ⟨d.be, _, none⟩) h.be).trans (h.ev1 i hi)
  ev2 i hi := (hb.cell (p := ⟨d.be, _, none⟩) h.be).trans (h.ev2 i hi)
  ev3 i hi := (hb.cell (p := ⟨d.be, _, none⟩) h.be).trans (h.ev3 i hi)
  ev4 i hi := (hb.cell (p := ⟨d.be, _, none⟩) h.be).trans (h.ev4 i hi)
  c7 := (hb.cell (p := ⟨d.bL, 7, none⟩) h.bL).trans h.c7
  ents i hi j hj := ⟨(hb.cell (p := ⟨d.bc i, _, none⟩) (h.bc i hi)).trans (h.ents i hi j hj).1, (hb.cell (p := ⟨d.bc i, _, none⟩) (h.bc i hi)).trans (h.ents i hi j hj).2⟩
  look i hi A hA := h.look i hi A (fun b e => (hA b e).trans (hb.block b (h.bz b e)))
  zc i hi := rightBy (h.zc i hi) fun ⟨bz, e, hlt, hc⟩ => ⟨bz, e, hlt, fun j hj => (hb.cell (p := ⟨bz, j, none⟩) hlt).trans (hc j hj)⟩
  bL := h.bL
  bn := h.bn
  be := h.be
  bc := h.bc
  bz := h.bz

/-- The entries of event i's clock by their names, those of 0 included, in their order. -/
def evSeq (d : LogD) (i : Nat) : List (ByteArray × Int) := clockSeq d.L (d.H i) (d.N i) (d.nc i) ++ zeroSeq d.L (d.Z i) (d.nz i)

/-- A map's element, held as it is. -/
def heldR (v : Value) : Option (DataW Value × List MemPlace) := some (.held v, [])

/-- The map that such a sequence builds, each entry put behind the other. -/
def clockD (xs : List (ByteArray × Int)) : DataW Value := xs.foldl (fun D x => D.put (.string x.1.data.toList) (.held (.int .u64 x.2))) (.map [])
theorem clockD_snoc (xs : List (ByteArray × Int)) (x : ByteArray × Int) : clockD (xs ++ [x]) = (clockD xs).put (.string x.1.data.toList) (.held (.int .u64 x.2)) := by simp [clockD]

theorem evSeq_length (d : LogD) (i : Nat) : (evSeq d i).length = d.nc i + d.nz i := by simp [evSeq, clockSeq, zeroSeq]
theorem evSeq_key {d : LogD} (ok : d.Ok) {i : Nat} (hi : i < d.ne) {x : ByteArray × Int} (hx : x ∈ evSeq d i) : x.1.size ≤ maxLen := by
  simp only [evSeq, clockSeq, zeroSeq, List.mem_append, List.mem_map, List.mem_range] at hx
  rcases hx with ⟨j, hj, rfl⟩ | ⟨j, hj, rfl⟩
  · have := ok.H i hi j hj
    exact ok.L _ (by omega)
  · have := ok.Z i hi j hj
    exact ok.L _ (by omega)

theorem iter21 {d : LogD} {n₀ : Nat} {W : World} (h : d.At n₀ W) (ok : d.Ok) {i : Nat} (hi : i < d.ne) {X : Nat → Prop} (hX : ∀ b, X b → n₀ ≤ b ∧ b < W.heap.size) (l Bl Bi : Nat)
    (hBl : W.cell? ⟨Bl, 0, none⟩ = some (.pointer (some ⟨d.bL, 0, none⟩))) (hBi : W.cell? ⟨Bi, 0, none⟩ = some (.int .i64 i)) (x1 : ¬ X Bl) (x2 : ¬ X Bi) :
    IterAll Yba.prog 21 #[.pointer (some ⟨Bl, 0, none⟩), .pointer (some ⟨Bi, 0, none⟩)] enc (evSeq d i) X l W := by
  have nx : ∀ b, b < n₀ → ¬ X b := fun b hb hx => by have := (hX b hx).1; omega
  have hs := h.size
  have hn := ok.nc i hi
  have := ok.ne
  exact f21_iter X l W Bl Bi d.bL d.bn d.k d.ck d.be d.ne d.ce i (d.bc i) (d.nc i) (d.cc i) d.mz (d.az i) (d.nz i) (d.cz i) d.L (d.H i) (d.N i) (d.Z i) hBl hBi h.c2 h.names h.c3 hi ok.ne (h.ev4 i hi) h.c7 (h.look i hi)
    (rightBy (h.zc i hi) fun ⟨bz, e, hlt, hc⟩ => ⟨bz, e, nx _ hlt, hc⟩) (fun b e => ⟨by have := h.bz b e; omega, nx _ (h.bz b e)⟩) (h.ents i hi) (ok.H i hi) (ok.Z i hi) (by omega) ok.k (by omega)
    (fun b hb => (hX b hb).2) (by have := h.bc i hi; omega) (by have := h.bn; omega) x1 x2 (nx _ h.bL) (nx _ h.bn) (nx _ h.be) (nx _ (h.bc i hi))

set_option maxRecDepth 100000 in
set_option maxHeartbeats 4000000 in
/-- 'maps.Insert(c, l.named(i))', c a map of ours that holds nothing yet. -/
theorem f18_in {d : LogD} {n₀ : Nat} {w : World} (h : d.At n₀ w) (ok : d.Ok) {i : Nat} (hi : i < d.ne) (bm Bl Bi : Nat) (hbm : n₀ ≤ bm) (hown : w.ownsMap Yba.prog 9 heldR bm 0 (.map []))
    (hBl : w.cell? ⟨Bl, 0, none⟩ = some (.pointer (some ⟨d.bL, 0, none⟩))) (hBi : w.cell? ⟨Bi, 0, none⟩ = some (.int .i64 i)) (x1 : Bl ≠ bm) (x2 : Bi ≠ bm) :
    CallsIn Fence.wide 0 Yba.prog 18 #[.map (some bm), .func (.func 21) #[] #[.pointer (some ⟨Bl, 0, none⟩), .pointer (some ⟨Bi, 0, none⟩)]] w fun e w' =>
      (∃ v, e = .returned v) ∧ w'.ownsMap Yba.prog 9 heldR bm (d.nc i + d.nz i) (clockD (evSeq d i)) ∧ Keeps (fun b => b = bm) w w' := by
  have HA := hide h
  have HOk := hide ok
  have HOw := hide hown
  have hlb : bm < w.heap.size := hown.lt
  have hl1 : Bl < w.heap.size := block_lt_of_cell hBl
  have hl2 : Bi < w.heap.size := block_lt_of_cell hBi
  clear h ok hown
  refine callsIn_of_wp_marks Yba.func18 rfl trivial ?_ rfl
  simp only [Yba.ntmps18, List.size_toArray, List.length_cons, List.length_nil, Nat.reduceAdd, Nat.reduceSub, Array.replicate_succ, Array.replicate_zero, List.push_toArray, List.append_toArray, List.nil_append, List.cons_append]
  gi_wp2
  have hb1 : Below w.heap.size w (w.alloc (.cells #[.map (some bm)] 60)) := (Below.refl _ _).alloc (Nat.le_refl _) _
  have hm1 := cell_box w (.map (some bm)) 60
  have hs1 : (w.alloc (.cells #[.map (some bm)] 60)).heap.size = w.heap.size + 1 := by simp
  have ho1 : (w.alloc (.cells #[.map (some bm)] 60)).ownsMap Yba.prog 9 heldR bm 0 (.map []) := HOw.out.kept (World.grownBy_alloc w _ none) (by simp)
  generalize w.alloc (.cells #[.map (some bm)] 60) = W1 at hb1 hm1 hs1 ho1 ⊢
  have Hb1 := hide hb1
  have Hs1 := hide hs1
  have Ho1 := hide ho1
  have Hm1 := hide hm1
  clear hb1 hs1 ho1 hm1 HOw
  refine wpIn_range_all (gf := 21) (lb := #[.pointer (some ⟨Bl, 0, none⟩), .pointer (some ⟨Bi, 0, none⟩)]) rfl (enters_of Yba.func21 (by kernel_rfl) rfl)
    (encs := enc) (fun _ => rfl) (xs := evSeq d i) (X := fun b => b = bm) (fun b hb => by have := Hs1.out; omega) ?seq
    (fun m A => A.ownsMap Yba.prog 9 heldR bm m (clockD ((evSeq d i).take m)) ∧ Keeps (fun b => b = bm) W1 A) ?stab ⟨Ho1.out, Keeps.refl _ _⟩ ?a1 ?assign ?body ?done
  case seq =>
    intro W3 hs3 hb3
    have hs1 := Hs1.out
    refine iter21 ((HA.out.keep (Hb1.out.mono HA.out.size)).keep (hb3.mono (by have := HA.out.size; omega))) HOk.out hi (fun b hb => ?_) _ Bl Bi ?_ ?_ ?_ ?_
    · rcases hb with rfl | rfl
      · exact ⟨hbm, by omega⟩
      · have := HA.out.size; exact ⟨by omega, by omega⟩
    · exact (hb3.cell (p := ⟨Bl, 0, none⟩) (by simp; omega)).trans ((Hb1.out.cell (p := ⟨Bl, 0, none⟩) hl1).trans hBl)
    · exact (hb3.cell (p := ⟨Bi, 0, none⟩) (by simp; omega)).trans ((Hb1.out.cell (p := ⟨Bi, 0, none⟩) hl2).trans hBi)
    · rintro (e | e)
      · exact x1 e
      · omega
    · rintro (e | e)
      · exact x2 e
      · omega
  case stab =>
    rintro m A B ⟨ho, hk⟩ hb
    refine ⟨?_, hk.below_right hb⟩
    obtain ⟨es, clock, e, r⟩ := ho
    exact ⟨es, clock, (hb.block bm (by have := Hs1.out; omega)).trans e, r⟩
  case assign =>
    intro l' x A K' hK'
    dsimp only [enc]
    gi_wp2
    exact hK'
  case body =>
    rintro l' m x A ⟨ho, hk⟩ hsz hx
    have hkey : keyOf Yba.prog 9 (.string x.1) = some (.string x.1.data.toList) := WideMaps.keyOf_string_mk Yba.underlying9 (evSeq_key HOk.out hi (List.mem_of_getElem? hx))
    have hmlt : m < maxLen := by
      have h1 := (List.getElem?_eq_some_iff.1 hx).1
      rw [evSeq_length] at h1
      have h2 := HOk.out.nc i hi
      unfold maxLen
      omega
    have hmA : A.cell? ⟨w.heap.size, 0, none⟩ = some (.map (some bm)) := (hk.cell (p := ⟨w.heap.size, 0, none⟩) (block_lt_of_cell Hm1.out) (fun e => by simp at e; omega)).trans Hm1.out
    have Hx := hide hx
    clear hx
    gi_wp2_with (gi_at_mapUpdate; refine wpListIn_mapUpdate_own _ rfl _ _ _ 60 rfl 9 25 (Maps.string_keyed Yba.underlying9) Yba.underlying60 _ bm m _ rfl ho hmlt _ _ _ rfl rfl hkey _ [] rfl ?_; intro w1 hown1 hgrow1)
    refine ⟨Keeps.grown hgrow1 rfl, ?_, hk.trans (Keeps.grown hgrow1 rfl)⟩
    have e : (evSeq d i).take (m + 1) = (evSeq d i).take m ++ [x] := by rw [List.take_add_one, Hx.out]; rfl
    rw [e, clockD_snoc]
    exact hown1
  case done =>
    rintro A ⟨ho, hk⟩ hd
    gi_wp2
    refine ⟨by simp, .inl ⟨_, _, rfl, run_takeDeferred hd, ?_⟩⟩
    refine ⟨_, results_none rfl _ _ _, ⟨_, rfl⟩, ?_, ?_⟩
    · rw [List.take_length, evSeq_length] at ho
      exact ho.kept (grownBy_putObj' _ _ _) (by have := Hs1.out; simp; omega)
    · have hk1 : Keeps (fun b => b = bm) w A := (Keeps.of_below Hb1.out _).trans hk
      exact hk1.below_right (below_put _ _ _ (by have := Hs1.out; omega))

theorem heap_setCell_row {w : World} {g : Nat} {cs : Array Value} {t : TypeId} {fr : Nat × Nat} (h : w.heap[g]? = some (.cells cs t fr)) (j : Nat) (v : Value) : (w.setCell ⟨g, j, none⟩ v).heap[g]? = some (.cells (cs.setIfInBounds j v) t fr) := by
  simp [World.setCell, Array.getElem?_modify, h]

theorem run_makeMap_hint (n : Int) (w : World) : (Instr.makeMap 60 (some (.int .i64 n))).run Yba.prog w = .ok (.map (some w.heap.size)) (w.alloc (.map #[] 0)) := by
  simp [Instr.makeMap, run_underlying Yba.underlying60, asInt, asIntOf, run_newObj_alloc]

set_option maxRecDepth 100000 in
set_option maxHeartbeats 4000000 in
/-- 'l.asEvent(i)': the event as the package shows it, its clock a new map. -/
theorem f14_in {d : LogD} {w : World} (h : d.At w.heap.size w) (ok : d.Ok) {i : Nat} (hi : i < d.ne) :
    CallsIn Fence.wide 0 Yba.prog 14 #[.pointer (some ⟨d.bL, 0, none⟩), .int .i64 i] w fun e w' =>
      ∃ bm, e = .returned (.agg #[.string (d.L (d.host i).toNat), .map (some bm), .string (d.text i), .int .i64 (d.line i)]) ∧ w.heap.size ≤ bm ∧
        w'.ownsMap Yba.prog 9 heldR bm (d.nc i + d.nz i) (clockD (evSeq d i)) ∧ Below w.heap.size w w' := by
  have HA := hide h
  have HOk := hide ok
  have old : ∀ {p : Addr} {v : Value} (o : Obj), w.cell? p = some v → (w.alloc o).cell? p = some v := fun o hp => (((Below.refl _ _).alloc (Nat.le_refl _) o).cell (block_lt_of_cell hp)).trans hp
  have c3 : ∀ o, (w.alloc o).cell? ⟨d.bL, 3, none⟩ = _ := fun o => old o h.c3
  have e0 : ∀ o, (w.alloc o).cell? ⟨d.be, i * 5, none⟩ = _ := fun o => old o (h.ev0 i hi)
  have e1 : ∀ o, (w.alloc o).cell? ⟨d.be, i * 5 + 1, none⟩ = _ := fun o => old o (h.ev1 i hi)
  have e2 : ∀ o, (w.alloc o).cell? ⟨d.be, i * 5 + 2, none⟩ = _ := fun o => old o (h.ev2 i hi)
  have e3 : ∀ o, (w.alloc o).cell? ⟨d.be, i * 5 + 3, none⟩ = _ := fun o => old o (h.ev3 i hi)
  have e4 : ∀ o, (w.alloc o).cell? ⟨d.be, i * 5 + 4, none⟩ = _ := fun o => old o (h.ev4 i hi)
  have hne := ok.ne
  have hnz := ok.nc i hi
  clear h ok old
  refine callsIn_of_wp Yba.func14 rfl trivial ?_ rfl
  simp only [Yba.ntmps14, List.size_toArray, List.length_cons, List.length_nil, Nat.reduceAdd, Nat.reduceSub, Array.replicate_succ, Array.replicate_zero, List.push_toArray, List.append_toArray, List.nil_append, List.cons_append]
  gi_wp2
  clear c3 e0 e1 e2 e3 e4
  obtain ⟨o1, ho1⟩ : ∃ o1, o1 = Obj.cells #[.string { data := #[] }, .map none, .string { data := #[] }, .int .i64 0] 62 := ⟨_, rfl⟩
  obtain ⟨o2, ho2⟩ : ∃ o2, o2 = Obj.cells #[.int .i64 (d.host i), .int .u64 (d.num i), .int .i64 (d.line i), .string (d.text i), .slice (some ⟨d.bc i, 0, none⟩) (d.nc i) (d.cc i)] 44 := ⟨_, rfl⟩
  rw [← ho1, ← ho2]
  have hb2 : Below w.heap.size w ((w.alloc o1).alloc o2) := ((Below.refl _ _).alloc (Nat.le_refl _) _).alloc (by simp) _
  have hs2 : ((w.alloc o1).alloc o2).heap.size = w.heap.size + 2 := by simp
  have r1 : ((w.alloc o1).alloc o2).heap[w.heap.size]? = some o1 := (Below.heap_alloc _ _ _ (by simp)).trans (World.alloc_heap_new w _)
  have r2 : ((w.alloc o1).alloc o2).heap[w.heap.size + 1]? = some o2 := by have := World.alloc_heap_new (w.alloc o1) o2; rwa [World.size_alloc] at this
  generalize (w.alloc o1).alloc o2 = W2 at hb2 hs2 r1 r2 ⊢
  subst ho1 ho2
  have hA2 := HA.out.keep hb2
  have g0 : W2.cell? ⟨w.heap.size + 1, 0, none⟩ = some (.int .i64 (d.host i)) := by unfold World.cell?; rw [r2]; rfl
  have g2 : W2.cell? ⟨w.heap.size + 1, 2, none⟩ = some (.int .i64 (d.line i)) := by unfold World.cell?; rw [r2]; rfl
  have g3 : W2.cell? ⟨w.heap.size + 1, 3, none⟩ = some (.string (d.text i)) := by unfold World.cell?; rw [r2]; rfl
  have g4 : W2.cell? ⟨w.heap.size + 1, 4, none⟩ = some (.slice (some ⟨d.bc i, 0, none⟩) (d.nc i) (d.cc i)) := by unfold World.cell?; rw [r2]; rfl
  have c7 := hA2.c7
  have hlk : ∀ n, (Instr.lookup 40 (.map d.mz) (.int .i64 i) false).run Yba.prog (W2.drewN n) = .ok (.slice (d.az i) (d.nz i) (d.cz i)) (W2.drewN n) := fun n => hA2.look i hi _ (fun _ _ => rfl)
  have HA2 := hide hA2
  have Hb2 := hide hb2
  have Hs2 := hide hs2
  have Hr1 := hide r1
  have Hr2 := hide r2
  clear hA2 hb2 hs2 r1 r2
  refine wpIn_region_front 11 rfl (by kernel_rfl) (by kernel_rfl) ?_
  dsimp only [List.take, List.drop]
  repeat (gi_big_quiet_step (fail))
  refine wpQuietIn_nil ?_
  intro _ hw'
  obtain ⟨nq, hw''⟩ := hw'
  subst hw''
  have hmm := run_makeMap_hint
  gi_wp2
  clear hmm hlk c7 g0 g2 g3 g4
  refine ⟨trivial, rfl, (f19_in _ _ _).mono ?_⟩
  rintro e w' ⟨rfl, rfl⟩
  have hb3 : Below W2.heap.size W2 ((W2.drewN nq).alloc (.map #[] 0)) := (below_drewN (Below.refl _ _) nq).alloc (Nat.le_refl _) _
  have hs3 : ((W2.drewN nq).alloc (.map #[] 0)).heap.size = W2.heap.size + 1 := by simp
  have ho3 : ((W2.drewN nq).alloc (.map #[] 0)).ownsMap Yba.prog 9 heldR W2.heap.size 0 (.map []) := World.ownsMap_made (W2.drewN nq) Yba.prog 9 heldR
  gi_wp2
  generalize (W2.drewN nq).alloc (.map #[] 0) = W3 at hb3 hs3 ho3 ⊢
  have hb4 : Below W3.heap.size W3 ((W3.alloc (.cells #[.pointer (some ⟨d.bL, 0, none⟩)] 46)).alloc (.cells #[.int .i64 i] 3)) := ((Below.refl _ _).alloc (Nat.le_refl _) _).alloc (by simp) _
  have hs4 : ((W3.alloc (.cells #[.pointer (some ⟨d.bL, 0, none⟩)] 46)).alloc (.cells #[.int .i64 i] 3)).heap.size = W3.heap.size + 2 := by simp
  have d1 := (((Below.refl _ _).alloc (Nat.le_refl _) (.cells #[.int .i64 i] 3)).cell (block_lt_of_cell (cell_box W3 (.pointer (some ⟨d.bL, 0, none⟩)) 46))).trans (cell_box W3 (.pointer (some ⟨d.bL, 0, none⟩)) 46)
  have d2 := cell_box (W3.alloc (.cells #[.pointer (some ⟨d.bL, 0, none⟩)] 46)) (.int .i64 i) 3
  rw [World.size_alloc] at d2
  rw [hs3] at d1 d2
  have ho4 : ((W3.alloc (.cells #[.pointer (some ⟨d.bL, 0, none⟩)] 46)).alloc (.cells #[.int .i64 i] 3)).ownsMap Yba.prog 9 heldR W2.heap.size 0 (.map []) := (ho3.kept (World.grownBy_alloc _ _ none) (by simp)).kept (World.grownBy_alloc _ _ none) (by simp)
  generalize (W3.alloc (.cells #[.pointer (some ⟨d.bL, 0, none⟩)] 46)).alloc (.cells #[.int .i64 i] 3) = W4 at hb4 hs4 d1 d2 ho4 ⊢
  have hs2 := Hs2.out
  have hb24 : Below W2.heap.size W2 W4 := hb3.trans (hb4.mono (by omega))
  have hA4 : d.At w.heap.size W4 := HA2.out.keep (hb24.mono (by omega))
  refine ⟨trivial, rfl, (f18_in hA4 HOk.out hi W2.heap.size (W2.heap.size + 1) (W2.heap.size + 1 + 1) (by omega) ho4 d1 d2 (by omega) (by omega)).mono ?_⟩
  rintro e w5 ⟨⟨v, rfl⟩, ho5, hk5⟩
  have hX : ∀ k, k < W2.heap.size → w5.heap[k]? = W2.heap[k]? := fun k hk => (hk5.block k (by omega) (by omega)).trans (hb24.block k hk)
  have hA5 : d.At w.heap.size w5 := hA4.keep (hk5.below (by omega) (fun k e => by omega))
  have hB5 : Below w.heap.size w w5 := (Hb2.out.trans (hb24.mono (by omega))).trans (hk5.below (by omega) (fun k e => by omega))
  have r1 := (hX w.heap.size (by omega)).trans Hr1.out
  have r2 := (hX (w.heap.size + 1) (by omega)).trans Hr2.out
  have hbm : w.heap.size + 2 ≤ W2.heap.size := by omega
  clear hb3 hs3 ho3 hb4 hs4 d1 d2 ho4 hb24 hA4 hs2 hX hk5 HA2 Hb2 Hs2 Hr1 Hr2
  have g0 : w5.cell? ⟨w.heap.size + 1, 0, none⟩ = some (.int .i64 (d.host i)) := by unfold World.cell?; rw [r2]; rfl
  have g2 : w5.cell? ⟨w.heap.size + 1, 2, none⟩ = some (.int .i64 (d.line i)) := by unfold World.cell?; rw [r2]; rfl
  have g3 : w5.cell? ⟨w.heap.size + 1, 3, none⟩ = some (.string (d.text i)) := by unfold World.cell?; rw [r2]; rfl
  have c2 := hA5.c2
  obtain ⟨q1, q2⟩ := HOk.out.host i hi
  have cs := hA5.names (d.host i).toNat (by omega)
  have hk := HOk.out.k
  have HA5 := hide hA5
  have HB5 := hide hB5
  have Hr1 := hide r1
  have Ho5 := hide ho5
  clear hA5 hB5 r1 r2 ho5
  gi_wp2
  refine wpIn_region_front 15 rfl (by kernel_rfl) (by kernel_rfl) ?_
  dsimp only [List.take, List.drop]
  repeat (gi_big_quiet_step (fail))
  refine wpQuietIn_nil ?_
  intro _ hw'
  obtain ⟨nq2, hw''⟩ := hw'
  subst hw''
  have hr1 : (w5.drewN nq2).heap[w.heap.size]? = _ := Hr1.out
  have s0 : (w5.drewN nq2).cell? ⟨w.heap.size, 0, none⟩ = some (.string { data := #[] }) := by unfold World.cell?; rw [hr1]; rfl
  have s1 : (w5.drewN nq2).cell? ⟨w.heap.size, 1, none⟩ = some (.map none) := by unfold World.cell?; rw [hr1]; rfl
  have s2 : (w5.drewN nq2).cell? ⟨w.heap.size, 2, none⟩ = some (.string { data := #[] }) := by unfold World.cell?; rw [hr1]; rfl
  have s3 : (w5.drewN nq2).cell? ⟨w.heap.size, 3, none⟩ = some (.int .i64 0) := by unfold World.cell?; rw [hr1]; rfl
  have f0 : ∀ j, (w5.drewN nq2).frozen? ⟨w.heap.size, j, none⟩ = false := fun j => by unfold World.frozen?; rw [hr1]; simp
  have hB6 : Below w.heap.size w (w5.drewN nq2) := below_drewN HB5.out nq2
  have ho6 : (w5.drewN nq2).ownsMap Yba.prog 9 heldR W2.heap.size (d.nc i + d.nz i) (clockD (evSeq d i)) := Ho5.out
  have Hr6 := hide hr1
  clear hr1 HB5 Ho5 Hr1 HA5 g0 g2 g3 c2 cs
  generalize w5.drewN nq2 = w6 at s0 s1 s2 s3 f0 hB6 ho6 Hr6 ⊢
  have f00 := f0 0
  have f01 := f0 1
  have f02 := f0 2
  have f03 := f0 3
  have HB6 := hide hB6
  have Ho6 := hide ho6
  clear hB6 ho6
  gi_wp2
  have hrow := heap_setCell_row (heap_setCell_row (heap_setCell_row (heap_setCell_row Hr6.out 0 (.string (d.L (d.host i).toNat))) 1 (.map (some W2.heap.size))) 2 (.string (d.text i))) 3 (.int .i64 (d.line i))
  refine bodyPost_ret (results_cell_row rfl _ _ w.heap.size 62 #[.string (d.L (d.host i).toNat), .map (some W2.heap.size), .string (d.text i), .int .i64 (d.line i)] (0, 0) _ rfl hrow Yba.underlying62 rfl (by kernel_rfl)) rfl ?_
  refine ⟨W2.heap.size, rfl, by omega, (((Ho6.out.setCell ?_ _).setCell ?_ _).setCell ?_ _).setCell ?_ _, (((HB6.out.setCell (p := ⟨w.heap.size, 0, none⟩) (Nat.le_refl _) _).setCell (p := ⟨w.heap.size, 1, none⟩) (Nat.le_refl _) _).setCell (p := ⟨w.heap.size, 2, none⟩) (Nat.le_refl _) _).setCell (p := ⟨w.heap.size, 3, none⟩) (Nat.le_refl _) _⟩
  all_goals (simp; omega)

end Go.Proofs.Ybulkgdoo.events
