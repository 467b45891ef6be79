/-
  WHAT LawS9010BWhole MAKES OF ITS ARGUMENTS: the names, the events one after the other, the map of the zeros; at the end they are a log.
-/
import Derived.Test.YbulkgdooOpen
import Derived.Test.YbulkgdooClock
import Derived.Test.YbulkgdooShown
import Derived.Maps.Views
namespace Go.Proofs.Ybulkgdoo.events
open Go Go.RowKit Go.Shelf
open Go.Proofs.Ybulkgdoo.search Go.Proofs.Ybulkgdoo.front Go.Proofs.Ybulkgdoo.range Go.Proofs.Ybulkgdoo.iter
set_option linter.unusedVariables false
set_option linter.unusedSimpArgs false

theorem info9 : (Yba.prog.info? 9).map (fun i => (i.zero, i.size, i.bytes)) = some (some (.string { data := #[] }), 1, 16) := by kernel_rfl
theorem info28 : (Yba.prog.info? 28).map (fun i => (i.zero, i.size, i.bytes)) = some (some (.int .i64 0), 1, 8) := by kernel_rfl
theorem info44 : (Yba.prog.info? 44).map (fun i => (i.zero, i.size, i.bytes)) = some (some (.agg #[.int .i64 0, .int .u64 0, .int .i64 0, .string { data := #[] }, .slice none 0 0]), 5, 64) := by kernel_rfl
theorem zero45 (w : World) : (zeroValue 45).run Yba.prog w = .ok (.slice none 0 0) w := by kernel_rfl
theorem size9 : (Yba.prog.info? 9).map (·.size) = some 1 := by kernel_rfl

/-- How many entries the first m descriptions have in all. -/
def total (g : ArgD) : Nat → Nat
  | 0 => 0
  | m + 1 => total g m + (g.nc m + g.nz m)
theorem total_le {g : ArgD} {i m : Nat} (h : i < m) : g.nc i + g.nz i ≤ total g m := by
  induction m with
  | zero => omega
  | succ m ih =>
    by_cases e : i = m
    · subst e; simp [total]
    · have := ih (by omega); simp only [total]; omega
theorem total_bound {g : ArgD} (hf : g.Fit) : ∀ m, m ≤ g.nv → total g m ≤ m * (reachBytes + reachBytes)
  | 0, _ => by simp [total]
  | m + 1, h => by
    have h1 := total_bound hf m (by omega)
    have h2 := hf.nc m (by omega)
    have h3 := hf.nz m (by omega)
    have h4 : (m + 1) * (reachBytes + reachBytes) = m * (reachBytes + reachBytes) + (reachBytes + reachBytes) := Nat.succ_mul _ _
    simp only [total]
    omega
theorem fit_ok {g : ArgD} (hf : g.Fit) (h1 : g.nv ≤ 4096) (h2 : total g g.nv ≤ 4096) : g.Ok where
  nv := h1
  n i hi := Nat.le_trans (total_le hi) h2
  h := hf.h
  ch := hf.ch
  z := hf.z
  cn := hf.cn

theorem row_whole {w : World} {B e size g n : Nat} {xs : List Value} (h : w.ownsRow B e size (.slice (some ⟨g, 0, none⟩) n n) n xs) :
    w.heap[g]? = some (.cells xs.toArray e (0, 0)) := by
  have hl : xs.length = n * size := h.1
  rcases h.2 with ⟨h', _⟩ | ⟨g', cap', cur, h', _, hg, _, _, hcs, htake⟩
  · simp at h'
  · simp only [Value.slice.injEq, Option.some.injEq, Addr.mk.injEq, and_true, true_and] at h'
    obtain ⟨rfl, rfl⟩ := h'
    rw [List.take_of_length_le (by simp; omega)] at htake
    rw [hg, ← htake]

/-- 'copy(list, nm)': the world behind it under a name. -/
theorem copy_strs_ex (w : World) (g n sc : Nat) (an : Option Addr) (S : Nat → ByteArray) (cur : List Value) (hg : w.heap[g]? = some (.cells cur.toArray 9 (0, 0))) (hl : cur.length = n)
    (hsrc : 0 < n → ∃ b o, an = some ⟨b, o, none⟩ ∧ ∀ i, i < n → w.cell? ⟨b, o + i, none⟩ = some (.string (S i))) :
    ∃ w' : World, (∀ ty, (Builtin.copy_ #[33, 33] ty #[.slice (some ⟨g, 0, none⟩) n n, .slice an n sc]).run Yba.prog w = .ok (goInt n) w') ∧
      Hid (∀ i, i < n → w'.cell? ⟨g, i, none⟩ = some (.string (S i))) ∧ (∀ B w0, Below B w0 w → B ≤ g → Below B w0 w') ∧ w'.heap.size = w.heap.size := by
  by_cases h0 : n = 0
  · subst h0
    exact ⟨w, fun ty => run_copy_none w 33 33 ty 9 _ _ _ _ _ _ Yba.underlying33 size9 (by simp), fun i hi => absurd hi (Nat.not_lt_zero _), fun _ _ hb _ => hb, rfl⟩
  · obtain ⟨b, o, rfl, hc⟩ := hsrc (by omega)
    let cs : List Value := (List.range n).map fun i => .string (S i)
    have hcl : cs.length = n := by simp [cs]
    refine ⟨w.setRow g (cur.toArray.toList.take 0 ++ cs ++ cur.toArray.toList.drop (0 + cs.length)).toArray, fun ty => ?_, ?_, ?_, ?_⟩
    · have := run_copy_row (P := Yba.prog) w 33 33 ty 9 g 0 n n ⟨b, o, none⟩ n sc cur.toArray 9 cs Yba.underlying33 size9 hg (by rw [hcl]; exact (Nat.min_self n).symm) ?_ (by simp; omega) ?_
      · rw [this, hcl]
      · intro j v hj
        have hjn : j < n := by have := (List.getElem?_eq_some_iff.1 hj).1; omega
        simp [cs, hjn] at hj
        subst hj
        rw [addr_add]
        exact hc j hjn
      · intro v hv
        simp only [cs, List.mem_map] at hv
        obtain ⟨_, _, rfl⟩ := hv
        rfl
    · intro i hi
      have := setRow_heap w g _ (cur.toArray.toList.take 0 ++ cs ++ cur.toArray.toList.drop (0 + cs.length)).toArray 9 _ hg
      rw [cell_of_row _ g i _ 9 (0, 0) this]
      simp only [List.getElem?_toArray, List.take_zero, List.nil_append]
      rw [List.getElem?_append_left (by omega)]
      simp [cs, hi]
    · intro B w0 hb hB
      exact below_setRow hb hB _
    · simp [World.setRow]

/-- What the map of the zeros gives where it holds nothing. -/
def z0 : DataW Value := .held (.slice none 0 0)

/-- THE MAP OF THE ZEROS behind the first m events. -/
def ZmAt (mz : Option Nat) (az : Nat → Option Addr) (nz cz : Nat → Nat) (m : Nat) (W : World) : Prop :=
  (mz = none ∧ ∀ i, i < m → az i = none ∧ nz i = 0 ∧ cz i = 0) ∨
  ∃ b D, mz = some b ∧ W.ownsMap Yba.prog 3 heldR b m D ∧ (∀ i, i < m → D.atKey (.int .i64 i) z0 = .held (.slice (az i) (nz i) (cz i))) ∧ ∀ i : Nat, m ≤ i → D.atKey (.int .i64 i) z0 = z0

def upd {α : Type} (f : Nat → α) (m : Nat) (v : α) : Nat → α := fun i => if i = m then v else f i
theorem upd_same {α : Type} (f : Nat → α) (m : Nat) (v : α) : upd f m v m = v := by simp [upd]
theorem upd_other {α : Type} (f : Nat → α) (v : α) {m i : Nat} (h : i < m) : upd f m v i = f i := by simp [upd]; omega

theorem ownsMap_of_heap {W W' : World} {b n : Nat} {D : DataW Value} {k : TypeId} (h : W.ownsMap Yba.prog k heldR b n D) (e : W'.heap[b]? = W.heap[b]?) : W'.ownsMap Yba.prog k heldR b n D := by
  obtain ⟨es, clock, hb, r⟩ := h
  exact ⟨es, clock, e.trans hb, r⟩
theorem ownsMap_no_cell {W : World} {b n : Nat} {D : DataW Value} {k : TypeId} (h : W.ownsMap Yba.prog k heldR b n D) {j : Nat} {v : Value} (hc : W.cell? ⟨b, j, none⟩ = some v) : False := by
  obtain ⟨es, clock, hb, r⟩ := h
  simp [World.cell?, hb] at hc

/-- An event with no zeros leaves the map alone. -/
theorem ZmAt.skip {mz : Option Nat} {az : Nat → Option Addr} {nz cz : Nat → Nat} {m : Nat} {W W' : World} (h : ZmAt mz az nz cz m W) (hz : nz m = 0) (e : ∀ b, mz = some b → W'.heap[b]? = W.heap[b]?) :
    ZmAt mz (upd az m none) nz (upd cz m 0) (m + 1) W' := by
  rcases h with ⟨rfl, h⟩ | ⟨b, D, rfl, ho, h1, h2⟩
  · refine .inl ⟨rfl, fun i hi => ?_⟩
    by_cases e : i = m
    · subst e; exact ⟨upd_same _ _ _, hz, upd_same _ _ _⟩
    · rw [upd_other _ _ (by omega), upd_other _ _ (by omega)]; exact h i (by omega)
  · refine .inr ⟨b, D, rfl, (ownsMap_of_heap ho (e b rfl)).mono (Nat.le_succ m), fun i hi => ?_, fun i hi => h2 i (by omega)⟩
    by_cases e : i = m
    · subst e; rw [upd_same, upd_same, hz]; exact h2 i (Nat.le_refl _)
    · rw [upd_other _ _ (by omega), upd_other _ _ (by omega)]; exact h1 i (by omega)

/-- An event with zeros is put into it. -/
theorem ZmAt.put {az : Nat → Option Addr} {nz cz : Nat → Nat} {m b : Nat} {W' : World} {D : DataW Value} {v : Option Addr} {c : Nat} (ho : W'.ownsMap Yba.prog 3 heldR b (m + 1) (D.put (.int .i64 m) (.held (.slice v (nz m) c)))) (hD : Maps.IsMap D)
    (h1 : ∀ i, i < m → D.atKey (.int .i64 i) z0 = .held (.slice (az i) (nz i) (cz i))) (h2 : ∀ i : Nat, m ≤ i → D.atKey (.int .i64 i) z0 = z0) : ZmAt (some b) (upd az m v) nz (upd cz m c) (m + 1) W' := by
  refine .inr ⟨b, _, rfl, ho, fun i hi => ?_, fun i hi => ?_⟩
  · by_cases e : i = m
    · subst e
      rw [Maps.atKey_put_same hD (by simp [WideAt.IsKeyLit]), upd_same, upd_same]
    · rw [Maps.atKey_put_other (by simp; omega), upd_other _ _ (by omega), upd_other _ _ (by omega)]
      exact h1 i (by omega)
  · rw [Maps.atKey_put_other (by simp; omega)]
    exact h2 i (by omega)

/-- The first m events are made. -/
structure Mid (g : ArgD) (k n₀ be m : Nat) (mz : Option Nat) (bc : Nat → Nat) (az : Nat → Option Addr) (cz : Nat → Nat) (xs : List Value) (W : World) : Prop where
  row : W.ownsRow n₀ 44 5 (.slice (some ⟨be, 0, none⟩) g.nv g.nv) g.nv xs
  wr : ∀ j, j < m → xs[j * 5]? = some (.int .i64 ((g.h j : Int) % (k : Int))) ∧ xs[j * 5 + 1]? = some (.int .u64 (g.num j)) ∧ xs[j * 5 + 2]? = some (.int .i64 (g.line j)) ∧ xs[j * 5 + 3]? = some (.string (g.text j)) ∧ xs[j * 5 + 4]? = some (.slice (some ⟨bc j, 0, none⟩) (g.nc j) (g.nc j))
  ents : ∀ i, i < m → be < bc i ∧ bc i < W.heap.size ∧ Ents W (bc i) 0 (g.nc i) (fun j => (g.ch i j : Int) % (k : Int)) (g.cn i)
  zc : ∀ i, i < m → g.nz i = 0 ∨ ∃ bz, az i = some ⟨bz, 0, none⟩ ∧ be < bz ∧ bz < W.heap.size ∧ ∀ j, j < g.nz i → W.cell? ⟨bz, j, none⟩ = some (.int .i64 ((g.z i j : Int) % (k : Int)))
  zm : ZmAt mz az g.nz cz m W
  mz : ∀ b, mz = some b → be < b ∧ b < W.heap.size

theorem Mid.start {g : ArgD} {k n₀ be : Nat} {xs : List Value} {W : World} (row : W.ownsRow n₀ 44 5 (.slice (some ⟨be, 0, none⟩) g.nv g.nv) g.nv xs) : Mid g k n₀ be 0 none (fun _ => 0) (fun _ => none) (fun _ => 0) xs W where
  row := row
  wr j hj := absurd hj (Nat.not_lt_zero _)
  ents j hj := absurd hj (Nat.not_lt_zero _)
  zc j hj := absurd hj (Nat.not_lt_zero _)
  zm := .inl ⟨rfl, fun i hi => absurd hi (Nat.not_lt_zero _)⟩
  mz b h := by cases h

/-- One event more. -/
theorem Mid.next {g : ArgD} {k n₀ be m : Nat} {mz : Option Nat} {bc : Nat → Nat} {az : Nat → Option Addr} {cz : Nat → Nat} {xs : List Value} {W : World} (h : Mid g k n₀ be m mz bc az cz xs W) (hm : m < g.nv)
    {W' : World} {mz' : Option Nat} {bcm czm : Nat} {azm : Option Addr} (hk : Keeps (fun b => b = be ∨ mz = some b) W W')
    (row : W'.ownsRow n₀ 44 5 (.slice (some ⟨be, 0, none⟩) g.nv g.nv) g.nv (((((xs.set (m * 5) (.int .i64 ((g.h m : Int) % (k : Int)))).set (m * 5 + 1) (.int .u64 (g.num m))).set (m * 5 + 2) (.int .i64 (g.line m))).set (m * 5 + 3) (.string (g.text m))).set (m * 5 + 4) (.slice (some ⟨bcm, 0, none⟩) (g.nc m) (g.nc m))))
    (hb1 : be < bcm) (hb2 : bcm < W'.heap.size) (he : Ents W' bcm 0 (g.nc m) (fun j => (g.ch m j : Int) % (k : Int)) (g.cn m))
    (hz : g.nz m = 0 ∨ ∃ bz, azm = some ⟨bz, 0, none⟩ ∧ be < bz ∧ bz < W'.heap.size ∧ ∀ j, j < g.nz m → W'.cell? ⟨bz, j, none⟩ = some (.int .i64 ((g.z m j : Int) % (k : Int))))
    (hzm : ZmAt mz' (upd az m azm) g.nz (upd cz m czm) (m + 1) W') (hmz : ∀ b, mz' = some b → be < b ∧ b < W'.heap.size) :
    Mid g k n₀ be (m + 1) mz' (upd bc m bcm) (upd az m azm) (upd cz m czm) (((((xs.set (m * 5) (.int .i64 ((g.h m : Int) % (k : Int)))).set (m * 5 + 1) (.int .u64 (g.num m))).set (m * 5 + 2) (.int .i64 (g.line m))).set (m * 5 + 3) (.string (g.text m))).set (m * 5 + 4) (.slice (some ⟨bcm, 0, none⟩) (g.nc m) (g.nc m))) W' := by
  have hxl : xs.length = g.nv * 5 := h.row.1
  have keepc : ∀ {b j : Nat} {v : Value}, be < b → W.cell? ⟨b, j, none⟩ = some v → W'.cell? ⟨b, j, none⟩ = some v := fun {b j v} hb hc => by
    refine (hk.cell (p := ⟨b, j, none⟩) (block_lt_of_cell hc) ?_).trans hc
    rintro (e | e)
    · simp at e; omega
    · rcases h.zm with ⟨e', _⟩ | ⟨b', D, e', ho, _⟩
      · rw [e'] at e; cases e
      · rw [e'] at e
        simp at e
        subst e
        exact ownsMap_no_cell ho hc
  exact {
    row := row
    wr := fun j hj => by
      by_cases e : j = m
      · subst e
        rw [upd_same]
        refine ⟨?_, ?_, ?_, ?_, ?_⟩
        · rw [List.getElem?_set_ne (by omega), List.getElem?_set_ne (by omega), List.getElem?_set_ne (by omega), List.getElem?_set_ne (by omega), List.getElem?_set_self (by omega)]
        · rw [List.getElem?_set_ne (by omega), List.getElem?_set_ne (by omega), List.getElem?_set_ne (by omega), List.getElem?_set_self (by simp; omega)]
        · rw [List.getElem?_set_ne (by omega), List.getElem?_set_ne (by omega), List.getElem?_set_self (by simp; omega)]
        · rw [List.getElem?_set_ne (by omega), List.getElem?_set_self (by simp; omega)]
        · rw [List.getElem?_set_self (by simp; omega)]
      · obtain ⟨h1, h2, h3, h4, h5⟩ := h.wr j (by omega)
        rw [upd_other _ _ (by omega)]
        refine ⟨?_, ?_, ?_, ?_, ?_⟩ <;> rw [List.getElem?_set_ne (by omega), List.getElem?_set_ne (by omega), List.getElem?_set_ne (by omega), List.getElem?_set_ne (by omega), List.getElem?_set_ne (by omega)] <;> assumption
    ents := fun i hi => by
      by_cases e : i = m
      · subst e
        rw [upd_same]
        exact ⟨hb1, hb2, he⟩
      · obtain ⟨h1, h2, h3⟩ := h.ents i (by omega)
        rw [upd_other _ _ (by omega)]
        exact ⟨h1, Nat.lt_of_lt_of_le h2 hk.size, fun j hj => ⟨keepc h1 (h3 j hj).1, keepc h1 (h3 j hj).2⟩⟩
    zc := fun i hi => by
      by_cases e : i = m
      · subst e
        rw [upd_same]
        exact hz
      · rw [upd_other _ _ (by omega)]
        exact rightBy (h.zc i (by omega)) fun ⟨bz, h1, h2, h3, h4⟩ => ⟨bz, h1, h2, Nat.lt_of_lt_of_le h3 hk.size, fun j hj => keepc h2 (h4 j hj)⟩
    zm := hzm
    mz := hmz }

/-- The log that they are. -/
def mkLog (g : ArgD) (bL bn k ck be : Nat) (L : Nat → ByteArray) (mz : Option Nat) (bc : Nat → Nat) (az : Nat → Option Addr) (cz : Nat → Nat) : LogD where
  bL := bL
  bn := bn
  k := k
  ck := ck
  be := be
  ne := g.nv
  ce := g.nv
  mz := mz
  L := L
  host i := (g.h i : Int) % (k : Int)
  num := g.num
  line := g.line
  text := g.text
  bc := bc
  nc := g.nc
  cc := g.nc
  H i j := (g.ch i j : Int) % (k : Int)
  N := g.cn
  az := az
  nz := g.nz
  cz := cz
  Z i j := (g.z i j : Int) % (k : Int)

theorem mkLog_tells (g : ArgD) (bL bn k ck be : Nat) (L : Nat → ByteArray) (mz : Option Nat) (bc : Nat → Nat) (az : Nat → Option Addr) (cz : Nat → Nat) : Tells g (mkLog g bL bn k ck be L mz bc az cz) where
  ne := rfl
  host _ _ := rfl
  num _ _ := rfl
  line _ _ := rfl
  text _ _ := rfl
  nc _ _ := rfl
  nz _ _ := rfl
  H _ _ _ _ := rfl
  N _ _ _ _ := rfl
  Z _ _ _ _ := rfl

theorem mod_lt (x k : Nat) (hk : 0 < k) : 0 ≤ (x : Int) % (k : Int) ∧ (x : Int) % (k : Int) < k :=
  ⟨Int.emod_nonneg _ (by omega), Int.emod_lt_of_pos _ (by omega)⟩

theorem mkLog_ok {g : ArgD} (hg : g.Ok) {bL bn k ck be : Nat} {L : Nat → ByteArray} {mz : Option Nat} {bc : Nat → Nat} {az : Nat → Option Addr} {cz : Nat → Nat} (hk0 : 0 < k) (hk : k ≤ 4096) (hL : ∀ i, i < k → (L i).size ≤ maxLen) : (mkLog g bL bn k ck be L mz bc az cz).Ok where
  k := hk
  ne := hg.nv
  nc := hg.n
  host i _ := mod_lt _ _ hk0
  H i _ j _ := mod_lt _ _ hk0
  Z i _ j _ := mod_lt _ _ hk0
  L := hL
  N := hg.cn

/-- THE LOG STANDS, once it is boxed. -/
theorem Mid.log {g : ArgD} (hg : g.Ok) {bn k ck n₀ be : Nat} {L : Nat → ByteArray} {mz : Option Nat} {bc : Nat → Nat} {az : Nat → Option Addr} {cz : Nat → Nat} {xs : List Value} {W W' : World} (h : Mid g k n₀ be g.nv mz bc az cz xs W)
    (hnames : ∀ i, i < k → W.cell? ⟨bn, i, none⟩ = some (.string (L i))) (hbn : bn < W.heap.size) (hb : Below W.heap.size W W')
    (hs : W.heap.size < W'.heap.size)
    (c2 : W'.cell? ⟨W.heap.size, 2, none⟩ = some (.slice (some ⟨bn, 0, none⟩) k ck)) (c3 : W'.cell? ⟨W.heap.size, 3, none⟩ = some (.slice (some ⟨be, 0, none⟩) g.nv g.nv)) (c7 : W'.cell? ⟨W.heap.size, 7, none⟩ = some (.map mz)) :
    (mkLog g W.heap.size bn k ck be L mz bc az cz).At W'.heap.size W' := by
  have hbe : be < W.heap.size := (h.row.lt be rfl).2
  have hxl : xs.length = g.nv * 5 := h.row.1
  have hnv := hg.nv
  have cell : ∀ i, i < g.nv → ∀ j, j < 5 → ∀ {v}, xs[i * 5 + j]? = some v → W'.cell? ⟨be, i * 5 + j, none⟩ = some v := fun i hi j hj {v} hv =>
    (hb.cell (p := ⟨be, _, none⟩) hbe).trans ((h.row.cellAt _ (by omega)).trans hv)
  exact {
    size := Nat.le_refl _
    c2 := c2
    names := fun i hi => (hb.cell (p := ⟨bn, i, none⟩) hbn).trans (hnames i hi)
    c3 := c3
    ev0 := fun i hi => cell i hi 0 (by omega) (h.wr i hi).1
    ev1 := fun i hi => cell i hi 1 (by omega) (h.wr i hi).2.1
    ev2 := fun i hi => cell i hi 2 (by omega) (h.wr i hi).2.2.1
    ev3 := fun i hi => cell i hi 3 (by omega) (h.wr i hi).2.2.2.1
    ev4 := fun i hi => cell i hi 4 (by omega) (h.wr i hi).2.2.2.2
    c7 := c7
    ents := fun i hi j hj => by
      obtain ⟨h1, h2, h3⟩ := h.ents i hi
      exact ⟨(hb.cell (p := ⟨bc i, _, none⟩) h2).trans (h3 j hj).1, (hb.cell (p := ⟨bc i, _, none⟩) h2).trans (h3 j hj).2⟩
    look := fun i hi A hA => by
      have hi' : i < g.nv := hi
      have hkey : keyOf Yba.prog 3 (.int .i64 (i : Int)) = some (.int .i64 i) := Maps.keyOf_int_mk Yba.underlying3 (by simp [Lit.wf, IntKind.min, IntKind.max, IntKind.signed, IntKind.bits]; omega)
      rcases h.zm with ⟨e, hz⟩ | ⟨b, D, e, ho, h1, h2⟩
      · obtain ⟨e1, e2, e3⟩ := hz i hi
        show (Instr.lookup 40 (.map mz) (.int .i64 i) false).run Yba.prog A = .ok (.slice (az i) (g.nz i) (cz i)) A
        rw [e, e1, e2, e3]
        exact Maps.look_nil false (Maps.int_keyed Yba.underlying3) Yba.underlying40 (zero45 A) hkey
      · show (Instr.lookup 40 (.map mz) (.int .i64 i) false).run Yba.prog A = .ok (.slice (az i) (g.nz i) (cz i)) A
        have hoA : A.ownsMap Yba.prog 3 heldR b g.nv D := ownsMap_of_heap ho ((hA b e).trans (hb.block b ho.lt))
        obtain ⟨v, ps, hrun, hv⟩ := hoA.lookup (Maps.int_keyed Yba.underlying3) Yba.underlying40 (zero45 A) (zd := z0) (zp := []) rfl hkey
        rw [h1 i hi] at hv
        simp only [heldR, Option.some.injEq, Prod.mk.injEq, DataW.held.injEq] at hv
        rw [e, hrun, hv.1]
    zc := fun i hi => rightBy (h.zc i hi) fun ⟨bz, e1, e2, e3, e4⟩ => ⟨bz, e1, by omega, fun j hj => (hb.cell (p := ⟨bz, j, none⟩) e3).trans (e4 j hj)⟩
    bL := hs
    bn := Nat.lt_trans hbn hs
    be := Nat.lt_trans hbe hs
    bc := fun i hi => by have := (h.ents i hi).2.1; exact Nat.lt_trans this hs
    bz := fun b e => Nat.lt_trans (h.mz b e).2 hs }

theorem LogD.At.mono {d : LogD} {n₀ n₁ : Nat} {W : World} (h : d.At n₀ W) (hn : n₀ ≤ n₁) (hs : n₁ ≤ W.heap.size) : d.At n₁ W :=
  ⟨hs, h.c2, h.names, h.c3, h.ev0, h.ev1, h.ev2, h.ev3, h.ev4, h.c7, h.ents, h.look, fun i hi => rightBy (h.zc i hi) fun ⟨bz, e, hl, hc⟩ => ⟨bz, e, by omega, hc⟩,
    by have := h.bL; omega, by have := h.bn; omega, by have := h.be; omega, fun i hi => by have := h.bc i hi; omega, fun b e => by have := h.bz b e; omega⟩
theorem ArgD.At.mono {g : ArgD} {n₀ n₁ : Nat} {W : World} (h : g.At n₀ W) (hn : n₀ ≤ n₁) (hs : n₁ ≤ W.heap.size) : g.At n₁ W :=
  ⟨h.e0, h.e1, h.e2, h.e3, h.e4, h.e5, h.c, h.z, hs, rightBy h.bv fun x => by omega, fun i hi => rightBy (h.bC i hi) fun x => by omega, fun i hi => rightBy (h.bZ i hi) fun x => by omega⟩

end Go.Proofs.Ybulkgdoo.events
