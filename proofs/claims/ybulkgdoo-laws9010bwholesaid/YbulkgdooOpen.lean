/-
  WHAT LawS9010BWhole IS GIVEN, OPENED: a slice of strings; a slice of events' descriptions, each with a slice of entries and a slice of bytes.
-/
import Derived.Test.YbulkgdooSame
import Derived.Deep.SlicePairs
import Derived.OpenShut
namespace Go.Proofs.Ybulkgdoo.events
open Go Go.RowKit Go.Shelf Go.Deep
open Go.Proofs.Ybulkgdoo.search Go.Proofs.Ybulkgdoo.front Go.Proofs.Ybulkgdoo.range Go.Proofs.Ybulkgdoo.iter
set_option linter.unusedVariables false
set_option linter.unusedSimpArgs false

theorem addr_shape {x : Addr} {w : World} {v : Value} (h : w.cell? x = some v) : x = ⟨x.block, x.off, none⟩ := by
  obtain ⟨b, o, s⟩ := x
  cases s with
  | none => rfl
  | some s =>
    exfalso
    unfold World.cell? at h
    split at h
    · simp at h
    · cases h
theorem addr_add (b o j : Nat) : (⟨b, o, none⟩ : Addr).add j = ⟨b, o + j, none⟩ := by
  unfold Addr.add
  split
  · rename_i h; subst h; rfl
  · rfl

section
variable {H : Type} {enc : TypeId × Value → H} {W : World}

theorem bytes42 : Yba.prog.bytesOf 42 = 16 := by kernel_rfl
theorem bytes5 : Yba.prog.bytesOf 5 = 1 := by kernel_rfl

theorem open_clock {v : Value} {y : DataW H × List MemPlace} {fuel : Nat} (hf : DataW.trod enc Yba.prog W 0 (fun _ => true) true fuel 35 [v] = some y) (hw : (y.1.weights Yba.prog 35).all (· ≤ reachBytes) = true) :
    ∃ (a : Option Addr) (n c b o : Nat) (ch : Nat → Nat) (cn : Nat → Int), v = .slice a n c ∧ n ≤ reachBytes ∧
      ∀ j, j < n → a = some ⟨b, o, none⟩ ∧ W.cell? ⟨b, o + j * 2, none⟩ = some (.int .u8 (ch j)) ∧ W.cell? ⟨b, o + j * 2 + 1, none⟩ = some (.int .u64 (cn j)) ∧ ch j ≤ 255 ∧ (Lit.int .u64 (cn j)).wf = true := by
  rcases open_slice_pairs Yba.underlying35 Yba.underlying42 (by kernel_rfl) rfl rfl (by kernel_rfl) (by kernel_rfl) hf with ⟨hcs, _⟩ | ⟨x, l, c, m, n, V0, V1, D0, D1, P0, P1, hcs, _, hl, hm, hmm, hy, hel⟩
  · simp at hcs
    subst hcs
    exact ⟨none, 0, 0, 0, 0, fun _ => 0, fun _ => 0, rfl, Nat.zero_le _, fun j hj => absurd hj (by omega)⟩
  · simp at hcs
    subst hcs
    have hlm : l ≤ m := by rw [hmm]; simp; omega
    have e0 : ∀ i, i < m → ∃ k : Nat, V0 i = .int .u8 k ∧ k ≤ 255 := fun i hi => by
      obtain ⟨_, _, h0, _⟩ := hel i hi
      obtain ⟨k, e1, _, wk⟩ := DataW.trod_int Yba.underlying5 h0
      simp at e1
      have := bounds_u8 wk
      exact ⟨k.toNat, by rw [e1]; congr 1; omega, by omega⟩
    have e1 : ∀ i, i < m → ∃ k : Int, V1 i = .int .u64 k ∧ (Lit.int .u64 k).wf = true := fun i hi => by
      obtain ⟨_, _, _, h1⟩ := hel i hi
      obtain ⟨k, e1, _, wk⟩ := DataW.trod_int Yba.underlying25 h1
      simp at e1
      exact ⟨k, e1, wk⟩
    obtain ⟨G, hG⟩ := choose_lt e0
    obtain ⟨N, hN⟩ := choose_lt e1
    have hsz : l ≤ reachBytes := by
      rw [hy] at hw
      simp only [DataW.weights, Yba.underlying35, List.all_cons, Bool.and_eq_true, decide_eq_true_eq, List.length_map, List.length_range, bytes42] at hw
      have := hw.1
      omega
    refine ⟨some x, l, c, x.block, x.off, G, N, rfl, hsz, fun j hj => ?_⟩
    have hx := addr_shape (x := x) (by simpa [Addr.add] using (hel 0 (by omega)).1)
    obtain ⟨c0, c1, _, _⟩ := hel j (by omega)
    rw [(hG j (by omega)).1, hx, addr_add] at c0
    rw [(hN j (by omega)).1, hx, addr_add] at c1
    exact ⟨by rw [← hx], c0, by rw [Nat.add_assoc]; exact c1, (hG j (by omega)).2, (hN j (by omega)).2⟩

theorem open_zeros {v : Value} {y : DataW H × List MemPlace} {fuel : Nat} (hf : DataW.trod enc Yba.prog W 0 (fun _ => true) true fuel 36 [v] = some y) (hw : (y.1.weights Yba.prog 36).all (· ≤ reachBytes) = true) :
    ∃ (a : Option Addr) (n c b o : Nat) (z : Nat → Nat), v = .slice a n c ∧ n ≤ reachBytes ∧
      ∀ j, j < n → a = some ⟨b, o, none⟩ ∧ W.cell? ⟨b, o + j, none⟩ = some (.int .u8 (z j)) ∧ z j ≤ 255 := by
  rcases open_slice1 Yba.underlying36 (by kernel_rfl) hf with ⟨hcs, _⟩ | ⟨x, l, c, m, n, V, D, Pl, hcs, _, hl, hm, hmm, hy, hel⟩
  · simp at hcs
    subst hcs
    exact ⟨none, 0, 0, 0, 0, fun _ => 0, rfl, Nat.zero_le _, fun j hj => absurd hj (by omega)⟩
  · simp at hcs
    subst hcs
    have hlm : l ≤ m := by rw [hmm]; simp; omega
    have e0 : ∀ i, i < m → ∃ k : Nat, V i = .int .u8 k ∧ k ≤ 255 := fun i hi => by
      obtain ⟨_, h0⟩ := hel i hi
      obtain ⟨k, e1, _, wk⟩ := DataW.trod_int Yba.underlying5 h0
      simp at e1
      have := bounds_u8 wk
      exact ⟨k.toNat, by rw [e1]; congr 1; omega, by omega⟩
    obtain ⟨G, hG⟩ := choose_lt e0
    have hsz : l ≤ reachBytes := by
      rw [hy] at hw
      simp only [DataW.weights, Yba.underlying36, List.all_cons, Bool.and_eq_true, decide_eq_true_eq, List.length_map, List.length_range, bytes5] at hw
      have := hw.1
      omega
    refine ⟨some x, l, c, x.block, x.off, G, rfl, hsz, fun j hj => ?_⟩
    have hx := addr_shape (x := x) (by simpa [Addr.add] using (hel 0 (by omega)).1)
    obtain ⟨c0, _⟩ := hel j (by omega)
    rw [(hG j (by omega)).1, hx, addr_add] at c0
    exact ⟨by rw [← hx], c0, (hG j (by omega)).2⟩

/-- What a walk is told of the names that came in. -/
def IsNames (W : World) (a : Option Addr) (n : Nat) (S : Nat → ByteArray) : Prop :=
  n ≤ maxLen ∧ (0 < n → ∃ b o, a = some ⟨b, o, none⟩ ∧ ∀ i, i < n → W.cell? ⟨b, o + i, none⟩ = some (.string (S i)) ∧ (S i).size ≤ maxLen)

theorem open_names {v : Value} {y : DataW H × List MemPlace} {fuel : Nat} (hf : DataW.trod enc Yba.prog W 0 (fun _ => true) true fuel 33 [v] = some y) :
    ∃ (a : Option Addr) (n c : Nat) (S : Nat → ByteArray), v = .slice a n c ∧ IsNames W a n S := by
  rcases open_slice1 Yba.underlying33 (by kernel_rfl) hf with ⟨hcs, _⟩ | ⟨x, l, c, m, n, V, D, Pl, hcs, _, hl, hm, hmm, _, hel⟩
  · simp at hcs
    subst hcs
    exact ⟨none, 0, 0, fun _ => ⟨#[]⟩, rfl, Nat.zero_le _, fun h => absurd h (by omega)⟩
  · simp at hcs
    subst hcs
    have hlm : l ≤ m := by rw [hmm]; simp; omega
    have e0 : ∀ i, i < m → ∃ s : ByteArray, V i = .string s ∧ s.size ≤ maxLen := fun i hi => by
      obtain ⟨_, h0⟩ := hel i hi
      obtain ⟨s, e1, _, ws⟩ := DataW.trod_string Yba.underlying9 h0
      simp at e1
      exact ⟨s, e1, ws⟩
    obtain ⟨G, hG⟩ := choose_lt e0
    refine ⟨some x, l, c, G, rfl, by omega, fun h0 => ?_⟩
    have hx := addr_shape (x := x) (by simpa [Addr.add] using (hel 0 (by omega)).1)
    refine ⟨x.block, x.off, by rw [← hx], fun j hj => ?_⟩
    obtain ⟨c0, _⟩ := hel j (by omega)
    rw [(hG j (by omega)).1, hx, addr_add] at c0
    exact ⟨c0, (hG j (by omega)).2⟩

/-- One description. -/
structure OneEv where
  h : Nat
  (num line : Int)
  text : ByteArray
  aC : Option Addr
  (nc cC bC oC : Nat)
  ch : Nat → Nat
  cn : Nat → Int
  aZ : Option Addr
  (nz cZ bZ oZ : Nat)
  z : Nat → Nat

def oneEv0 : OneEv := ⟨0, 0, 0, ⟨#[]⟩, none, 0, 0, 0, 0, fun _ => 0, fun _ => 0, none, 0, 0, 0, 0, fun _ => 0⟩

structure OneEv.Is (e : OneEv) (W : World) (cs : List Value) : Prop where
  cs : cs = [.int .u8 e.h, .int .u64 e.num, .int .i64 e.line, .string e.text, .slice e.aC e.nc e.cC, .slice e.aZ e.nz e.cZ]
  h : e.h ≤ 255
  nc : e.nc ≤ reachBytes
  nz : e.nz ≤ reachBytes
  c : ∀ j, j < e.nc → e.aC = some ⟨e.bC, e.oC, none⟩ ∧ W.cell? ⟨e.bC, e.oC + j * 2, none⟩ = some (.int .u8 (e.ch j)) ∧ W.cell? ⟨e.bC, e.oC + j * 2 + 1, none⟩ = some (.int .u64 (e.cn j)) ∧ e.ch j ≤ 255 ∧ (Lit.int .u64 (e.cn j)).wf = true
  z : ∀ j, j < e.nz → e.aZ = some ⟨e.bZ, e.oZ, none⟩ ∧ W.cell? ⟨e.bZ, e.oZ + j, none⟩ = some (.int .u8 (e.z j)) ∧ e.z j ≤ 255

theorem cells5 : Yba.prog.cellsOf 5 = 1 := by kernel_rfl
theorem cells25 : Yba.prog.cellsOf 25 = 1 := by kernel_rfl
theorem cells3 : Yba.prog.cellsOf 3 = 1 := by kernel_rfl
theorem cells9 : Yba.prog.cellsOf 9 = 1 := by kernel_rfl
theorem cells35 : Yba.prog.cellsOf 35 = 1 := by kernel_rfl
theorem cells36 : Yba.prog.cellsOf 36 = 1 := by kernel_rfl
theorem cells38 : Yba.prog.cellsOf 38 = 6 := by kernel_rfl

theorem open_ev {cs : List Value} {y : DataW H × List MemPlace} {fuel : Nat} (hf : DataW.trod enc Yba.prog W 0 (fun _ => true) true fuel 38 cs = some y) (hw : (y.1.weights Yba.prog 38).all (· ≤ reachBytes) = true) : ∃ e : OneEv, e.Is W cs := by
  obtain ⟨xs, k, _, hy, hlen, hxl, hx⟩ := DataW.trod_struct Yba.underlying38 hf
  rw [cells38] at hlen
  match xs, hxl, cs, hlen with
  | [y0, y1, y2, y3, y4, y5], _, [v0, v1, v2, v3, v4, v5], _ =>
    have g0 := hx 0 _ rfl
    have g1 := hx 1 _ rfl
    have g2 := hx 2 _ rfl
    have g3 := hx 3 _ rfl
    have g4 := hx 4 _ rfl
    have g5 := hx 5 _ rfl
    simp [cells5, cells25, cells3, cells9, cells35, cells36] at g0 g1 g2 g3 g4 g5
    obtain ⟨h, e0, _, w0⟩ := DataW.trod_int Yba.underlying5 g0
    obtain ⟨num, e1, _, w1⟩ := DataW.trod_int Yba.underlying25 g1
    obtain ⟨line, e2, _, w2⟩ := DataW.trod_int Yba.underlying3 g2
    obtain ⟨text, e3, _, w3⟩ := DataW.trod_string Yba.underlying9 g3
    rw [hy] at hw
    simp only [DataW.weights, Yba.underlying38, List.map_cons, List.map_nil, DataW.weightsEach, List.all_append, Bool.and_eq_true] at hw
    obtain ⟨_, _, _, _, hw4, hw5, _⟩ := hw
    obtain ⟨aC, nc, cC, bC, oC, ch, cn, e4, wc, hc⟩ := open_clock g4 hw4
    obtain ⟨aZ, nz, cZ, bZ, oZ, z, e5, wz, hz⟩ := open_zeros g5 hw5
    simp at e0 e1 e2 e3
    have hb := bounds_u8 w0
    refine ⟨⟨h.toNat, num, line, text, aC, nc, cC, bC, oC, ch, cn, aZ, nz, cZ, bZ, oZ, z⟩, ⟨?_, ?_, wc, wz, hc, hz⟩⟩
    · subst e0 e1 e2 e3 e4 e5
      have : ((h.toNat : Nat) : Int) = h := by omega
      simp [this]
    · show h.toNat ≤ 255
      omega

/-- The descriptions' numbers are in the bounds of their kinds. -/
structure ArgD.Fit (g : ArgD) : Prop where
  nv : g.nv ≤ maxLen
  nc : ∀ i, i < g.nv → g.nc i ≤ reachBytes
  nz : ∀ i, i < g.nv → g.nz i ≤ reachBytes
  h : ∀ i, i < g.nv → g.h i ≤ 255
  ch : ∀ i, i < g.nv → ∀ j, j < g.nc i → g.ch i j ≤ 255
  z : ∀ i, i < g.nv → ∀ j, j < g.nz i → g.z i j ≤ 255
  cn : ∀ i, i < g.nv → ∀ j, j < g.nc i → (Lit.int .u64 (g.cn i j)).wf = true

theorem weightsAll_mem {e : TypeId} {d : DataW H} : ∀ {l : List (DataW H)}, d ∈ l → (DataW.weightsAll Yba.prog e l).all (· ≤ reachBytes) = true → (d.weights Yba.prog e).all (· ≤ reachBytes) = true
  | x :: r, hd, h => by
    simp only [DataW.weightsAll, List.all_append, Bool.and_eq_true] at h
    rcases List.mem_cons.1 hd with rfl | hd
    · exact h.1
    · exact weightsAll_mem hd h.2

theorem open_evs {v : Value} {y : DataW H × List MemPlace} {fuel : Nat} (hf : DataW.trod enc Yba.prog W 0 (fun _ => true) true fuel 34 [v] = some y) (hw : (y.1.weights Yba.prog 34).all (· ≤ reachBytes) = true) :
    ∃ (g : ArgD) (a : Option Addr), v = .slice a g.nv g.cv ∧ g.At W.heap.size W ∧ g.Fit ∧ (0 < g.nv → a = some ⟨g.bv, g.ov, none⟩) := by
  rcases open_slice Yba.underlying34 hf with ⟨hcs, _⟩ | ⟨x, l, c, m, n, D, Pl, hcs, _, hl, hm, hmm, hy, hel⟩
  · simp at hcs
    subst hcs
    exact ⟨⟨0, 0, 0, 0, fun _ => 0, fun _ => 0, fun _ => 0, fun _ => ⟨#[]⟩, fun _ => 0, fun _ => 0, fun _ => 0, fun _ => 0, fun _ _ => 0, fun _ _ => 0, fun _ => 0, fun _ => 0, fun _ => 0, fun _ => 0, fun _ _ => 0, fun _ => none, fun _ => none⟩, none, rfl,
      { e0 := fun i hi => absurd hi (Nat.not_lt_zero _), e1 := fun i hi => absurd hi (Nat.not_lt_zero _), e2 := fun i hi => absurd hi (Nat.not_lt_zero _), e3 := fun i hi => absurd hi (Nat.not_lt_zero _), e4 := fun i hi => absurd hi (Nat.not_lt_zero _), e5 := fun i hi => absurd hi (Nat.not_lt_zero _),
        c := fun i hi => absurd hi (Nat.not_lt_zero _), z := fun i hi => absurd hi (Nat.not_lt_zero _), size := Nat.le_refl _, bv := .inl rfl, bC := fun i hi => absurd hi (Nat.not_lt_zero _), bZ := fun i hi => absurd hi (Nat.not_lt_zero _) },
      { nv := Nat.zero_le _, nc := fun i hi => absurd hi (Nat.not_lt_zero _), nz := fun i hi => absurd hi (Nat.not_lt_zero _), h := fun i hi => absurd hi (Nat.not_lt_zero _), ch := fun i hi => absurd hi (Nat.not_lt_zero _), z := fun i hi => absurd hi (Nat.not_lt_zero _), cn := fun i hi => absurd hi (Nat.not_lt_zero _) },
      fun h => absurd h (Nat.not_lt_zero _)⟩
  · simp at hcs
    subst hcs
    have hlm : l ≤ m := by rw [hmm]; simp; omega
    have hwi : ∀ i, i < m → ((D i).weights Yba.prog 38).all (· ≤ reachBytes) = true := fun i hi => by
      rw [hy] at hw
      simp only [DataW.weights, Yba.underlying34, List.all_cons, List.all_append, Bool.and_eq_true] at hw
      by_cases hil : i < l
      · exact weightsAll_mem (List.mem_map.2 ⟨i, List.mem_range.2 hil, rfl⟩) hw.2.1
      · exact weightsAll_mem (List.mem_map.2 ⟨i - l, List.mem_range.2 (by omega), by rw [show l + (i - l) = i by omega]⟩) hw.2.2
    have each : ∀ i, i < m → ∃ e : OneEv, e.Is W [.int .u8 e.h, .int .u64 e.num, .int .i64 e.line, .string e.text, .slice e.aC e.nc e.cC, .slice e.aZ e.nz e.cZ] ∧ ∀ j, j < 6 → W.cell? (x.add (i * 6 + j)) = [.int .u8 e.h, .int .u64 e.num, .int .i64 e.line, .string e.text, .slice e.aC e.nc e.cC, .slice e.aZ e.nz e.cZ][j]? := by
      intro i hi
      obtain ⟨cs', h1, h2⟩ := hel i hi
      obtain ⟨e, he⟩ := open_ev h2 (hwi i hi)
      rw [cells38] at h1
      obtain ⟨_, hlen, hcell⟩ := World.cells?_some h1
      have hcs := he.cs
      subst hcs
      refine ⟨e, he, fun j hj => ?_⟩
      have := hcell j hj
      rwa [add_add] at this
    obtain ⟨E, hE⟩ := @choose_lt OneEv ⟨oneEv0⟩ m _ each
    have hlt : ∀ {b o : Nat} {v : Value}, W.cell? ⟨b, o, none⟩ = some v → b < W.heap.size := fun h => block_lt_of_cell h
    have hx : 0 < l → x = ⟨x.block, x.off, none⟩ := fun h0 => addr_shape (x := x) (v := .int .u8 (E 0).h) (by have := (hE 0 (by omega)).2 0 (by omega); simpa [Addr.add] using this)
    have cellAt : ∀ i, i < l → ∀ j, j < 6 → W.cell? ⟨x.block, x.off + (i * 6 + j), none⟩ = [.int .u8 (E i).h, .int .u64 (E i).num, .int .i64 (E i).line, .string (E i).text, .slice (E i).aC (E i).nc (E i).cC, .slice (E i).aZ (E i).nz (E i).cZ][j]? := fun i hi j hj => by
      have := (hE i (by omega)).2 j hj
      rwa [hx (by omega), addr_add] at this
    refine ⟨⟨x.block, x.off, l, c, fun i => (E i).h, fun i => (E i).num, fun i => (E i).line, fun i => (E i).text, fun i => (E i).bC, fun i => (E i).oC, fun i => (E i).nc, fun i => (E i).cC, fun i => (E i).ch, fun i => (E i).cn, fun i => (E i).bZ, fun i => (E i).oZ, fun i => (E i).nz, fun i => (E i).cZ, fun i => (E i).z, fun i => (E i).aC, fun i => (E i).aZ⟩, some x, rfl, ?_, ?_, fun h0 => by rw [← hx h0]⟩
    · exact {
        e0 := fun i hi => cellAt i hi 0 (by omega)
        e1 := fun i hi => by have := cellAt i hi 1 (by omega); rw [← Nat.add_assoc] at this; exact this
        e2 := fun i hi => by have := cellAt i hi 2 (by omega); rw [← Nat.add_assoc] at this; exact this
        e3 := fun i hi => by have := cellAt i hi 3 (by omega); rw [← Nat.add_assoc] at this; exact this
        e4 := fun i hi => by have := cellAt i hi 4 (by omega); rw [← Nat.add_assoc] at this; exact this
        e5 := fun i hi => by have := cellAt i hi 5 (by omega); rw [← Nat.add_assoc] at this; exact this
        c := fun i hi j hj => by have := (hE i (by simp at hi; omega)).1.c j hj; exact ⟨this.1, this.2.1, this.2.2.1⟩
        z := fun i hi j hj => by have := (hE i (by simp at hi; omega)).1.z j hj; exact ⟨this.1, this.2.1⟩
        size := Nat.le_refl _
        bv := by
          by_cases h0 : l = 0
          · exact .inl h0
          · exact .inr (hlt (cellAt 0 (by omega) 0 (by omega)))
        bC := fun i hi => by
          by_cases h0 : (E i).nc = 0
          · exact .inl h0
          · exact .inr (hlt ((hE i (by simp at hi; omega)).1.c 0 (by omega)).2.1)
        bZ := fun i hi => by
          by_cases h0 : (E i).nz = 0
          · exact .inl h0
          · exact .inr (hlt ((hE i (by simp at hi; omega)).1.z 0 (by omega)).2.1) }
    · exact {
        nv := by show l ≤ maxLen; omega
        nc := fun i hi => (hE i (by simp at hi; omega)).1.nc
        nz := fun i hi => (hE i (by simp at hi; omega)).1.nz
        h := fun i hi => (hE i (by simp at hi; omega)).1.h
        ch := fun i hi j hj => ((hE i (by simp at hi; omega)).1.c j hj).2.2.2.1
        z := fun i hi j hj => ((hE i (by simp at hi; omega)).1.z j hj).2.2
        cn := fun i hi j hj => ((hE i (by simp at hi; omega)).1.c j hj).2.2.2.2 }
end
end Go.Proofs.Ybulkgdoo.events
