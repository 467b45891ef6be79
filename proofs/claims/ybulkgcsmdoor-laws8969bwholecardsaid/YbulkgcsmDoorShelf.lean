/-
  THE SHELF's CONTRACTS AT THIS PROGRAM, in plain words: written by the kit's tools lay-shelf.mjs and lay-plain.mjs, trimmed to what LawS8969BWhole's road uses; WriteByte and WriteString, which the tool did not lay here, are laid by hand out of the same library theorems.
-/
import Derived.Shelf.Strings.Builder1
import Derived.Shelf.Strconv.Itoa1
import Derived.Shelf.LaysM
import Derived.Shelf.Strconv.Itoa2
import Derived.Shelf.Strings.Repeat
import Derived.Test.YbulkgcsmDoorProg
namespace Go.Proofs
open Go.Shelf
def Ybad.lays169_ren : Go.Shelf.Ren := ⟨fun | 169 => 11 | n => n, fun | 70 => 31 | 9 => 9 | 0 => 0 | 72 => 34 | 37 => 32 | 127 => 46 | 3 => 3 | 5 => 5 | n => n, fun | n => n⟩
theorem Ybad.lays169 : Go.Proofs.Lays.n169 Ybad.prog Ybad.lays169_ren := {
  mixed := by kernel_rfl
  f169 := Ybad.func11.trans (congrArg some (by kernel_rfl))
  t0 := Ybad.underlying0
  a0 := Ybad.isAgg0
  z0 := Ybad.sizeOf0
  v0 := Ybad.zeroValue0
  t3 := Ybad.underlying3
  a3 := Ybad.isAgg3
  z3 := Ybad.sizeOf3
  v3 := Ybad.zeroValue3
  t9 := Ybad.underlying9
  a9 := Ybad.isAgg9
  z9 := Ybad.sizeOf9
  v9 := Ybad.zeroValue9
  t37 := Ybad.underlying32
  a37 := Ybad.isAgg32
  z37 := Ybad.sizeOf32
  v37 := Ybad.zeroValue32
  t70 := Ybad.underlying31
  a70 := Ybad.isAgg31
  z70 := Ybad.sizeOf31
  v70 := Ybad.zeroValue31
  t72 := Ybad.underlying34
  a72 := Ybad.isAgg34
  z72 := Ybad.sizeOf34
  v72 := Ybad.zeroValue34
  t127 := Ybad.underlying46
  a127 := Ybad.isAgg46
  z127 := Ybad.sizeOf46
  v127 := Ybad.zeroValue46 }
theorem Ybad.Builder_Extra_169 : Builder.Extra Ybad.prog Ybad.lays169_ren := {
  sizeBuilder := by kernel_rfl
  liesBuilder := by kernel_rfl
  t5 := Ybad.underlying5
  a5 := Ybad.isAgg5
  z5 := Ybad.sizeOf5
  v5 := Ybad.zeroValue5
  infoByte := by kernel_rfl
  cellsByte := by kernel_rfl
  sizeByte := by kernel_rfl
  neB5 := by decide }
open Go.RowKit in
theorem Ybad.Builder_String_any (B b : Nat) (l : List UInt8) (w : World) (h : Lib.IsBuilder 34 5 B b (Lib.byteCells l) w) (hBw : B ≤ w.heap.size) :
    Calls Ybad.prog 11 #[.pointer (some ⟨b, 0, none⟩)] w fun e w' => e = .returned (.string ⟨l.toArray⟩) ∧ Below B w w' := Any.Builder_String_any Ybad.lays169 Ybad.Builder_Extra_169 B b l w h hBw
def Ybad.lays283_ren : Go.Shelf.Ren := ⟨fun | 283 => 18 | n => n, fun | 3 => 3 | 9 => 9 | 4 => 4 | n => n, fun | n => n⟩
theorem Ybad.lays283 : Go.Proofs.Lays.n283 Ybad.prog Ybad.lays283_ren := {
  mixed := by kernel_rfl
  f283 := Ybad.func18.trans (congrArg some (by kernel_rfl))
  t3 := Ybad.underlying3
  a3 := Ybad.isAgg3
  z3 := Ybad.sizeOf3
  v3 := Ybad.zeroValue3
  t4 := Ybad.underlying4
  a4 := Ybad.isAgg4
  z4 := Ybad.sizeOf4
  v4 := Ybad.zeroValue4
  t9 := Ybad.underlying9
  a9 := Ybad.isAgg9
  z9 := Ybad.sizeOf9
  v9 := Ybad.zeroValue9 }
open Go.Lib in
theorem Ybad.internal_strconv_small (i : Nat) (h : i < 100) (w : World) :
    Calls Ybad.prog 18 #[.int .i64 i] w fun e w' => e = .returned (.string ⟨(Lib.decDigits i).toArray⟩) ∧ w' = w := Any.internal_strconv_small Ybad.lays283 i h w
def Ybad.laysM284_ren : Go.Shelf.Ren := ⟨fun | 284 => 19 | 129 => 28 | 317 => 27 | 318 => 29 | n => n, fun | 53 => 28 | 3 => 3 | 212 => 62 | 0 => 0 | 4 => 4 | 46 => 40 | 5 => 5 | 9 => 9 | n => n, fun | 17 => 0 | n => n⟩
theorem Ybad.laysM284 : Go.Proofs.LaysM.n284 Ybad.prog Ybad.laysM284_ren := {
  mixed := by kernel_rfl
  f129 := Ybad.func28.trans (congrArg some (by kernel_rfl))
  f284 := Ybad.func19.trans (congrArg some (by kernel_rfl))
  f317 := Ybad.func27.trans (congrArg some (by kernel_rfl))
  f318 := Ybad.func29.trans (congrArg some (by kernel_rfl))
  t0 := Ybad.underlying0
  a0 := Ybad.isAgg0
  z0 := Ybad.sizeOf0
  v0 := Ybad.zeroValue0
  t3 := Ybad.underlying3
  a3 := Ybad.isAgg3
  z3 := Ybad.sizeOf3
  v3 := Ybad.zeroValue3
  t4 := Ybad.underlying4
  a4 := Ybad.isAgg4
  z4 := Ybad.sizeOf4
  v4 := Ybad.zeroValue4
  t5 := Ybad.underlying5
  a5 := Ybad.isAgg5
  z5 := Ybad.sizeOf5
  v5 := Ybad.zeroValue5
  t9 := Ybad.underlying9
  a9 := Ybad.isAgg9
  z9 := Ybad.sizeOf9
  v9 := Ybad.zeroValue9
  t46 := Ybad.underlying40
  a46 := Ybad.isAgg40
  z46 := Ybad.sizeOf40
  v46 := Ybad.zeroValue40
  t53 := Ybad.underlying28
  a53 := Ybad.isAgg28
  z53 := Ybad.sizeOf28
  v53 := Ybad.zeroValue28
  t212 := Ybad.underlying62
  a212 := Ybad.isAgg62
  z212 := Ybad.sizeOf62
  v212 := Ybad.zeroValue62
  g17 := by kernel_rfl
  i0 := by kernel_rfl
  i3 := by kernel_rfl
  i4 := by kernel_rfl
  i5 := by kernel_rfl
  i9 := by kernel_rfl
  i46 := by kernel_rfl
  i53 := by kernel_rfl
  i212 := by kernel_rfl
  m17 := by kernel_rfl }
def Ybad.lays285_ren : Go.Shelf.Ren := ⟨fun | 285 => 20 | n => n, fun | 37 => 32 | 53 => 28 | 3 => 3 | 4 => 4 | 51 => 53 | 9 => 9 | 5 => 5 | 0 => 0 | n => n, fun | n => n⟩
theorem Ybad.lays285 : Go.Proofs.Lays.n285 Ybad.prog Ybad.lays285_ren := {
  mixed := by kernel_rfl
  f285 := Ybad.func20.trans (congrArg some (by kernel_rfl))
  t0 := Ybad.underlying0
  a0 := Ybad.isAgg0
  z0 := Ybad.sizeOf0
  v0 := Ybad.zeroValue0
  t3 := Ybad.underlying3
  a3 := Ybad.isAgg3
  z3 := Ybad.sizeOf3
  v3 := Ybad.zeroValue3
  t4 := Ybad.underlying4
  a4 := Ybad.isAgg4
  z4 := Ybad.sizeOf4
  v4 := Ybad.zeroValue4
  t5 := Ybad.underlying5
  a5 := Ybad.isAgg5
  z5 := Ybad.sizeOf5
  v5 := Ybad.zeroValue5
  t9 := Ybad.underlying9
  a9 := Ybad.isAgg9
  z9 := Ybad.sizeOf9
  v9 := Ybad.zeroValue9
  t37 := Ybad.underlying32
  a37 := Ybad.isAgg32
  z37 := Ybad.sizeOf32
  v37 := Ybad.zeroValue32
  t51 := Ybad.underlying53
  a51 := Ybad.isAgg53
  z51 := Ybad.sizeOf53
  v51 := Ybad.zeroValue53
  t53 := Ybad.underlying28
  a53 := Ybad.isAgg28
  z53 := Ybad.sizeOf28
  v53 := Ybad.zeroValue28 }
open Go.RowKit Go.Sort Go.Lib in
theorem Ybad.internal_strconv_formatBase10 (blk off cap : Nat) (u : Nat) (d : Array UInt8) (w : World) (hH : Holds (fun (b : UInt8) => Value.int .u8 (b.toNat : Int)) w blk off d) (hu : u < 10 ^ d.size) (hu64 : u < 18446744073709551616) (hsz : d.size < 4611686018427387904) :
    Calls Ybad.prog 20 #[.slice (some ⟨blk, off, none⟩) d.size cap, .int .u64 u] w fun e w' =>
      e = .returned (.tuple #[]) ∧ ∃ (n v' : Nat) (dk : Array UInt8), w' = (putRow (fun (b : UInt8) => Value.int .u8 (b.toNat : Int)) w blk off dk).drewN n ∧ FmtInv d.size u 0 v' dk := Any.internal_strconv_formatBase10 Ybad.lays285 blk off cap u d w hH hu hu64 hsz
def Ybad.lays105_ren : Go.Shelf.Ren := ⟨fun | 105 => 8 | 212 => 13 | 99 => 14 | 165 => 15 | 166 => 10 | 170 => 16 | 169 => 11 | 263 => 22 | 264 => 23 | 206 => 24 | 240 => 17 | 241 => 25 | 276 => 26 | 277 => 32 | n => n, fun | 9 => 9 | 3 => 3 | 4 => 4 | 20 => 20 | 0 => 0 | 46 => 40 | 109 => 41 | 5 => 5 | 72 => 34 | 76 => 38 | 51 => 53 | 146 => 54 | 53 => 28 | 148 => 56 | 70 => 31 | 37 => 32 | 75 => 36 | 127 => 46 | 164 => 58 | 80 => 24 | n => n, fun | n => n⟩
theorem Ybad.lays105 : Go.Proofs.Lays.n105 Ybad.prog Ybad.lays105_ren := {
  mixed := by kernel_rfl
  f99 := Ybad.func14.trans (congrArg some (by kernel_rfl))
  f105 := Ybad.func8.trans (congrArg some (by kernel_rfl))
  f165 := Ybad.func15.trans (congrArg some (by kernel_rfl))
  f166 := Ybad.func10.trans (congrArg some (by kernel_rfl))
  f169 := Ybad.func11.trans (congrArg some (by kernel_rfl))
  f170 := Ybad.func16.trans (congrArg some (by kernel_rfl))
  f206 := Ybad.func24.trans (congrArg some (by kernel_rfl))
  f212 := Ybad.func13.trans (congrArg some (by kernel_rfl))
  f240 := Ybad.func17.trans (congrArg some (by kernel_rfl))
  f241 := Ybad.func25.trans (congrArg some (by kernel_rfl))
  f263 := Ybad.func22.trans (congrArg some (by kernel_rfl))
  f264 := Ybad.func23.trans (congrArg some (by kernel_rfl))
  f276 := Ybad.func26.trans (congrArg some (by kernel_rfl))
  f277 := Ybad.func32.trans (congrArg some (by kernel_rfl))
  t0 := Ybad.underlying0
  a0 := Ybad.isAgg0
  z0 := Ybad.sizeOf0
  v0 := Ybad.zeroValue0
  t3 := Ybad.underlying3
  a3 := Ybad.isAgg3
  z3 := Ybad.sizeOf3
  v3 := Ybad.zeroValue3
  t4 := Ybad.underlying4
  a4 := Ybad.isAgg4
  z4 := Ybad.sizeOf4
  v4 := Ybad.zeroValue4
  t5 := Ybad.underlying5
  a5 := Ybad.isAgg5
  z5 := Ybad.sizeOf5
  v5 := Ybad.zeroValue5
  t9 := Ybad.underlying9
  a9 := Ybad.isAgg9
  z9 := Ybad.sizeOf9
  v9 := Ybad.zeroValue9
  t20 := Ybad.underlying20
  a20 := Ybad.isAgg20
  z20 := Ybad.sizeOf20
  v20 := Ybad.zeroValue20
  t37 := Ybad.underlying32
  a37 := Ybad.isAgg32
  z37 := Ybad.sizeOf32
  v37 := Ybad.zeroValue32
  t46 := Ybad.underlying40
  a46 := Ybad.isAgg40
  z46 := Ybad.sizeOf40
  v46 := Ybad.zeroValue40
  t51 := Ybad.underlying53
  a51 := Ybad.isAgg53
  z51 := Ybad.sizeOf53
  v51 := Ybad.zeroValue53
  t53 := Ybad.underlying28
  a53 := Ybad.isAgg28
  z53 := Ybad.sizeOf28
  v53 := Ybad.zeroValue28
  t70 := Ybad.underlying31
  a70 := Ybad.isAgg31
  z70 := Ybad.sizeOf31
  v70 := Ybad.zeroValue31
  t72 := Ybad.underlying34
  a72 := Ybad.isAgg34
  z72 := Ybad.sizeOf34
  v72 := Ybad.zeroValue34
  t75 := Ybad.underlying36
  a75 := Ybad.isAgg36
  z75 := Ybad.sizeOf36
  v75 := Ybad.zeroValue36
  t76 := Ybad.underlying38
  a76 := Ybad.isAgg38
  z76 := Ybad.sizeOf38
  v76 := Ybad.zeroValue38
  t109 := Ybad.underlying41
  a109 := Ybad.isAgg41
  z109 := Ybad.sizeOf41
  v109 := Ybad.zeroValue41
  t127 := Ybad.underlying46
  a127 := Ybad.isAgg46
  z127 := Ybad.sizeOf46
  v127 := Ybad.zeroValue46
  t146 := Ybad.underlying54
  a146 := Ybad.isAgg54
  z146 := Ybad.sizeOf54
  v146 := Ybad.zeroValue54
  t148 := Ybad.underlying56
  a148 := Ybad.isAgg56
  z148 := Ybad.sizeOf56
  v148 := Ybad.zeroValue56
  t164 := Ybad.underlying58
  a164 := Ybad.isAgg58
  z164 := Ybad.sizeOf58
  v164 := Ybad.zeroValue58 }
theorem Ybad.Builder_Extra_105 : Builder.Extra Ybad.prog Ybad.lays105_ren := {
  sizeBuilder := by kernel_rfl
  liesBuilder := by kernel_rfl
  t5 := Ybad.underlying5
  a5 := Ybad.isAgg5
  z5 := Ybad.sizeOf5
  v5 := Ybad.zeroValue5
  infoByte := by kernel_rfl
  cellsByte := by kernel_rfl
  sizeByte := by kernel_rfl
  neB5 := by decide }
open Go.RowKit Go.Lib in
theorem Ybad.strings_Repeat (s : ByteArray) (c : Nat) (w : World) (hc : c ≤ 9223372036854775807) (hlen : s.size * c ≤ 140737488355328) :
    Calls Ybad.prog 8 #[.string s, .int .i64 c] w fun e w' => e = .returned (.string ⟨(Lib.repeatL s.data.toList c).toArray⟩) ∧ Below w.heap.size w w' := Any.strings_Repeat Ybad.lays105 Ybad.Builder_Extra_105 s c w hc hlen
def Ybad.lays167_ren : Go.Shelf.Ren := ⟨fun | 167 => 9 | 240 => 17 | 276 => 26 | n => n, fun | 0 => 0 | 4 => 4 | 5 => 5 | 9 => 9 | 20 => 20 | 37 => 32 | 70 => 31 | 72 => 34 | 75 => 36 | 80 => 24 | 164 => 58 | n => n, fun | n => n⟩
theorem Ybad.lays167 : Go.Proofs.Lays.n167 Ybad.prog Ybad.lays167_ren := {
  mixed := by kernel_rfl
  f167 := Ybad.func9.trans (congrArg some (by kernel_rfl))
  f240 := Ybad.func17.trans (congrArg some (by kernel_rfl))
  f276 := Ybad.func26.trans (congrArg some (by kernel_rfl))
  t0 := Ybad.underlying0
  a0 := Ybad.isAgg0
  z0 := Ybad.sizeOf0
  v0 := Ybad.zeroValue0
  t4 := Ybad.underlying4
  a4 := Ybad.isAgg4
  z4 := Ybad.sizeOf4
  v4 := Ybad.zeroValue4
  t5 := Ybad.underlying5
  a5 := Ybad.isAgg5
  z5 := Ybad.sizeOf5
  v5 := Ybad.zeroValue5
  t9 := Ybad.underlying9
  a9 := Ybad.isAgg9
  z9 := Ybad.sizeOf9
  v9 := Ybad.zeroValue9
  t20 := Ybad.underlying20
  a20 := Ybad.isAgg20
  z20 := Ybad.sizeOf20
  v20 := Ybad.zeroValue20
  t37 := Ybad.underlying32
  a37 := Ybad.isAgg32
  z37 := Ybad.sizeOf32
  v37 := Ybad.zeroValue32
  t70 := Ybad.underlying31
  a70 := Ybad.isAgg31
  z70 := Ybad.sizeOf31
  v70 := Ybad.zeroValue31
  t72 := Ybad.underlying34
  a72 := Ybad.isAgg34
  z72 := Ybad.sizeOf34
  v72 := Ybad.zeroValue34
  t75 := Ybad.underlying36
  a75 := Ybad.isAgg36
  z75 := Ybad.sizeOf36
  v75 := Ybad.zeroValue36
  t164 := Ybad.underlying58
  a164 := Ybad.isAgg58
  z164 := Ybad.sizeOf58
  v164 := Ybad.zeroValue58 }
theorem Ybad.Builder_Extra_167 : Builder.Extra Ybad.prog Ybad.lays167_ren := {
  sizeBuilder := by kernel_rfl
  liesBuilder := by kernel_rfl
  t5 := Ybad.underlying5
  a5 := Ybad.isAgg5
  z5 := Ybad.sizeOf5
  v5 := Ybad.zeroValue5
  infoByte := by kernel_rfl
  cellsByte := by kernel_rfl
  sizeByte := by kernel_rfl
  neB5 := by decide }
open Go.RowKit in
theorem Ybad.Builder_WriteByte (B b : Nat) (bs : List Value) (c : Int) (w : World) (h : Lib.IsBuilder 34 5 B b bs w) (hlen : bs.length + 1 ≤ 140737488355328) (hBw : B ≤ w.heap.size) :
    Calls Ybad.prog 9 #[.pointer (some ⟨b, 0, none⟩), .int .u8 c] w fun e w' => e = .returned .nilIface ∧ (Lib.BuilderAt 34 5 B b (.pointer (some ⟨b, 0, none⟩)) (bs ++ [.int .u8 c]) w' ∧ Below B w w') :=
  Any.Builder_WriteByte Ybad.lays167 Ybad.Builder_Extra_167 B b bs c w h hlen hBw
open Go.RowKit in
theorem Ybad.Builder_WriteString (B b : Nat) (bs : List Value) (s : ByteArray) (w : World) (h : Lib.IsBuilder 34 5 B b bs w) (hlen : bs.length + s.size ≤ 140737488355328) (hBw : B ≤ w.heap.size) :
    Calls Ybad.prog 10 #[.pointer (some ⟨b, 0, none⟩), .string s] w fun e w' => e = .returned (.tuple #[.int .i64 s.size, .nilIface]) ∧ (Lib.BuilderAt 34 5 B b (.pointer (some ⟨b, 0, none⟩)) (bs ++ Lib.strCells s) w' ∧ Below B w w') :=
  Any.Builder_WriteString { Ybad.lays105 with } Ybad.Builder_Extra_105 B b bs s w h hlen hBw
end Go.Proofs
