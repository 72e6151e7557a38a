/-
  The library contracts of the shelf that this seat's roads meet, laid at this dump in plain words (written by the kit's lay-shelf and lay-plain tools and, for the two writers of the Builder, by the same form with the renaming written out by hand: the tool does not find two type numbers that the closure no longer names). One application each; no walk.
-/
import Derived.Shelf.Strings.Builder1
import Derived.Shelf.Strings.Builder2
import Derived.Shelf.Strings.BuilderF
import Derived.Shelf.Strings.BuilderK
import Derived.Shelf.Strings.Builder2Cap
import Derived.Shelf.Strconv.Itoa0
import Derived.Shelf.Strconv.Itoa1
import Derived.Shelf.LaysM
import Derived.Shelf.Strconv.Itoa2
import Derived.Shelf.Strconv.Itoa3
import Derived.Shelf.Strconv.Itoa4
import Derived.Shelf.Strings.Prefix
import Derived.Shelf.Bits.Mul64
import Derived.Shelf.Strings.Repeat
import Derived.Test.Qxb6603079aDoorRows
namespace Go.Proofs
open Go.Shelf
/-- The name of the table of the powers of ten, as the given rows list it. -/
def Qxb6603079aDoor.powName : String := match Qxb6603079aDoor.Rows.fnFormattedPositionalRow.laid with
  | [_, _, (n, _)] => n
  | _ => ""
def Tryd.lays169_ren : Go.Shelf.Ren := ⟨fun | 169 => 21 | n => n, fun | 70 => 32 | 9 => 9 | 0 => 0 | 72 => 34 | 37 => 27 | 127 => 51 | 3 => 3 | 5 => 5 | n => n, fun | n => n⟩
theorem Tryd.lays169 : Go.Proofs.Lays.n169 Tryd.prog Tryd.lays169_ren := {
  mixed := by kernel_rfl
  f169 := Tryd.func21.trans (congrArg some (by kernel_rfl))
  t0 := Tryd.underlying0
  a0 := Tryd.isAgg0
  z0 := Tryd.sizeOf0
  v0 := Tryd.zeroValue0
  t3 := Tryd.underlying3
  a3 := Tryd.isAgg3
  z3 := Tryd.sizeOf3
  v3 := Tryd.zeroValue3
  t9 := Tryd.underlying9
  a9 := Tryd.isAgg9
  z9 := Tryd.sizeOf9
  v9 := Tryd.zeroValue9
  t37 := Tryd.underlying27
  a37 := Tryd.isAgg27
  z37 := Tryd.sizeOf27
  v37 := Tryd.zeroValue27
  t70 := Tryd.underlying32
  a70 := Tryd.isAgg32
  z70 := Tryd.sizeOf32
  v70 := Tryd.zeroValue32
  t72 := Tryd.underlying34
  a72 := Tryd.isAgg34
  z72 := Tryd.sizeOf34
  v72 := Tryd.zeroValue34
  t127 := Tryd.underlying51
  a127 := Tryd.isAgg51
  z127 := Tryd.sizeOf51
  v127 := Tryd.zeroValue51 }
theorem Tryd.Builder_Extra_169 : Builder.Extra Tryd.prog Tryd.lays169_ren := {
  sizeBuilder := by kernel_rfl
  liesBuilder := by kernel_rfl
  t5 := Tryd.underlying5
  a5 := Tryd.isAgg5
  z5 := Tryd.sizeOf5
  v5 := Tryd.zeroValue5
  infoByte := by kernel_rfl
  cellsByte := by kernel_rfl
  sizeByte := by kernel_rfl
  neB5 := by decide }
open Go.RowKit in
theorem Tryd.Builder_String_any_k (B b : Nat) (l : List UInt8) (w : World) (h : Lib.IsBuilderF 34 5 B b (Lib.byteCells l) w) (hBw : B ≤ w.heap.size) :
    Calls Tryd.prog 21 #[.pointer (some ⟨b, 0, none⟩)] w fun e w' => e = .returned (.string ⟨l.toArray⟩) ∧ (Lib.IsBuilderF 34 5 B b (Lib.byteCells l) w' ∧ Below B w w' ∧ Lib.OthersKept 5 (some b) w w') := Any.Builder_String_any_k Tryd.lays169 Tryd.Builder_Extra_169 B b l w h hBw
def Tryd.laysM173_ren : Go.Shelf.Ren := ⟨fun | 173 => 20 | 246 => 27 | 283 => 33 | 284 => 34 | 285 => 35 | 286 => 36 | 129 => 39 | 317 => 38 | 318 => 40 | 319 => 41 | 320 => 42 | 337 => 43 | 338 => 44 | n => n, fun | 2 => 2 | 3 => 3 | 9 => 9 | 4 => 4 | 171 => 60 | 0 => 0 | 53 => 43 | 37 => 27 | 5 => 5 | 173 => 63 | 212 => 68 | 51 => 54 | 20 => 20 | 213 => 69 | 46 => 45 | 232 => 73 | 233 => 74 | n => n, fun | 17 => 0 | 18 => 2 | 19 => 3 | n => n⟩
theorem Tryd.laysM173 : Go.Proofs.LaysM.n173 Tryd.prog Tryd.laysM173_ren := {
  mixed := by kernel_rfl
  f129 := Tryd.func39.trans (congrArg some (by kernel_rfl))
  f173 := Tryd.func20.trans (congrArg some (by kernel_rfl))
  f246 := Tryd.func27.trans (congrArg some (by kernel_rfl))
  f283 := Tryd.func33.trans (congrArg some (by kernel_rfl))
  f284 := Tryd.func34.trans (congrArg some (by kernel_rfl))
  f285 := Tryd.func35.trans (congrArg some (by kernel_rfl))
  f286 := Tryd.func36.trans (congrArg some (by kernel_rfl))
  f317 := Tryd.func38.trans (congrArg some (by kernel_rfl))
  f318 := Tryd.func40.trans (congrArg some (by kernel_rfl))
  f319 := Tryd.func41.trans (congrArg some (by kernel_rfl))
  f320 := Tryd.func42.trans (congrArg some (by kernel_rfl))
  f337 := Tryd.func43.trans (congrArg some (by kernel_rfl))
  f338 := Tryd.func44.trans (congrArg some (by kernel_rfl))
  t0 := Tryd.underlying0
  a0 := Tryd.isAgg0
  z0 := Tryd.sizeOf0
  v0 := Tryd.zeroValue0
  t2 := Tryd.underlying2
  a2 := Tryd.isAgg2
  z2 := Tryd.sizeOf2
  v2 := Tryd.zeroValue2
  t3 := Tryd.underlying3
  a3 := Tryd.isAgg3
  z3 := Tryd.sizeOf3
  v3 := Tryd.zeroValue3
  t4 := Tryd.underlying4
  a4 := Tryd.isAgg4
  z4 := Tryd.sizeOf4
  v4 := Tryd.zeroValue4
  t5 := Tryd.underlying5
  a5 := Tryd.isAgg5
  z5 := Tryd.sizeOf5
  v5 := Tryd.zeroValue5
  t9 := Tryd.underlying9
  a9 := Tryd.isAgg9
  z9 := Tryd.sizeOf9
  v9 := Tryd.zeroValue9
  t20 := Tryd.underlying20
  a20 := Tryd.isAgg20
  z20 := Tryd.sizeOf20
  v20 := Tryd.zeroValue20
  t37 := Tryd.underlying27
  a37 := Tryd.isAgg27
  z37 := Tryd.sizeOf27
  v37 := Tryd.zeroValue27
  t46 := Tryd.underlying45
  a46 := Tryd.isAgg45
  z46 := Tryd.sizeOf45
  v46 := Tryd.zeroValue45
  t51 := Tryd.underlying54
  a51 := Tryd.isAgg54
  z51 := Tryd.sizeOf54
  v51 := Tryd.zeroValue54
  t53 := Tryd.underlying43
  a53 := Tryd.isAgg43
  z53 := Tryd.sizeOf43
  v53 := Tryd.zeroValue43
  t171 := Tryd.underlying60
  a171 := Tryd.isAgg60
  z171 := Tryd.sizeOf60
  v171 := Tryd.zeroValue60
  t173 := Tryd.underlying63
  a173 := Tryd.isAgg63
  z173 := Tryd.sizeOf63
  v173 := Tryd.zeroValue63
  t212 := Tryd.underlying68
  a212 := Tryd.isAgg68
  z212 := Tryd.sizeOf68
  v212 := Tryd.zeroValue68
  t213 := Tryd.underlying69
  a213 := Tryd.isAgg69
  z213 := Tryd.sizeOf69
  t232 := Tryd.underlying73
  a232 := Tryd.isAgg73
  z232 := Tryd.sizeOf73
  v232 := Tryd.zeroValue73
  t233 := Tryd.underlying74
  a233 := Tryd.isAgg74
  z233 := Tryd.sizeOf74
  v233 := Tryd.zeroValue74
  g17 := by kernel_rfl
  g18 := by kernel_rfl
  g19 := by kernel_rfl
  i0 := by kernel_rfl
  i2 := by kernel_rfl
  i3 := by kernel_rfl
  i4 := by kernel_rfl
  i5 := by kernel_rfl
  i9 := by kernel_rfl
  i20 := by kernel_rfl
  i37 := by kernel_rfl
  i46 := by kernel_rfl
  i51 := by kernel_rfl
  i53 := by kernel_rfl
  i171 := by kernel_rfl
  i173 := by kernel_rfl
  i212 := by kernel_rfl
  i232 := by kernel_rfl
  i233 := by kernel_rfl
  m17 := by kernel_rfl
  m18 := by kernel_rfl
  m19 := by kernel_rfl }
open Go.RowKit Go.Sort Go.Lib in
theorem Tryd.strconv_FormatInt_10 (n : Int) (h0 : -9223372036854775808 ≤ n) (h1 : n ≤ 9223372036854775807) (w : World) (htab : Lib.TabIs Tryd.prog w Qxb6603079aDoor.powName .u64 Lib.pow10Tab) :
    Calls Tryd.prog 20 #[.int .i64 n, .int .i64 10] w fun e w' => e = .returned (.string ⟨(Lib.itoa n).toArray⟩) ∧ ∃ k os, w' = grow (w.drewN k) os := Any.strconv_FormatInt_10 Tryd.laysM173 n h0 h1 w htab
def Tryd.lays105_ren : Go.Shelf.Ren := ⟨fun | 105 => 19 | 212 => 23 | 99 => 24 | 165 => 25 | 166 => 18 | 170 => 26 | 169 => 21 | 263 => 29 | 264 => 30 | 206 => 31 | 240 => 22 | 241 => 32 | 276 => 28 | 277 => 37 | n => n, fun | 9 => 9 | 3 => 3 | 4 => 4 | 20 => 20 | 0 => 0 | 46 => 45 | 109 => 46 | 5 => 5 | 72 => 34 | 76 => 38 | 51 => 54 | 146 => 55 | 53 => 43 | 148 => 57 | 70 => 32 | 37 => 27 | 75 => 36 | 127 => 51 | 164 => 52 | 80 => 42 | n => n, fun | n => n⟩
theorem Tryd.lays105 : Go.Proofs.Lays.n105 Tryd.prog Tryd.lays105_ren := {
  mixed := by kernel_rfl
  f99 := Tryd.func24.trans (congrArg some (by kernel_rfl))
  f105 := Tryd.func19.trans (congrArg some (by kernel_rfl))
  f165 := Tryd.func25.trans (congrArg some (by kernel_rfl))
  f166 := Tryd.func18.trans (congrArg some (by kernel_rfl))
  f169 := Tryd.func21.trans (congrArg some (by kernel_rfl))
  f170 := Tryd.func26.trans (congrArg some (by kernel_rfl))
  f206 := Tryd.func31.trans (congrArg some (by kernel_rfl))
  f212 := Tryd.func23.trans (congrArg some (by kernel_rfl))
  f240 := Tryd.func22.trans (congrArg some (by kernel_rfl))
  f241 := Tryd.func32.trans (congrArg some (by kernel_rfl))
  f263 := Tryd.func29.trans (congrArg some (by kernel_rfl))
  f264 := Tryd.func30.trans (congrArg some (by kernel_rfl))
  f276 := Tryd.func28.trans (congrArg some (by kernel_rfl))
  f277 := Tryd.func37.trans (congrArg some (by kernel_rfl))
  t0 := Tryd.underlying0
  a0 := Tryd.isAgg0
  z0 := Tryd.sizeOf0
  v0 := Tryd.zeroValue0
  t3 := Tryd.underlying3
  a3 := Tryd.isAgg3
  z3 := Tryd.sizeOf3
  v3 := Tryd.zeroValue3
  t4 := Tryd.underlying4
  a4 := Tryd.isAgg4
  z4 := Tryd.sizeOf4
  v4 := Tryd.zeroValue4
  t5 := Tryd.underlying5
  a5 := Tryd.isAgg5
  z5 := Tryd.sizeOf5
  v5 := Tryd.zeroValue5
  t9 := Tryd.underlying9
  a9 := Tryd.isAgg9
  z9 := Tryd.sizeOf9
  v9 := Tryd.zeroValue9
  t20 := Tryd.underlying20
  a20 := Tryd.isAgg20
  z20 := Tryd.sizeOf20
  v20 := Tryd.zeroValue20
  t37 := Tryd.underlying27
  a37 := Tryd.isAgg27
  z37 := Tryd.sizeOf27
  v37 := Tryd.zeroValue27
  t46 := Tryd.underlying45
  a46 := Tryd.isAgg45
  z46 := Tryd.sizeOf45
  v46 := Tryd.zeroValue45
  t51 := Tryd.underlying54
  a51 := Tryd.isAgg54
  z51 := Tryd.sizeOf54
  v51 := Tryd.zeroValue54
  t53 := Tryd.underlying43
  a53 := Tryd.isAgg43
  z53 := Tryd.sizeOf43
  v53 := Tryd.zeroValue43
  t70 := Tryd.underlying32
  a70 := Tryd.isAgg32
  z70 := Tryd.sizeOf32
  v70 := Tryd.zeroValue32
  t72 := Tryd.underlying34
  a72 := Tryd.isAgg34
  z72 := Tryd.sizeOf34
  v72 := Tryd.zeroValue34
  t75 := Tryd.underlying36
  a75 := Tryd.isAgg36
  z75 := Tryd.sizeOf36
  v75 := Tryd.zeroValue36
  t76 := Tryd.underlying38
  a76 := Tryd.isAgg38
  z76 := Tryd.sizeOf38
  v76 := Tryd.zeroValue38
  t109 := Tryd.underlying46
  a109 := Tryd.isAgg46
  z109 := Tryd.sizeOf46
  v109 := Tryd.zeroValue46
  t127 := Tryd.underlying51
  a127 := Tryd.isAgg51
  z127 := Tryd.sizeOf51
  v127 := Tryd.zeroValue51
  t146 := Tryd.underlying55
  a146 := Tryd.isAgg55
  z146 := Tryd.sizeOf55
  v146 := Tryd.zeroValue55
  t148 := Tryd.underlying57
  a148 := Tryd.isAgg57
  z148 := Tryd.sizeOf57
  v148 := Tryd.zeroValue57
  t164 := Tryd.underlying52
  a164 := Tryd.isAgg52
  z164 := Tryd.sizeOf52
  v164 := Tryd.zeroValue52 }
theorem Tryd.Builder_Extra_105 : Builder.Extra Tryd.prog Tryd.lays105_ren := {
  sizeBuilder := by kernel_rfl
  liesBuilder := by kernel_rfl
  t5 := Tryd.underlying5
  a5 := Tryd.isAgg5
  z5 := Tryd.sizeOf5
  v5 := Tryd.zeroValue5
  infoByte := by kernel_rfl
  cellsByte := by kernel_rfl
  sizeByte := by kernel_rfl
  neB5 := by decide }
open Go.RowKit Go.Lib in
theorem Tryd.strings_Repeat (s : ByteArray) (c : Nat) (w : World) (hc : c ≤ 9223372036854775807) (hlen : s.size * c ≤ 140737488355328) :
    Calls Tryd.prog 19 #[.string s, .int .i64 c] w fun e w' => e = .returned (.string ⟨(Lib.repeatL s.data.toList c).toArray⟩) ∧ Below w.heap.size w w' := Any.strings_Repeat Tryd.lays105 Tryd.Builder_Extra_105 s c w hc hlen
def Tryd.lays166_ren : Go.Shelf.Ren := ⟨fun | 166 => 18 | 240 => 22 | 276 => 28 | n => n, fun | 0 => 0 | 3 => 3 | 4 => 4 | 5 => 5 | 9 => 9 | 20 => 20 | 37 => 27 | 70 => 32 | 72 => 34 | 75 => 36 | 80 => 42 | 164 => 52 | n => n, fun | n => n⟩
theorem Tryd.lays166 : Go.Proofs.Lays.n166 Tryd.prog Tryd.lays166_ren := {
  mixed := by kernel_rfl
  f166 := Tryd.func18.trans (congrArg some (by kernel_rfl))
  f240 := Tryd.func22.trans (congrArg some (by kernel_rfl))
  f276 := Tryd.func28.trans (congrArg some (by kernel_rfl))
  t0 := Tryd.underlying0
  a0 := Tryd.isAgg0
  z0 := Tryd.sizeOf0
  v0 := Tryd.zeroValue0
  t3 := Tryd.underlying3
  a3 := Tryd.isAgg3
  z3 := Tryd.sizeOf3
  v3 := Tryd.zeroValue3
  t4 := Tryd.underlying4
  a4 := Tryd.isAgg4
  z4 := Tryd.sizeOf4
  v4 := Tryd.zeroValue4
  t9 := Tryd.underlying9
  a9 := Tryd.isAgg9
  z9 := Tryd.sizeOf9
  v9 := Tryd.zeroValue9
  t20 := Tryd.underlying20
  a20 := Tryd.isAgg20
  z20 := Tryd.sizeOf20
  v20 := Tryd.zeroValue20
  t37 := Tryd.underlying27
  a37 := Tryd.isAgg27
  z37 := Tryd.sizeOf27
  v37 := Tryd.zeroValue27
  t70 := Tryd.underlying32
  a70 := Tryd.isAgg32
  z70 := Tryd.sizeOf32
  v70 := Tryd.zeroValue32
  t72 := Tryd.underlying34
  a72 := Tryd.isAgg34
  z72 := Tryd.sizeOf34
  v72 := Tryd.zeroValue34
  t75 := Tryd.underlying36
  a75 := Tryd.isAgg36
  z75 := Tryd.sizeOf36
  v75 := Tryd.zeroValue36
  t164 := Tryd.underlying52
  a164 := Tryd.isAgg52
  z164 := Tryd.sizeOf52
  v164 := Tryd.zeroValue52 }
theorem Tryd.Builder_Extra_166 : Builder.Extra Tryd.prog Tryd.lays166_ren := {
  sizeBuilder := by kernel_rfl
  liesBuilder := by kernel_rfl
  t5 := Tryd.underlying5
  a5 := Tryd.isAgg5
  z5 := Tryd.sizeOf5
  v5 := Tryd.zeroValue5
  infoByte := by kernel_rfl
  cellsByte := by kernel_rfl
  sizeByte := by kernel_rfl
  neB5 := by decide }
def Tryd.lays167_ren : Go.Shelf.Ren := ⟨fun | 167 => 17 | 240 => 22 | 276 => 28 | n => n, fun | 0 => 0 | 3 => 3 | 4 => 4 | 5 => 5 | 9 => 9 | 20 => 20 | 37 => 27 | 70 => 32 | 72 => 34 | 75 => 36 | 80 => 42 | 164 => 52 | n => n, fun | n => n⟩
theorem Tryd.lays167 : Go.Proofs.Lays.n167 Tryd.prog Tryd.lays167_ren := {
  mixed := by kernel_rfl
  f167 := Tryd.func17.trans (congrArg some (by kernel_rfl))
  f240 := Tryd.func22.trans (congrArg some (by kernel_rfl))
  f276 := Tryd.func28.trans (congrArg some (by kernel_rfl))
  t0 := Tryd.underlying0
  a0 := Tryd.isAgg0
  z0 := Tryd.sizeOf0
  v0 := Tryd.zeroValue0
  t4 := Tryd.underlying4
  a4 := Tryd.isAgg4
  z4 := Tryd.sizeOf4
  v4 := Tryd.zeroValue4
  t5 := Tryd.underlying5
  a5 := Tryd.isAgg5
  z5 := Tryd.sizeOf5
  v5 := Tryd.zeroValue5
  t9 := Tryd.underlying9
  a9 := Tryd.isAgg9
  z9 := Tryd.sizeOf9
  v9 := Tryd.zeroValue9
  t20 := Tryd.underlying20
  a20 := Tryd.isAgg20
  z20 := Tryd.sizeOf20
  v20 := Tryd.zeroValue20
  t37 := Tryd.underlying27
  a37 := Tryd.isAgg27
  z37 := Tryd.sizeOf27
  v37 := Tryd.zeroValue27
  t70 := Tryd.underlying32
  a70 := Tryd.isAgg32
  z70 := Tryd.sizeOf32
  v70 := Tryd.zeroValue32
  t72 := Tryd.underlying34
  a72 := Tryd.isAgg34
  z72 := Tryd.sizeOf34
  v72 := Tryd.zeroValue34
  t75 := Tryd.underlying36
  a75 := Tryd.isAgg36
  z75 := Tryd.sizeOf36
  v75 := Tryd.zeroValue36
  t164 := Tryd.underlying52
  a164 := Tryd.isAgg52
  z164 := Tryd.sizeOf52
  v164 := Tryd.zeroValue52 }
theorem Tryd.Builder_Extra_167 : Builder.Extra Tryd.prog Tryd.lays167_ren := {
  sizeBuilder := by kernel_rfl
  liesBuilder := by kernel_rfl
  t5 := Tryd.underlying5
  a5 := Tryd.isAgg5
  z5 := Tryd.sizeOf5
  v5 := Tryd.zeroValue5
  infoByte := by kernel_rfl
  cellsByte := by kernel_rfl
  sizeByte := by kernel_rfl
  neB5 := by decide }
open Go.RowKit in
theorem Tryd.Builder_WriteByte_k (B b : Nat) (bs : List Value) (c : Int) (w : World) (h : Lib.IsBuilderF 34 5 B b bs w) (hlen : bs.length + 1 ≤ 140737488355328) (hBw : B ≤ w.heap.size) :
    Calls Tryd.prog 17 #[.pointer (some ⟨b, 0, none⟩), .int .u8 c] w fun e w' => e = .returned .nilIface ∧ (Lib.BuilderAtF 34 5 B b (.pointer (some ⟨b, 0, none⟩)) (bs ++ [.int .u8 c]) w' ∧ Below B w w' ∧ Lib.OthersKept 5 (some b) w w') := Any.Builder_WriteByte_k Tryd.lays167 Tryd.Builder_Extra_167 B b bs c w h hlen hBw
open Go.RowKit in
theorem Tryd.Builder_WriteString_k (B b : Nat) (bs : List Value) (s : ByteArray) (w : World) (h : Lib.IsBuilderF 34 5 B b bs w) (hlen : bs.length + s.size ≤ 140737488355328) (hBw : B ≤ w.heap.size) :
    Calls Tryd.prog 18 #[.pointer (some ⟨b, 0, none⟩), .string s] w fun e w' => e = .returned (.tuple #[.int .i64 s.size, .nilIface]) ∧ (Lib.BuilderAtF 34 5 B b (.pointer (some ⟨b, 0, none⟩)) (bs ++ Lib.strCells s) w' ∧ Below B w w' ∧ Lib.OthersKept 5 (some b) w w') := Any.Builder_WriteString_k Tryd.lays166 Tryd.Builder_Extra_166 B b bs s w h hlen hBw
end Go.Proofs
