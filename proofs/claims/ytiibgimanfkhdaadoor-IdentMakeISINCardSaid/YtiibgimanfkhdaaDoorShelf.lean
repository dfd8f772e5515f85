/- THE CONTRACTS OF THE LIBRARY's FUNCTIONS AT THIS TRANSLATION: strconv.Itoa below 100, strings.Repeat, strings.Builder (WriteByte, WriteString, String): each one application of a contract of the shelf. Written by the kit's lay-shelf and lay-plain, cut down; the two writers of Builder laid by hand (their table of types was filled in by hand). -/
import Derived.Shelf.Strings.Builder1
import Derived.Shelf.Strings.Builder2
import Derived.Shelf.Strings.BuilderF
import Derived.Shelf.Strings.BuilderK
import Derived.Shelf.Strings.Builder2Cap
import Derived.Shelf.Strconv.Itoa0
import Derived.Shelf.Strconv.Itoa1
import Derived.Shelf.LaysM
import Derived.Shelf.Strconv.Itoa2
import Derived.Shelf.Strconv.Itoa3
import Derived.Shelf.Strings.Prefix
import Derived.Shelf.Bits.Mul64
import Derived.Shelf.Strings.Repeat
import Derived.Shelf.Strings.BuilderCap
import Derived.Test.YtiibgimanfkhdaaDoorProg
namespace Go.Proofs
open Go.Shelf
def Tryd.lays171_ren : Go.Shelf.Ren := ⟨fun | 171 => 26 | 243 => 38 | 246 => 43 | 283 => 44 | 284 => 45 | 285 => 46 | 286 => 47 | 129 => 49 | 317 => 48 | 318 => 50 | 319 => 51 | 320 => 52 | 337 => 53 | 338 => 54 | n => n, fun | 3 => 3 | 9 => 9 | 2 => 2 | 4 => 4 | 171 => 82 | 0 => 0 | 53 => 68 | 37 => 36 | 5 => 5 | 173 => 85 | 212 => 89 | 51 => 65 | 20 => 20 | 213 => 90 | 46 => 41 | 232 => 94 | 233 => 95 | n => n, fun | 17 => 2 | 18 => 3 | 19 => 4 | n => n⟩
theorem Tryd.lays171 : Go.Proofs.Lays.n171 Tryd.prog Tryd.lays171_ren := {
  mixed := by kernel_rfl
  f129 := Tryd.func49.trans (congrArg some (by kernel_rfl))
  f171 := Tryd.func26.trans (congrArg some (by kernel_rfl))
  f243 := Tryd.func38.trans (congrArg some (by kernel_rfl))
  f246 := Tryd.func43.trans (congrArg some (by kernel_rfl))
  f283 := Tryd.func44.trans (congrArg some (by kernel_rfl))
  f284 := Tryd.func45.trans (congrArg some (by kernel_rfl))
  f285 := Tryd.func46.trans (congrArg some (by kernel_rfl))
  f286 := Tryd.func47.trans (congrArg some (by kernel_rfl))
  f317 := Tryd.func48.trans (congrArg some (by kernel_rfl))
  f318 := Tryd.func50.trans (congrArg some (by kernel_rfl))
  f319 := Tryd.func51.trans (congrArg some (by kernel_rfl))
  f320 := Tryd.func52.trans (congrArg some (by kernel_rfl))
  f337 := Tryd.func53.trans (congrArg some (by kernel_rfl))
  f338 := Tryd.func54.trans (congrArg some (by kernel_rfl))
  t0 := Tryd.underlying0
  a0 := Tryd.isAgg0
  z0 := Tryd.sizeOf0
  v0 := Tryd.zeroValue0
  t2 := Tryd.underlying2
  a2 := Tryd.isAgg2
  z2 := Tryd.sizeOf2
  v2 := Tryd.zeroValue2
  t3 := Tryd.underlying3
  a3 := Tryd.isAgg3
  z3 := Tryd.sizeOf3
  v3 := Tryd.zeroValue3
  t4 := Tryd.underlying4
  a4 := Tryd.isAgg4
  z4 := Tryd.sizeOf4
  v4 := Tryd.zeroValue4
  t5 := Tryd.underlying5
  a5 := Tryd.isAgg5
  z5 := Tryd.sizeOf5
  v5 := Tryd.zeroValue5
  t9 := Tryd.underlying9
  a9 := Tryd.isAgg9
  z9 := Tryd.sizeOf9
  v9 := Tryd.zeroValue9
  t20 := Tryd.underlying20
  a20 := Tryd.isAgg20
  z20 := Tryd.sizeOf20
  v20 := Tryd.zeroValue20
  t37 := Tryd.underlying36
  a37 := Tryd.isAgg36
  z37 := Tryd.sizeOf36
  v37 := Tryd.zeroValue36
  t46 := Tryd.underlying41
  a46 := Tryd.isAgg41
  z46 := Tryd.sizeOf41
  v46 := Tryd.zeroValue41
  t51 := Tryd.underlying65
  a51 := Tryd.isAgg65
  z51 := Tryd.sizeOf65
  v51 := Tryd.zeroValue65
  t53 := Tryd.underlying68
  a53 := Tryd.isAgg68
  z53 := Tryd.sizeOf68
  v53 := Tryd.zeroValue68
  t171 := Tryd.underlying82
  a171 := Tryd.isAgg82
  z171 := Tryd.sizeOf82
  v171 := Tryd.zeroValue82
  t173 := Tryd.underlying85
  a173 := Tryd.isAgg85
  z173 := Tryd.sizeOf85
  v173 := Tryd.zeroValue85
  t212 := Tryd.underlying89
  a212 := Tryd.isAgg89
  z212 := Tryd.sizeOf89
  v212 := Tryd.zeroValue89
  t213 := Tryd.underlying90
  a213 := Tryd.isAgg90
  z213 := Tryd.sizeOf90
  t232 := Tryd.underlying94
  a232 := Tryd.isAgg94
  z232 := Tryd.sizeOf94
  v232 := Tryd.zeroValue94
  t233 := Tryd.underlying95
  a233 := Tryd.isAgg95
  z233 := Tryd.sizeOf95
  v233 := Tryd.zeroValue95
  g17 := by kernel_rfl
  g18 := by kernel_rfl
  g19 := by kernel_rfl }
open Go.RowKit Go.Sort Go.Lib in
/-- THE ROAD WITHOUT THE TABLE: 0 <= i < 100: NO PREMISE ON THE WORLD, AND THE WORLD IS AS IT WAS: a row that keeps its argument in that range need list no table ('laid = []'). (LAID: no walk: one application.) -/
theorem Tryd.strconv_Itoa_small (i : Nat) (hi : i < 100) (w : World) :
    Calls Tryd.prog 26 #[.int .i64 i] w fun e w' => e = .returned (.string ⟨(Lib.decDigits i).toArray⟩) ∧ w' = w := Any.strconv_Itoa_small Tryd.lays171 i hi w
def Tryd.lays105_ren : Go.Shelf.Ren := ⟨fun | 105 => 11 | 212 => 19 | 99 => 20 | 165 => 21 | 166 => 22 | 170 => 23 | 169 => 24 | 263 => 32 | 264 => 33 | 206 => 34 | 240 => 35 | 241 => 36 | 276 => 41 | 277 => 42 | n => n, fun | 9 => 9 | 3 => 3 | 4 => 4 | 20 => 20 | 0 => 0 | 46 => 41 | 109 => 42 | 5 => 5 | 72 => 46 | 76 => 50 | 51 => 65 | 146 => 66 | 53 => 68 | 148 => 69 | 70 => 44 | 37 => 36 | 75 => 49 | 127 => 71 | 164 => 78 | 80 => 53 | n => n, fun | n => n⟩
theorem Tryd.lays105 : Go.Proofs.Lays.n105 Tryd.prog Tryd.lays105_ren := {
  mixed := by kernel_rfl
  f99 := Tryd.func20.trans (congrArg some (by kernel_rfl))
  f105 := Tryd.func11.trans (congrArg some (by kernel_rfl))
  f165 := Tryd.func21.trans (congrArg some (by kernel_rfl))
  f166 := Tryd.func22.trans (congrArg some (by kernel_rfl))
  f169 := Tryd.func24.trans (congrArg some (by kernel_rfl))
  f170 := Tryd.func23.trans (congrArg some (by kernel_rfl))
  f206 := Tryd.func34.trans (congrArg some (by kernel_rfl))
  f212 := Tryd.func19.trans (congrArg some (by kernel_rfl))
  f240 := Tryd.func35.trans (congrArg some (by kernel_rfl))
  f241 := Tryd.func36.trans (congrArg some (by kernel_rfl))
  f263 := Tryd.func32.trans (congrArg some (by kernel_rfl))
  f264 := Tryd.func33.trans (congrArg some (by kernel_rfl))
  f276 := Tryd.func41.trans (congrArg some (by kernel_rfl))
  f277 := Tryd.func42.trans (congrArg some (by kernel_rfl))
  t0 := Tryd.underlying0
  a0 := Tryd.isAgg0
  z0 := Tryd.sizeOf0
  v0 := Tryd.zeroValue0
  t3 := Tryd.underlying3
  a3 := Tryd.isAgg3
  z3 := Tryd.sizeOf3
  v3 := Tryd.zeroValue3
  t4 := Tryd.underlying4
  a4 := Tryd.isAgg4
  z4 := Tryd.sizeOf4
  v4 := Tryd.zeroValue4
  t5 := Tryd.underlying5
  a5 := Tryd.isAgg5
  z5 := Tryd.sizeOf5
  v5 := Tryd.zeroValue5
  t9 := Tryd.underlying9
  a9 := Tryd.isAgg9
  z9 := Tryd.sizeOf9
  v9 := Tryd.zeroValue9
  t20 := Tryd.underlying20
  a20 := Tryd.isAgg20
  z20 := Tryd.sizeOf20
  v20 := Tryd.zeroValue20
  t37 := Tryd.underlying36
  a37 := Tryd.isAgg36
  z37 := Tryd.sizeOf36
  v37 := Tryd.zeroValue36
  t46 := Tryd.underlying41
  a46 := Tryd.isAgg41
  z46 := Tryd.sizeOf41
  v46 := Tryd.zeroValue41
  t51 := Tryd.underlying65
  a51 := Tryd.isAgg65
  z51 := Tryd.sizeOf65
  v51 := Tryd.zeroValue65
  t53 := Tryd.underlying68
  a53 := Tryd.isAgg68
  z53 := Tryd.sizeOf68
  v53 := Tryd.zeroValue68
  t70 := Tryd.underlying44
  a70 := Tryd.isAgg44
  z70 := Tryd.sizeOf44
  v70 := Tryd.zeroValue44
  t72 := Tryd.underlying46
  a72 := Tryd.isAgg46
  z72 := Tryd.sizeOf46
  v72 := Tryd.zeroValue46
  t75 := Tryd.underlying49
  a75 := Tryd.isAgg49
  z75 := Tryd.sizeOf49
  v75 := Tryd.zeroValue49
  t76 := Tryd.underlying50
  a76 := Tryd.isAgg50
  z76 := Tryd.sizeOf50
  v76 := Tryd.zeroValue50
  t109 := Tryd.underlying42
  a109 := Tryd.isAgg42
  z109 := Tryd.sizeOf42
  v109 := Tryd.zeroValue42
  t127 := Tryd.underlying71
  a127 := Tryd.isAgg71
  z127 := Tryd.sizeOf71
  v127 := Tryd.zeroValue71
  t146 := Tryd.underlying66
  a146 := Tryd.isAgg66
  z146 := Tryd.sizeOf66
  v146 := Tryd.zeroValue66
  t148 := Tryd.underlying69
  a148 := Tryd.isAgg69
  z148 := Tryd.sizeOf69
  v148 := Tryd.zeroValue69
  t164 := Tryd.underlying78
  a164 := Tryd.isAgg78
  z164 := Tryd.sizeOf78
  v164 := Tryd.zeroValue78 }
theorem Tryd.Builder_Extra_105 : Builder.Extra Tryd.prog Tryd.lays105_ren := {
  sizeBuilder := by kernel_rfl
  liesBuilder := by kernel_rfl
  t5 := Tryd.underlying5
  a5 := Tryd.isAgg5
  z5 := Tryd.sizeOf5
  v5 := Tryd.zeroValue5
  infoByte := by kernel_rfl
  cellsByte := by kernel_rfl
  sizeByte := by kernel_rfl
  neB5 := by decide }
open Go.RowKit Go.Lib in
/-- **strings.Repeat: count ≥ 0, the result within one allocation: count copies of s.** (LAID: no walk: one application.) -/
theorem Tryd.strings_Repeat (s : ByteArray) (c : Nat) (w : World) (hc : c ≤ 9223372036854775807) (hlen : s.size * c ≤ 140737488355328) :
    Calls Tryd.prog 11 #[.string s, .int .i64 c] w fun e w' => e = .returned (.string ⟨(Lib.repeatL s.data.toList c).toArray⟩) ∧ Below w.heap.size w w' := Any.strings_Repeat Tryd.lays105 Tryd.Builder_Extra_105 s c w hc hlen
def Tryd.lays169_ren : Go.Shelf.Ren := ⟨fun | 169 => 24 | n => n, fun | 70 => 44 | 9 => 9 | 0 => 0 | 72 => 46 | 37 => 36 | 127 => 71 | 3 => 3 | 5 => 5 | n => n, fun | n => n⟩
theorem Tryd.lays169 : Go.Proofs.Lays.n169 Tryd.prog Tryd.lays169_ren := {
  mixed := by kernel_rfl
  f169 := Tryd.func24.trans (congrArg some (by kernel_rfl))
  t0 := Tryd.underlying0
  a0 := Tryd.isAgg0
  z0 := Tryd.sizeOf0
  v0 := Tryd.zeroValue0
  t3 := Tryd.underlying3
  a3 := Tryd.isAgg3
  z3 := Tryd.sizeOf3
  v3 := Tryd.zeroValue3
  t9 := Tryd.underlying9
  a9 := Tryd.isAgg9
  z9 := Tryd.sizeOf9
  v9 := Tryd.zeroValue9
  t37 := Tryd.underlying36
  a37 := Tryd.isAgg36
  z37 := Tryd.sizeOf36
  v37 := Tryd.zeroValue36
  t70 := Tryd.underlying44
  a70 := Tryd.isAgg44
  z70 := Tryd.sizeOf44
  v70 := Tryd.zeroValue44
  t72 := Tryd.underlying46
  a72 := Tryd.isAgg46
  z72 := Tryd.sizeOf46
  v72 := Tryd.zeroValue46
  t127 := Tryd.underlying71
  a127 := Tryd.isAgg71
  z127 := Tryd.sizeOf71
  v127 := Tryd.zeroValue71 }
theorem Tryd.Builder_Extra_169 : Builder.Extra Tryd.prog Tryd.lays169_ren := {
  sizeBuilder := by kernel_rfl
  liesBuilder := by kernel_rfl
  t5 := Tryd.underlying5
  a5 := Tryd.isAgg5
  z5 := Tryd.sizeOf5
  v5 := Tryd.zeroValue5
  infoByte := by kernel_rfl
  cellsByte := by kernel_rfl
  sizeByte := by kernel_rfl
  neB5 := by decide }
open Go.RowKit in
/-- (*strings.Builder).String: "String returns the accumulated string.": WHATEVER THE BUILDER HOLDS. (LAID: no walk: one application.) -/
theorem Tryd.Builder_String_any (B b : Nat) (l : List UInt8) (w : World) (h : Lib.IsBuilder 46 5 B b (Lib.byteCells l) w) (hBw : B ≤ w.heap.size) :
    Calls Tryd.prog 24 #[.pointer (some ⟨b, 0, none⟩)] w fun e w' => e = .returned (.string ⟨l.toArray⟩) ∧ Below B w w' := Any.Builder_String_any Tryd.lays169 Tryd.Builder_Extra_169 B b l w h hBw
def Tryd.laysW_ren : Go.Shelf.Ren := ⟨fun | 166 => 22 | 167 => 37 | 169 => 24 | 240 => 35 | 276 => 41 | n => n, fun | 9 => 9 | 3 => 3 | 4 => 4 | 20 => 20 | 0 => 0 | 5 => 5 | 72 => 46 | 76 => 50 | 70 => 44 | 37 => 36 | 75 => 49 | 127 => 71 | 164 => 78 | 80 => 53 | n => n, fun | n => n⟩
theorem Tryd.laysW166 : Go.Proofs.Lays.n166 Tryd.prog Tryd.laysW_ren := {
  mixed := by kernel_rfl
  f166 := Tryd.func22.trans (congrArg some (by kernel_rfl))
  f240 := Tryd.func35.trans (congrArg some (by kernel_rfl))
  f276 := Tryd.func41.trans (congrArg some (by kernel_rfl))
  t0 := Tryd.underlying0
  a0 := Tryd.isAgg0
  z0 := Tryd.sizeOf0
  v0 := Tryd.zeroValue0
  t3 := Tryd.underlying3
  a3 := Tryd.isAgg3
  z3 := Tryd.sizeOf3
  v3 := Tryd.zeroValue3
  t4 := Tryd.underlying4
  a4 := Tryd.isAgg4
  z4 := Tryd.sizeOf4
  v4 := Tryd.zeroValue4
  t9 := Tryd.underlying9
  a9 := Tryd.isAgg9
  z9 := Tryd.sizeOf9
  v9 := Tryd.zeroValue9
  t20 := Tryd.underlying20
  a20 := Tryd.isAgg20
  z20 := Tryd.sizeOf20
  v20 := Tryd.zeroValue20
  t37 := Tryd.underlying36
  a37 := Tryd.isAgg36
  z37 := Tryd.sizeOf36
  v37 := Tryd.zeroValue36
  t70 := Tryd.underlying44
  a70 := Tryd.isAgg44
  z70 := Tryd.sizeOf44
  v70 := Tryd.zeroValue44
  t72 := Tryd.underlying46
  a72 := Tryd.isAgg46
  z72 := Tryd.sizeOf46
  v72 := Tryd.zeroValue46
  t75 := Tryd.underlying49
  a75 := Tryd.isAgg49
  z75 := Tryd.sizeOf49
  v75 := Tryd.zeroValue49
  t164 := Tryd.underlying78
  a164 := Tryd.isAgg78
  z164 := Tryd.sizeOf78
  v164 := Tryd.zeroValue78 }
theorem Tryd.laysW167 : Go.Proofs.Lays.n167 Tryd.prog Tryd.laysW_ren := {
  mixed := by kernel_rfl
  f167 := Tryd.func37.trans (congrArg some (by kernel_rfl))
  f240 := Tryd.func35.trans (congrArg some (by kernel_rfl))
  f276 := Tryd.func41.trans (congrArg some (by kernel_rfl))
  t0 := Tryd.underlying0
  a0 := Tryd.isAgg0
  z0 := Tryd.sizeOf0
  v0 := Tryd.zeroValue0
  t4 := Tryd.underlying4
  a4 := Tryd.isAgg4
  z4 := Tryd.sizeOf4
  v4 := Tryd.zeroValue4
  t5 := Tryd.underlying5
  a5 := Tryd.isAgg5
  z5 := Tryd.sizeOf5
  v5 := Tryd.zeroValue5
  t9 := Tryd.underlying9
  a9 := Tryd.isAgg9
  z9 := Tryd.sizeOf9
  v9 := Tryd.zeroValue9
  t20 := Tryd.underlying20
  a20 := Tryd.isAgg20
  z20 := Tryd.sizeOf20
  v20 := Tryd.zeroValue20
  t37 := Tryd.underlying36
  a37 := Tryd.isAgg36
  z37 := Tryd.sizeOf36
  v37 := Tryd.zeroValue36
  t70 := Tryd.underlying44
  a70 := Tryd.isAgg44
  z70 := Tryd.sizeOf44
  v70 := Tryd.zeroValue44
  t72 := Tryd.underlying46
  a72 := Tryd.isAgg46
  z72 := Tryd.sizeOf46
  v72 := Tryd.zeroValue46
  t75 := Tryd.underlying49
  a75 := Tryd.isAgg49
  z75 := Tryd.sizeOf49
  v75 := Tryd.zeroValue49
  t164 := Tryd.underlying78
  a164 := Tryd.isAgg78
  z164 := Tryd.sizeOf78
  v164 := Tryd.zeroValue78 }
theorem Tryd.Builder_Extra_W : Builder.Extra Tryd.prog Tryd.laysW_ren := {
  sizeBuilder := by kernel_rfl
  liesBuilder := by kernel_rfl
  t5 := Tryd.underlying5
  a5 := Tryd.isAgg5
  z5 := Tryd.sizeOf5
  v5 := Tryd.zeroValue5
  infoByte := by kernel_rfl
  cellsByte := by kernel_rfl
  sizeByte := by kernel_rfl
  neB5 := by decide }
open Go.RowKit in
theorem Tryd.Builder_WriteByte (B b : Nat) (bs : List Value) (c : Int) (w : World) (h : Lib.IsBuilder 46 5 B b bs w) (hlen : bs.length + 1 ≤ 140737488355328) (hBw : B ≤ w.heap.size) :
    Calls Tryd.prog 37 #[.pointer (some ⟨b, 0, none⟩), .int .u8 c] w fun e w' => e = .returned .nilIface ∧ (Lib.BuilderAt 46 5 B b (.pointer (some ⟨b, 0, none⟩)) (bs ++ [.int .u8 c]) w' ∧ Below B w w') := Any.Builder_WriteByte Tryd.laysW167 Tryd.Builder_Extra_W B b bs c w h hlen hBw
open Go.RowKit in
theorem Tryd.Builder_WriteString (B b : Nat) (bs : List Value) (s : ByteArray) (w : World) (h : Lib.IsBuilder 46 5 B b bs w) (hlen : bs.length + s.size ≤ 140737488355328) (hBw : B ≤ w.heap.size) :
    Calls Tryd.prog 22 #[.pointer (some ⟨b, 0, none⟩), .string s] w fun e w' => e = .returned (.tuple #[.int .i64 s.size, .nilIface]) ∧ (Lib.BuilderAt 46 5 B b (.pointer (some ⟨b, 0, none⟩)) (bs ++ Lib.strCells s) w' ∧ Below B w w') := Any.Builder_WriteString Tryd.laysW166 Tryd.Builder_Extra_W B b bs s w h hlen hBw
end Go.Proofs
