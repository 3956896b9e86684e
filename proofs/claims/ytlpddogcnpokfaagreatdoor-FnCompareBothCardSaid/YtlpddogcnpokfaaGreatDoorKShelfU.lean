/- Library contracts of unicode/utf8 laid at this program's numbers: each says what a library function returns and what becomes of memory, under the premises written ahead of it. -/
import Derived.Shelf.Unicode.Decode
import Derived.Shelf.Unicode.DecodeSlow
import Derived.Shelf.Unicode.DecodeAny
import Derived.Ground.NamesProg
import Derived.Test.YtlpddogcnpokfaaGreatDoorProg
namespace Go.Proofs
open Go.Shelf
def Tryz.lays197_ren : Go.Shelf.Ren := ⟨fun | 197 => 184 | 260 => 204 | n => n, fun | 9 => 9 | 21 => 21 | 3 => 3 | 4 => 4 | 5 => 5 | 105 => 317 | 119 => 340 | 0 => 0 | 46 => 111 | 139 => 343 | 138 => 342 | n => n, fun | 3 => 3 | 4 => 4 | n => n⟩
theorem Tryz.lays197 : Go.Proofs.Lays.n197 Tryz.prog Tryz.lays197_ren := {
  mixed := by kernel_rfl
  f197 := Tryz.func184.trans (congrArg some (by kernel_rfl))
  f260 := Tryz.func204.trans (congrArg some (by kernel_rfl))
  t0 := Tryz.underlying0
  a0 := Tryz.isAgg0
  z0 := Tryz.sizeOf0
  v0 := Tryz.zeroValue0
  t3 := Tryz.underlying3
  a3 := Tryz.isAgg3
  z3 := Tryz.sizeOf3
  v3 := Tryz.zeroValue3
  t4 := Tryz.underlying4
  a4 := Tryz.isAgg4
  z4 := Tryz.sizeOf4
  v4 := Tryz.zeroValue4
  t5 := Tryz.underlying5
  a5 := Tryz.isAgg5
  z5 := Tryz.sizeOf5
  v5 := Tryz.zeroValue5
  t9 := Tryz.underlying9
  a9 := Tryz.isAgg9
  z9 := Tryz.sizeOf9
  v9 := Tryz.zeroValue9
  t21 := Tryz.underlying21
  a21 := Tryz.isAgg21
  z21 := Tryz.sizeOf21
  v21 := Tryz.zeroValue21
  t46 := Tryz.underlying111
  a46 := Tryz.isAgg111
  z46 := Tryz.sizeOf111
  v46 := Tryz.zeroValue111
  t105 := Tryz.underlying317
  a105 := Tryz.isAgg317
  z105 := Tryz.sizeOf317
  v105 := Tryz.zeroValue317
  t119 := Tryz.underlying340
  a119 := Tryz.isAgg340
  z119 := Tryz.sizeOf340
  t138 := Tryz.underlying342
  a138 := Tryz.isAgg342
  z138 := Tryz.sizeOf342
  v138 := Tryz.zeroValue342
  t139 := Tryz.underlying343
  a139 := Tryz.isAgg343
  z139 := Tryz.sizeOf343
  v139 := Tryz.zeroValue343
  g3 := by kernel_rfl
  g4 := by kernel_rfl }
open Go.RowKit Go.Lib in
/-- unicode/utf8.DecodeRuneInString: "DecodeRuneInString is like DecodeRune but its input is a string.": ("DecodeRune unpacks the first UTF-8 encoding in p and returns the rune and its width in bytes."): WHERE s BEGINS WITH AN ASCII BYTE x: (x, 1). (LAID: no walk: one application.) -/
theorem Tryz.utf8_DecodeRuneInString_ascii (s : ByteArray) (x : UInt8) (w : World) (h0 : s.data.toList[0]? = some x) (hx : x.toNat < 128) :
    Calls Tryz.prog 184 #[.string s] w fun e w' => e = .returned (.tuple #[.int .i32 x.toNat, .int .i64 1]) ∧ w' = w := Any.utf8_DecodeRuneInString_ascii Tryz.lays197 s x w h0 hx
def Tryz.lays260_ren : Go.Shelf.Ren := ⟨fun | 260 => 204 | n => n, fun | 9 => 9 | 21 => 21 | 3 => 3 | 4 => 4 | 5 => 5 | 119 => 340 | 0 => 0 | 46 => 111 | 139 => 343 | 138 => 342 | n => n, fun | 3 => 3 | 4 => 4 | n => n⟩
theorem Tryz.lays260 : Go.Proofs.Lays.n260 Tryz.prog Tryz.lays260_ren := {
  mixed := by kernel_rfl
  f260 := Tryz.func204.trans (congrArg some (by kernel_rfl))
  t0 := Tryz.underlying0
  a0 := Tryz.isAgg0
  z0 := Tryz.sizeOf0
  v0 := Tryz.zeroValue0
  t3 := Tryz.underlying3
  a3 := Tryz.isAgg3
  z3 := Tryz.sizeOf3
  v3 := Tryz.zeroValue3
  t4 := Tryz.underlying4
  a4 := Tryz.isAgg4
  z4 := Tryz.sizeOf4
  v4 := Tryz.zeroValue4
  t5 := Tryz.underlying5
  a5 := Tryz.isAgg5
  z5 := Tryz.sizeOf5
  v5 := Tryz.zeroValue5
  t9 := Tryz.underlying9
  a9 := Tryz.isAgg9
  z9 := Tryz.sizeOf9
  v9 := Tryz.zeroValue9
  t21 := Tryz.underlying21
  a21 := Tryz.isAgg21
  z21 := Tryz.sizeOf21
  v21 := Tryz.zeroValue21
  t46 := Tryz.underlying111
  a46 := Tryz.isAgg111
  z46 := Tryz.sizeOf111
  v46 := Tryz.zeroValue111
  t119 := Tryz.underlying340
  a119 := Tryz.isAgg340
  z119 := Tryz.sizeOf340
  t138 := Tryz.underlying342
  a138 := Tryz.isAgg342
  z138 := Tryz.sizeOf342
  v138 := Tryz.zeroValue342
  t139 := Tryz.underlying343
  a139 := Tryz.isAgg343
  z139 := Tryz.sizeOf343
  v139 := Tryz.zeroValue343
  g3 := by kernel_rfl
  g4 := by kernel_rfl }
open Go.RowKit Go.Lib in
theorem Tryz.utf8_decodeRuneInStringSlow (s : ByteArray) (w : World) (hT : Lib.Utf8Tabs 3 4 w) :
    Calls Tryz.prog 204 #[.string s] w fun e w' => e = .returned (.tuple #[.int .i32 (Lib.decodeGo s).1, .int .i64 (Lib.decodeGo s).2]) ∧ Below w.heap.size w w' := Any.utf8_decodeRuneInStringSlow Tryz.lays260 s w hT
open Go.RowKit Go.Lib in
/-- **unicode/utf8.DecodeRuneInString AT EVERY STRING.** (LAID: no walk: one application.) -/
theorem Tryz.utf8_DecodeRuneInString (s : ByteArray) (w : World) (hT : Lib.Utf8Tabs 3 4 w) :
    Calls Tryz.prog 184 #[.string s] w fun e w' => e = .returned (.tuple #[.int .i32 (Lib.decodeGo s).1, .int .i64 (Lib.decodeGo s).2]) ∧ Below w.heap.size w w' := Any.utf8_DecodeRuneInString Tryz.lays197 s w hT
end Go.Proofs
