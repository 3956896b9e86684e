/- Library contracts laid at this program's numbers: each says what a library function returns and what becomes of memory, under the premises written in it. -/
import Derived.Shelf.Strings.Builder1
import Derived.Shelf.Strings.Builder2
import Derived.Shelf.Small.Bits
import Derived.Shelf.Small.Strs
import Derived.Shelf.LaysM
import Derived.Ground.MnProg
import Derived.Shelf.Bin.LEUint32
import Derived.Shelf.Bin.LEUint64
import Derived.Shelf.Bin.LEPutUint64
import Derived.Shelf.Bin.ReadersZ
import Derived.Ground.SlgnProg
import Derived.Shelf.SlSortCmp.SmallK
import Derived.Shelf.SlSortCmp.InsertionK
import Derived.Shelf.SlicesQ.Equal
import Derived.Shelf.SlicesQ.Reverse
import Derived.Shelf.SlicesQ.IndexFunc
import Derived.Shelf.SlicesE.Clone
import Derived.Ground.SlsfProg
import Derived.Ground.SlgqProg
import Derived.Ground.SlgfProg
import Derived.Ground.NamesProg
import Derived.Test.YtlpddogcnpokfaaGreatDoorProg
namespace Go.Proofs
open Go.Shelf
def Tryz.lays169_ren : Go.Shelf.Ren := ⟨fun | 169 => 167 | n => n, fun | 70 => 297 | 9 => 9 | 0 => 0 | 72 => 299 | 37 => 279 | 127 => 309 | 3 => 3 | 5 => 5 | n => n, fun | n => n⟩
theorem Tryz.lays169 : Go.Proofs.Lays.n169 Tryz.prog Tryz.lays169_ren := {
  mixed := by kernel_rfl
  f169 := Tryz.func167.trans (congrArg some (by kernel_rfl))
  t0 := Tryz.underlying0
  a0 := Tryz.isAgg0
  z0 := Tryz.sizeOf0
  v0 := Tryz.zeroValue0
  t3 := Tryz.underlying3
  a3 := Tryz.isAgg3
  z3 := Tryz.sizeOf3
  v3 := Tryz.zeroValue3
  t9 := Tryz.underlying9
  a9 := Tryz.isAgg9
  z9 := Tryz.sizeOf9
  v9 := Tryz.zeroValue9
  t37 := Tryz.underlying279
  a37 := Tryz.isAgg279
  z37 := Tryz.sizeOf279
  v37 := Tryz.zeroValue279
  t70 := Tryz.underlying297
  a70 := Tryz.isAgg297
  z70 := Tryz.sizeOf297
  v70 := Tryz.zeroValue297
  t72 := Tryz.underlying299
  a72 := Tryz.isAgg299
  z72 := Tryz.sizeOf299
  v72 := Tryz.zeroValue299
  t127 := Tryz.underlying309
  a127 := Tryz.isAgg309
  z127 := Tryz.sizeOf309
  v127 := Tryz.zeroValue309 }
theorem Tryz.Builder_Extra_169 : Builder.Extra Tryz.prog Tryz.lays169_ren := {
  sizeBuilder := by kernel_rfl
  liesBuilder := by kernel_rfl
  t5 := Tryz.underlying5
  a5 := Tryz.isAgg5
  z5 := Tryz.sizeOf5
  v5 := Tryz.zeroValue5
  infoByte := by kernel_rfl
  cellsByte := by kernel_rfl
  sizeByte := by kernel_rfl
  neB5 := by decide }
open Go.RowKit in
/-- (*strings.Builder).String: "String returns the accumulated string.": OF A BUILDER THAT HOLDS AT LEAST ONE BYTE. ✋ THE MODEL FREEZES THOSE BYTES IN THE BUFFER (unsafe.String): a later write INTO them ends the model's run without an answer; a later append BEHIND them goes on. The statement's order of evaluation is drawn: one draw. (LAID: no walk: one application.) -/
theorem Tryz.Builder_String (B b : Nat) (l : List UInt8) (w : World) (h : Lib.IsBuilder 299 5 B b (Lib.byteCells l) w) (h0 : l ≠ []) :
    Calls Tryz.prog 167 #[.pointer (some ⟨b, 0, none⟩)] w fun e w' => e = .returned (.string ⟨l.toArray⟩) ∧ Below B w w' := Any.Builder_String Tryz.lays169 Tryz.Builder_Extra_169 B b l w h h0
open Go.RowKit in
/-- (*strings.Builder).String OF A BUILDER THAT HOLDS NO BYTE: the empty string. (Its buffer is nil, or a row of which it has taken nothing yet; where that row has NO capacity the model lays one new block for unsafe.SliceData's 'some address'.) One draw. (LAID: no walk: one application.) -/
theorem Tryz.Builder_String_empty (B b : Nat) (w : World) (h : Lib.IsBuilder 299 5 B b [] w) (hBw : B ≤ w.heap.size) :
    Calls Tryz.prog 167 #[.pointer (some ⟨b, 0, none⟩)] w fun e w' => e = .returned (.string ⟨#[]⟩) ∧ Below B w w' := Any.Builder_String_empty Tryz.lays169 Tryz.Builder_Extra_169 B b w h hBw
open Go.RowKit in
/-- (*strings.Builder).String: "String returns the accumulated string.": WHATEVER THE BUILDER HOLDS. (LAID: no walk: one application.) -/
theorem Tryz.Builder_String_any (B b : Nat) (l : List UInt8) (w : World) (h : Lib.IsBuilder 299 5 B b (Lib.byteCells l) w) (hBw : B ≤ w.heap.size) :
    Calls Tryz.prog 167 #[.pointer (some ⟨b, 0, none⟩)] w fun e w' => e = .returned (.string ⟨l.toArray⟩) ∧ Below B w w' := Any.Builder_String_any Tryz.lays169 Tryz.Builder_Extra_169 B b l w h hBw
def Tryz.lays241_ren : Go.Shelf.Ren := ⟨fun | 241 => 182 | 277 => 203 | n => n, fun | 70 => 297 | 3 => 3 | 0 => 0 | 72 => 299 | 37 => 279 | 5 => 5 | n => n, fun | n => n⟩
theorem Tryz.lays241 : Go.Proofs.Lays.n241 Tryz.prog Tryz.lays241_ren := {
  mixed := by kernel_rfl
  f241 := Tryz.func182.trans (congrArg some (by kernel_rfl))
  f277 := Tryz.func203.trans (congrArg some (by kernel_rfl))
  t0 := Tryz.underlying0
  a0 := Tryz.isAgg0
  z0 := Tryz.sizeOf0
  v0 := Tryz.zeroValue0
  t3 := Tryz.underlying3
  a3 := Tryz.isAgg3
  z3 := Tryz.sizeOf3
  v3 := Tryz.zeroValue3
  t37 := Tryz.underlying279
  a37 := Tryz.isAgg279
  z37 := Tryz.sizeOf279
  v37 := Tryz.zeroValue279
  t70 := Tryz.underlying297
  a70 := Tryz.isAgg297
  z70 := Tryz.sizeOf297
  v70 := Tryz.zeroValue297
  t72 := Tryz.underlying299
  a72 := Tryz.isAgg299
  z72 := Tryz.sizeOf299
  v72 := Tryz.zeroValue299 }
theorem Tryz.Builder_Extra_241 : Builder.Extra Tryz.prog Tryz.lays241_ren := {
  sizeBuilder := by kernel_rfl
  liesBuilder := by kernel_rfl
  t5 := Tryz.underlying5
  a5 := Tryz.isAgg5
  z5 := Tryz.sizeOf5
  v5 := Tryz.zeroValue5
  infoByte := by kernel_rfl
  cellsByte := by kernel_rfl
  sizeByte := by kernel_rfl
  neB5 := by decide }
open Go.RowKit in
/-- (*strings.Builder).grow (no doc but "grow copies the buffer to a new, larger buffer so that there are at least n bytes of capacity beyond len(b.buf)."): AT A BUILDER WITHOUT A BUFFER: a new row of whatever bytes for its buffer, none of them its own yet. Three draws. (LAID: no walk: one application.) -/
theorem Tryz.Builder_grow_fresh (B b n : Nat) (w : World) (hB : B ≤ b) (hbk : w.heap[b]? = some (.cells #[.pointer (some ⟨b, 0, none⟩), .slice none 0 0] 299 (0, 0))) (hBw : B ≤ w.heap.size) (hn : n ≤ 281474976710656) :
    Calls Tryz.prog 182 #[.pointer (some ⟨b, 0, none⟩), .int .i64 n] w fun e w' => e = .returned (.tuple #[]) ∧ (Lib.BuilderAt 299 5 B b (.pointer (some ⟨b, 0, none⟩)) [] w' ∧ Below B w w') := Any.Builder_grow_fresh Tryz.lays241 Tryz.Builder_Extra_241 B b n w hB hbk hBw hn
def Tryz.lays165_ren : Go.Shelf.Ren := ⟨fun | 165 => 171 | 240 => 181 | 241 => 182 | 276 => 202 | 277 => 203 | n => n, fun | 70 => 297 | 3 => 3 | 0 => 0 | 4 => 4 | 9 => 9 | 20 => 20 | 72 => 299 | 37 => 279 | 164 => 331 | 5 => 5 | n => n, fun | n => n⟩
theorem Tryz.lays165 : Go.Proofs.Lays.n165 Tryz.prog Tryz.lays165_ren := {
  mixed := by kernel_rfl
  f165 := Tryz.func171.trans (congrArg some (by kernel_rfl))
  f240 := Tryz.func181.trans (congrArg some (by kernel_rfl))
  f241 := Tryz.func182.trans (congrArg some (by kernel_rfl))
  f276 := Tryz.func202.trans (congrArg some (by kernel_rfl))
  f277 := Tryz.func203.trans (congrArg some (by kernel_rfl))
  t0 := Tryz.underlying0
  a0 := Tryz.isAgg0
  z0 := Tryz.sizeOf0
  v0 := Tryz.zeroValue0
  t3 := Tryz.underlying3
  a3 := Tryz.isAgg3
  z3 := Tryz.sizeOf3
  v3 := Tryz.zeroValue3
  t4 := Tryz.underlying4
  a4 := Tryz.isAgg4
  z4 := Tryz.sizeOf4
  v4 := Tryz.zeroValue4
  t9 := Tryz.underlying9
  a9 := Tryz.isAgg9
  z9 := Tryz.sizeOf9
  v9 := Tryz.zeroValue9
  t20 := Tryz.underlying20
  a20 := Tryz.isAgg20
  z20 := Tryz.sizeOf20
  v20 := Tryz.zeroValue20
  t37 := Tryz.underlying279
  a37 := Tryz.isAgg279
  z37 := Tryz.sizeOf279
  v37 := Tryz.zeroValue279
  t70 := Tryz.underlying297
  a70 := Tryz.isAgg297
  z70 := Tryz.sizeOf297
  v70 := Tryz.zeroValue297
  t72 := Tryz.underlying299
  a72 := Tryz.isAgg299
  z72 := Tryz.sizeOf299
  v72 := Tryz.zeroValue299
  t164 := Tryz.underlying331
  a164 := Tryz.isAgg331
  z164 := Tryz.sizeOf331
  v164 := Tryz.zeroValue331 }
theorem Tryz.Builder_Extra_165 : Builder.Extra Tryz.prog Tryz.lays165_ren := {
  sizeBuilder := by kernel_rfl
  liesBuilder := by kernel_rfl
  t5 := Tryz.underlying5
  a5 := Tryz.isAgg5
  z5 := Tryz.sizeOf5
  v5 := Tryz.zeroValue5
  infoByte := by kernel_rfl
  cellsByte := by kernel_rfl
  sizeByte := by kernel_rfl
  neB5 := by decide }
open Go.RowKit in
/-- (*strings.Builder).Grow AT A BUILDER THAT HAS NOT BEEN WRITTEN ('var b strings.Builder; b.Grow(n)'): "Grow grows b's capacity, if necessary, to guarantee space for another n bytes.": it holds no byte behind it as before it. (LAID: no walk: one application.) -/
theorem Tryz.Builder_Grow_fresh (B b n : Nat) (w : World) (hB : B ≤ b) (hbk : w.heap[b]? = some (.cells #[.pointer none, .slice none 0 0] 299 (0, 0))) (hBw : B ≤ w.heap.size) (hn : n ≤ 281474976710656) :
    Calls Tryz.prog 171 #[.pointer (some ⟨b, 0, none⟩), .int .i64 n] w fun e w' => e = .returned (.tuple #[]) ∧ (Lib.BuilderAt 299 5 B b (.pointer (some ⟨b, 0, none⟩)) [] w' ∧ Below B w w') := Any.Builder_Grow_fresh Tryz.lays165 Tryz.Builder_Extra_165 B b n w hB hbk hBw hn
def Tryz.lays125_ren : Go.Shelf.Ren := ⟨fun | 125 => 49 | 128 => 82 | 129 => 83 | n => n, fun | 46 => 111 | 3 => 3 | 51 => 190 | 53 => 37 | 4 => 4 | 5 => 5 | 9 => 9 | n => n, fun | n => n⟩
theorem Tryz.lays125 : Go.Proofs.Lays.n125 Tryz.prog Tryz.lays125_ren := {
  mixed := by kernel_rfl
  f125 := Tryz.func49.trans (congrArg some (by kernel_rfl))
  f128 := Tryz.func82.trans (congrArg some (by kernel_rfl))
  f129 := Tryz.func83.trans (congrArg some (by kernel_rfl))
  t3 := Tryz.underlying3
  a3 := Tryz.isAgg3
  z3 := Tryz.sizeOf3
  v3 := Tryz.zeroValue3
  t4 := Tryz.underlying4
  a4 := Tryz.isAgg4
  z4 := Tryz.sizeOf4
  v4 := Tryz.zeroValue4
  t5 := Tryz.underlying5
  a5 := Tryz.isAgg5
  z5 := Tryz.sizeOf5
  v5 := Tryz.zeroValue5
  t9 := Tryz.underlying9
  a9 := Tryz.isAgg9
  z9 := Tryz.sizeOf9
  v9 := Tryz.zeroValue9
  t46 := Tryz.underlying111
  a46 := Tryz.isAgg111
  z46 := Tryz.sizeOf111
  v46 := Tryz.zeroValue111
  t51 := Tryz.underlying190
  a51 := Tryz.isAgg190
  z51 := Tryz.sizeOf190
  v51 := Tryz.zeroValue190
  t53 := Tryz.underlying37
  a53 := Tryz.isAgg37
  z53 := Tryz.sizeOf37
  v53 := Tryz.zeroValue37 }
/-- bits.Len: "Len returns the minimum number of bits required to represent x; the result is 0 for x == 0.": IT RETURNS 'Lib.bitLen x'; the world is as it was. (A uint has 64 bits in the model.) ITS CALLEE bits.Len64 IS MET BY ITS OWN CONTRACT OFF THE SHELF (lay that first). (LAID: no walk: one application.) -/
theorem Tryz.bits_Len (x : Int) (w : World) (h0 : 0 ≤ x) (h1 : x ≤ 18446744073709551615) :
    Calls Tryz.prog 49 #[.int .u64 x] w fun e w' => e = .returned (.int .i64 (Lib.bitLen x.toNat)) ∧ w' = w := Any.bits_Len Tryz.lays125 x w h0 h1
def Tryz.lays213_ren : Go.Shelf.Ren := ⟨fun | 213 => 50 | 265 => 84 | n => n, fun | 9 => 9 | 3 => 3 | n => n, fun | n => n⟩
theorem Tryz.lays213 : Go.Proofs.Lays.n213 Tryz.prog Tryz.lays213_ren := {
  mixed := by kernel_rfl
  f213 := Tryz.func50.trans (congrArg some (by kernel_rfl))
  f265 := Tryz.func84.trans (congrArg some (by kernel_rfl))
  t3 := Tryz.underlying3
  a3 := Tryz.isAgg3
  z3 := Tryz.sizeOf3
  v3 := Tryz.zeroValue3
  t9 := Tryz.underlying9
  a9 := Tryz.isAgg9
  z9 := Tryz.sizeOf9
  v9 := Tryz.zeroValue9 }
open Go.RowKit in
/-- internal/bytealg.CompareString (what strings.Compare calls): IT RETURNS 'Lib.compareBytes a b'; the world is as it was. (LAID: no walk: one application.) -/
theorem Tryz.bytealg_CompareString (a b : ByteArray) (w : World) :
    Calls Tryz.prog 50 #[.string a, .string b] w fun e w' => e = .returned (.int .i64 (Lib.compareBytes a.data.toList b.data.toList)) ∧ w' = w := Any.bytealg_CompareString Tryz.lays213 a b w
def Tryz.lays106_ren : Go.Shelf.Ren := ⟨fun | 106 => 33 | 213 => 50 | 265 => 84 | n => n, fun | 9 => 9 | 3 => 3 | n => n, fun | n => n⟩
theorem Tryz.lays106 : Go.Proofs.Lays.n106 Tryz.prog Tryz.lays106_ren := {
  mixed := by kernel_rfl
  f106 := Tryz.func33.trans (congrArg some (by kernel_rfl))
  f213 := Tryz.func50.trans (congrArg some (by kernel_rfl))
  f265 := Tryz.func84.trans (congrArg some (by kernel_rfl))
  t3 := Tryz.underlying3
  a3 := Tryz.isAgg3
  z3 := Tryz.sizeOf3
  v3 := Tryz.zeroValue3
  t9 := Tryz.underlying9
  a9 := Tryz.isAgg9
  z9 := Tryz.sizeOf9
  v9 := Tryz.zeroValue9 }
open Go.RowKit in
/-- strings.Compare: "Compare returns an integer comparing two strings lexicographically. The result will be 0 if a == b, -1 if a < b, and +1 if a > b.": IT RETURNS 'Lib.compareBytes a b'; the world is as it was. (LAID: no walk: one application.) -/
theorem Tryz.strings_Compare (a b : ByteArray) (w : World) :
    Calls Tryz.prog 33 #[.string a, .string b] w fun e w' => e = .returned (.int .i64 (Lib.compareBytes a.data.toList b.data.toList)) ∧ w' = w := Any.strings_Compare Tryz.lays106 a b w
def Tryz.laysBin30_ren : Go.Shelf.Ren := ⟨fun | 30 => 159 | n => n, fun | 25 => 284 | 22 => 279 | 29 => 190 | 0 => 0 | 5 => 5 | 45 => 111 | n => n, fun | n => n⟩
theorem Tryz.laysBin30 : Go.Proofs.LaysBin.n30 Tryz.prog Tryz.laysBin30_ren := {
  mixed := by kernel_rfl
  f30 := Tryz.func159.trans (congrArg some (by kernel_rfl))
  t0 := Tryz.underlying0
  a0 := Tryz.isAgg0
  z0 := Tryz.sizeOf0
  v0 := Tryz.zeroValue0
  i0 := by kernel_rfl
  t5 := Tryz.underlying5
  a5 := Tryz.isAgg5
  z5 := Tryz.sizeOf5
  v5 := Tryz.zeroValue5
  i5 := by kernel_rfl
  t22 := Tryz.underlying279
  a22 := Tryz.isAgg279
  z22 := Tryz.sizeOf279
  v22 := Tryz.zeroValue279
  i22 := by kernel_rfl
  t25 := Tryz.underlying284
  a25 := Tryz.isAgg284
  z25 := Tryz.sizeOf284
  v25 := Tryz.zeroValue284
  i25 := by kernel_rfl
  t29 := Tryz.underlying190
  a29 := Tryz.isAgg190
  z29 := Tryz.sizeOf190
  v29 := Tryz.zeroValue190
  i29 := by kernel_rfl
  t45 := Tryz.underlying111
  a45 := Tryz.isAgg111
  z45 := Tryz.sizeOf111
  v45 := Tryz.zeroValue111
  i45 := by kernel_rfl }
open Go.RowKit in
/-- binary.LittleEndian.Uint32: "Uint32 returns the uint32 representation of b[0:4].": THE NUMBER THAT THE FIRST 4 BYTES SPELL, the least byte first ('Lib.leNat'). Of what was there nothing has turned (the receiver, an empty struct, is laid in a new block without cells; the statement's order is drawn). (LAID: no walk: one application.) -/
theorem Tryz.binary_LE_Uint32 (g o n c : Nat) (b0 b1 b2 b3 : UInt8) (w : World) (hn : 4 ≤ n) (c0 : w.cell? ⟨g, o, none⟩ = some (.int .u8 b0.toNat)) (c1 : w.cell? ⟨g, o + 1, none⟩ = some (.int .u8 b1.toNat)) (c2 : w.cell? ⟨g, o + 2, none⟩ = some (.int .u8 b2.toNat)) (c3 : w.cell? ⟨g, o + 3, none⟩ = some (.int .u8 b3.toNat)) :
    Calls Tryz.prog 159 #[.agg #[], .slice (some ⟨g, o, none⟩) n c] w fun e w' => e = .returned (.int .u32 (Lib.leNat [b0, b1, b2, b3])) ∧ Below w.heap.size w w' := Any.binary_LE_Uint32 Tryz.laysBin30 g o n c b0 b1 b2 b3 w hn c0 c1 c2 c3
def Tryz.laysBin33_ren : Go.Shelf.Ren := ⟨fun | 33 => 156 | n => n, fun | 25 => 284 | 22 => 279 | 33 => 37 | 0 => 0 | 5 => 5 | 45 => 111 | n => n, fun | n => n⟩
theorem Tryz.laysBin33 : Go.Proofs.LaysBin.n33 Tryz.prog Tryz.laysBin33_ren := {
  mixed := by kernel_rfl
  f33 := Tryz.func156.trans (congrArg some (by kernel_rfl))
  t0 := Tryz.underlying0
  a0 := Tryz.isAgg0
  z0 := Tryz.sizeOf0
  v0 := Tryz.zeroValue0
  i0 := by kernel_rfl
  t5 := Tryz.underlying5
  a5 := Tryz.isAgg5
  z5 := Tryz.sizeOf5
  v5 := Tryz.zeroValue5
  i5 := by kernel_rfl
  t22 := Tryz.underlying279
  a22 := Tryz.isAgg279
  z22 := Tryz.sizeOf279
  v22 := Tryz.zeroValue279
  i22 := by kernel_rfl
  t25 := Tryz.underlying284
  a25 := Tryz.isAgg284
  z25 := Tryz.sizeOf284
  v25 := Tryz.zeroValue284
  i25 := by kernel_rfl
  t33 := Tryz.underlying37
  a33 := Tryz.isAgg37
  z33 := Tryz.sizeOf37
  v33 := Tryz.zeroValue37
  i33 := by kernel_rfl
  t45 := Tryz.underlying111
  a45 := Tryz.isAgg111
  z45 := Tryz.sizeOf111
  v45 := Tryz.zeroValue111
  i45 := by kernel_rfl }
open Go.RowKit in
/-- binary.LittleEndian.Uint64: "Uint64 returns the uint64 representation of b[0:8].": THE NUMBER THAT THE FIRST 8 BYTES SPELL, the least byte first ('Lib.leNat'). Of what was there nothing has turned (the receiver, an empty struct, is laid in a new block without cells; the statement's order is drawn). (LAID: no walk: one application.) -/
theorem Tryz.binary_LE_Uint64 (g o n c : Nat) (b0 b1 b2 b3 b4 b5 b6 b7 : UInt8) (w : World) (hn : 8 ≤ n) (c0 : w.cell? ⟨g, o, none⟩ = some (.int .u8 b0.toNat)) (c1 : w.cell? ⟨g, o + 1, none⟩ = some (.int .u8 b1.toNat)) (c2 : w.cell? ⟨g, o + 2, none⟩ = some (.int .u8 b2.toNat)) (c3 : w.cell? ⟨g, o + 3, none⟩ = some (.int .u8 b3.toNat)) (c4 : w.cell? ⟨g, o + 4, none⟩ = some (.int .u8 b4.toNat)) (c5 : w.cell? ⟨g, o + 5, none⟩ = some (.int .u8 b5.toNat)) (c6 : w.cell? ⟨g, o + 6, none⟩ = some (.int .u8 b6.toNat)) (c7 : w.cell? ⟨g, o + 7, none⟩ = some (.int .u8 b7.toNat)) :
    Calls Tryz.prog 156 #[.agg #[], .slice (some ⟨g, o, none⟩) n c] w fun e w' => e = .returned (.int .u64 (Lib.leNat [b0, b1, b2, b3, b4, b5, b6, b7])) ∧ Below w.heap.size w w' := Any.binary_LE_Uint64 Tryz.laysBin33 g o n c b0 b1 b2 b3 b4 b5 b6 b7 w hn c0 c1 c2 c3 c4 c5 c6 c7
def Tryz.laysBin34_ren : Go.Shelf.Ren := ⟨fun | 34 => 199 | n => n, fun | 25 => 284 | 22 => 279 | 33 => 37 | 0 => 0 | 5 => 5 | 45 => 111 | n => n, fun | n => n⟩
theorem Tryz.laysBin34 : Go.Proofs.LaysBin.n34 Tryz.prog Tryz.laysBin34_ren := {
  mixed := by kernel_rfl
  f34 := Tryz.func199.trans (congrArg some (by kernel_rfl))
  t0 := Tryz.underlying0
  a0 := Tryz.isAgg0
  z0 := Tryz.sizeOf0
  v0 := Tryz.zeroValue0
  i0 := by kernel_rfl
  t5 := Tryz.underlying5
  a5 := Tryz.isAgg5
  z5 := Tryz.sizeOf5
  v5 := Tryz.zeroValue5
  i5 := by kernel_rfl
  t22 := Tryz.underlying279
  a22 := Tryz.isAgg279
  z22 := Tryz.sizeOf279
  v22 := Tryz.zeroValue279
  i22 := by kernel_rfl
  t25 := Tryz.underlying284
  a25 := Tryz.isAgg284
  z25 := Tryz.sizeOf284
  v25 := Tryz.zeroValue284
  i25 := by kernel_rfl
  t33 := Tryz.underlying37
  a33 := Tryz.isAgg37
  z33 := Tryz.sizeOf37
  v33 := Tryz.zeroValue37
  i33 := by kernel_rfl
  t45 := Tryz.underlying111
  a45 := Tryz.isAgg111
  z45 := Tryz.sizeOf111
  v45 := Tryz.zeroValue111
  i45 := by kernel_rfl }
open Go.RowKit in
/-- binary.LittleEndian.PutUint64: "PutUint64 stores v into b[0:8].": v's 8 BYTES, the least first ('Lib.leBytes 8 v'), ARE LAID IN THE SLICE's FIRST 8 CELLS ('World.setCells'); nothing else turns (the receiver, an empty struct, is laid in a new block without cells). (LAID: no walk: one application.) -/
theorem Tryz.binary_LE_PutUint64 (g o n c v : Nat) (hv : v < 18446744073709551616) (x0 x1 x2 x3 x4 x5 x6 x7 : Value) (w : World) (hn : 8 ≤ n) (c0 : w.cell? ⟨g, o, none⟩ = some x0) (c1 : w.cell? ⟨g, o + 1, none⟩ = some x1) (c2 : w.cell? ⟨g, o + 2, none⟩ = some x2) (c3 : w.cell? ⟨g, o + 3, none⟩ = some x3) (c4 : w.cell? ⟨g, o + 4, none⟩ = some x4) (c5 : w.cell? ⟨g, o + 5, none⟩ = some x5) (c6 : w.cell? ⟨g, o + 6, none⟩ = some x6) (c7 : w.cell? ⟨g, o + 7, none⟩ = some x7) (f0 : w.frozen? ⟨g, o, none⟩ = false) (f1 : w.frozen? ⟨g, o + 1, none⟩ = false) (f2 : w.frozen? ⟨g, o + 2, none⟩ = false) (f3 : w.frozen? ⟨g, o + 3, none⟩ = false) (f4 : w.frozen? ⟨g, o + 4, none⟩ = false) (f5 : w.frozen? ⟨g, o + 5, none⟩ = false) (f6 : w.frozen? ⟨g, o + 6, none⟩ = false) (f7 : w.frozen? ⟨g, o + 7, none⟩ = false) :
    Calls Tryz.prog 199 #[.agg #[], .slice (some ⟨g, o, none⟩) n c, .int .u64 v] w fun e w' => e = .returned (.tuple #[]) ∧ w' = (w.alloc (.cells #[] 284)).setCells g o (Lib.byteCells (Lib.leBytes 8 v)) := Any.binary_LE_PutUint64 Tryz.laysBin34 g o n c v hv x0 x1 x2 x3 x4 x5 x6 x7 w hn c0 c1 c2 c3 c4 c5 c6 c7 f0 f1 f2 f3 f4 f5 f6 f7
open Go.RowKit in
/-- binary.LittleEndian.Uint32, ITS PREMISES 'open_ints'' CONCLUSION TO THE LETTER: a slice at WHATEVER address a, the numbers zs that its cells hold: THE NUMBER THAT THE FIRST 4 SPELL ('Lib.leZ'). (LAID: no walk: one application.) -/
theorem Tryz.binary_LE_Uint32_z (a : Addr) (n c : Nat) (zs : List Int) (w : World) (hn : 4 ≤ n) (hl : 4 ≤ zs.length) (hcell : ∀ i, i < zs.length → w.cell? (a.add i) = some (.int .u8 (zs.getD i 0))) (hw : ∀ z ∈ zs, (Lit.int .u8 z).wf = true) :
    Calls Tryz.prog 159 #[.agg #[], .slice (some a) n c] w fun e w' => e = .returned (.int .u32 (Lib.leZ (zs.take 4))) ∧ Below w.heap.size w w' := Any.binary_LE_Uint32_z Tryz.laysBin30 a n c zs w hn hl hcell hw
open Go.RowKit in
/-- binary.LittleEndian.Uint64, ITS PREMISES 'open_ints'' CONCLUSION TO THE LETTER: a slice at WHATEVER address a, the numbers zs that its cells hold: THE NUMBER THAT THE FIRST 8 SPELL ('Lib.leZ'). (LAID: no walk: one application.) -/
theorem Tryz.binary_LE_Uint64_z (a : Addr) (n c : Nat) (zs : List Int) (w : World) (hn : 8 ≤ n) (hl : 8 ≤ zs.length) (hcell : ∀ i, i < zs.length → w.cell? (a.add i) = some (.int .u8 (zs.getD i 0))) (hw : ∀ z ∈ zs, (Lit.int .u8 z).wf = true) :
    Calls Tryz.prog 156 #[.agg #[], .slice (some a) n c] w fun e w' => e = .returned (.int .u64 (Lib.leZ (zs.take 8))) ∧ Below w.heap.size w w' := Any.binary_LE_Uint64_z Tryz.laysBin33 a n c zs w hn hl hcell hw
def Tryz.sl31_ren : Go.Shelf.Ren := ⟨fun | 6 => 31 | 15 => 49 | 14 => 48 | 28 => 82 | 29 => 83 | 20 => 74 | 21 => 75 | 22 => 76 | 23 => 77 | 24 => 78 | 25 => 79 | 26 => 80 | 27 => 81 | 46 => 127 | 47 => 128 | 48 => 129 | 49 => 130 | 50 => 131 | 57 => 149 | n => n, fun | 22 => 36 | 24 => 46 | 25 => 77 | 3 => 3 | 39 => 111 | 0 => 0 | 53 => 190 | 55 => 37 | 4 => 4 | 46 => 184 | 45 => 183 | 50 => 95 | 5 => 5 | 9 => 9 | 66 => 242 | 70 => 245 | 76 => 271 | 77 => 272 | n => n, fun | n => n⟩
theorem Tryz.sl31 : Go.Proofs.SlLaysF0.n6 Tryz.prog Tryz.sl31_ren := {
  mixed := by kernel_rfl
  f6 := ⟨Tryz.f31.name, by decide, Tryz.func31.trans (congrArg some (by kernel_rfl))⟩
  f14 := ⟨Tryz.f48.name, by decide, Tryz.func48.trans (congrArg some (by kernel_rfl))⟩
  f15 := Tryz.func49.trans (congrArg some (by kernel_rfl))
  f20 := ⟨Tryz.f74.name, by decide, Tryz.func74.trans (congrArg some (by kernel_rfl))⟩
  f21 := ⟨Tryz.f75.name, by decide, Tryz.func75.trans (congrArg some (by kernel_rfl))⟩
  f22 := ⟨Tryz.f76.name, by decide, Tryz.func76.trans (congrArg some (by kernel_rfl))⟩
  f23 := ⟨Tryz.f77.name, by decide, Tryz.func77.trans (congrArg some (by kernel_rfl))⟩
  f24 := ⟨Tryz.f78.name, by decide, Tryz.func78.trans (congrArg some (by kernel_rfl))⟩
  f25 := ⟨Tryz.f79.name, by decide, Tryz.func79.trans (congrArg some (by kernel_rfl))⟩
  f26 := ⟨Tryz.f80.name, by decide, Tryz.func80.trans (congrArg some (by kernel_rfl))⟩
  f27 := ⟨Tryz.f81.name, by decide, Tryz.func81.trans (congrArg some (by kernel_rfl))⟩
  f28 := Tryz.func82.trans (congrArg some (by kernel_rfl))
  f29 := Tryz.func83.trans (congrArg some (by kernel_rfl))
  f46 := ⟨Tryz.f127.name, by decide, Tryz.func127.trans (congrArg some (by kernel_rfl))⟩
  f47 := Tryz.func128.trans (congrArg some (by kernel_rfl))
  f48 := Tryz.func129.trans (congrArg some (by kernel_rfl))
  f49 := ⟨Tryz.f130.name, by decide, Tryz.func130.trans (congrArg some (by kernel_rfl))⟩
  f50 := ⟨Tryz.f131.name, by decide, Tryz.func131.trans (congrArg some (by kernel_rfl))⟩
  f57 := ⟨Tryz.f149.name, by decide, Tryz.func149.trans (congrArg some (by kernel_rfl))⟩
  t0 := Tryz.underlying0
  a0 := Tryz.isAgg0
  z0 := Tryz.sizeOf0
  v0 := Tryz.zeroValue0
  t3 := Tryz.underlying3
  a3 := Tryz.isAgg3
  z3 := Tryz.sizeOf3
  v3 := Tryz.zeroValue3
  t4 := Tryz.underlying4
  a4 := Tryz.isAgg4
  z4 := Tryz.sizeOf4
  v4 := Tryz.zeroValue4
  t5 := Tryz.underlying5
  a5 := Tryz.isAgg5
  z5 := Tryz.sizeOf5
  v5 := Tryz.zeroValue5
  t9 := Tryz.underlying9
  a9 := Tryz.isAgg9
  z9 := Tryz.sizeOf9
  v9 := Tryz.zeroValue9
  t22 := Tryz.underlying36
  a22 := Tryz.isAgg36
  z22 := Tryz.sizeOf36
  v22 := Tryz.zeroValue36
  t25 := Tryz.underlying77
  a25 := Tryz.isAgg77
  z25 := Tryz.sizeOf77
  v25 := Tryz.zeroValue77
  t39 := Tryz.underlying111
  a39 := Tryz.isAgg111
  z39 := Tryz.sizeOf111
  v39 := Tryz.zeroValue111
  t45 := Tryz.underlying183
  a45 := Tryz.isAgg183
  z45 := Tryz.sizeOf183
  v45 := Tryz.zeroValue183
  t46 := Tryz.underlying184
  a46 := Tryz.isAgg184
  z46 := Tryz.sizeOf184
  v46 := Tryz.zeroValue184
  t50 := Tryz.underlying95
  a50 := Tryz.isAgg95
  z50 := Tryz.sizeOf95
  v50 := Tryz.zeroValue95
  t53 := Tryz.underlying190
  a53 := Tryz.isAgg190
  z53 := Tryz.sizeOf190
  v53 := Tryz.zeroValue190
  t55 := Tryz.underlying37
  a55 := Tryz.isAgg37
  z55 := Tryz.sizeOf37
  v55 := Tryz.zeroValue37
  t66 := Tryz.underlying242
  a66 := Tryz.isAgg242
  z66 := Tryz.sizeOf242
  v66 := Tryz.zeroValue242
  t70 := Tryz.underlying245
  a70 := Tryz.isAgg245
  z70 := Tryz.sizeOf245
  v70 := Tryz.zeroValue245
  t76 := Tryz.underlying271
  a76 := Tryz.isAgg271
  z76 := Tryz.sizeOf271
  v76 := Tryz.zeroValue271
  t77 := Tryz.underlying272
  a77 := Tryz.isAgg272
  z77 := Tryz.sizeOf272
  v77 := Tryz.zeroValue272 }
def Tryz.sl150_ren : Go.Shelf.Ren := ⟨fun | 20 => 150 | n => n, fun | 24 => 87 | 22 => 78 | 3 => 3 | 25 => 196 | 4 => 4 | 0 => 0 | n => n, fun | n => n⟩
theorem Tryz.sl150 : Go.Proofs.SlLaysF0.n20 Tryz.prog Tryz.sl150_ren := {
  mixed := by kernel_rfl
  f20 := ⟨Tryz.f150.name, by decide, Tryz.func150.trans (congrArg some (by kernel_rfl))⟩
  t0 := Tryz.underlying0
  a0 := Tryz.isAgg0
  z0 := Tryz.sizeOf0
  v0 := Tryz.zeroValue0
  t3 := Tryz.underlying3
  a3 := Tryz.isAgg3
  z3 := Tryz.sizeOf3
  v3 := Tryz.zeroValue3
  t4 := Tryz.underlying4
  a4 := Tryz.isAgg4
  z4 := Tryz.sizeOf4
  v4 := Tryz.zeroValue4
  t22 := Tryz.underlying78
  a22 := Tryz.isAgg78
  z22 := Tryz.sizeOf78
  v22 := Tryz.zeroValue78
  t25 := Tryz.underlying196
  a25 := Tryz.isAgg196
  z25 := Tryz.sizeOf196
  v25 := Tryz.zeroValue196 }
def Tryz.sl20_ren : Go.Shelf.Ren := ⟨fun | 8 => 20 | n => n, fun | 22 => 36 | 24 => 46 | 4 => 4 | 3 => 3 | 0 => 0 | n => n, fun | n => n⟩
theorem Tryz.sl20 : Go.Proofs.SlLaysQ.n8 Tryz.prog Tryz.sl20_ren := {
  mixed := by kernel_rfl
  f8 := ⟨Tryz.f20.name, by decide, Tryz.func20.trans (congrArg some (by kernel_rfl))⟩
  t0 := Tryz.underlying0
  a0 := Tryz.isAgg0
  z0 := Tryz.sizeOf0
  v0 := Tryz.zeroValue0
  t3 := Tryz.underlying3
  a3 := Tryz.isAgg3
  z3 := Tryz.sizeOf3
  v3 := Tryz.zeroValue3
  t4 := Tryz.underlying4
  a4 := Tryz.isAgg4
  z4 := Tryz.sizeOf4
  v4 := Tryz.zeroValue4
  t22 := Tryz.underlying36
  a22 := Tryz.isAgg36
  z22 := Tryz.sizeOf36
  v22 := Tryz.zeroValue36 }
def Tryz.sl12_ren : Go.Shelf.Ren := ⟨fun | 41 => 12 | n => n, fun | 22 => 22 | 23 => 42 | 4 => 4 | n => n, fun | n => n⟩
theorem Tryz.sl12 : Go.Proofs.SlLaysE0.n41 Tryz.prog Tryz.sl12_ren := {
  mixed := by kernel_rfl
  f41 := ⟨Tryz.f12.name, by decide, Tryz.func12.trans (congrArg some (by kernel_rfl))⟩
  t4 := Tryz.underlying4
  a4 := Tryz.isAgg4
  z4 := Tryz.sizeOf4
  v4 := Tryz.zeroValue4
  t22 := Tryz.underlying22
  a22 := Tryz.isAgg22
  z22 := Tryz.sizeOf22
  v22 := Tryz.zeroValue22 }
def Tryz.sl14_ren : Go.Shelf.Ren := ⟨fun | 41 => 14 | n => n, fun | 22 => 36 | 23 => 46 | 4 => 4 | n => n, fun | n => n⟩
theorem Tryz.sl14 : Go.Proofs.SlLaysE0.n41 Tryz.prog Tryz.sl14_ren := {
  mixed := by kernel_rfl
  f41 := ⟨Tryz.f14.name, by decide, Tryz.func14.trans (congrArg some (by kernel_rfl))⟩
  t4 := Tryz.underlying4
  a4 := Tryz.isAgg4
  z4 := Tryz.sizeOf4
  v4 := Tryz.zeroValue4
  t22 := Tryz.underlying36
  a22 := Tryz.isAgg36
  z22 := Tryz.sizeOf36
  v22 := Tryz.zeroValue36 }
def Tryz.sl13_ren : Go.Shelf.Ren := ⟨fun | 35 => 13 | n => n, fun | 22 => 22 | 23 => 42 | 3 => 3 | 4 => 4 | 0 => 0 | n => n, fun | n => n⟩
theorem Tryz.sl13 : Go.Proofs.SlLaysE0.n35 Tryz.prog Tryz.sl13_ren := {
  mixed := by kernel_rfl
  f35 := ⟨Tryz.f13.name, by decide, Tryz.func13.trans (congrArg some (by kernel_rfl))⟩
  t0 := Tryz.underlying0
  a0 := Tryz.isAgg0
  z0 := Tryz.sizeOf0
  v0 := Tryz.zeroValue0
  t3 := Tryz.underlying3
  a3 := Tryz.isAgg3
  z3 := Tryz.sizeOf3
  v3 := Tryz.zeroValue3
  t4 := Tryz.underlying4
  a4 := Tryz.isAgg4
  z4 := Tryz.sizeOf4
  v4 := Tryz.zeroValue4
  t22 := Tryz.underlying22
  a22 := Tryz.isAgg22
  z22 := Tryz.sizeOf22
  v22 := Tryz.zeroValue22 }
def Tryz.sl15_ren : Go.Shelf.Ren := ⟨fun | 35 => 15 | n => n, fun | 22 => 36 | 23 => 46 | 3 => 3 | 4 => 4 | 0 => 0 | n => n, fun | n => n⟩
theorem Tryz.sl15 : Go.Proofs.SlLaysE0.n35 Tryz.prog Tryz.sl15_ren := {
  mixed := by kernel_rfl
  f35 := ⟨Tryz.f15.name, by decide, Tryz.func15.trans (congrArg some (by kernel_rfl))⟩
  t0 := Tryz.underlying0
  a0 := Tryz.isAgg0
  z0 := Tryz.sizeOf0
  v0 := Tryz.zeroValue0
  t3 := Tryz.underlying3
  a3 := Tryz.isAgg3
  z3 := Tryz.sizeOf3
  v3 := Tryz.zeroValue3
  t4 := Tryz.underlying4
  a4 := Tryz.isAgg4
  z4 := Tryz.sizeOf4
  v4 := Tryz.zeroValue4
  t22 := Tryz.underlying36
  a22 := Tryz.isAgg36
  z22 := Tryz.sizeOf36
  v22 := Tryz.zeroValue36 }
def Tryz.sl24_ren : Go.Shelf.Ren := ⟨fun | 6 => 24 | n => n, fun | 22 => 22 | 23 => 42 | 25 => 70 | 3 => 3 | 0 => 0 | 4 => 4 | n => n, fun | n => n⟩
theorem Tryz.sl24 : Go.Proofs.SlLaysH0.n6 Tryz.prog Tryz.sl24_ren := {
  mixed := by kernel_rfl
  f6 := ⟨Tryz.f24.name, by decide, Tryz.func24.trans (congrArg some (by kernel_rfl))⟩
  t0 := Tryz.underlying0
  a0 := Tryz.isAgg0
  z0 := Tryz.sizeOf0
  v0 := Tryz.zeroValue0
  t3 := Tryz.underlying3
  a3 := Tryz.isAgg3
  z3 := Tryz.sizeOf3
  v3 := Tryz.zeroValue3
  t4 := Tryz.underlying4
  a4 := Tryz.isAgg4
  z4 := Tryz.sizeOf4
  v4 := Tryz.zeroValue4
  t22 := Tryz.underlying22
  a22 := Tryz.isAgg22
  z22 := Tryz.sizeOf22
  v22 := Tryz.zeroValue22
  t25 := Tryz.underlying70
  a25 := Tryz.isAgg70
  z25 := Tryz.sizeOf70
  v25 := Tryz.zeroValue70 }
def Tryz.laysB_ren : Go.Shelf.Ren := ⟨fun | 166 => 183 | 167 => 172 | 240 => 181 | 276 => 202 | n => n, fun | 70 => 297 | 3 => 3 | 0 => 0 | 4 => 4 | 9 => 9 | 20 => 20 | 72 => 299 | 37 => 279 | 164 => 331 | 75 => 305 | 80 => 217 | 5 => 5 | n => n, fun | n => n⟩
theorem Tryz.laysB240 : Go.Proofs.Lays.n240 Tryz.prog Tryz.laysB_ren := {
  mixed := by kernel_rfl
  f240 := Tryz.func181.trans (congrArg some (by kernel_rfl))
  f276 := Tryz.func202.trans (congrArg some (by kernel_rfl))
  t0 := Tryz.underlying0
  a0 := Tryz.isAgg0
  z0 := Tryz.sizeOf0
  v0 := Tryz.zeroValue0
  t4 := Tryz.underlying4
  a4 := Tryz.isAgg4
  z4 := Tryz.sizeOf4
  v4 := Tryz.zeroValue4
  t9 := Tryz.underlying9
  a9 := Tryz.isAgg9
  z9 := Tryz.sizeOf9
  v9 := Tryz.zeroValue9
  t20 := Tryz.underlying20
  a20 := Tryz.isAgg20
  z20 := Tryz.sizeOf20
  v20 := Tryz.zeroValue20
  t70 := Tryz.underlying297
  a70 := Tryz.isAgg297
  z70 := Tryz.sizeOf297
  v70 := Tryz.zeroValue297
  t72 := Tryz.underlying299
  a72 := Tryz.isAgg299
  z72 := Tryz.sizeOf299
  v72 := Tryz.zeroValue299
  t164 := Tryz.underlying331
  a164 := Tryz.isAgg331
  z164 := Tryz.sizeOf331
  v164 := Tryz.zeroValue331 }
theorem Tryz.laysB166 : Go.Proofs.Lays.n166 Tryz.prog Tryz.laysB_ren := {
  mixed := by kernel_rfl
  f166 := Tryz.func183.trans (congrArg some (by kernel_rfl))
  f240 := Tryz.func181.trans (congrArg some (by kernel_rfl))
  f276 := Tryz.func202.trans (congrArg some (by kernel_rfl))
  t0 := Tryz.underlying0
  a0 := Tryz.isAgg0
  z0 := Tryz.sizeOf0
  v0 := Tryz.zeroValue0
  t3 := Tryz.underlying3
  a3 := Tryz.isAgg3
  z3 := Tryz.sizeOf3
  v3 := Tryz.zeroValue3
  t4 := Tryz.underlying4
  a4 := Tryz.isAgg4
  z4 := Tryz.sizeOf4
  v4 := Tryz.zeroValue4
  t9 := Tryz.underlying9
  a9 := Tryz.isAgg9
  z9 := Tryz.sizeOf9
  v9 := Tryz.zeroValue9
  t20 := Tryz.underlying20
  a20 := Tryz.isAgg20
  z20 := Tryz.sizeOf20
  v20 := Tryz.zeroValue20
  t37 := Tryz.underlying279
  a37 := Tryz.isAgg279
  z37 := Tryz.sizeOf279
  v37 := Tryz.zeroValue279
  t70 := Tryz.underlying297
  a70 := Tryz.isAgg297
  z70 := Tryz.sizeOf297
  v70 := Tryz.zeroValue297
  t72 := Tryz.underlying299
  a72 := Tryz.isAgg299
  z72 := Tryz.sizeOf299
  v72 := Tryz.zeroValue299
  t75 := Tryz.underlying305
  a75 := Tryz.isAgg305
  z75 := Tryz.sizeOf305
  v75 := Tryz.zeroValue305
  t164 := Tryz.underlying331
  a164 := Tryz.isAgg331
  z164 := Tryz.sizeOf331
  v164 := Tryz.zeroValue331 }
theorem Tryz.laysB167 : Go.Proofs.Lays.n167 Tryz.prog Tryz.laysB_ren := {
  mixed := by kernel_rfl
  f167 := Tryz.func172.trans (congrArg some (by kernel_rfl))
  f240 := Tryz.func181.trans (congrArg some (by kernel_rfl))
  f276 := Tryz.func202.trans (congrArg some (by kernel_rfl))
  t0 := Tryz.underlying0
  a0 := Tryz.isAgg0
  z0 := Tryz.sizeOf0
  v0 := Tryz.zeroValue0
  t4 := Tryz.underlying4
  a4 := Tryz.isAgg4
  z4 := Tryz.sizeOf4
  v4 := Tryz.zeroValue4
  t5 := Tryz.underlying5
  a5 := Tryz.isAgg5
  z5 := Tryz.sizeOf5
  v5 := Tryz.zeroValue5
  t9 := Tryz.underlying9
  a9 := Tryz.isAgg9
  z9 := Tryz.sizeOf9
  v9 := Tryz.zeroValue9
  t20 := Tryz.underlying20
  a20 := Tryz.isAgg20
  z20 := Tryz.sizeOf20
  v20 := Tryz.zeroValue20
  t37 := Tryz.underlying279
  a37 := Tryz.isAgg279
  z37 := Tryz.sizeOf279
  v37 := Tryz.zeroValue279
  t70 := Tryz.underlying297
  a70 := Tryz.isAgg297
  z70 := Tryz.sizeOf297
  v70 := Tryz.zeroValue297
  t72 := Tryz.underlying299
  a72 := Tryz.isAgg299
  z72 := Tryz.sizeOf299
  v72 := Tryz.zeroValue299
  t75 := Tryz.underlying305
  a75 := Tryz.isAgg305
  z75 := Tryz.sizeOf305
  v75 := Tryz.zeroValue305
  t164 := Tryz.underlying331
  a164 := Tryz.isAgg331
  z164 := Tryz.sizeOf331
  v164 := Tryz.zeroValue331 }
theorem Tryz.Builder_ExtraB : Builder.Extra Tryz.prog Tryz.laysB_ren := {
  sizeBuilder := by kernel_rfl
  liesBuilder := by kernel_rfl
  t5 := Tryz.underlying5
  a5 := Tryz.isAgg5
  z5 := Tryz.sizeOf5
  v5 := Tryz.zeroValue5
  infoByte := by kernel_rfl
  cellsByte := by kernel_rfl
  sizeByte := by kernel_rfl
  neB5 := by decide }
open Go.RowKit in
theorem Tryz.Builder_WriteByte (B b : Nat) (bs : List Value) (c : Int) (w : World) (h : Lib.IsBuilder 299 5 B b bs w) (hlen : bs.length + 1 ≤ 140737488355328) (hBw : B ≤ w.heap.size) :
    Calls Tryz.prog 172 #[.pointer (some ⟨b, 0, none⟩), .int .u8 c] w fun e w' => e = .returned .nilIface ∧ (Lib.BuilderAt 299 5 B b (.pointer (some ⟨b, 0, none⟩)) (bs ++ [.int .u8 c]) w' ∧ Below B w w') := Any.Builder_WriteByte Tryz.laysB167 Tryz.Builder_ExtraB B b bs c w h hlen hBw
open Go.RowKit in
theorem Tryz.Builder_WriteString (B b : Nat) (bs : List Value) (s : ByteArray) (w : World) (h : Lib.IsBuilder 299 5 B b bs w) (hlen : bs.length + s.size ≤ 140737488355328) (hBw : B ≤ w.heap.size) :
    Calls Tryz.prog 183 #[.pointer (some ⟨b, 0, none⟩), .string s] w fun e w' => e = .returned (.tuple #[.int .i64 s.size, .nilIface]) ∧ (Lib.BuilderAt 299 5 B b (.pointer (some ⟨b, 0, none⟩)) (bs ++ Lib.strCells s) w' ∧ Below B w w') := Any.Builder_WriteString Tryz.laysB166 Tryz.Builder_ExtraB B b bs s w h hlen hBw
end Go.Proofs
