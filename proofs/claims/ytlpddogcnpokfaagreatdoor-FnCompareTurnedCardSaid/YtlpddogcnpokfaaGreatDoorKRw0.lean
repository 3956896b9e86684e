/- Contracts of functions of the program, for the comparison of aggregations (part KRw0). -/
import Derived.Test.YtlpddogcnpokfaaGreatDoorKOp
import Derived.Test.YtlpddogcnpokfaaGreatDoorKShelf
import Derived.Test.YtlpddogcnpokfaaGreatDoorKShelfU
import Derived.Test.YtlpddogcnpokfaaGreatDoorRows
import Derived.Test.YtlpddogcnpokfaaGreatDoorCards
import Derived.Test.YtlpddogcnpokfaaGreatDoorTie
import Derived.Lib.LaidU8
import Derived.Lay
import Derived.LaidOnce
import Derived.SevenTiedAt
set_option linter.all false
namespace Go.Proofs.YtlpddogcnpokfaaGreatDoor
open Go.RowKit
/-! ### The listed tables -/
open Go.ChangeShapes Go.WideShapes Go.ChangeAt Go.Lib
theorem own : ownKnob Tryz.prog.godebug = none := by kernel_rfl
def laidL : List (String × DataW Unit) := [("math/bits.deBruijn32tab", Rows.laid_math_bits_deBruijn32tab), ("math/bits.deBruijn64tab", Rows.laid_math_bits_deBruijn64tab), ("internal/strconv.optimize", Rows.laid_internal_strconv_optimize), ("internal/strconv.uint64pow10", Rows.laid_internal_strconv_uint64pow10), ("unicode/utf8.acceptRanges", Rows.laid_unicode_utf8_acceptRanges), ("internal/strconv.leftcheats", Rows.laid_internal_strconv_leftcheats), ("internal/strconv.pow10Tab", Rows.laid_internal_strconv_pow10Tab), ("unicode/utf8.first", Rows.laid_unicode_utf8_first)]
set_option maxRecDepth 100000 in
theorem first_eq : Rows.laid_unicode_utf8_first = firstData := by kernel_rfl
set_option maxRecDepth 100000 in
theorem accept_eq : Rows.laid_unicode_utf8_acceptRanges (H := Unit) = acceptData := by kernel_rfl
theorem u8x : U8Extra Tryz.prog Tryz.lays260_ren := ⟨by kernel_rfl, by kernel_rfl, by kernel_rfl, by kernel_rfl, by kernel_rfl, by kernel_rfl, by kernel_rfl⟩
theorem tabs_of {W : World} (h : laidMetH Tryz.prog laidL W) : Lib.Utf8Tabs 3 4 W ∧ 4 < W.heap.size := by
 rw [MakeChecks.laidMetH_plain _ _ _ (by kernel_rfl)] at h
 have h3 := Lib.laidMet.reads h (n := "unicode/utf8.first") (d := Rows.laid_unicode_utf8_first) (by unfold laidL; simp)
 have h4 := Lib.laidMet.reads h (n := "unicode/utf8.acceptRanges") (d := Rows.laid_unicode_utf8_acceptRanges) (by unfold laidL; simp)
 rw [first_eq] at h3
 rw [accept_eq] at h4
 have hT : Lib.Utf8Tabs 3 4 W := utf8Tabs_of_reads Tryz.lays260 u8x h3 h4
 refine ⟨hT, ?_⟩
 have h0 := (hT.2 0 (by decide)).1
 unfold World.cell? at h0
 cases hq : W.heap[4]? with
 | none => simp [hq] at h0
 | some ob => exact (Array.getElem?_eq_some_iff.1 hq).1
theorem laidOut' : laidOutB Tryz.prog = true := by kernel_rfl
end Go.Proofs.YtlpddogcnpokfaaGreatDoor
