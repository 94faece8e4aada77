/-
The library's tables that the rows list, out of what the rows say of them.
-/
import Derived.Test.YthhehbocbhhbbaaDoorCards
import Derived.Test.YthhehbocbhhbbaaDoorTie
import Derived.Test.YthhehbocbhhbbaaDoorGv
import Derived.Lib.LaidPrint
import Derived.Lib.LaidU8
import Derived.Stop.LaidErr
import Derived.WalkKit
import Derived.ProofKit
import Derived.OpenShut
import Derived.ChangeOld
import Derived.LaidMore
import Derived.Lay
import Derived.SevenTiedAt
import Derived.Stop.Joined
namespace Go.Proofs.YthhehbocbhhbbaaDoor.Lae
open Go.ChangeShapes Go.WideShapes Go.ChangeAt Go.RowKit
set_option linter.unusedVariables false
theorem laidOut : laidOutB Tryd.prog = true := by kernel_rfl
theorem own : ownKnob Tryd.prog.godebug = none := by kernel_rfl
abbrev tabs : List (String × DataW Unit) := [("math/bits.deBruijn32tab", Rows.laid_math_bits_deBruijn32tab), ("math/bits.deBruijn64tab", Rows.laid_math_bits_deBruijn64tab), ("internal/strconv.uint64pow10", Rows.laid_internal_strconv_uint64pow10), ("unicode/utf8.acceptRanges", Rows.laid_unicode_utf8_acceptRanges), ("strconv.ErrRange", Rows.laid_strconv_ErrRange), ("strconv.ErrSyntax", Rows.laid_strconv_ErrSyntax), ("bytes.ErrTooLarge", Rows.laid_bytes_ErrTooLarge), ("strconv.isGraphic", Rows.laid_strconv_isGraphic), ("strconv.isNotPrint16", Rows.laid_strconv_isNotPrint16), ("strconv.isNotPrint32", Rows.laid_strconv_isNotPrint32), ("strconv.isPrint16", Rows.laid_strconv_isPrint16), ("strconv.isPrint32", Rows.laid_strconv_isPrint32), ("unicode/utf8.first", Rows.laid_unicode_utf8_first)]
set_option maxRecDepth 1000000 in
theorem laid_met (os : Os) (args : Array Value) : laidMetH Tryd.prog tabs ((World.laidAll Tryd.prog os tabs).forCall (fun _ _ => 0) ⟨#[], args, []⟩).memory := by
  rw [MakeChecks.laidMetH_plain _ _ _ (by kernel_rfl)]; exact laidMet_laidAll _ (by kernel_rfl) (by kernel_rfl)
theorem star : "*" ++ "errors.errorString" = "*errors.errorString" := by decide
theorem row59 (u : TypeId) (h : Tryd.prog.typeName? 3 u = some "*errors.errorString") : u = 59 :=
  typeName_ptr_named (nm := "errors.errorString") (by rw [star]; kernel_rfl) (by kernel_rfl) (by decide) u (by rw [star]; exact h)
theorem first_is : Rows.laid_unicode_utf8_first = Lib.firstData := by kernel_rfl
theorem accept_is : (Rows.laid_unicode_utf8_acceptRanges : DataW Unit) = Lib.acceptData := by kernel_rfl
set_option maxRecDepth 1000000 in
theorem p16_is : (Rows.laid_strconv_isPrint16 : DataW Unit) = Lib.sliceData .u16 Lib.goPrintTabs.p16 := by kernel_rfl
set_option maxRecDepth 1000000 in
theorem n16_is : (Rows.laid_strconv_isNotPrint16 : DataW Unit) = Lib.sliceData .u16 Lib.goPrintTabs.n16 := by kernel_rfl
set_option maxRecDepth 1000000 in
theorem p32_is : (Rows.laid_strconv_isPrint32 : DataW Unit) = Lib.sliceData .u32 Lib.goPrintTabs.p32 := by kernel_rfl
set_option maxRecDepth 1000000 in
theorem n32_is : (Rows.laid_strconv_isNotPrint32 : DataW Unit) = Lib.sliceData .u16 Lib.goPrintTabs.n32 := by kernel_rfl
theorem tabs_of {W : World} (h : laidMetH Tryd.prog tabs W) : Gv.TabsQ W := by
  rw [MakeChecks.laidMetH_plain _ _ _ (by kernel_rfl)] at h
  have h3 := Lib.laidMet.reads h (n := "unicode/utf8.first") (d := Rows.laid_unicode_utf8_first) (.tail _ (.tail _ (.tail _ (.tail _ (.tail _ (.tail _ (.tail _ (.tail _ (.tail _ (.tail _ (.tail _ (.tail _ (.head _)))))))))))))
  have h4 := Lib.laidMet.reads h (n := "unicode/utf8.acceptRanges") (d := Rows.laid_unicode_utf8_acceptRanges) (.tail _ (.tail _ (.tail _ (.head _))))
  have g20 := Lib.laidMet.reads h (n := "strconv.isPrint16") (d := Rows.laid_strconv_isPrint16) (.tail _ (.tail _ (.tail _ (.tail _ (.tail _ (.tail _ (.tail _ (.tail _ (.tail _ (.tail _ (.head _)))))))))))
  have g21 := Lib.laidMet.reads h (n := "strconv.isNotPrint16") (d := Rows.laid_strconv_isNotPrint16) (.tail _ (.tail _ (.tail _ (.tail _ (.tail _ (.tail _ (.tail _ (.tail _ (.head _)))))))))
  have g22 := Lib.laidMet.reads h (n := "strconv.isPrint32") (d := Rows.laid_strconv_isPrint32) (.tail _ (.tail _ (.tail _ (.tail _ (.tail _ (.tail _ (.tail _ (.tail _ (.tail _ (.tail _ (.tail _ (.head _))))))))))))
  have g23 := Lib.laidMet.reads h (n := "strconv.isNotPrint32") (d := Rows.laid_strconv_isNotPrint32) (.tail _ (.tail _ (.tail _ (.tail _ (.tail _ (.tail _ (.tail _ (.tail _ (.tail _ (.head _))))))))))
  rw [first_is] at h3
  rw [accept_is] at h4
  rw [p16_is] at g20
  rw [n16_is] at g21
  rw [p32_is] at g22
  rw [n32_is] at g23
  refine ⟨⟨utf8Tabs_of_reads (ρ := Tryd.lays197_ren) { Tryd.lays197 with } ⟨by kernel_rfl, by kernel_rfl, by kernel_rfl, by kernel_rfl, by kernel_rfl, by kernel_rfl, by kernel_rfl⟩ h3 h4, ?_⟩,
    printTabs_of_reads (ρ := Tryd.lays177_ren) { Tryd.lays177 with } ⟨by kernel_rfl, by kernel_rfl, by kernel_rfl, by kernel_rfl, by kernel_rfl, by kernel_rfl, by kernel_rfl, by kernel_rfl, by kernel_rfl, by kernel_rfl⟩ g20 g21 g22 g23⟩
  obtain ⟨a0, s0, hv0, -, -, -⟩ := laid_sentinel h.tail.tail.tail.tail.tail (show Tryd.prog.globalNamed "strconv.ErrSyntax" = some 8 by kernel_rfl) (by kernel_rfl) Tryd.underlying38 row59 Tryd.underlying59 Tryd.underlying61 rfl rfl Tryd.underlying9 (by kernel_rfl) (by kernel_rfl)
  refine ⟨.iface 59 (.pointer (some a0)), ?_, Or.inr ⟨_, _, rfl⟩⟩
  · have h0 := World.var?_cell (show Tryd.prog.globalNamed "strconv.ErrSyntax" = some 8 by kernel_rfl) hv0 0
    simpa using h0
end Go.Proofs.YthhehbocbhhbbaaDoor.Lae
