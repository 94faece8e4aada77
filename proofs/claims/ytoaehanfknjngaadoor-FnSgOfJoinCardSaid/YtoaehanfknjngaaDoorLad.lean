import Derived.Test.YtoaehanfknjngaaDoorCards
import Derived.Test.YtoaehanfknjngaaDoorTie
import Derived.Test.YtoaehanfknjngaaDoorVs
import Derived.Lib.LaidU8T
import Derived.WalkKit
import Derived.ProofKit
import Derived.OpenShut
import Derived.ChangeOld
import Derived.LaidMore
import Derived.Lay
import Derived.SevenTiedAt
import Derived.Stop.Joined
namespace Go.Proofs.YtoaehanfknjngaaDoor.Lad
open Go.ChangeShapes Go.WideShapes Go.ChangeAt Go.RowKit
set_option linter.unusedVariables false
theorem laidOut : laidOutB Tryd.prog = true := by kernel_rfl
theorem own : ownKnob Tryd.prog.godebug = none := by kernel_rfl
abbrev tabs : List (String × DataW Unit) := [("unicode/utf8.acceptRanges", Rows.laid_unicode_utf8_acceptRanges), ("pub-barouche/pub/dbus.errDoor", Rows.laid_pub_barouche_pub_dbus_errDoor), ("unicode/utf8.first", Rows.laid_unicode_utf8_first)]
set_option maxRecDepth 1000000 in
theorem laid_met (os : Os) (args : Array Value) : laidMetH Tryd.prog tabs ((World.laidAll Tryd.prog os tabs).forCall (fun _ _ => 0) ⟨#[], args, []⟩).memory := by
  rw [MakeChecks.laidMetH_plain _ _ _ (by kernel_rfl)]; exact laidMet_laidAll _ (by kernel_rfl) (by kernel_rfl)
theorem first_is : Rows.laid_unicode_utf8_first = Lib.firstData := by kernel_rfl
theorem accept_is : (Rows.laid_unicode_utf8_acceptRanges : DataW Unit) = Lib.acceptData := by kernel_rfl
theorem tabs_of {W : World} (h : laidMetH Tryd.prog tabs W) : Vs.Tabs W := by
  rw [MakeChecks.laidMetH_plain _ _ _ (by kernel_rfl)] at h
  have h3 := Lib.laidMet.reads h (n := "unicode/utf8.first") (d := Rows.laid_unicode_utf8_first) (.tail _ (.tail _ (.head _)))
  have h4 := Lib.laidMet.reads h (n := "unicode/utf8.acceptRanges") (d := Rows.laid_unicode_utf8_acceptRanges) (.head _)
  rw [first_is] at h3
  rw [accept_is] at h4
  exact utf8Tabs_of_readsT (ρ := Tryd.laysValid_ren) (U8Types.of196 Tryd.laysValid) ⟨by kernel_rfl, by kernel_rfl, by kernel_rfl, by kernel_rfl, by kernel_rfl, by kernel_rfl, by kernel_rfl⟩ h3 h4
end Go.Proofs.YtoaehanfknjngaaDoor.Lad
