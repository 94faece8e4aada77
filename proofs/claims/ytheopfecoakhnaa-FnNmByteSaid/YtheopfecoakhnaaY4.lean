-- Written by a program of this session out of the translation; Lean checks it.
import Derived.Test.YtheopfecoakhnaaY0
import Derived.Test.YtheopfecoakhnaaY1
import Derived.Test.YtheopfecoakhnaaY2
import Derived.Test.YtheopfecoakhnaaY3
namespace Go.Proofs.Ytheopfecoakhnaa.Y
open Go.RowKit Go.Proofs.Ytheopfecoakhnaa.Clo Go.Proofs.Ytheopfecoakhnaa.Ext Go.Proofs.YtheopfecoakhnaaW.PrintWords Go.Proofs.YtheopfecoakhnaaW.PrintLast Go.Proofs.YtheopfecoakhnaaW.PrintMore
attribute [local go_sem] run_makeFunc_ events_makeFunc_ max2_int min2_int max_two min_two max_three min_three max_four min_four   -- for this text's walks alone
set_option linter.unusedVariables false
set_option linter.unusedSimpArgs false

/-! ### laws_FnNmByte: function 5 -/
mutual
def laws_FnNmByte.j0 : Nat → ByteArray → ByteArray → ByteArray → Int → Int → Int → Bool → Option (Bool)
  | 0, _, _, _, _, _, _, _ => none
  | k + 1, x0, x1, x2, x3, x4, x9, x35 => if x35 = true then (some true) else ((spec_ValidMember.f k x0).bind fun t125 => (if t125 = true then ((spec_ValidInterface.f k x1).bind fun t126 => (if t126 = true then (if (x2.size : Int) > 4096 then (laws_FnNmByte.j1 k x0 x1 x2 x3 x4 x9 true) else ((spec_ValidPath.f k x2).bind fun t127 => (if t127 = true then (if x2.toList = ([47] : List UInt8) then (laws_FnNmByte.j1 k x0 x1 x2 x3 x4 x9 true) else (if x9 = 46 then (laws_FnNmByte.j1 k x0 x1 x2 x3 x4 x9 true) else (laws_FnNmByte.j1 k x0 x1 x2 x3 x4 x9 (x9 == 47)))) else (laws_FnNmByte.j1 k x0 x1 x2 x3 x4 x9 true)))) else (laws_FnNmByte.j1 k x0 x1 x2 x3 x4 x9 true))) else (laws_FnNmByte.j1 k x0 x1 x2 x3 x4 x9 true)))
def laws_FnNmByte.j1 : Nat → ByteArray → ByteArray → ByteArray → Int → Int → Int → Bool → Option (Bool)
  | 0, _, _, _, _, _, _, _ => none
  | k + 1, x0, x1, x2, x3, x4, x9, x65 => if x65 = true then (some true) else (if (Go.bits .or .u8 x9 32) ≥ 97 then (if (Go.bits .or .u8 x9 32) ≤ 122 then (laws_FnNmByte.j2 k x0 x1 x2 x3 x4 x9 true) else (laws_FnNmByte.j2 k x0 x1 x2 x3 x4 x9 (x9 == 95))) else (laws_FnNmByte.j2 k x0 x1 x2 x3 x4 x9 (x9 == 95)))
def laws_FnNmByte.j2 : Nat → ByteArray → ByteArray → ByteArray → Int → Int → Int → Bool → Option (Bool)
  | 0, _, _, _, _, _, _, _ => none
  | k + 1, x0, x1, x2, x3, x4, x9, x11 => if x9 ≥ 48 then (laws_FnNmByte.j3 k x0 x1 x2 x3 x4 x11 (decide (x9 ≤ 57))) else (laws_FnNmByte.j3 k x0 x1 x2 x3 x4 x11 false)
def laws_FnNmByte.j3 : Nat → ByteArray → ByteArray → ByteArray → Int → Int → Bool → Bool → Option (Bool)
  | 0, _, _, _, _, _, _, _ => none
  | k + 1, x0, x1, x2, x3, x4, x11, x12 => (laws_FnNmByte_1.f x0 x3 x4).bind fun bt128 => (if bt128.2.2 = true then ((impl_NmMember.f k bt128.1).bind fun t131 => (if x11 = true then (laws_FnNmByte.j4 k x0 x1 x2 x3 x4 x11 x12 (t131 != true)) else (if x12 = true then (laws_FnNmByte.j4 k x0 x1 x2 x3 x4 x11 x12 (t131 != (!bt128.2.1))) else (laws_FnNmByte.j4 k x0 x1 x2 x3 x4 x11 x12 (t131 != false))))) else (laws_FnNmByte.j4 k x0 x1 x2 x3 x4 x11 x12 false))
def laws_FnNmByte.j4 : Nat → ByteArray → ByteArray → ByteArray → Int → Int → Bool → Bool → Bool → Option (Bool)
  | 0, _, _, _, _, _, _, _, _ => none
  | k + 1, x0, x1, x2, x3, x4, x11, x12, x105 => if x105 = true then (some false) else ((laws_FnNmByte_1.f x1 x3 x4).bind fun bt132 => (if bt132.2.2 = true then ((impl_NmInterface.f k bt132.1).bind fun t135 => (if x11 = true then (laws_FnNmByte.j5 k x0 x1 x2 x3 x4 x11 x12 (t135 != true)) else (if x12 = true then (laws_FnNmByte.j5 k x0 x1 x2 x3 x4 x11 x12 (t135 != (!bt132.2.1))) else (laws_FnNmByte.j5 k x0 x1 x2 x3 x4 x11 x12 (t135 != false))))) else (laws_FnNmByte.j5 k x0 x1 x2 x3 x4 x11 x12 false)))
def laws_FnNmByte.j5 : Nat → ByteArray → ByteArray → ByteArray → Int → Int → Bool → Bool → Bool → Option (Bool)
  | 0, _, _, _, _, _, _, _, _ => none
  | k + 1, x0, x1, x2, x3, x4, x11, x12, x126 => if x126 = true then (some false) else ((laws_FnNmByte_1.f x2 x3 x4).bind fun bt136 => (if bt136.2.2 = true then ((impl_NmPath.f k bt136.1).bind fun t139 => (if x11 = true then (laws_FnNmByte.j6 k x0 x1 x2 (t139 != true)) else (laws_FnNmByte.j6 k x0 x1 x2 (t139 != x12)))) else (laws_FnNmByte.j6 k x0 x1 x2 false)))
def laws_FnNmByte.j6 : Nat → ByteArray → ByteArray → ByteArray → Bool → Option (Bool)
  | 0, _, _, _, _ => none
  | k + 1, x0, x1, x2, x143 => if x143 = true then (some false) else ((impl_NmMember.f k x0).bind fun t140 => (if t140 = true then ((impl_NmInterface.f k x1).bind fun t141 => (if t141 = true then ((impl_NmPath.f k x2).bind fun t142 => (some t142)) else (some false))) else (some false)))
end
def laws_FnNmByte.f (k : Nat) (a0 : ByteArray) (a1 : ByteArray) (a2 : ByteArray) (a3 : Int) (a4 : Int) : Option (Bool) := if (a0.size : Int) > 2147483647 then (laws_FnNmByte.j0 k a0 a1 a2 a3 a4 a4 true) else (if (a1.size : Int) > 2147483647 then (laws_FnNmByte.j0 k a0 a1 a2 a3 a4 a4 true) else (laws_FnNmByte.j0 k a0 a1 a2 a3 a4 a4 (decide ((a2.size : Int) > 2147483647))))
theorem laws_FnNmByte.mono_l : ∀ k, (∀ y0 y1 y2 y3 y4 y5 y6, LeO (laws_FnNmByte.j0 k y0 y1 y2 y3 y4 y5 y6) (laws_FnNmByte.j0 (k + 1) y0 y1 y2 y3 y4 y5 y6)) ∧ (∀ y0 y1 y2 y3 y4 y5 y6, LeO (laws_FnNmByte.j1 k y0 y1 y2 y3 y4 y5 y6) (laws_FnNmByte.j1 (k + 1) y0 y1 y2 y3 y4 y5 y6)) ∧ (∀ y0 y1 y2 y3 y4 y5 y6, LeO (laws_FnNmByte.j2 k y0 y1 y2 y3 y4 y5 y6) (laws_FnNmByte.j2 (k + 1) y0 y1 y2 y3 y4 y5 y6)) ∧ (∀ y0 y1 y2 y3 y4 y5 y6, LeO (laws_FnNmByte.j3 k y0 y1 y2 y3 y4 y5 y6) (laws_FnNmByte.j3 (k + 1) y0 y1 y2 y3 y4 y5 y6)) ∧ (∀ y0 y1 y2 y3 y4 y5 y6 y7, LeO (laws_FnNmByte.j4 k y0 y1 y2 y3 y4 y5 y6 y7) (laws_FnNmByte.j4 (k + 1) y0 y1 y2 y3 y4 y5 y6 y7)) ∧ (∀ y0 y1 y2 y3 y4 y5 y6 y7, LeO (laws_FnNmByte.j5 k y0 y1 y2 y3 y4 y5 y6 y7) (laws_FnNmByte.j5 (k + 1) y0 y1 y2 y3 y4 y5 y6 y7)) ∧ (∀ y0 y1 y2 y3, LeO (laws_FnNmByte.j6 k y0 y1 y2 y3) (laws_FnNmByte.j6 (k + 1) y0 y1 y2 y3))
  | 0 => ⟨fun _ _ _ _ _ _ _ r h => by simp [laws_FnNmByte.j0] at h, fun _ _ _ _ _ _ _ r h => by simp [laws_FnNmByte.j1] at h, fun _ _ _ _ _ _ _ r h => by simp [laws_FnNmByte.j2] at h, fun _ _ _ _ _ _ _ r h => by simp [laws_FnNmByte.j3] at h, fun _ _ _ _ _ _ _ _ r h => by simp [laws_FnNmByte.j4] at h, fun _ _ _ _ _ _ _ _ r h => by simp [laws_FnNmByte.j5] at h, fun _ _ _ _ r h => by simp [laws_FnNmByte.j6] at h⟩
  | k + 1 => by
    obtain ⟨ih0, ih1, ih2, ih3, ih4, ih5, ih6⟩ := laws_FnNmByte.mono_l k
    refine ⟨?_, ?_, ?_, ?_, ?_, ?_, ?_⟩
    · intro y0 y1 y2 y3 y4 y5 y6
      unfold laws_FnNmByte.j0
      repeat' first
      | (with_reducible exact ih0 _ _ _ _ _ _ _)
      | (with_reducible exact ih1 _ _ _ _ _ _ _)
      | (with_reducible exact ih2 _ _ _ _ _ _ _)
      | (with_reducible exact ih3 _ _ _ _ _ _ _)
      | (with_reducible exact ih4 _ _ _ _ _ _ _ _)
      | (with_reducible exact ih5 _ _ _ _ _ _ _ _)
      | (with_reducible exact ih6 _ _ _ _)
      | (with_reducible exact impl_NmInterface.mono _ _)
      | (with_reducible exact impl_NmMember.mono _ _)
      | (with_reducible exact impl_NmPath.mono _ _)
      | (with_reducible exact spec_ValidInterface.mono _ _)
      | (with_reducible exact spec_ValidMember.mono _ _)
      | (with_reducible exact spec_ValidPath.mono _ _)
      | (with_reducible exact LeO.refl _)
      | (with_reducible exact LeO.none _)
      | (with_reducible refine LeO.ite ?_ ?_)
      | (with_reducible refine LeO.bind ?_ (fun _ => ?_))
      | exact ih0 _ _ _ _ _ _ _
      | exact ih1 _ _ _ _ _ _ _
      | exact ih2 _ _ _ _ _ _ _
      | exact ih3 _ _ _ _ _ _ _
      | exact ih4 _ _ _ _ _ _ _ _
      | exact ih5 _ _ _ _ _ _ _ _
      | exact ih6 _ _ _ _
      | exact impl_NmInterface.mono _ _
      | exact impl_NmMember.mono _ _
      | exact impl_NmPath.mono _ _
      | exact spec_ValidInterface.mono _ _
      | exact spec_ValidMember.mono _ _
      | exact spec_ValidPath.mono _ _
      | exact LeO.none _
      | refine LeO.ite ?_ ?_
      | refine LeO.bind ?_ (fun _ => ?_)
    · intro y0 y1 y2 y3 y4 y5 y6
      unfold laws_FnNmByte.j1
      repeat' first
      | (with_reducible exact ih0 _ _ _ _ _ _ _)
      | (with_reducible exact ih1 _ _ _ _ _ _ _)
      | (with_reducible exact ih2 _ _ _ _ _ _ _)
      | (with_reducible exact ih3 _ _ _ _ _ _ _)
      | (with_reducible exact ih4 _ _ _ _ _ _ _ _)
      | (with_reducible exact ih5 _ _ _ _ _ _ _ _)
      | (with_reducible exact ih6 _ _ _ _)
      | (with_reducible exact impl_NmInterface.mono _ _)
      | (with_reducible exact impl_NmMember.mono _ _)
      | (with_reducible exact impl_NmPath.mono _ _)
      | (with_reducible exact spec_ValidInterface.mono _ _)
      | (with_reducible exact spec_ValidMember.mono _ _)
      | (with_reducible exact spec_ValidPath.mono _ _)
      | (with_reducible exact LeO.refl _)
      | (with_reducible exact LeO.none _)
      | (with_reducible refine LeO.ite ?_ ?_)
      | (with_reducible refine LeO.bind ?_ (fun _ => ?_))
      | exact ih0 _ _ _ _ _ _ _
      | exact ih1 _ _ _ _ _ _ _
      | exact ih2 _ _ _ _ _ _ _
      | exact ih3 _ _ _ _ _ _ _
      | exact ih4 _ _ _ _ _ _ _ _
      | exact ih5 _ _ _ _ _ _ _ _
      | exact ih6 _ _ _ _
      | exact impl_NmInterface.mono _ _
      | exact impl_NmMember.mono _ _
      | exact impl_NmPath.mono _ _
      | exact spec_ValidInterface.mono _ _
      | exact spec_ValidMember.mono _ _
      | exact spec_ValidPath.mono _ _
      | exact LeO.none _
      | refine LeO.ite ?_ ?_
      | refine LeO.bind ?_ (fun _ => ?_)
    · intro y0 y1 y2 y3 y4 y5 y6
      unfold laws_FnNmByte.j2
      repeat' first
      | (with_reducible exact ih0 _ _ _ _ _ _ _)
      | (with_reducible exact ih1 _ _ _ _ _ _ _)
      | (with_reducible exact ih2 _ _ _ _ _ _ _)
      | (with_reducible exact ih3 _ _ _ _ _ _ _)
      | (with_reducible exact ih4 _ _ _ _ _ _ _ _)
      | (with_reducible exact ih5 _ _ _ _ _ _ _ _)
      | (with_reducible exact ih6 _ _ _ _)
      | (with_reducible exact impl_NmInterface.mono _ _)
      | (with_reducible exact impl_NmMember.mono _ _)
      | (with_reducible exact impl_NmPath.mono _ _)
      | (with_reducible exact spec_ValidInterface.mono _ _)
      | (with_reducible exact spec_ValidMember.mono _ _)
      | (with_reducible exact spec_ValidPath.mono _ _)
      | (with_reducible exact LeO.refl _)
      | (with_reducible exact LeO.none _)
      | (with_reducible refine LeO.ite ?_ ?_)
      | (with_reducible refine LeO.bind ?_ (fun _ => ?_))
      | exact ih0 _ _ _ _ _ _ _
      | exact ih1 _ _ _ _ _ _ _
      | exact ih2 _ _ _ _ _ _ _
      | exact ih3 _ _ _ _ _ _ _
      | exact ih4 _ _ _ _ _ _ _ _
      | exact ih5 _ _ _ _ _ _ _ _
      | exact ih6 _ _ _ _
      | exact impl_NmInterface.mono _ _
      | exact impl_NmMember.mono _ _
      | exact impl_NmPath.mono _ _
      | exact spec_ValidInterface.mono _ _
      | exact spec_ValidMember.mono _ _
      | exact spec_ValidPath.mono _ _
      | exact LeO.none _
      | refine LeO.ite ?_ ?_
      | refine LeO.bind ?_ (fun _ => ?_)
    · intro y0 y1 y2 y3 y4 y5 y6
      unfold laws_FnNmByte.j3
      repeat' first
      | (with_reducible exact ih0 _ _ _ _ _ _ _)
      | (with_reducible exact ih1 _ _ _ _ _ _ _)
      | (with_reducible exact ih2 _ _ _ _ _ _ _)
      | (with_reducible exact ih3 _ _ _ _ _ _ _)
      | (with_reducible exact ih4 _ _ _ _ _ _ _ _)
      | (with_reducible exact ih5 _ _ _ _ _ _ _ _)
      | (with_reducible exact ih6 _ _ _ _)
      | (with_reducible exact impl_NmInterface.mono _ _)
      | (with_reducible exact impl_NmMember.mono _ _)
      | (with_reducible exact impl_NmPath.mono _ _)
      | (with_reducible exact spec_ValidInterface.mono _ _)
      | (with_reducible exact spec_ValidMember.mono _ _)
      | (with_reducible exact spec_ValidPath.mono _ _)
      | (with_reducible exact LeO.refl _)
      | (with_reducible exact LeO.none _)
      | (with_reducible refine LeO.ite ?_ ?_)
      | (with_reducible refine LeO.bind ?_ (fun _ => ?_))
      | exact ih0 _ _ _ _ _ _ _
      | exact ih1 _ _ _ _ _ _ _
      | exact ih2 _ _ _ _ _ _ _
      | exact ih3 _ _ _ _ _ _ _
      | exact ih4 _ _ _ _ _ _ _ _
      | exact ih5 _ _ _ _ _ _ _ _
      | exact ih6 _ _ _ _
      | exact impl_NmInterface.mono _ _
      | exact impl_NmMember.mono _ _
      | exact impl_NmPath.mono _ _
      | exact spec_ValidInterface.mono _ _
      | exact spec_ValidMember.mono _ _
      | exact spec_ValidPath.mono _ _
      | exact LeO.none _
      | refine LeO.ite ?_ ?_
      | refine LeO.bind ?_ (fun _ => ?_)
    · intro y0 y1 y2 y3 y4 y5 y6 y7
      unfold laws_FnNmByte.j4
      repeat' first
      | (with_reducible exact ih0 _ _ _ _ _ _ _)
      | (with_reducible exact ih1 _ _ _ _ _ _ _)
      | (with_reducible exact ih2 _ _ _ _ _ _ _)
      | (with_reducible exact ih3 _ _ _ _ _ _ _)
      | (with_reducible exact ih4 _ _ _ _ _ _ _ _)
      | (with_reducible exact ih5 _ _ _ _ _ _ _ _)
      | (with_reducible exact ih6 _ _ _ _)
      | (with_reducible exact impl_NmInterface.mono _ _)
      | (with_reducible exact impl_NmMember.mono _ _)
      | (with_reducible exact impl_NmPath.mono _ _)
      | (with_reducible exact spec_ValidInterface.mono _ _)
      | (with_reducible exact spec_ValidMember.mono _ _)
      | (with_reducible exact spec_ValidPath.mono _ _)
      | (with_reducible exact LeO.refl _)
      | (with_reducible exact LeO.none _)
      | (with_reducible refine LeO.ite ?_ ?_)
      | (with_reducible refine LeO.bind ?_ (fun _ => ?_))
      | exact ih0 _ _ _ _ _ _ _
      | exact ih1 _ _ _ _ _ _ _
      | exact ih2 _ _ _ _ _ _ _
      | exact ih3 _ _ _ _ _ _ _
      | exact ih4 _ _ _ _ _ _ _ _
      | exact ih5 _ _ _ _ _ _ _ _
      | exact ih6 _ _ _ _
      | exact impl_NmInterface.mono _ _
      | exact impl_NmMember.mono _ _
      | exact impl_NmPath.mono _ _
      | exact spec_ValidInterface.mono _ _
      | exact spec_ValidMember.mono _ _
      | exact spec_ValidPath.mono _ _
      | exact LeO.none _
      | refine LeO.ite ?_ ?_
      | refine LeO.bind ?_ (fun _ => ?_)
    · intro y0 y1 y2 y3 y4 y5 y6 y7
      unfold laws_FnNmByte.j5
      repeat' first
      | (with_reducible exact ih0 _ _ _ _ _ _ _)
      | (with_reducible exact ih1 _ _ _ _ _ _ _)
      | (with_reducible exact ih2 _ _ _ _ _ _ _)
      | (with_reducible exact ih3 _ _ _ _ _ _ _)
      | (with_reducible exact ih4 _ _ _ _ _ _ _ _)
      | (with_reducible exact ih5 _ _ _ _ _ _ _ _)
      | (with_reducible exact ih6 _ _ _ _)
      | (with_reducible exact impl_NmInterface.mono _ _)
      | (with_reducible exact impl_NmMember.mono _ _)
      | (with_reducible exact impl_NmPath.mono _ _)
      | (with_reducible exact spec_ValidInterface.mono _ _)
      | (with_reducible exact spec_ValidMember.mono _ _)
      | (with_reducible exact spec_ValidPath.mono _ _)
      | (with_reducible exact LeO.refl _)
      | (with_reducible exact LeO.none _)
      | (with_reducible refine LeO.ite ?_ ?_)
      | (with_reducible refine LeO.bind ?_ (fun _ => ?_))
      | exact ih0 _ _ _ _ _ _ _
      | exact ih1 _ _ _ _ _ _ _
      | exact ih2 _ _ _ _ _ _ _
      | exact ih3 _ _ _ _ _ _ _
      | exact ih4 _ _ _ _ _ _ _ _
      | exact ih5 _ _ _ _ _ _ _ _
      | exact ih6 _ _ _ _
      | exact impl_NmInterface.mono _ _
      | exact impl_NmMember.mono _ _
      | exact impl_NmPath.mono _ _
      | exact spec_ValidInterface.mono _ _
      | exact spec_ValidMember.mono _ _
      | exact spec_ValidPath.mono _ _
      | exact LeO.none _
      | refine LeO.ite ?_ ?_
      | refine LeO.bind ?_ (fun _ => ?_)
    · intro y0 y1 y2 y3
      unfold laws_FnNmByte.j6
      repeat' first
      | (with_reducible exact ih0 _ _ _ _ _ _ _)
      | (with_reducible exact ih1 _ _ _ _ _ _ _)
      | (with_reducible exact ih2 _ _ _ _ _ _ _)
      | (with_reducible exact ih3 _ _ _ _ _ _ _)
      | (with_reducible exact ih4 _ _ _ _ _ _ _ _)
      | (with_reducible exact ih5 _ _ _ _ _ _ _ _)
      | (with_reducible exact ih6 _ _ _ _)
      | (with_reducible exact impl_NmInterface.mono _ _)
      | (with_reducible exact impl_NmMember.mono _ _)
      | (with_reducible exact impl_NmPath.mono _ _)
      | (with_reducible exact spec_ValidInterface.mono _ _)
      | (with_reducible exact spec_ValidMember.mono _ _)
      | (with_reducible exact spec_ValidPath.mono _ _)
      | (with_reducible exact LeO.refl _)
      | (with_reducible exact LeO.none _)
      | (with_reducible refine LeO.ite ?_ ?_)
      | (with_reducible refine LeO.bind ?_ (fun _ => ?_))
      | exact ih0 _ _ _ _ _ _ _
      | exact ih1 _ _ _ _ _ _ _
      | exact ih2 _ _ _ _ _ _ _
      | exact ih3 _ _ _ _ _ _ _
      | exact ih4 _ _ _ _ _ _ _ _
      | exact ih5 _ _ _ _ _ _ _ _
      | exact ih6 _ _ _ _
      | exact impl_NmInterface.mono _ _
      | exact impl_NmMember.mono _ _
      | exact impl_NmPath.mono _ _
      | exact spec_ValidInterface.mono _ _
      | exact spec_ValidMember.mono _ _
      | exact spec_ValidPath.mono _ _
      | exact LeO.none _
      | refine LeO.ite ?_ ?_
      | refine LeO.bind ?_ (fun _ => ?_)
theorem laws_FnNmByte.mono : ∀ a0 a1 a2 a3 a4 k, LeO (laws_FnNmByte.f k a0 a1 a2 a3 a4) (laws_FnNmByte.f (k + 1) a0 a1 a2 a3 a4) := by
  intro a0 a1 a2 a3 a4 k
  obtain ⟨ih0, ih1, ih2, ih3, ih4, ih5, ih6⟩ := laws_FnNmByte.mono_l k
  unfold laws_FnNmByte.f
  repeat' first
      | (with_reducible exact ih0 _ _ _ _ _ _ _)
      | (with_reducible exact ih1 _ _ _ _ _ _ _)
      | (with_reducible exact ih2 _ _ _ _ _ _ _)
      | (with_reducible exact ih3 _ _ _ _ _ _ _)
      | (with_reducible exact ih4 _ _ _ _ _ _ _ _)
      | (with_reducible exact ih5 _ _ _ _ _ _ _ _)
      | (with_reducible exact ih6 _ _ _ _)
      | (with_reducible exact impl_NmInterface.mono _ _)
      | (with_reducible exact impl_NmMember.mono _ _)
      | (with_reducible exact impl_NmPath.mono _ _)
      | (with_reducible exact spec_ValidInterface.mono _ _)
      | (with_reducible exact spec_ValidMember.mono _ _)
      | (with_reducible exact spec_ValidPath.mono _ _)
      | (with_reducible exact LeO.refl _)
      | (with_reducible exact LeO.none _)
      | (with_reducible refine LeO.ite ?_ ?_)
      | (with_reducible refine LeO.bind ?_ (fun _ => ?_))
      | exact ih0 _ _ _ _ _ _ _
      | exact ih1 _ _ _ _ _ _ _
      | exact ih2 _ _ _ _ _ _ _
      | exact ih3 _ _ _ _ _ _ _
      | exact ih4 _ _ _ _ _ _ _ _
      | exact ih5 _ _ _ _ _ _ _ _
      | exact ih6 _ _ _ _
      | exact impl_NmInterface.mono _ _
      | exact impl_NmMember.mono _ _
      | exact impl_NmPath.mono _ _
      | exact spec_ValidInterface.mono _ _
      | exact spec_ValidMember.mono _ _
      | exact spec_ValidPath.mono _ _
      | exact LeO.none _
      | refine LeO.ite ?_ ?_
      | refine LeO.bind ?_ (fun _ => ?_)
set_option maxHeartbeats 8000000 in
set_option maxRecDepth 100000 in
theorem laws_FnNmByte.calls (k : Nat) (a0 : ByteArray) (a1 : ByteArray) (a2 : ByteArray) (a3 : Int) (a4 : Int) (r : Bool) (w : World) (h : laws_FnNmByte.f k a0 a1 a2 a3 a4 = some r) :
    Calls Try.prog 5 #[.string a0, .string a1, .string a2, .int .u16 a3, .int .u8 a4] w fun e w' => e = .returned (.bool r) ∧ Below w.heap.size w w' := by
  have HB := Aside0.mk (Below.refl w.heap.size w)
  have H : (if (a0.size : Int) > 2147483647 then (laws_FnNmByte.j0 k a0 a1 a2 a3 a4 a4 true) else (if (a1.size : Int) > 2147483647 then (laws_FnNmByte.j0 k a0 a1 a2 a3 a4 a4 true) else (laws_FnNmByte.j0 k a0 a1 a2 a3 a4 a4 (decide ((a2.size : Int) > 2147483647))))) = some r := h
  clear h
  have HC6 := Aside0.mk H
  clear H
  go_enter Try.func5, Try.ntmps5
  go_upto_region 1 with (fail)
  have HB0 : Aside0 (Below w.heap.size w ((w.alloc (Obj.cells #[Value.int IntKind.u16 a3] 26)).alloc (Obj.cells #[Value.int IntKind.u8 a4] 5))) := ⟨below_alloc (below_alloc (Below.refl w.heap.size w) _) _⟩
  have C8_ : Aside0 (((w.alloc (Obj.cells #[Value.int IntKind.u16 a3] 26)).alloc (Obj.cells #[Value.int IntKind.u8 a4] 5)).cell? ⟨w.heap.size, 0, none⟩ = some (.int .u16 a3)) := ⟨by rw [blk_cell (blk_alloc (blk_new w (Obj.cells #[Value.int IntKind.u16 a3] 26)) _) 0]; rfl⟩
  have C9_ : Aside0 (((w.alloc (Obj.cells #[Value.int IntKind.u16 a3] 26)).alloc (Obj.cells #[Value.int IntKind.u8 a4] 5)).cell? ⟨w.heap.size + 1, 0, none⟩ = some (.int .u8 a4)) := ⟨by have := blk_new (w.alloc (Obj.cells #[Value.int IntKind.u16 a3] 26)) (Obj.cells #[Value.int IntKind.u8 a4] 5); rw [show (w.alloc (Obj.cells #[Value.int IntKind.u16 a3] 26)).heap.size = w.heap.size + 1 from by simp] at this; rw [blk_cell this 0]; rfl⟩
  generalize ((w.alloc (Obj.cells #[Value.int IntKind.u16 a3] 26)).alloc (Obj.cells #[Value.int IntKind.u8 a4] 5)) = w2 at HB0 C8_ C9_ ⊢
  clear HB
  have HB := Aside0.mk (Below.refl w2.heap.size w2)
  replace C8_ : Aside0 (∀ W, Below w2.heap.size w2 W → W.cell? ⟨w.heap.size, 0, none⟩ = some (.int .u16 a3)) := ⟨fun W h => pw_cell_below h C8_.out⟩
  replace C9_ : Aside0 (∀ W, Below w2.heap.size w2 W → W.cell? ⟨w.heap.size + 1, 0, none⟩ = some (.int .u8 a4)) := ⟨fun W h => pw_cell_below h C9_.out⟩
  go_cut [35] (fun v35 wc => ∃ (kq : Nat) (x35_5 : Bool), v35 = .bool x35_5 ∧ Aside0 (laws_FnNmByte.j0 kq a0 a1 a2 a3 a4 a4 x35_5 = some r) ∧ Aside0 (kq ≤ k) ∧ Aside0 (Below w2.heap.size w2 wc))
  case first =>
    have H := HC6.out
    clear HC6
    by_cases c7 : (a0.size : Int) > 2147483647
    · rw [if_pos c7] at H
      have c7b0 : decide (2147483647 < (a0.size : Int)) = true := decide_eq_true c7
      have c7b1 : decide (2147483647 < a0.size) = true := decide_eq_true (by omega)
      clear c7
      (first | rw [c7b0] | (simp only [i64_w, i32_w]; rw [c7b0]) | skip)
      have H' := Aside0.mk H
      clear H
      go_wp2
      go_meet
      case rel => exact ⟨_, (true), (by first | rfl | (simp; done) | (simp [*]; done)), H', ⟨by first | omega | exact Nat.le_refl _⟩, ⟨by repeat (first | (with_reducible first | exact HB.out | apply below_alloc | apply pw_below_drewN | apply below_drew1) | exact HB.out)⟩⟩
    · rw [if_neg c7] at H
      have c7b0 : decide (2147483647 < (a0.size : Int)) = false := decide_eq_false c7
      have c7b1 : decide (2147483647 < a0.size) = false := decide_eq_false (by omega)
      clear c7
      (first | rw [c7b0] | (simp only [i64_w, i32_w]; rw [c7b0]) | skip)
      by_cases c8 : (a1.size : Int) > 2147483647
      · rw [if_pos c8] at H
        have c8b0 : decide (2147483647 < (a1.size : Int)) = true := decide_eq_true c8
        have c8b1 : decide (2147483647 < a1.size) = true := decide_eq_true (by omega)
        clear c8
        have H' := Aside0.mk H
        clear H
        go_wp2
        go_meet
        case rel => exact ⟨_, (true), (by first | rfl | (simp; done) | (simp [*]; done)), H', ⟨by first | omega | exact Nat.le_refl _⟩, ⟨by repeat (first | (with_reducible first | exact HB.out | apply below_alloc | apply pw_below_drewN | apply below_drew1) | exact HB.out)⟩⟩
      · rw [if_neg c8] at H
        have c8b0 : decide (2147483647 < (a1.size : Int)) = false := decide_eq_false c8
        have c8b1 : decide (2147483647 < a1.size) = false := decide_eq_false (by omega)
        clear c8
        have H' := Aside0.mk H
        clear H
        go_wp2
        go_meet
        case rel => exact ⟨_, (decide ((a2.size : Int) > 2147483647)), (by first | rfl | (simp; done) | (simp [*]; done)), H', ⟨by first | omega | exact Nat.le_refl _⟩, ⟨by repeat (first | (with_reducible first | exact HB.out | apply below_alloc | apply pw_below_drewN | apply below_drew1) | exact HB.out)⟩⟩
  case rest =>
    clear HC6
    try clear p2
    try clear c5
    try clear c7
    try clear c7b0
    try clear c7b1
    try clear c8
    try clear c8b0
    try clear c8b1
    obtain ⟨kq, x35_5, rfl, HA, HJ5, HB⟩ := hcut
    have hc9_ := C9_.out _ HB.out
    cases kq with
    | zero => exact absurd HA.out (by simp [laws_FnNmByte.j0])
    | succ kj5 =>
      have H := HA.out
      clear HA
      simp only [laws_FnNmByte.j0] at H
      by_cases c9 : x35_5 = true
      · subst c9
        have H1 : (some true) = some r := by rw [if_pos rfl] at H; exact H
        clear H
        have H := H1
        clear H1
        obtain rfl := Option.some.inj H
        go_wp2
        go_ret
        exact ⟨by first | rfl | (simp [errW_none, errW_some] <;> rfl) | (simp [*, errW_none, errW_some] <;> rfl), below_step HB0.out (by repeat (first | (with_reducible first | exact HB.out | apply below_alloc | apply pw_below_drewN | apply below_drew1) | exact HB.out))⟩
      · replace c9 := Bool.eq_false_iff.mpr c9
        subst c9
        have H1 : ((spec_ValidMember.f kj5 a0).bind fun t125 => (if t125 = true then ((spec_ValidInterface.f kj5 a1).bind fun t126 => (if t126 = true then (if (a2.size : Int) > 4096 then (laws_FnNmByte.j1 kj5 a0 a1 a2 a3 a4 a4 true) else ((spec_ValidPath.f kj5 a2).bind fun t127 => (if t127 = true then (if a2.toList = ([47] : List UInt8) then (laws_FnNmByte.j1 kj5 a0 a1 a2 a3 a4 a4 true) else (if a4 = 46 then (laws_FnNmByte.j1 kj5 a0 a1 a2 a3 a4 a4 true) else (laws_FnNmByte.j1 kj5 a0 a1 a2 a3 a4 a4 (a4 == 47)))) else (laws_FnNmByte.j1 kj5 a0 a1 a2 a3 a4 a4 true)))) else (laws_FnNmByte.j1 kj5 a0 a1 a2 a3 a4 a4 true))) else (laws_FnNmByte.j1 kj5 a0 a1 a2 a3 a4 a4 true))) = some r := by rw [if_neg (show ¬ (false = true) by decide)] at H; exact H
        clear H
        have H := H1
        clear H1
        have HC10 := Aside0.mk H
        clear H
        go_upto_region 3 with (fail)
        go_cut [65] (fun v65 wc => ∃ (kq : Nat) (x65_9 : Bool), v65 = .bool x65_9 ∧ Aside0 (laws_FnNmByte.j1 kq a0 a1 a2 a3 a4 a4 x65_9 = some r) ∧ Aside0 (kq ≤ kj5) ∧ Aside0 (Below w2.heap.size w2 wc))
        case first =>
          have H := HC10.out
          clear HC10
          replace H := Option.bind_eq_some_iff.mp H
          obtain ⟨t125, A110, H⟩ := H
          replace H : (if t125 = true then ((spec_ValidInterface.f kj5 a1).bind fun t126 => (if t126 = true then (if (a2.size : Int) > 4096 then (laws_FnNmByte.j1 kj5 a0 a1 a2 a3 a4 a4 true) else ((spec_ValidPath.f kj5 a2).bind fun t127 => (if t127 = true then (if a2.toList = ([47] : List UInt8) then (laws_FnNmByte.j1 kj5 a0 a1 a2 a3 a4 a4 true) else (if a4 = 46 then (laws_FnNmByte.j1 kj5 a0 a1 a2 a3 a4 a4 true) else (laws_FnNmByte.j1 kj5 a0 a1 a2 a3 a4 a4 (a4 == 47)))) else (laws_FnNmByte.j1 kj5 a0 a1 a2 a3 a4 a4 true)))) else (laws_FnNmByte.j1 kj5 a0 a1 a2 a3 a4 a4 true))) else (laws_FnNmByte.j1 kj5 a0 a1 a2 a3 a4 a4 true)) = some r := H
          have A11 := Aside0.mk A110
          clear A110
          by_cases c12 : t125 = true
          · subst c12
            have H1 : ((spec_ValidInterface.f kj5 a1).bind fun t126 => (if t126 = true then (if (a2.size : Int) > 4096 then (laws_FnNmByte.j1 kj5 a0 a1 a2 a3 a4 a4 true) else ((spec_ValidPath.f kj5 a2).bind fun t127 => (if t127 = true then (if a2.toList = ([47] : List UInt8) then (laws_FnNmByte.j1 kj5 a0 a1 a2 a3 a4 a4 true) else (if a4 = 46 then (laws_FnNmByte.j1 kj5 a0 a1 a2 a3 a4 a4 true) else (laws_FnNmByte.j1 kj5 a0 a1 a2 a3 a4 a4 (a4 == 47)))) else (laws_FnNmByte.j1 kj5 a0 a1 a2 a3 a4 a4 true)))) else (laws_FnNmByte.j1 kj5 a0 a1 a2 a3 a4 a4 true))) = some r := by rw [if_pos rfl] at H; exact H
            clear H
            have H := H1
            clear H1
            replace H := Option.bind_eq_some_iff.mp H
            obtain ⟨t126, A130, H⟩ := H
            replace H : (if t126 = true then (if (a2.size : Int) > 4096 then (laws_FnNmByte.j1 kj5 a0 a1 a2 a3 a4 a4 true) else ((spec_ValidPath.f kj5 a2).bind fun t127 => (if t127 = true then (if a2.toList = ([47] : List UInt8) then (laws_FnNmByte.j1 kj5 a0 a1 a2 a3 a4 a4 true) else (if a4 = 46 then (laws_FnNmByte.j1 kj5 a0 a1 a2 a3 a4 a4 true) else (laws_FnNmByte.j1 kj5 a0 a1 a2 a3 a4 a4 (a4 == 47)))) else (laws_FnNmByte.j1 kj5 a0 a1 a2 a3 a4 a4 true)))) else (laws_FnNmByte.j1 kj5 a0 a1 a2 a3 a4 a4 true)) = some r := H
            have A13 := Aside0.mk A130
            clear A130
            by_cases c14 : t126 = true
            · subst c14
              have H1 : (if (a2.size : Int) > 4096 then (laws_FnNmByte.j1 kj5 a0 a1 a2 a3 a4 a4 true) else ((spec_ValidPath.f kj5 a2).bind fun t127 => (if t127 = true then (if a2.toList = ([47] : List UInt8) then (laws_FnNmByte.j1 kj5 a0 a1 a2 a3 a4 a4 true) else (if a4 = 46 then (laws_FnNmByte.j1 kj5 a0 a1 a2 a3 a4 a4 true) else (laws_FnNmByte.j1 kj5 a0 a1 a2 a3 a4 a4 (a4 == 47)))) else (laws_FnNmByte.j1 kj5 a0 a1 a2 a3 a4 a4 true)))) = some r := by rw [if_pos rfl] at H; exact H
              clear H
              have H := H1
              clear H1
              by_cases c15 : (a2.size : Int) > 4096
              · rw [if_pos c15] at H
                have c15b0 : decide (4096 < (a2.size : Int)) = true := decide_eq_true c15
                have c15b1 : decide (4096 < a2.size) = true := decide_eq_true (by omega)
                clear c15
                (first | rw [c15b0] | (simp only [i64_w, i32_w]; rw [c15b0]) | skip)
                have H' := Aside0.mk H
                clear H
                go_wp2_with (first | ((with_reducible refine gate_callee (f := 11) rfl ?_); refine goesL_ (some 37) rfl rfl Try.func11 (by kernel_rfl) rfl #[.string a0] rfl (by (try simp only [List.map_toArray, List.map_cons, List.map_nil]); first | done | rfl | (simp only [List.length_drop, List.length_take]; rfl)) ?_; (with_reducible refine (spec_ValidMember.calls kj5 a0 true _ A11.out).mono ?_); rintro e w16 ⟨rfl, hb⟩; refine ⟨_, rfl, ?_⟩; have n0_ := Aside0.mk (below_step (by repeat (first | (with_reducible first | exact HB.out | apply below_alloc | apply pw_below_drewN | apply below_drew1) | exact HB.out)) hb); clear HB; have HB := n0_; clear n0_; have hc9_ := C9_.out _ HB.out; (try clear hb); (try clear hb2); (try clear hk); (try clear hi)) | (go_at_call 12; (with_reducible refine (spec_ValidInterface.calls kj5 a1 true _ A13.out).mono ?_); rintro e w17 ⟨rfl, hb⟩; have n0_ := Aside0.mk (below_step (by repeat (first | (with_reducible first | exact HB.out | apply below_alloc | apply pw_below_drewN | apply below_drew1) | exact HB.out)) hb); clear HB; have HB := n0_; clear n0_; have hc9_ := C9_.out _ HB.out; (try clear hb); (try clear hb2); (try clear hk); (try clear hi)))
                go_meet
                case rel => exact ⟨_, (true), (by first | rfl | (simp; done) | (simp [*]; done)), H', ⟨by have := HJ5.out; first | omega | exact Nat.le_refl _⟩, ⟨by repeat (first | (with_reducible first | exact HB.out | apply below_alloc | apply pw_below_drewN | apply below_drew1) | exact HB.out)⟩⟩
              · rw [if_neg c15] at H
                have c15b0 : decide (4096 < (a2.size : Int)) = false := decide_eq_false c15
                have c15b1 : decide (4096 < a2.size) = false := decide_eq_false (by omega)
                clear c15
                (first | rw [c15b0] | (simp only [i64_w, i32_w]; rw [c15b0]) | skip)
                replace H := Option.bind_eq_some_iff.mp H
                obtain ⟨t127, A180, H⟩ := H
                replace H : (if t127 = true then (if a2.toList = ([47] : List UInt8) then (laws_FnNmByte.j1 kj5 a0 a1 a2 a3 a4 a4 true) else (if a4 = 46 then (laws_FnNmByte.j1 kj5 a0 a1 a2 a3 a4 a4 true) else (laws_FnNmByte.j1 kj5 a0 a1 a2 a3 a4 a4 (a4 == 47)))) else (laws_FnNmByte.j1 kj5 a0 a1 a2 a3 a4 a4 true)) = some r := H
                have A18 := Aside0.mk A180
                clear A180
                by_cases c19 : t127 = true
                · subst c19
                  have H1 : (if a2.toList = ([47] : List UInt8) then (laws_FnNmByte.j1 kj5 a0 a1 a2 a3 a4 a4 true) else (if a4 = 46 then (laws_FnNmByte.j1 kj5 a0 a1 a2 a3 a4 a4 true) else (laws_FnNmByte.j1 kj5 a0 a1 a2 a3 a4 a4 (a4 == 47)))) = some r := by rw [if_pos rfl] at H; exact H
                  clear H
                  have H := H1
                  clear H1
                  by_cases c20 : a2.toList = ([47] : List UInt8)
                  · rw [if_pos c20] at H
                    have c20b0 : (a2.toList == ([47] : List UInt8)) = true := beq_iff_eq.mpr c20
                    have c20b1 : (a2.toList != ([47] : List UInt8)) = false := bne_eq_false_iff_eq.mpr c20
                    clear c20
                    have H' := Aside0.mk H
                    clear H
                    go_wp2_with (first | ((with_reducible refine gate_callee (f := 11) rfl ?_); refine goesL_ (some 37) rfl rfl Try.func11 (by kernel_rfl) rfl #[.string a0] rfl (by (try simp only [List.map_toArray, List.map_cons, List.map_nil]); first | done | rfl | (simp only [List.length_drop, List.length_take]; rfl)) ?_; (with_reducible refine (spec_ValidMember.calls kj5 a0 true _ A11.out).mono ?_); rintro e w21 ⟨rfl, hb⟩; refine ⟨_, rfl, ?_⟩; have n0_ := Aside0.mk (below_step (by repeat (first | (with_reducible first | exact HB.out | apply below_alloc | apply pw_below_drewN | apply below_drew1) | exact HB.out)) hb); clear HB; have HB := n0_; clear n0_; have hc9_ := C9_.out _ HB.out; (try clear hb); (try clear hb2); (try clear hk); (try clear hi)) | (go_at_call 12; (with_reducible refine (spec_ValidInterface.calls kj5 a1 true _ A13.out).mono ?_); rintro e w22 ⟨rfl, hb⟩; have n0_ := Aside0.mk (below_step (by repeat (first | (with_reducible first | exact HB.out | apply below_alloc | apply pw_below_drewN | apply below_drew1) | exact HB.out)) hb); clear HB; have HB := n0_; clear n0_; have hc9_ := C9_.out _ HB.out; (try clear hb); (try clear hb2); (try clear hk); (try clear hi)) | (go_at_call 6; (with_reducible refine (spec_ValidPath.calls kj5 a2 true _ A18.out).mono ?_); rintro e w' ⟨rfl, ⟨nd, rfl⟩⟩))
                    go_meet
                    case rel => exact ⟨_, (true), (by first | rfl | (simp; done) | (simp [*]; done)), H', ⟨by have := HJ5.out; first | omega | exact Nat.le_refl _⟩, ⟨by repeat (first | (with_reducible first | exact HB.out | apply below_alloc | apply pw_below_drewN | apply below_drew1) | exact HB.out)⟩⟩
                  · rw [if_neg c20] at H
                    have c20b0 : (a2.toList == ([47] : List UInt8)) = false := beq_eq_false_iff_ne.mpr c20
                    have c20b1 : (a2.toList != ([47] : List UInt8)) = true := bne_iff_ne.mpr c20
                    by_cases c23 : a4 = 46
                    · rw [if_pos c23] at H
                      have c23b0 : (a4 == 46) = true := beq_iff_eq.mpr c23
                      have c23b1 : (a4 != 46) = false := bne_eq_false_iff_eq.mpr c23
                      clear c23
                      have H' := Aside0.mk H
                      clear H
                      go_wp2_with (first | ((with_reducible refine gate_callee (f := 11) rfl ?_); refine goesL_ (some 37) rfl rfl Try.func11 (by kernel_rfl) rfl #[.string a0] rfl (by (try simp only [List.map_toArray, List.map_cons, List.map_nil]); first | done | rfl | (simp only [List.length_drop, List.length_take]; rfl)) ?_; (with_reducible refine (spec_ValidMember.calls kj5 a0 true _ A11.out).mono ?_); rintro e w24 ⟨rfl, hb⟩; refine ⟨_, rfl, ?_⟩; have n0_ := Aside0.mk (below_step (by repeat (first | (with_reducible first | exact HB.out | apply below_alloc | apply pw_below_drewN | apply below_drew1) | exact HB.out)) hb); clear HB; have HB := n0_; clear n0_; have hc9_ := C9_.out _ HB.out; (try clear hb); (try clear hb2); (try clear hk); (try clear hi)) | (go_at_call 12; (with_reducible refine (spec_ValidInterface.calls kj5 a1 true _ A13.out).mono ?_); rintro e w25 ⟨rfl, hb⟩; have n0_ := Aside0.mk (below_step (by repeat (first | (with_reducible first | exact HB.out | apply below_alloc | apply pw_below_drewN | apply below_drew1) | exact HB.out)) hb); clear HB; have HB := n0_; clear n0_; have hc9_ := C9_.out _ HB.out; (try clear hb); (try clear hb2); (try clear hk); (try clear hi)) | (go_at_call 6; (with_reducible refine (spec_ValidPath.calls kj5 a2 true _ A18.out).mono ?_); rintro e w' ⟨rfl, ⟨nd, rfl⟩⟩))
                      go_meet
                      case rel => exact ⟨_, (true), (by first | rfl | (simp; done) | (simp [*]; done)), H', ⟨by have := HJ5.out; first | omega | exact Nat.le_refl _⟩, ⟨by repeat (first | (with_reducible first | exact HB.out | apply below_alloc | apply pw_below_drewN | apply below_drew1) | exact HB.out)⟩⟩
                    · rw [if_neg c23] at H
                      have c23b0 : (a4 == 46) = false := beq_eq_false_iff_ne.mpr c23
                      have c23b1 : (a4 != 46) = true := bne_iff_ne.mpr c23
                      have H' := Aside0.mk H
                      clear H
                      go_wp2_with (first | ((with_reducible refine gate_callee (f := 11) rfl ?_); refine goesL_ (some 37) rfl rfl Try.func11 (by kernel_rfl) rfl #[.string a0] rfl (by (try simp only [List.map_toArray, List.map_cons, List.map_nil]); first | done | rfl | (simp only [List.length_drop, List.length_take]; rfl)) ?_; (with_reducible refine (spec_ValidMember.calls kj5 a0 true _ A11.out).mono ?_); rintro e w26 ⟨rfl, hb⟩; refine ⟨_, rfl, ?_⟩; have n0_ := Aside0.mk (below_step (by repeat (first | (with_reducible first | exact HB.out | apply below_alloc | apply pw_below_drewN | apply below_drew1) | exact HB.out)) hb); clear HB; have HB := n0_; clear n0_; have hc9_ := C9_.out _ HB.out; (try clear hb); (try clear hb2); (try clear hk); (try clear hi)) | (go_at_call 12; (with_reducible refine (spec_ValidInterface.calls kj5 a1 true _ A13.out).mono ?_); rintro e w27 ⟨rfl, hb⟩; have n0_ := Aside0.mk (below_step (by repeat (first | (with_reducible first | exact HB.out | apply below_alloc | apply pw_below_drewN | apply below_drew1) | exact HB.out)) hb); clear HB; have HB := n0_; clear n0_; have hc9_ := C9_.out _ HB.out; (try clear hb); (try clear hb2); (try clear hk); (try clear hi)) | (go_at_call 6; (with_reducible refine (spec_ValidPath.calls kj5 a2 true _ A18.out).mono ?_); rintro e w' ⟨rfl, ⟨nd, rfl⟩⟩))
                      go_meet
                      case rel => exact ⟨_, ((a4 == 47)), (by first | rfl | (simp; done) | (simp [*]; done)), H', ⟨by have := HJ5.out; first | omega | exact Nat.le_refl _⟩, ⟨by repeat (first | (with_reducible first | exact HB.out | apply below_alloc | apply pw_below_drewN | apply below_drew1) | exact HB.out)⟩⟩
                · replace c19 := Bool.eq_false_iff.mpr c19
                  subst c19
                  have H1 : (laws_FnNmByte.j1 kj5 a0 a1 a2 a3 a4 a4 true) = some r := by rw [if_neg (show ¬ (false = true) by decide)] at H; exact H
                  clear H
                  have H := H1
                  clear H1
                  have H' := Aside0.mk H
                  clear H
                  go_wp2_with (first | ((with_reducible refine gate_callee (f := 11) rfl ?_); refine goesL_ (some 37) rfl rfl Try.func11 (by kernel_rfl) rfl #[.string a0] rfl (by (try simp only [List.map_toArray, List.map_cons, List.map_nil]); first | done | rfl | (simp only [List.length_drop, List.length_take]; rfl)) ?_; (with_reducible refine (spec_ValidMember.calls kj5 a0 true _ A11.out).mono ?_); rintro e w28 ⟨rfl, hb⟩; refine ⟨_, rfl, ?_⟩; have n0_ := Aside0.mk (below_step (by repeat (first | (with_reducible first | exact HB.out | apply below_alloc | apply pw_below_drewN | apply below_drew1) | exact HB.out)) hb); clear HB; have HB := n0_; clear n0_; have hc9_ := C9_.out _ HB.out; (try clear hb); (try clear hb2); (try clear hk); (try clear hi)) | (go_at_call 12; (with_reducible refine (spec_ValidInterface.calls kj5 a1 true _ A13.out).mono ?_); rintro e w29 ⟨rfl, hb⟩; have n0_ := Aside0.mk (below_step (by repeat (first | (with_reducible first | exact HB.out | apply below_alloc | apply pw_below_drewN | apply below_drew1) | exact HB.out)) hb); clear HB; have HB := n0_; clear n0_; have hc9_ := C9_.out _ HB.out; (try clear hb); (try clear hb2); (try clear hk); (try clear hi)) | (go_at_call 6; (with_reducible refine (spec_ValidPath.calls kj5 a2 false _ A18.out).mono ?_); rintro e w' ⟨rfl, ⟨nd, rfl⟩⟩))
                  go_meet
                  case rel => exact ⟨_, (true), (by first | rfl | (simp; done) | (simp [*]; done)), H', ⟨by have := HJ5.out; first | omega | exact Nat.le_refl _⟩, ⟨by repeat (first | (with_reducible first | exact HB.out | apply below_alloc | apply pw_below_drewN | apply below_drew1) | exact HB.out)⟩⟩
            · replace c14 := Bool.eq_false_iff.mpr c14
              subst c14
              have H1 : (laws_FnNmByte.j1 kj5 a0 a1 a2 a3 a4 a4 true) = some r := by rw [if_neg (show ¬ (false = true) by decide)] at H; exact H
              clear H
              have H := H1
              clear H1
              have H' := Aside0.mk H
              clear H
              go_wp2_with (first | ((with_reducible refine gate_callee (f := 11) rfl ?_); refine goesL_ (some 37) rfl rfl Try.func11 (by kernel_rfl) rfl #[.string a0] rfl (by (try simp only [List.map_toArray, List.map_cons, List.map_nil]); first | done | rfl | (simp only [List.length_drop, List.length_take]; rfl)) ?_; (with_reducible refine (spec_ValidMember.calls kj5 a0 true _ A11.out).mono ?_); rintro e w30 ⟨rfl, hb⟩; refine ⟨_, rfl, ?_⟩; have n0_ := Aside0.mk (below_step (by repeat (first | (with_reducible first | exact HB.out | apply below_alloc | apply pw_below_drewN | apply below_drew1) | exact HB.out)) hb); clear HB; have HB := n0_; clear n0_; have hc9_ := C9_.out _ HB.out; (try clear hb); (try clear hb2); (try clear hk); (try clear hi)) | (go_at_call 12; (with_reducible refine (spec_ValidInterface.calls kj5 a1 false _ A13.out).mono ?_); rintro e w31 ⟨rfl, hb⟩; have n0_ := Aside0.mk (below_step (by repeat (first | (with_reducible first | exact HB.out | apply below_alloc | apply pw_below_drewN | apply below_drew1) | exact HB.out)) hb); clear HB; have HB := n0_; clear n0_; have hc9_ := C9_.out _ HB.out; (try clear hb); (try clear hb2); (try clear hk); (try clear hi)))
              go_meet
              case rel => exact ⟨_, (true), (by first | rfl | (simp; done) | (simp [*]; done)), H', ⟨by have := HJ5.out; first | omega | exact Nat.le_refl _⟩, ⟨by repeat (first | (with_reducible first | exact HB.out | apply below_alloc | apply pw_below_drewN | apply below_drew1) | exact HB.out)⟩⟩
          · replace c12 := Bool.eq_false_iff.mpr c12
            subst c12
            have H1 : (laws_FnNmByte.j1 kj5 a0 a1 a2 a3 a4 a4 true) = some r := by rw [if_neg (show ¬ (false = true) by decide)] at H; exact H
            clear H
            have H := H1
            clear H1
            have H' := Aside0.mk H
            clear H
            go_wp2_with (first | ((with_reducible refine gate_callee (f := 11) rfl ?_); refine goesL_ (some 37) rfl rfl Try.func11 (by kernel_rfl) rfl #[.string a0] rfl (by (try simp only [List.map_toArray, List.map_cons, List.map_nil]); first | done | rfl | (simp only [List.length_drop, List.length_take]; rfl)) ?_; (with_reducible refine (spec_ValidMember.calls kj5 a0 false _ A11.out).mono ?_); rintro e w32 ⟨rfl, hb⟩; refine ⟨_, rfl, ?_⟩; have n0_ := Aside0.mk (below_step (by repeat (first | (with_reducible first | exact HB.out | apply below_alloc | apply pw_below_drewN | apply below_drew1) | exact HB.out)) hb); clear HB; have HB := n0_; clear n0_; have hc9_ := C9_.out _ HB.out; (try clear hb); (try clear hb2); (try clear hk); (try clear hi)))
            go_meet
            case rel => exact ⟨_, (true), (by first | rfl | (simp; done) | (simp [*]; done)), H', ⟨by have := HJ5.out; first | omega | exact Nat.le_refl _⟩, ⟨by repeat (first | (with_reducible first | exact HB.out | apply below_alloc | apply pw_below_drewN | apply below_drew1) | exact HB.out)⟩⟩
        case rest =>
          clear HC10
          try clear c1
          try clear c2
          try clear p2
          try clear c5
          try clear c7
          try clear c7b0
          try clear c7b1
          try clear c8
          try clear c8b0
          try clear c8b1
          try clear c9
          try clear c11
          try clear c12
          try clear c14
          try clear c15
          try clear c15b0
          try clear c15b1
          try clear c19
          try clear c20
          try clear c20b0
          try clear c20b1
          try clear c23
          try clear c23b0
          try clear c23b1
          try clear p2
          obtain ⟨kq, x65_9, rfl, HA, HJ9, HB⟩ := hcut
          have hc9_ := C9_.out _ HB.out
          cases kq with
          | zero => exact absurd HA.out (by simp [laws_FnNmByte.j1])
          | succ kj9 =>
            have H := HA.out
            clear HA
            simp only [laws_FnNmByte.j1] at H
            by_cases c33 : x65_9 = true
            · subst c33
              have H1 : (some true) = some r := by rw [if_pos rfl] at H; exact H
              clear H
              have H := H1
              clear H1
              obtain rfl := Option.some.inj H
              go_wp2
              go_ret
              exact ⟨by first | rfl | (simp [errW_none, errW_some] <;> rfl) | (simp [*, errW_none, errW_some] <;> rfl), below_step HB0.out (by repeat (first | (with_reducible first | exact HB.out | apply below_alloc | apply pw_below_drewN | apply below_drew1) | exact HB.out))⟩
            · replace c33 := Bool.eq_false_iff.mpr c33
              subst c33
              have H1 : (if (Go.bits .or .u8 a4 32) ≥ 97 then (if (Go.bits .or .u8 a4 32) ≤ 122 then (laws_FnNmByte.j2 kj9 a0 a1 a2 a3 a4 a4 true) else (laws_FnNmByte.j2 kj9 a0 a1 a2 a3 a4 a4 (a4 == 95))) else (laws_FnNmByte.j2 kj9 a0 a1 a2 a3 a4 a4 (a4 == 95))) = some r := by rw [if_neg (show ¬ (false = true) by decide)] at H; exact H
              clear H
              have H := H1
              clear H1
              have HC34 := Aside0.mk H
              clear H
              go_upto_region 5 with (fail)
              go_cut [11] (fun v11 wc => ∃ (kq : Nat) (x11_33 : Bool), v11 = .bool x11_33 ∧ Aside0 (laws_FnNmByte.j2 kq a0 a1 a2 a3 a4 a4 x11_33 = some r) ∧ Aside0 (kq ≤ kj9) ∧ Aside0 (Below w2.heap.size w2 wc))
              case first =>
                have H := HC34.out
                clear HC34
                by_cases c35 : (Go.bits .or .u8 a4 32) ≥ 97
                · rw [if_pos c35] at H
                  have c35b0 : decide (97 ≤ (Go.bits .or .u8 a4 32)) = true := decide_eq_true c35
                  clear c35
                  (first | rw [c35b0] | (simp only [i64_w, i32_w]; rw [c35b0]) | skip)
                  by_cases c36 : (Go.bits .or .u8 a4 32) ≤ 122
                  · rw [if_pos c36] at H
                    have c36b0 : decide ((Go.bits .or .u8 a4 32) ≤ 122) = true := decide_eq_true c36
                    clear c36
                    have H' := Aside0.mk H
                    clear H
                    go_wp2
                    go_meet
                    case rel => exact ⟨_, (true), (by first | rfl | (simp; done) | (simp [*]; done)), H', ⟨by have := HJ5.out; have := HJ9.out; first | omega | exact Nat.le_refl _⟩, ⟨by repeat (first | (with_reducible first | exact HB.out | apply below_alloc | apply pw_below_drewN | apply below_drew1) | exact HB.out)⟩⟩
                  · rw [if_neg c36] at H
                    have c36b0 : decide ((Go.bits .or .u8 a4 32) ≤ 122) = false := decide_eq_false c36
                    clear c36
                    have H' := Aside0.mk H
                    clear H
                    go_wp2
                    go_meet
                    case rel => exact ⟨_, ((a4 == 95)), (by first | rfl | (simp; done) | (simp [*]; done)), H', ⟨by have := HJ5.out; have := HJ9.out; first | omega | exact Nat.le_refl _⟩, ⟨by repeat (first | (with_reducible first | exact HB.out | apply below_alloc | apply pw_below_drewN | apply below_drew1) | exact HB.out)⟩⟩
                · rw [if_neg c35] at H
                  have c35b0 : decide (97 ≤ (Go.bits .or .u8 a4 32)) = false := decide_eq_false c35
                  clear c35
                  (first | rw [c35b0] | (simp only [i64_w, i32_w]; rw [c35b0]) | skip)
                  have H' := Aside0.mk H
                  clear H
                  go_wp2
                  go_meet
                  case rel => exact ⟨_, ((a4 == 95)), (by first | rfl | (simp; done) | (simp [*]; done)), H', ⟨by have := HJ5.out; have := HJ9.out; first | omega | exact Nat.le_refl _⟩, ⟨by repeat (first | (with_reducible first | exact HB.out | apply below_alloc | apply pw_below_drewN | apply below_drew1) | exact HB.out)⟩⟩
              case rest =>
                clear HC34
                try clear c1
                try clear c2
                try clear p2
                try clear c3
                try clear c5
                try clear c7
                try clear c7b0
                try clear c7b1
                try clear c8
                try clear c8b0
                try clear c8b1
                try clear c9
                try clear c11
                try clear c12
                try clear c14
                try clear c15
                try clear c15b0
                try clear c15b1
                try clear c19
                try clear c20
                try clear c20b0
                try clear c20b1
                try clear c23
                try clear c23b0
                try clear c23b1
                try clear c33
                try clear c35
                try clear c35b0
                try clear c36
                try clear c36b0
                try clear p2
                obtain ⟨kq, x11_33, rfl, HA, HJ33, HB⟩ := hcut
                have hc9_ := C9_.out _ HB.out
                cases kq with
                | zero => exact absurd HA.out (by simp [laws_FnNmByte.j2])
                | succ kj33 =>
                  have H := HA.out
                  clear HA
                  simp only [laws_FnNmByte.j2] at H
                  have HC37 := Aside0.mk H
                  clear H
                  go_upto_region 6 with (fail)
                  go_cut [12] (fun v12 wc => ∃ (kq : Nat) (x12_36 : Bool), v12 = .bool x12_36 ∧ Aside0 (laws_FnNmByte.j3 kq a0 a1 a2 a3 a4 x11_33 x12_36 = some r) ∧ Aside0 (kq ≤ kj33) ∧ Aside0 (Below w2.heap.size w2 wc))
                  case first =>
                    have H := HC37.out
                    clear HC37
                    by_cases c38 : a4 ≥ 48
                    · rw [if_pos c38] at H
                      have c38b0 : decide (48 ≤ a4) = true := decide_eq_true c38
                      clear c38
                      (first | rw [c38b0] | (simp only [i64_w, i32_w]; rw [c38b0]) | skip)
                      have H' := Aside0.mk H
                      clear H
                      go_wp2
                      go_meet
                      case rel => exact ⟨_, (decide (a4 ≤ 57)), (by first | rfl | (simp; done) | (simp [*]; done)), H', ⟨by have := HJ5.out; have := HJ9.out; have := HJ33.out; first | omega | exact Nat.le_refl _⟩, ⟨by repeat (first | (with_reducible first | exact HB.out | apply below_alloc | apply pw_below_drewN | apply below_drew1) | exact HB.out)⟩⟩
                    · rw [if_neg c38] at H
                      have c38b0 : decide (48 ≤ a4) = false := decide_eq_false c38
                      clear c38
                      (first | rw [c38b0] | (simp only [i64_w, i32_w]; rw [c38b0]) | skip)
                      have H' := Aside0.mk H
                      clear H
                      go_wp2
                      go_meet
                      case rel => exact ⟨_, (false), (by first | rfl | (simp; done) | (simp [*]; done)), H', ⟨by have := HJ5.out; have := HJ9.out; have := HJ33.out; first | omega | exact Nat.le_refl _⟩, ⟨by repeat (first | (with_reducible first | exact HB.out | apply below_alloc | apply pw_below_drewN | apply below_drew1) | exact HB.out)⟩⟩
                  case rest =>
                    clear HC37
                    try clear c1
                    try clear c2
                    try clear p2
                    try clear c3
                    try clear c5
                    try clear c7
                    try clear c7b0
                    try clear c7b1
                    try clear c8
                    try clear c8b0
                    try clear c8b1
                    try clear c9
                    try clear c11
                    try clear c12
                    try clear c14
                    try clear c15
                    try clear c15b0
                    try clear c15b1
                    try clear c19
                    try clear c20
                    try clear c20b0
                    try clear c20b1
                    try clear c23
                    try clear c23b0
                    try clear c23b1
                    try clear c33
                    try clear c35
                    try clear c35b0
                    try clear c36
                    try clear c36b0
                    try clear c38
                    try clear c38b0
                    try clear p2
                    obtain ⟨kq, x12_36, rfl, HA, HJ36, HB⟩ := hcut
                    have hc9_ := C9_.out _ HB.out
                    cases kq with
                    | zero => exact absurd HA.out (by simp [laws_FnNmByte.j3])
                    | succ kj36 =>
                      have H := HA.out
                      clear HA
                      simp only [laws_FnNmByte.j3] at H
                      replace H := Option.bind_eq_some_iff.mp H
                      obtain ⟨⟨t128, t129, t130⟩, A390, H⟩ := H
                      replace H : (if t130 = true then ((impl_NmMember.f kj36 t128).bind fun t131 => (if x11_33 = true then (laws_FnNmByte.j4 kj36 a0 a1 a2 a3 a4 x11_33 x12_36 (t131 != true)) else (if x12_36 = true then (laws_FnNmByte.j4 kj36 a0 a1 a2 a3 a4 x11_33 x12_36 (t131 != (!t129))) else (laws_FnNmByte.j4 kj36 a0 a1 a2 a3 a4 x11_33 x12_36 (t131 != false))))) else (laws_FnNmByte.j4 kj36 a0 a1 a2 a3 a4 x11_33 x12_36 false)) = some r := H
                      have A39 := Aside0.mk A390
                      clear A390
                      have HC40 := Aside0.mk H
                      clear H
                      go_upto_region 9 with (first | (go_at_call 13; (with_reducible refine (laws_FnNmByte_1.calls a0 a3 a4 t128 t129 t130 _ _ _ (C8_.out _ (by repeat (first | (with_reducible first | exact HB.out | apply below_alloc | apply pw_below_drewN | apply below_drew1) | exact HB.out))) (C9_.out _ (by repeat (first | (with_reducible first | exact HB.out | apply below_alloc | apply pw_below_drewN | apply below_drew1) | exact HB.out))) A39.out).mono ?_); rintro e w41 ⟨rfl, hb⟩; have n0_ := Aside0.mk (below_step (by repeat (first | (with_reducible first | exact HB.out | apply below_alloc | apply pw_below_drewN | apply below_drew1) | exact HB.out)) hb); clear HB; have HB := n0_; clear n0_; have hc9_ := C9_.out _ HB.out; (try clear hb); (try clear hb2); (try clear hk); (try clear hi)))
                      (try simp only [Act.put, List.setIfInBounds_toArray, List.set_cons_zero, List.set_cons_succ])
                      go_cut [105] (fun v105 wc => ∃ (kq : Nat) (x105_39 : Bool), v105 = .bool x105_39 ∧ Aside0 (laws_FnNmByte.j4 kq a0 a1 a2 a3 a4 x11_33 x12_36 x105_39 = some r) ∧ Aside0 (kq ≤ kj36) ∧ Aside0 (Below w2.heap.size w2 wc))
                      case first =>
                        have H := HC40.out
                        clear HC40
                        by_cases c42 : t130 = true
                        · subst c42
                          have H1 : ((impl_NmMember.f kj36 t128).bind fun t131 => (if x11_33 = true then (laws_FnNmByte.j4 kj36 a0 a1 a2 a3 a4 x11_33 x12_36 (t131 != true)) else (if x12_36 = true then (laws_FnNmByte.j4 kj36 a0 a1 a2 a3 a4 x11_33 x12_36 (t131 != (!t129))) else (laws_FnNmByte.j4 kj36 a0 a1 a2 a3 a4 x11_33 x12_36 (t131 != false))))) = some r := by rw [if_pos rfl] at H; exact H
                          clear H
                          have H := H1
                          clear H1
                          replace H := Option.bind_eq_some_iff.mp H
                          obtain ⟨t131, A430, H⟩ := H
                          replace H : (if x11_33 = true then (laws_FnNmByte.j4 kj36 a0 a1 a2 a3 a4 x11_33 x12_36 (t131 != true)) else (if x12_36 = true then (laws_FnNmByte.j4 kj36 a0 a1 a2 a3 a4 x11_33 x12_36 (t131 != (!t129))) else (laws_FnNmByte.j4 kj36 a0 a1 a2 a3 a4 x11_33 x12_36 (t131 != false)))) = some r := H
                          have A43 := Aside0.mk A430
                          clear A430
                          by_cases c44 : x11_33 = true
                          · subst c44
                            have H1 : (laws_FnNmByte.j4 kj36 a0 a1 a2 a3 a4 true x12_36 (t131 != true)) = some r := by rw [if_pos rfl] at H; exact H
                            clear H
                            have H := H1
                            clear H1
                            have H' := Aside0.mk H
                            clear H
                            go_wp2_with (first | (go_at_call 9; (with_reducible refine (impl_NmMember.calls kj36 t128 t131 _ A43.out).mono ?_); rintro e w45 ⟨rfl, hb⟩; have n0_ := Aside0.mk (below_step (by repeat (first | (with_reducible first | exact HB.out | apply below_alloc | apply pw_below_drewN | apply below_drew1) | exact HB.out)) hb); clear HB; have HB := n0_; clear n0_; have hc9_ := C9_.out _ HB.out; (try clear hb); (try clear hb2); (try clear hk); (try clear hi)))
                            go_meet
                            case rel => exact ⟨_, ((t131 != true)), (by first | rfl | (simp; done) | (simp [*]; done)), H', ⟨by have := HJ5.out; have := HJ9.out; have := HJ33.out; have := HJ36.out; first | omega | exact Nat.le_refl _⟩, ⟨by repeat (first | (with_reducible first | exact HB.out | apply below_alloc | apply pw_below_drewN | apply below_drew1) | exact HB.out)⟩⟩
                          · replace c44 := Bool.eq_false_iff.mpr c44
                            subst c44
                            have H1 : (if x12_36 = true then (laws_FnNmByte.j4 kj36 a0 a1 a2 a3 a4 false x12_36 (t131 != (!t129))) else (laws_FnNmByte.j4 kj36 a0 a1 a2 a3 a4 false x12_36 (t131 != false))) = some r := by rw [if_neg (show ¬ (false = true) by decide)] at H; exact H
                            clear H
                            have H := H1
                            clear H1
                            by_cases c46 : x12_36 = true
                            · subst c46
                              have H1 : (laws_FnNmByte.j4 kj36 a0 a1 a2 a3 a4 false true (t131 != (!t129))) = some r := by rw [if_pos rfl] at H; exact H
                              clear H
                              have H := H1
                              clear H1
                              have H' := Aside0.mk H
                              clear H
                              go_wp2_with (first | (go_at_call 9; (with_reducible refine (impl_NmMember.calls kj36 t128 t131 _ A43.out).mono ?_); rintro e w47 ⟨rfl, hb⟩; have n0_ := Aside0.mk (below_step (by repeat (first | (with_reducible first | exact HB.out | apply below_alloc | apply pw_below_drewN | apply below_drew1) | exact HB.out)) hb); clear HB; have HB := n0_; clear n0_; have hc9_ := C9_.out _ HB.out; (try clear hb); (try clear hb2); (try clear hk); (try clear hi)))
                              go_meet
                              case rel => exact ⟨_, ((t131 != (!t129))), (by first | rfl | (simp; done) | (simp [*]; done)), H', ⟨by have := HJ5.out; have := HJ9.out; have := HJ33.out; have := HJ36.out; first | omega | exact Nat.le_refl _⟩, ⟨by repeat (first | (with_reducible first | exact HB.out | apply below_alloc | apply pw_below_drewN | apply below_drew1) | exact HB.out)⟩⟩
                            · replace c46 := Bool.eq_false_iff.mpr c46
                              subst c46
                              have H1 : (laws_FnNmByte.j4 kj36 a0 a1 a2 a3 a4 false false (t131 != false)) = some r := by rw [if_neg (show ¬ (false = true) by decide)] at H; exact H
                              clear H
                              have H := H1
                              clear H1
                              have H' := Aside0.mk H
                              clear H
                              go_wp2_with (first | (go_at_call 9; (with_reducible refine (impl_NmMember.calls kj36 t128 t131 _ A43.out).mono ?_); rintro e w48 ⟨rfl, hb⟩; have n0_ := Aside0.mk (below_step (by repeat (first | (with_reducible first | exact HB.out | apply below_alloc | apply pw_below_drewN | apply below_drew1) | exact HB.out)) hb); clear HB; have HB := n0_; clear n0_; have hc9_ := C9_.out _ HB.out; (try clear hb); (try clear hb2); (try clear hk); (try clear hi)))
                              go_meet
                              case rel => exact ⟨_, ((t131 != false)), (by first | rfl | (simp; done) | (simp [*]; done)), H', ⟨by have := HJ5.out; have := HJ9.out; have := HJ33.out; have := HJ36.out; first | omega | exact Nat.le_refl _⟩, ⟨by repeat (first | (with_reducible first | exact HB.out | apply below_alloc | apply pw_below_drewN | apply below_drew1) | exact HB.out)⟩⟩
                        · replace c42 := Bool.eq_false_iff.mpr c42
                          subst c42
                          have H1 : (laws_FnNmByte.j4 kj36 a0 a1 a2 a3 a4 x11_33 x12_36 false) = some r := by rw [if_neg (show ¬ (false = true) by decide)] at H; exact H
                          clear H
                          have H := H1
                          clear H1
                          have H' := Aside0.mk H
                          clear H
                          go_wp2
                          go_meet
                          case rel => exact ⟨_, (false), (by first | rfl | (simp; done) | (simp [*]; done)), H', ⟨by have := HJ5.out; have := HJ9.out; have := HJ33.out; have := HJ36.out; first | omega | exact Nat.le_refl _⟩, ⟨by repeat (first | (with_reducible first | exact HB.out | apply below_alloc | apply pw_below_drewN | apply below_drew1) | exact HB.out)⟩⟩
                      case rest =>
                        clear HC40
                        try clear c1
                        try clear c2
                        try clear p2
                        try clear c3
                        try clear c4
                        try clear c5
                        try clear c7
                        try clear c7b0
                        try clear c7b1
                        try clear c8
                        try clear c8b0
                        try clear c8b1
                        try clear c9
                        try clear c11
                        try clear c12
                        try clear c13
                        try clear c14
                        try clear c15
                        try clear c15b0
                        try clear c15b1
                        try clear c19
                        try clear c20
                        try clear c20b0
                        try clear c20b1
                        try clear c23
                        try clear c23b0
                        try clear c23b1
                        try clear c33
                        try clear c35
                        try clear c35b0
                        try clear c36
                        try clear c36b0
                        try clear c38
                        try clear c38b0
                        try clear c42
                        try clear c44
                        try clear c46
                        try clear p2
                        obtain ⟨kq, x105_39, rfl, HA, HJ39, HB⟩ := hcut
                        have hc9_ := C9_.out _ HB.out
                        cases kq with
                        | zero => exact absurd HA.out (by simp [laws_FnNmByte.j4])
                        | succ kj39 =>
                          have H := HA.out
                          clear HA
                          simp only [laws_FnNmByte.j4] at H
                          by_cases c49 : x105_39 = true
                          · subst c49
                            have H1 : (some false) = some r := by rw [if_pos rfl] at H; exact H
                            clear H
                            have H := H1
                            clear H1
                            obtain rfl := Option.some.inj H
                            go_wp2
                            go_ret
                            exact ⟨by first | rfl | (simp [errW_none, errW_some] <;> rfl) | (simp [*, errW_none, errW_some] <;> rfl), below_step HB0.out (by repeat (first | (with_reducible first | exact HB.out | apply below_alloc | apply pw_below_drewN | apply below_drew1) | exact HB.out))⟩
                          · replace c49 := Bool.eq_false_iff.mpr c49
                            subst c49
                            have H1 : ((laws_FnNmByte_1.f a1 a3 a4).bind fun bt132 => (if bt132.2.2 = true then ((impl_NmInterface.f kj39 bt132.1).bind fun t135 => (if x11_33 = true then (laws_FnNmByte.j5 kj39 a0 a1 a2 a3 a4 x11_33 x12_36 (t135 != true)) else (if x12_36 = true then (laws_FnNmByte.j5 kj39 a0 a1 a2 a3 a4 x11_33 x12_36 (t135 != (!bt132.2.1))) else (laws_FnNmByte.j5 kj39 a0 a1 a2 a3 a4 x11_33 x12_36 (t135 != false))))) else (laws_FnNmByte.j5 kj39 a0 a1 a2 a3 a4 x11_33 x12_36 false))) = some r := by rw [if_neg (show ¬ (false = true) by decide)] at H; exact H
                            clear H
                            have H := H1
                            clear H1
                            replace H := Option.bind_eq_some_iff.mp H
                            obtain ⟨⟨t132, t133, t134⟩, A500, H⟩ := H
                            replace H : (if t134 = true then ((impl_NmInterface.f kj39 t132).bind fun t135 => (if x11_33 = true then (laws_FnNmByte.j5 kj39 a0 a1 a2 a3 a4 x11_33 x12_36 (t135 != true)) else (if x12_36 = true then (laws_FnNmByte.j5 kj39 a0 a1 a2 a3 a4 x11_33 x12_36 (t135 != (!t133))) else (laws_FnNmByte.j5 kj39 a0 a1 a2 a3 a4 x11_33 x12_36 (t135 != false))))) else (laws_FnNmByte.j5 kj39 a0 a1 a2 a3 a4 x11_33 x12_36 false)) = some r := H
                            have A50 := Aside0.mk A500
                            clear A500
                            have HC51 := Aside0.mk H
                            clear H
                            go_upto_region 12 with (first | (go_at_call 13; (with_reducible refine (laws_FnNmByte_1.calls a1 a3 a4 t132 t133 t134 _ _ _ (C8_.out _ (by repeat (first | (with_reducible first | exact HB.out | apply below_alloc | apply pw_below_drewN | apply below_drew1) | exact HB.out))) (C9_.out _ (by repeat (first | (with_reducible first | exact HB.out | apply below_alloc | apply pw_below_drewN | apply below_drew1) | exact HB.out))) A50.out).mono ?_); rintro e w52 ⟨rfl, hb⟩; have n0_ := Aside0.mk (below_step (by repeat (first | (with_reducible first | exact HB.out | apply below_alloc | apply pw_below_drewN | apply below_drew1) | exact HB.out)) hb); clear HB; have HB := n0_; clear n0_; have hc9_ := C9_.out _ HB.out; (try clear hb); (try clear hb2); (try clear hk); (try clear hi)))
                            (try simp only [Act.put, List.setIfInBounds_toArray, List.set_cons_zero, List.set_cons_succ])
                            go_cut [126] (fun v126 wc => ∃ (kq : Nat) (x126_50 : Bool), v126 = .bool x126_50 ∧ Aside0 (laws_FnNmByte.j5 kq a0 a1 a2 a3 a4 x11_33 x12_36 x126_50 = some r) ∧ Aside0 (kq ≤ kj39) ∧ Aside0 (Below w2.heap.size w2 wc))
                            case first =>
                              have H := HC51.out
                              clear HC51
                              by_cases c53 : t134 = true
                              · subst c53
                                have H1 : ((impl_NmInterface.f kj39 t132).bind fun t135 => (if x11_33 = true then (laws_FnNmByte.j5 kj39 a0 a1 a2 a3 a4 x11_33 x12_36 (t135 != true)) else (if x12_36 = true then (laws_FnNmByte.j5 kj39 a0 a1 a2 a3 a4 x11_33 x12_36 (t135 != (!t133))) else (laws_FnNmByte.j5 kj39 a0 a1 a2 a3 a4 x11_33 x12_36 (t135 != false))))) = some r := by rw [if_pos rfl] at H; exact H
                                clear H
                                have H := H1
                                clear H1
                                replace H := Option.bind_eq_some_iff.mp H
                                obtain ⟨t135, A540, H⟩ := H
                                replace H : (if x11_33 = true then (laws_FnNmByte.j5 kj39 a0 a1 a2 a3 a4 x11_33 x12_36 (t135 != true)) else (if x12_36 = true then (laws_FnNmByte.j5 kj39 a0 a1 a2 a3 a4 x11_33 x12_36 (t135 != (!t133))) else (laws_FnNmByte.j5 kj39 a0 a1 a2 a3 a4 x11_33 x12_36 (t135 != false)))) = some r := H
                                have A54 := Aside0.mk A540
                                clear A540
                                by_cases c55 : x11_33 = true
                                · subst c55
                                  have H1 : (laws_FnNmByte.j5 kj39 a0 a1 a2 a3 a4 true x12_36 (t135 != true)) = some r := by rw [if_pos rfl] at H; exact H
                                  clear H
                                  have H := H1
                                  clear H1
                                  have H' := Aside0.mk H
                                  clear H
                                  go_wp2_with (first | (go_at_call 10; (with_reducible refine (impl_NmInterface.calls kj39 t132 t135 _ A54.out).mono ?_); rintro e w56 ⟨rfl, hb⟩; have n0_ := Aside0.mk (below_step (by repeat (first | (with_reducible first | exact HB.out | apply below_alloc | apply pw_below_drewN | apply below_drew1) | exact HB.out)) hb); clear HB; have HB := n0_; clear n0_; have hc9_ := C9_.out _ HB.out; (try clear hb); (try clear hb2); (try clear hk); (try clear hi)))
                                  go_meet
                                  case rel => exact ⟨_, ((t135 != true)), (by first | rfl | (simp; done) | (simp [*]; done)), H', ⟨by have := HJ5.out; have := HJ9.out; have := HJ33.out; have := HJ36.out; have := HJ39.out; first | omega | exact Nat.le_refl _⟩, ⟨by repeat (first | (with_reducible first | exact HB.out | apply below_alloc | apply pw_below_drewN | apply below_drew1) | exact HB.out)⟩⟩
                                · replace c55 := Bool.eq_false_iff.mpr c55
                                  subst c55
                                  have H1 : (if x12_36 = true then (laws_FnNmByte.j5 kj39 a0 a1 a2 a3 a4 false x12_36 (t135 != (!t133))) else (laws_FnNmByte.j5 kj39 a0 a1 a2 a3 a4 false x12_36 (t135 != false))) = some r := by rw [if_neg (show ¬ (false = true) by decide)] at H; exact H
                                  clear H
                                  have H := H1
                                  clear H1
                                  by_cases c57 : x12_36 = true
                                  · subst c57
                                    have H1 : (laws_FnNmByte.j5 kj39 a0 a1 a2 a3 a4 false true (t135 != (!t133))) = some r := by rw [if_pos rfl] at H; exact H
                                    clear H
                                    have H := H1
                                    clear H1
                                    have H' := Aside0.mk H
                                    clear H
                                    go_wp2_with (first | (go_at_call 10; (with_reducible refine (impl_NmInterface.calls kj39 t132 t135 _ A54.out).mono ?_); rintro e w58 ⟨rfl, hb⟩; have n0_ := Aside0.mk (below_step (by repeat (first | (with_reducible first | exact HB.out | apply below_alloc | apply pw_below_drewN | apply below_drew1) | exact HB.out)) hb); clear HB; have HB := n0_; clear n0_; have hc9_ := C9_.out _ HB.out; (try clear hb); (try clear hb2); (try clear hk); (try clear hi)))
                                    go_meet
                                    case rel => exact ⟨_, ((t135 != (!t133))), (by first | rfl | (simp; done) | (simp [*]; done)), H', ⟨by have := HJ5.out; have := HJ9.out; have := HJ33.out; have := HJ36.out; have := HJ39.out; first | omega | exact Nat.le_refl _⟩, ⟨by repeat (first | (with_reducible first | exact HB.out | apply below_alloc | apply pw_below_drewN | apply below_drew1) | exact HB.out)⟩⟩
                                  · replace c57 := Bool.eq_false_iff.mpr c57
                                    subst c57
                                    have H1 : (laws_FnNmByte.j5 kj39 a0 a1 a2 a3 a4 false false (t135 != false)) = some r := by rw [if_neg (show ¬ (false = true) by decide)] at H; exact H
                                    clear H
                                    have H := H1
                                    clear H1
                                    have H' := Aside0.mk H
                                    clear H
                                    go_wp2_with (first | (go_at_call 10; (with_reducible refine (impl_NmInterface.calls kj39 t132 t135 _ A54.out).mono ?_); rintro e w59 ⟨rfl, hb⟩; have n0_ := Aside0.mk (below_step (by repeat (first | (with_reducible first | exact HB.out | apply below_alloc | apply pw_below_drewN | apply below_drew1) | exact HB.out)) hb); clear HB; have HB := n0_; clear n0_; have hc9_ := C9_.out _ HB.out; (try clear hb); (try clear hb2); (try clear hk); (try clear hi)))
                                    go_meet
                                    case rel => exact ⟨_, ((t135 != false)), (by first | rfl | (simp; done) | (simp [*]; done)), H', ⟨by have := HJ5.out; have := HJ9.out; have := HJ33.out; have := HJ36.out; have := HJ39.out; first | omega | exact Nat.le_refl _⟩, ⟨by repeat (first | (with_reducible first | exact HB.out | apply below_alloc | apply pw_below_drewN | apply below_drew1) | exact HB.out)⟩⟩
                              · replace c53 := Bool.eq_false_iff.mpr c53
                                subst c53
                                have H1 : (laws_FnNmByte.j5 kj39 a0 a1 a2 a3 a4 x11_33 x12_36 false) = some r := by rw [if_neg (show ¬ (false = true) by decide)] at H; exact H
                                clear H
                                have H := H1
                                clear H1
                                have H' := Aside0.mk H
                                clear H
                                go_wp2
                                go_meet
                                case rel => exact ⟨_, (false), (by first | rfl | (simp; done) | (simp [*]; done)), H', ⟨by have := HJ5.out; have := HJ9.out; have := HJ33.out; have := HJ36.out; have := HJ39.out; first | omega | exact Nat.le_refl _⟩, ⟨by repeat (first | (with_reducible first | exact HB.out | apply below_alloc | apply pw_below_drewN | apply below_drew1) | exact HB.out)⟩⟩
                            case rest =>
                              clear HC51
                              try clear c1
                              try clear c2
                              try clear p2
                              try clear c3
                              try clear c4
                              try clear c5
                              try clear c7
                              try clear c7b0
                              try clear c7b1
                              try clear c8
                              try clear c8b0
                              try clear c8b1
                              try clear c9
                              try clear c11
                              try clear c12
                              try clear c13
                              try clear c14
                              try clear c15
                              try clear c15b0
                              try clear c15b1
                              try clear c19
                              try clear c20
                              try clear c20b0
                              try clear c20b1
                              try clear c23
                              try clear c23b0
                              try clear c23b1
                              try clear c33
                              try clear c35
                              try clear c35b0
                              try clear c36
                              try clear c36b0
                              try clear c38
                              try clear c38b0
                              try clear c42
                              try clear c44
                              try clear c46
                              try clear c49
                              try clear c53
                              try clear c55
                              try clear c57
                              try clear p2
                              obtain ⟨kq, x126_50, rfl, HA, HJ50, HB⟩ := hcut
                              have hc9_ := C9_.out _ HB.out
                              cases kq with
                              | zero => exact absurd HA.out (by simp [laws_FnNmByte.j5])
                              | succ kj50 =>
                                have H := HA.out
                                clear HA
                                simp only [laws_FnNmByte.j5] at H
                                by_cases c60 : x126_50 = true
                                · subst c60
                                  have H1 : (some false) = some r := by rw [if_pos rfl] at H; exact H
                                  clear H
                                  have H := H1
                                  clear H1
                                  obtain rfl := Option.some.inj H
                                  go_wp2
                                  go_ret
                                  exact ⟨by first | rfl | (simp [errW_none, errW_some] <;> rfl) | (simp [*, errW_none, errW_some] <;> rfl), below_step HB0.out (by repeat (first | (with_reducible first | exact HB.out | apply below_alloc | apply pw_below_drewN | apply below_drew1) | exact HB.out))⟩
                                · replace c60 := Bool.eq_false_iff.mpr c60
                                  subst c60
                                  have H1 : ((laws_FnNmByte_1.f a2 a3 a4).bind fun bt136 => (if bt136.2.2 = true then ((impl_NmPath.f kj50 bt136.1).bind fun t139 => (if x11_33 = true then (laws_FnNmByte.j6 kj50 a0 a1 a2 (t139 != true)) else (laws_FnNmByte.j6 kj50 a0 a1 a2 (t139 != x12_36)))) else (laws_FnNmByte.j6 kj50 a0 a1 a2 false))) = some r := by rw [if_neg (show ¬ (false = true) by decide)] at H; exact H
                                  clear H
                                  have H := H1
                                  clear H1
                                  replace H := Option.bind_eq_some_iff.mp H
                                  obtain ⟨⟨t136, t137, t138⟩, A610, H⟩ := H
                                  replace H : (if t138 = true then ((impl_NmPath.f kj50 t136).bind fun t139 => (if x11_33 = true then (laws_FnNmByte.j6 kj50 a0 a1 a2 (t139 != true)) else (laws_FnNmByte.j6 kj50 a0 a1 a2 (t139 != x12_36)))) else (laws_FnNmByte.j6 kj50 a0 a1 a2 false)) = some r := H
                                  have A61 := Aside0.mk A610
                                  clear A610
                                  have HC62 := Aside0.mk H
                                  clear H
                                  go_upto_region 15 with (first | (go_at_call 13; (with_reducible refine (laws_FnNmByte_1.calls a2 a3 a4 t136 t137 t138 _ _ _ (C8_.out _ (by repeat (first | (with_reducible first | exact HB.out | apply below_alloc | apply pw_below_drewN | apply below_drew1) | exact HB.out))) (C9_.out _ (by repeat (first | (with_reducible first | exact HB.out | apply below_alloc | apply pw_below_drewN | apply below_drew1) | exact HB.out))) A61.out).mono ?_); rintro e w63 ⟨rfl, hb⟩; have n0_ := Aside0.mk (below_step (by repeat (first | (with_reducible first | exact HB.out | apply below_alloc | apply pw_below_drewN | apply below_drew1) | exact HB.out)) hb); clear HB; have HB := n0_; clear n0_; have hc9_ := C9_.out _ HB.out; (try clear hb); (try clear hb2); (try clear hk); (try clear hi)))
                                  (try simp only [Act.put, List.setIfInBounds_toArray, List.set_cons_zero, List.set_cons_succ])
                                  go_cut [143] (fun v143 wc => ∃ (kq : Nat) (x143_61 : Bool), v143 = .bool x143_61 ∧ Aside0 (laws_FnNmByte.j6 kq a0 a1 a2 x143_61 = some r) ∧ Aside0 (kq ≤ kj50) ∧ Aside0 (Below w2.heap.size w2 wc))
                                  case first =>
                                    have H := HC62.out
                                    clear HC62
                                    by_cases c64 : t138 = true
                                    · subst c64
                                      have H1 : ((impl_NmPath.f kj50 t136).bind fun t139 => (if x11_33 = true then (laws_FnNmByte.j6 kj50 a0 a1 a2 (t139 != true)) else (laws_FnNmByte.j6 kj50 a0 a1 a2 (t139 != x12_36)))) = some r := by rw [if_pos rfl] at H; exact H
                                      clear H
                                      have H := H1
                                      clear H1
                                      replace H := Option.bind_eq_some_iff.mp H
                                      obtain ⟨t139, A650, H⟩ := H
                                      replace H : (if x11_33 = true then (laws_FnNmByte.j6 kj50 a0 a1 a2 (t139 != true)) else (laws_FnNmByte.j6 kj50 a0 a1 a2 (t139 != x12_36))) = some r := H
                                      have A65 := Aside0.mk A650
                                      clear A650
                                      by_cases c66 : x11_33 = true
                                      · subst c66
                                        have H1 : (laws_FnNmByte.j6 kj50 a0 a1 a2 (t139 != true)) = some r := by rw [if_pos rfl] at H; exact H
                                        clear H
                                        have H := H1
                                        clear H1
                                        have H' := Aside0.mk H
                                        clear H
                                        go_wp2_with (first | (go_at_call 7; (with_reducible refine (impl_NmPath.calls kj50 t136 t139 _ A65.out).mono ?_); rintro e w67 ⟨rfl, hb⟩; have n0_ := Aside0.mk (below_step (by repeat (first | (with_reducible first | exact HB.out | apply below_alloc | apply pw_below_drewN | apply below_drew1) | exact HB.out)) hb); clear HB; have HB := n0_; clear n0_; have hc9_ := C9_.out _ HB.out; (try clear hb); (try clear hb2); (try clear hk); (try clear hi)))
                                        go_meet
                                        case rel => exact ⟨_, ((t139 != true)), (by first | rfl | (simp; done) | (simp [*]; done)), H', ⟨by have := HJ5.out; have := HJ9.out; have := HJ33.out; have := HJ36.out; have := HJ39.out; have := HJ50.out; first | omega | exact Nat.le_refl _⟩, ⟨by repeat (first | (with_reducible first | exact HB.out | apply below_alloc | apply pw_below_drewN | apply below_drew1) | exact HB.out)⟩⟩
                                      · replace c66 := Bool.eq_false_iff.mpr c66
                                        subst c66
                                        have H1 : (laws_FnNmByte.j6 kj50 a0 a1 a2 (t139 != x12_36)) = some r := by rw [if_neg (show ¬ (false = true) by decide)] at H; exact H
                                        clear H
                                        have H := H1
                                        clear H1
                                        have H' := Aside0.mk H
                                        clear H
                                        go_wp2_with (first | (go_at_call 7; (with_reducible refine (impl_NmPath.calls kj50 t136 t139 _ A65.out).mono ?_); rintro e w68 ⟨rfl, hb⟩; have n0_ := Aside0.mk (below_step (by repeat (first | (with_reducible first | exact HB.out | apply below_alloc | apply pw_below_drewN | apply below_drew1) | exact HB.out)) hb); clear HB; have HB := n0_; clear n0_; have hc9_ := C9_.out _ HB.out; (try clear hb); (try clear hb2); (try clear hk); (try clear hi)))
                                        go_meet
                                        case rel => exact ⟨_, ((t139 != x12_36)), (by first | rfl | (simp; done) | (simp [*]; done)), H', ⟨by have := HJ5.out; have := HJ9.out; have := HJ33.out; have := HJ36.out; have := HJ39.out; have := HJ50.out; first | omega | exact Nat.le_refl _⟩, ⟨by repeat (first | (with_reducible first | exact HB.out | apply below_alloc | apply pw_below_drewN | apply below_drew1) | exact HB.out)⟩⟩
                                    · replace c64 := Bool.eq_false_iff.mpr c64
                                      subst c64
                                      have H1 : (laws_FnNmByte.j6 kj50 a0 a1 a2 false) = some r := by rw [if_neg (show ¬ (false = true) by decide)] at H; exact H
                                      clear H
                                      have H := H1
                                      clear H1
                                      have H' := Aside0.mk H
                                      clear H
                                      go_wp2
                                      go_meet
                                      case rel => exact ⟨_, (false), (by first | rfl | (simp; done) | (simp [*]; done)), H', ⟨by have := HJ5.out; have := HJ9.out; have := HJ33.out; have := HJ36.out; have := HJ39.out; have := HJ50.out; first | omega | exact Nat.le_refl _⟩, ⟨by repeat (first | (with_reducible first | exact HB.out | apply below_alloc | apply pw_below_drewN | apply below_drew1) | exact HB.out)⟩⟩
                                  case rest =>
                                    clear HC62
                                    try clear c1
                                    try clear c2
                                    try clear p2
                                    try clear c3
                                    try clear c4
                                    try clear c5
                                    try clear c6
                                    try clear c7
                                    try clear c7b0
                                    try clear c7b1
                                    try clear c8
                                    try clear c8b0
                                    try clear c8b1
                                    try clear c9
                                    try clear c11
                                    try clear c12
                                    try clear c13
                                    try clear c14
                                    try clear c15
                                    try clear c15b0
                                    try clear c15b1
                                    try clear c19
                                    try clear c20
                                    try clear c20b0
                                    try clear c20b1
                                    try clear c23
                                    try clear c23b0
                                    try clear c23b1
                                    try clear c33
                                    try clear c35
                                    try clear c35b0
                                    try clear c36
                                    try clear c36b0
                                    try clear c38
                                    try clear c38b0
                                    try clear c42
                                    try clear c44
                                    try clear c46
                                    try clear c49
                                    try clear c53
                                    try clear c55
                                    try clear c57
                                    try clear c60
                                    try clear c64
                                    try clear c66
                                    try clear p2
                                    obtain ⟨kq, x143_61, rfl, HA, HJ61, HB⟩ := hcut
                                    have hc9_ := C9_.out _ HB.out
                                    cases kq with
                                    | zero => exact absurd HA.out (by simp [laws_FnNmByte.j6])
                                    | succ kj61 =>
                                      have H := HA.out
                                      clear HA
                                      simp only [laws_FnNmByte.j6] at H
                                      by_cases c69 : x143_61 = true
                                      · subst c69
                                        have H1 : (some false) = some r := by rw [if_pos rfl] at H; exact H
                                        clear H
                                        have H := H1
                                        clear H1
                                        obtain rfl := Option.some.inj H
                                        go_wp2
                                        go_ret
                                        exact ⟨by first | rfl | (simp [errW_none, errW_some] <;> rfl) | (simp [*, errW_none, errW_some] <;> rfl), below_step HB0.out (by repeat (first | (with_reducible first | exact HB.out | apply below_alloc | apply pw_below_drewN | apply below_drew1) | exact HB.out))⟩
                                      · replace c69 := Bool.eq_false_iff.mpr c69
                                        subst c69
                                        have H1 : ((impl_NmMember.f kj61 a0).bind fun t140 => (if t140 = true then ((impl_NmInterface.f kj61 a1).bind fun t141 => (if t141 = true then ((impl_NmPath.f kj61 a2).bind fun t142 => (some t142)) else (some false))) else (some false))) = some r := by rw [if_neg (show ¬ (false = true) by decide)] at H; exact H
                                        clear H
                                        have H := H1
                                        clear H1
                                        replace H := Option.bind_eq_some_iff.mp H
                                        obtain ⟨t140, A700, H⟩ := H
                                        replace H : (if t140 = true then ((impl_NmInterface.f kj61 a1).bind fun t141 => (if t141 = true then ((impl_NmPath.f kj61 a2).bind fun t142 => (some t142)) else (some false))) else (some false)) = some r := H
                                        have A70 := Aside0.mk A700
                                        clear A700
                                        by_cases c71 : t140 = true
                                        · subst c71
                                          have H1 : ((impl_NmInterface.f kj61 a1).bind fun t141 => (if t141 = true then ((impl_NmPath.f kj61 a2).bind fun t142 => (some t142)) else (some false))) = some r := by rw [if_pos rfl] at H; exact H
                                          clear H
                                          have H := H1
                                          clear H1
                                          replace H := Option.bind_eq_some_iff.mp H
                                          obtain ⟨t141, A720, H⟩ := H
                                          replace H : (if t141 = true then ((impl_NmPath.f kj61 a2).bind fun t142 => (some t142)) else (some false)) = some r := H
                                          have A72 := Aside0.mk A720
                                          clear A720
                                          by_cases c73 : t141 = true
                                          · subst c73
                                            have H1 : ((impl_NmPath.f kj61 a2).bind fun t142 => (some t142)) = some r := by rw [if_pos rfl] at H; exact H
                                            clear H
                                            have H := H1
                                            clear H1
                                            replace H := Option.bind_eq_some_iff.mp H
                                            obtain ⟨t142, A740, H⟩ := H
                                            replace H : (some t142) = some r := H
                                            have A74 := Aside0.mk A740
                                            clear A740
                                            obtain rfl := Option.some.inj H
                                            go_wp2_with (first | ((with_reducible refine gate_callee (f := 9) rfl ?_); refine goesL_ (some 145) rfl rfl Try.func9 (by kernel_rfl) rfl #[.string a0] rfl (by (try simp only [List.map_toArray, List.map_cons, List.map_nil]); first | done | rfl | (simp only [List.length_drop, List.length_take]; rfl)) ?_; (with_reducible refine (impl_NmMember.calls kj61 a0 true _ A70.out).mono ?_); rintro e w75 ⟨rfl, hb⟩; refine ⟨_, rfl, ?_⟩; have n0_ := Aside0.mk (below_step (by repeat (first | (with_reducible first | exact HB.out | apply below_alloc | apply pw_below_drewN | apply below_drew1) | exact HB.out)) hb); clear HB; have HB := n0_; clear n0_; have hc9_ := C9_.out _ HB.out; (try clear hb); (try clear hb2); (try clear hk); (try clear hi)) | (go_at_call 10; (with_reducible refine (impl_NmInterface.calls kj61 a1 true _ A72.out).mono ?_); rintro e w76 ⟨rfl, hb⟩; have n0_ := Aside0.mk (below_step (by repeat (first | (with_reducible first | exact HB.out | apply below_alloc | apply pw_below_drewN | apply below_drew1) | exact HB.out)) hb); clear HB; have HB := n0_; clear n0_; have hc9_ := C9_.out _ HB.out; (try clear hb); (try clear hb2); (try clear hk); (try clear hi)) | (go_at_call 7; (with_reducible refine (impl_NmPath.calls kj61 a2 t142 _ A74.out).mono ?_); rintro e w77 ⟨rfl, hb⟩; have n0_ := Aside0.mk (below_step (by repeat (first | (with_reducible first | exact HB.out | apply below_alloc | apply pw_below_drewN | apply below_drew1) | exact HB.out)) hb); clear HB; have HB := n0_; clear n0_; have hc9_ := C9_.out _ HB.out; (try clear hb); (try clear hb2); (try clear hk); (try clear hi)))
                                            go_ret
                                            exact ⟨by first | rfl | (simp [errW_none, errW_some] <;> rfl) | (simp [*, errW_none, errW_some] <;> rfl), below_step HB0.out (by repeat (first | (with_reducible first | exact HB.out | apply below_alloc | apply pw_below_drewN | apply below_drew1) | exact HB.out))⟩
                                          · replace c73 := Bool.eq_false_iff.mpr c73
                                            subst c73
                                            have H1 : (some false) = some r := by rw [if_neg (show ¬ (false = true) by decide)] at H; exact H
                                            clear H
                                            have H := H1
                                            clear H1
                                            obtain rfl := Option.some.inj H
                                            go_wp2_with (first | ((with_reducible refine gate_callee (f := 9) rfl ?_); refine goesL_ (some 145) rfl rfl Try.func9 (by kernel_rfl) rfl #[.string a0] rfl (by (try simp only [List.map_toArray, List.map_cons, List.map_nil]); first | done | rfl | (simp only [List.length_drop, List.length_take]; rfl)) ?_; (with_reducible refine (impl_NmMember.calls kj61 a0 true _ A70.out).mono ?_); rintro e w78 ⟨rfl, hb⟩; refine ⟨_, rfl, ?_⟩; have n0_ := Aside0.mk (below_step (by repeat (first | (with_reducible first | exact HB.out | apply below_alloc | apply pw_below_drewN | apply below_drew1) | exact HB.out)) hb); clear HB; have HB := n0_; clear n0_; have hc9_ := C9_.out _ HB.out; (try clear hb); (try clear hb2); (try clear hk); (try clear hi)) | (go_at_call 10; (with_reducible refine (impl_NmInterface.calls kj61 a1 false _ A72.out).mono ?_); rintro e w79 ⟨rfl, hb⟩; have n0_ := Aside0.mk (below_step (by repeat (first | (with_reducible first | exact HB.out | apply below_alloc | apply pw_below_drewN | apply below_drew1) | exact HB.out)) hb); clear HB; have HB := n0_; clear n0_; have hc9_ := C9_.out _ HB.out; (try clear hb); (try clear hb2); (try clear hk); (try clear hi)))
                                            go_ret
                                            exact ⟨by first | rfl | (simp [errW_none, errW_some] <;> rfl) | (simp [*, errW_none, errW_some] <;> rfl), below_step HB0.out (by repeat (first | (with_reducible first | exact HB.out | apply below_alloc | apply pw_below_drewN | apply below_drew1) | exact HB.out))⟩
                                        · replace c71 := Bool.eq_false_iff.mpr c71
                                          subst c71
                                          have H1 : (some false) = some r := by rw [if_neg (show ¬ (false = true) by decide)] at H; exact H
                                          clear H
                                          have H := H1
                                          clear H1
                                          obtain rfl := Option.some.inj H
                                          go_wp2_with (first | ((with_reducible refine gate_callee (f := 9) rfl ?_); refine goesL_ (some 145) rfl rfl Try.func9 (by kernel_rfl) rfl #[.string a0] rfl (by (try simp only [List.map_toArray, List.map_cons, List.map_nil]); first | done | rfl | (simp only [List.length_drop, List.length_take]; rfl)) ?_; (with_reducible refine (impl_NmMember.calls kj61 a0 false _ A70.out).mono ?_); rintro e w80 ⟨rfl, hb⟩; refine ⟨_, rfl, ?_⟩; have n0_ := Aside0.mk (below_step (by repeat (first | (with_reducible first | exact HB.out | apply below_alloc | apply pw_below_drewN | apply below_drew1) | exact HB.out)) hb); clear HB; have HB := n0_; clear n0_; have hc9_ := C9_.out _ HB.out; (try clear hb); (try clear hb2); (try clear hk); (try clear hi)))
                                          go_ret
                                          exact ⟨by first | rfl | (simp [errW_none, errW_some] <;> rfl) | (simp [*, errW_none, errW_some] <;> rfl), below_step HB0.out (by repeat (first | (with_reducible first | exact HB.out | apply below_alloc | apply pw_below_drewN | apply below_drew1) | exact HB.out))⟩

/-- THE ONE PURE STATEMENT of laws_FnNmByte: yours. -/
def laws_FnNmByte.Pure : Prop := ∀ (a0 : ByteArray) (a1 : ByteArray) (a2 : ByteArray) (a3 : Int) (a4 : Int), a0.size ≤ 140737488351232 → a1.size ≤ 140737488351232 → a2.size ≤ 140737488351232 → (Lit.int .u16 a3).wf = true → (Lit.int .u8 a4).wf = true → ∃ k, laws_FnNmByte.f k a0 a1 a2 a3 a4 = some true
theorem laws_FnNmByte.walk (P : laws_FnNmByte.Pure) (a0 : ByteArray) (a1 : ByteArray) (a2 : ByteArray) (a3 : Int) (a4 : Int) (w : World) (w0 : a0.size ≤ 140737488351232) (w1 : a1.size ≤ 140737488351232) (w2 : a2.size ≤ 140737488351232) (w3 : (Lit.int .u16 a3).wf = true) (w4 : (Lit.int .u8 a4).wf = true) :
    Calls Try.prog 5 #[.string a0, .string a1, .string a2, .int .u16 a3, .int .u8 a4] w fun e w' => e = .returned (.bool true) ∧ Below w.heap.size w w' := by
  obtain ⟨k, h⟩ := P a0 a1 a2 a3 a4 w0 w1 w2 w3 w4
  refine (laws_FnNmByte.calls k a0 a1 a2 a3 a4 true w h).mono ?_
  rintro e w' ⟨rfl, hd⟩
  exact ⟨rfl, hd⟩

end Go.Proofs.Ytheopfecoakhnaa.Y
