-- Written by a program of this session out of the translation; Lean checks it.
import Derived.Test.YtoaehanfknjngaaDoorQ5
import Derived.Test.YtoaehanfknjngaaDoorQ4
namespace Go.Proofs.YtoaehanfknjngaaDoor.Q
open Go.RowKit Go.Proofs.YtoaehanfknjngaaDoor.L Go.Proofs.YtoaehanfknjngaaDoor.Gd Go.Proofs.YtoaehanfknjngaaDoor.Sb Go.Proofs.YtoaehanfknjngaaDoor.Vs Go.Proofs.YtoaehanfknjngaaDoorW.PrintWords Go.Proofs.YtoaehanfknjngaaDoorW.PrintLast Go.Proofs.YtoaehanfknjngaaDoorW.PrintMore
attribute [local go_sem] max2_int min2_int max_two min_two max_three min_three max_four min_four   -- for this text's walks alone
set_option linter.unusedVariables false
set_option linter.unusedSimpArgs false

def TidyW (tf : Int → Int → ByteArray → List S30 → Option Bool) (k : Nat) (a0_0 : Int) (a0_1 : Int) (a0_2 : ByteArray) (l0_3 : List (S30)) : Option (Bool) := if a0_0 = 123 then (some false) else ((spec_SigOf.f k a0_0 a0_1 a0_2 l0_3).bind fun t126 => ((spec_Valid.f k t126).bind fun t127 => (if t127 = true then ((tf a0_0 a0_1 a0_2 l0_3).bind fun t128 => (some t128)) else (some false))))
theorem TidyW.mono {tf tf' : Int → Int → ByteArray → List S30 → Option Bool} (ht : ∀ a0 a1 a2 a3, LeO (tf a0 a1 a2 a3) (tf' a0 a1 a2 a3)) : ∀ a0 a1 a2 a3 k, LeO (TidyW tf k a0 a1 a2 a3) (TidyW tf' (k + 1) a0 a1 a2 a3) := by
 intro a0 a1 a2 a3 k
 unfold TidyW
 repeat' first
   | (with_reducible exact spec_SigOf.mono _ _ _ _ _)
   | (with_reducible exact spec_Valid.mono _ _)
   | (with_reducible exact ht _ _ _ _)
   | (with_reducible exact LeO.refl _)
   | (with_reducible exact LeO.none _)
   | (with_reducible refine LeO.ite ?_ ?_)
   | (with_reducible refine LeO.bind ?_ (fun _ => ?_))
   | exact spec_SigOf.mono _ _ _ _ _
   | exact spec_Valid.mono _ _
   | exact ht _ _ _ _
   | exact LeO.none _
   | refine LeO.ite ?_ ?_
   | refine LeO.bind ?_ (fun _ => ?_)
mutual
def spec_tidy.j0 : Nat → Bool → Int → Int → ByteArray → List (S30) → Option (Bool)
 | 0, _, _, _, _, _ => none
 | k + 1, x40, x129000, x129001, x129002, x129003 => if x40 = true then (some false) else (if x129000 = 115 then ((spec_ValidString.f x129002).bind fun t130 => (if t130 = true then (some ((x129003.length : Int) == 0)) else (some false))) else (if x129000 = 111 then ((spec_ValidPath.f k x129002).bind fun t131 => (if t131 = true then (some ((x129003.length : Int) == 0)) else (some false))) else (if x129000 = 103 then ((spec_Valid.f k x129002).bind fun t132 => (if t132 = true then (some ((x129003.length : Int) == 0)) else (some false))) else (if x129000 = 97 then ((spec_First.f k x129002).bind fun bt133 => (if bt133.2.2 = true then (if bt133.2.1.toList = ([] : List UInt8) then (spec_tidy.j1 k (bt133.1.toList != x129002.toList) x129000 x129001 x129002 x129003) else (spec_tidy.j1 k true x129000 x129001 x129002 x129003)) else (spec_tidy.j1 k true x129000 x129001 x129002 x129003))) else (if x129000 = 40 then (spec_tidy.j3 k x129000 (x129000 == 40) x129000 x129001 x129002 x129003) else (spec_tidy.j3 k x129000 (x129000 == 123) x129000 x129001 x129002 x129003))))))
def spec_tidy.j1 : Nat → Bool → Int → Int → ByteArray → List (S30) → Option (Bool)
 | 0, _, _, _, _, _ => none
 | k + 1, x96, x129000, x129001, x129002, x129003 => if x96 = true then (some false) else (spec_tidy.l0 k x129003 (x129003.length : Int) 0 x129000 x129001 x129002 x129003)
def spec_tidy.l0 : Nat → List (S30) → Int → Int → Int → Int → ByteArray → List (S30) → Option (Bool)
 | 0, _, _, _, _, _, _, _ => none
 | k + 1, x98, x99, x100, x129000, x129001, x129002, x129003 => if x100 < x99 then (if 0 ≤ x100 then (if x100 < (x98.length : Int) then ((spec_SigOf.f k ((rd_T30 x98 x100).f0) ((rd_T30 x98 x100).f1) ((rd_T30 x98 x100).f2) ((rd_T30 x98 x100).f3)).bind fun t138 => (if t138.toList = x129002.toList then ((spec_tidy.f k ((rd_T30 x98 x100).f0) ((rd_T30 x98 x100).f1) ((rd_T30 x98 x100).f2) ((rd_T30 x98 x100).f3)).bind fun t139 => (if t139 = true then (spec_tidy.l0 k x98 x99 (wrap64 (x100 + 1)) x129000 x129001 x129002 x129003) else (some false))) else (some false))) else (none)) else (none)) else (some true)
def spec_tidy.j3 : Nat → Int → Bool → Int → Int → ByteArray → List (S30) → Option (Bool)
 | 0, _, _, _, _, _, _ => none
 | k + 1, x42, x115, x129000, x129001, x129002, x129003 => if x115 = true then (if (x129003.length : Int) = 0 then (spec_tidy.j4 k true x129000 x129001 x129002 x129003) else (if x129000 = 123 then (if (x129003.length : Int) = 2 then (if 0 < (x129003.length : Int) then ((spec_Basic.f ((rd_T30 x129003 0).f0)).bind fun t141 => (spec_tidy.j4 k (!t141) x129000 x129001 x129002 x129003)) else (none)) else (spec_tidy.j4 k true x129000 x129001 x129002 x129003)) else (spec_tidy.j4 k false x129000 x129001 x129002 x129003))) else (if x42 = 118 then (if (x129003.length : Int) = 1 then (if 0 < (x129003.length : Int) then ((TidyW (spec_tidy.f k) k ((rd_T30 x129003 0).f0) ((rd_T30 x129003 0).f1) ((rd_T30 x129003 0).f2) ((rd_T30 x129003 0).f3)).bind fun t146 => (some t146)) else (none)) else (some false)) else ((spec_Basic.f x129000).bind fun t147 => (if t147 = true then (some ((x129003.length : Int) == 0)) else (some false))))
def spec_tidy.j4 : Nat → Bool → Int → Int → ByteArray → List (S30) → Option (Bool)
 | 0, _, _, _, _, _ => none
 | k + 1, x141, x129000, x129001, x129002, x129003 => if x141 = true then (some false) else (spec_tidy.l1 k x129003 (x129003.length : Int) 0)
def spec_tidy.l1 : Nat → List (S30) → Int → Int → Option (Bool)
 | 0, _, _, _ => none
 | k + 1, x143, x144, x145 => if x145 < x144 then (if 0 ≤ x145 then (if x145 < (x143.length : Int) then (if ((rd_T30 x143 x145).f0) = 123 then (some false) else ((spec_tidy.f k ((rd_T30 x143 x145).f0) ((rd_T30 x143 x145).f1) ((rd_T30 x143 x145).f2) ((rd_T30 x143 x145).f3)).bind fun t144 => (if t144 = true then (spec_tidy.l1 k x143 x144 (wrap64 (x145 + 1))) else (some false)))) else (none)) else (none)) else (some true)
def spec_tidy.f : Nat → Int → Int → ByteArray → List (S30) → Option (Bool)
 | 0, _, _, _, _ => none
 | k + 1, a0_0, a0_1, a0_2, l0_3 => (spec_inRange.f a0_0 a0_1).bind fun t129 => (if t129 = true then (if a0_0 = 97 then (spec_tidy.j0 k false a0_0 a0_1 a0_2 l0_3) else (if a0_0 = 115 then (spec_tidy.j0 k false a0_0 a0_1 a0_2 l0_3) else (if a0_0 = 111 then (spec_tidy.j0 k false a0_0 a0_1 a0_2 l0_3) else (if a0_0 = 103 then (spec_tidy.j0 k false a0_0 a0_1 a0_2 l0_3) else (spec_tidy.j0 k (a0_2.toList != ([] : List UInt8)) a0_0 a0_1 a0_2 l0_3))))) else (spec_tidy.j0 k true a0_0 a0_1 a0_2 l0_3))
end
theorem spec_tidy.mono_l : ∀ k, (∀ y0 y1 y2 y3, LeO (spec_tidy.f k y0 y1 y2 y3) (spec_tidy.f (k + 1) y0 y1 y2 y3)) ∧ (∀ y0 y1 y2 y3 y4, LeO (spec_tidy.j0 k y0 y1 y2 y3 y4) (spec_tidy.j0 (k + 1) y0 y1 y2 y3 y4)) ∧ (∀ y0 y1 y2 y3 y4, LeO (spec_tidy.j1 k y0 y1 y2 y3 y4) (spec_tidy.j1 (k + 1) y0 y1 y2 y3 y4)) ∧ (∀ y0 y1 y2 y3 y4 y5 y6, LeO (spec_tidy.l0 k y0 y1 y2 y3 y4 y5 y6) (spec_tidy.l0 (k + 1) y0 y1 y2 y3 y4 y5 y6)) ∧ (∀ y0 y1 y2 y3 y4 y5, LeO (spec_tidy.j3 k y0 y1 y2 y3 y4 y5) (spec_tidy.j3 (k + 1) y0 y1 y2 y3 y4 y5)) ∧ (∀ y0 y1 y2 y3 y4, LeO (spec_tidy.j4 k y0 y1 y2 y3 y4) (spec_tidy.j4 (k + 1) y0 y1 y2 y3 y4)) ∧ (∀ y0 y1 y2, LeO (spec_tidy.l1 k y0 y1 y2) (spec_tidy.l1 (k + 1) y0 y1 y2))
 | 0 => ⟨fun _ _ _ _ r h => by simp [spec_tidy.f] at h, fun _ _ _ _ _ r h => by simp [spec_tidy.j0] at h, fun _ _ _ _ _ r h => by simp [spec_tidy.j1] at h, fun _ _ _ _ _ _ _ r h => by simp [spec_tidy.l0] at h, fun _ _ _ _ _ _ r h => by simp [spec_tidy.j3] at h, fun _ _ _ _ _ r h => by simp [spec_tidy.j4] at h, fun _ _ _ r h => by simp [spec_tidy.l1] at h⟩
 | k + 1 => by
  obtain ⟨ih0, ih1, ih2, ih3, ih4, ih5, ih6⟩ := spec_tidy.mono_l k
  refine ⟨?_, ?_, ?_, ?_, ?_, ?_, ?_⟩
  ·intro y0 y1 y2 y3
   unfold spec_tidy.f
   repeat' first
   | (with_reducible exact ih0 _ _ _ _)
   | (with_reducible exact ih1 _ _ _ _ _)
   | (with_reducible exact ih2 _ _ _ _ _)
   | (with_reducible exact ih3 _ _ _ _ _ _ _)
   | (with_reducible exact ih4 _ _ _ _ _ _)
   | (with_reducible exact ih5 _ _ _ _ _)
   | (with_reducible exact ih6 _ _ _)
   | (with_reducible exact spec_First.mono _ _)
   | (with_reducible exact spec_SigOf.mono _ _ _ _ _)
   | (with_reducible exact TidyW.mono ih0 _ _ _ _ _)
   | (with_reducible exact spec_Valid.mono _ _)
   | (with_reducible exact spec_ValidPath.mono _ _)
   | (with_reducible exact LeO.refl _)
   | (with_reducible exact LeO.none _)
   | (with_reducible refine LeO.ite ?_ ?_)
   | (with_reducible refine LeO.bind ?_ (fun _ => ?_))
   | exact ih0 _ _ _ _
   | exact ih1 _ _ _ _ _
   | exact ih2 _ _ _ _ _
   | exact ih3 _ _ _ _ _ _ _
   | exact ih4 _ _ _ _ _ _
   | exact ih5 _ _ _ _ _
   | exact ih6 _ _ _
   | exact spec_First.mono _ _
   | exact spec_SigOf.mono _ _ _ _ _
   | exact TidyW.mono ih0 _ _ _ _ _
   | exact spec_Valid.mono _ _
   | exact spec_ValidPath.mono _ _
   | exact LeO.none _
   | refine LeO.ite ?_ ?_
   | refine LeO.bind ?_ (fun _ => ?_)
  ·intro y0 y1 y2 y3 y4
   unfold spec_tidy.j0
   repeat' first
   | (with_reducible exact ih0 _ _ _ _)
   | (with_reducible exact ih1 _ _ _ _ _)
   | (with_reducible exact ih2 _ _ _ _ _)
   | (with_reducible exact ih3 _ _ _ _ _ _ _)
   | (with_reducible exact ih4 _ _ _ _ _ _)
   | (with_reducible exact ih5 _ _ _ _ _)
   | (with_reducible exact ih6 _ _ _)
   | (with_reducible exact spec_First.mono _ _)
   | (with_reducible exact spec_SigOf.mono _ _ _ _ _)
   | (with_reducible exact TidyW.mono ih0 _ _ _ _ _)
   | (with_reducible exact spec_Valid.mono _ _)
   | (with_reducible exact spec_ValidPath.mono _ _)
   | (with_reducible exact LeO.refl _)
   | (with_reducible exact LeO.none _)
   | (with_reducible refine LeO.ite ?_ ?_)
   | (with_reducible refine LeO.bind ?_ (fun _ => ?_))
   | exact ih0 _ _ _ _
   | exact ih1 _ _ _ _ _
   | exact ih2 _ _ _ _ _
   | exact ih3 _ _ _ _ _ _ _
   | exact ih4 _ _ _ _ _ _
   | exact ih5 _ _ _ _ _
   | exact ih6 _ _ _
   | exact spec_First.mono _ _
   | exact spec_SigOf.mono _ _ _ _ _
   | exact TidyW.mono ih0 _ _ _ _ _
   | exact spec_Valid.mono _ _
   | exact spec_ValidPath.mono _ _
   | exact LeO.none _
   | refine LeO.ite ?_ ?_
   | refine LeO.bind ?_ (fun _ => ?_)
  ·intro y0 y1 y2 y3 y4
   unfold spec_tidy.j1
   repeat' first
   | (with_reducible exact ih0 _ _ _ _)
   | (with_reducible exact ih1 _ _ _ _ _)
   | (with_reducible exact ih2 _ _ _ _ _)
   | (with_reducible exact ih3 _ _ _ _ _ _ _)
   | (with_reducible exact ih4 _ _ _ _ _ _)
   | (with_reducible exact ih5 _ _ _ _ _)
   | (with_reducible exact ih6 _ _ _)
   | (with_reducible exact spec_First.mono _ _)
   | (with_reducible exact spec_SigOf.mono _ _ _ _ _)
   | (with_reducible exact TidyW.mono ih0 _ _ _ _ _)
   | (with_reducible exact spec_Valid.mono _ _)
   | (with_reducible exact spec_ValidPath.mono _ _)
   | (with_reducible exact LeO.refl _)
   | (with_reducible exact LeO.none _)
   | (with_reducible refine LeO.ite ?_ ?_)
   | (with_reducible refine LeO.bind ?_ (fun _ => ?_))
   | exact ih0 _ _ _ _
   | exact ih1 _ _ _ _ _
   | exact ih2 _ _ _ _ _
   | exact ih3 _ _ _ _ _ _ _
   | exact ih4 _ _ _ _ _ _
   | exact ih5 _ _ _ _ _
   | exact ih6 _ _ _
   | exact spec_First.mono _ _
   | exact spec_SigOf.mono _ _ _ _ _
   | exact TidyW.mono ih0 _ _ _ _ _
   | exact spec_Valid.mono _ _
   | exact spec_ValidPath.mono _ _
   | exact LeO.none _
   | refine LeO.ite ?_ ?_
   | refine LeO.bind ?_ (fun _ => ?_)
  ·intro y0 y1 y2 y3 y4 y5 y6
   unfold spec_tidy.l0
   repeat' first
   | (with_reducible exact ih0 _ _ _ _)
   | (with_reducible exact ih1 _ _ _ _ _)
   | (with_reducible exact ih2 _ _ _ _ _)
   | (with_reducible exact ih3 _ _ _ _ _ _ _)
   | (with_reducible exact ih4 _ _ _ _ _ _)
   | (with_reducible exact ih5 _ _ _ _ _)
   | (with_reducible exact ih6 _ _ _)
   | (with_reducible exact spec_First.mono _ _)
   | (with_reducible exact spec_SigOf.mono _ _ _ _ _)
   | (with_reducible exact TidyW.mono ih0 _ _ _ _ _)
   | (with_reducible exact spec_Valid.mono _ _)
   | (with_reducible exact spec_ValidPath.mono _ _)
   | (with_reducible exact LeO.refl _)
   | (with_reducible exact LeO.none _)
   | (with_reducible refine LeO.ite ?_ ?_)
   | (with_reducible refine LeO.bind ?_ (fun _ => ?_))
   | exact ih0 _ _ _ _
   | exact ih1 _ _ _ _ _
   | exact ih2 _ _ _ _ _
   | exact ih3 _ _ _ _ _ _ _
   | exact ih4 _ _ _ _ _ _
   | exact ih5 _ _ _ _ _
   | exact ih6 _ _ _
   | exact spec_First.mono _ _
   | exact spec_SigOf.mono _ _ _ _ _
   | exact TidyW.mono ih0 _ _ _ _ _
   | exact spec_Valid.mono _ _
   | exact spec_ValidPath.mono _ _
   | exact LeO.none _
   | refine LeO.ite ?_ ?_
   | refine LeO.bind ?_ (fun _ => ?_)
  ·intro y0 y1 y2 y3 y4 y5
   unfold spec_tidy.j3
   repeat' first
   | (with_reducible exact ih0 _ _ _ _)
   | (with_reducible exact ih1 _ _ _ _ _)
   | (with_reducible exact ih2 _ _ _ _ _)
   | (with_reducible exact ih3 _ _ _ _ _ _ _)
   | (with_reducible exact ih4 _ _ _ _ _ _)
   | (with_reducible exact ih5 _ _ _ _ _)
   | (with_reducible exact ih6 _ _ _)
   | (with_reducible exact spec_First.mono _ _)
   | (with_reducible exact spec_SigOf.mono _ _ _ _ _)
   | (with_reducible exact TidyW.mono ih0 _ _ _ _ _)
   | (with_reducible exact spec_Valid.mono _ _)
   | (with_reducible exact spec_ValidPath.mono _ _)
   | (with_reducible exact LeO.refl _)
   | (with_reducible exact LeO.none _)
   | (with_reducible refine LeO.ite ?_ ?_)
   | (with_reducible refine LeO.bind ?_ (fun _ => ?_))
   | exact ih0 _ _ _ _
   | exact ih1 _ _ _ _ _
   | exact ih2 _ _ _ _ _
   | exact ih3 _ _ _ _ _ _ _
   | exact ih4 _ _ _ _ _ _
   | exact ih5 _ _ _ _ _
   | exact ih6 _ _ _
   | exact spec_First.mono _ _
   | exact spec_SigOf.mono _ _ _ _ _
   | exact TidyW.mono ih0 _ _ _ _ _
   | exact spec_Valid.mono _ _
   | exact spec_ValidPath.mono _ _
   | exact LeO.none _
   | refine LeO.ite ?_ ?_
   | refine LeO.bind ?_ (fun _ => ?_)
  ·intro y0 y1 y2 y3 y4
   unfold spec_tidy.j4
   repeat' first
   | (with_reducible exact ih0 _ _ _ _)
   | (with_reducible exact ih1 _ _ _ _ _)
   | (with_reducible exact ih2 _ _ _ _ _)
   | (with_reducible exact ih3 _ _ _ _ _ _ _)
   | (with_reducible exact ih4 _ _ _ _ _ _)
   | (with_reducible exact ih5 _ _ _ _ _)
   | (with_reducible exact ih6 _ _ _)
   | (with_reducible exact spec_First.mono _ _)
   | (with_reducible exact spec_SigOf.mono _ _ _ _ _)
   | (with_reducible exact TidyW.mono ih0 _ _ _ _ _)
   | (with_reducible exact spec_Valid.mono _ _)
   | (with_reducible exact spec_ValidPath.mono _ _)
   | (with_reducible exact LeO.refl _)
   | (with_reducible exact LeO.none _)
   | (with_reducible refine LeO.ite ?_ ?_)
   | (with_reducible refine LeO.bind ?_ (fun _ => ?_))
   | exact ih0 _ _ _ _
   | exact ih1 _ _ _ _ _
   | exact ih2 _ _ _ _ _
   | exact ih3 _ _ _ _ _ _ _
   | exact ih4 _ _ _ _ _ _
   | exact ih5 _ _ _ _ _
   | exact ih6 _ _ _
   | exact spec_First.mono _ _
   | exact spec_SigOf.mono _ _ _ _ _
   | exact TidyW.mono ih0 _ _ _ _ _
   | exact spec_Valid.mono _ _
   | exact spec_ValidPath.mono _ _
   | exact LeO.none _
   | refine LeO.ite ?_ ?_
   | refine LeO.bind ?_ (fun _ => ?_)
  ·intro y0 y1 y2
   unfold spec_tidy.l1
   repeat' first
   | (with_reducible exact ih0 _ _ _ _)
   | (with_reducible exact ih1 _ _ _ _ _)
   | (with_reducible exact ih2 _ _ _ _ _)
   | (with_reducible exact ih3 _ _ _ _ _ _ _)
   | (with_reducible exact ih4 _ _ _ _ _ _)
   | (with_reducible exact ih5 _ _ _ _ _)
   | (with_reducible exact ih6 _ _ _)
   | (with_reducible exact spec_First.mono _ _)
   | (with_reducible exact spec_SigOf.mono _ _ _ _ _)
   | (with_reducible exact TidyW.mono ih0 _ _ _ _ _)
   | (with_reducible exact spec_Valid.mono _ _)
   | (with_reducible exact spec_ValidPath.mono _ _)
   | (with_reducible exact LeO.refl _)
   | (with_reducible exact LeO.none _)
   | (with_reducible refine LeO.ite ?_ ?_)
   | (with_reducible refine LeO.bind ?_ (fun _ => ?_))
   | exact ih0 _ _ _ _
   | exact ih1 _ _ _ _ _
   | exact ih2 _ _ _ _ _
   | exact ih3 _ _ _ _ _ _ _
   | exact ih4 _ _ _ _ _ _
   | exact ih5 _ _ _ _ _
   | exact ih6 _ _ _
   | exact spec_First.mono _ _
   | exact spec_SigOf.mono _ _ _ _ _
   | exact TidyW.mono ih0 _ _ _ _ _
   | exact spec_Valid.mono _ _
   | exact spec_ValidPath.mono _ _
   | exact LeO.none _
   | refine LeO.ite ?_ ?_
   | refine LeO.bind ?_ (fun _ => ?_)
theorem spec_tidy.mono : ∀ a0 a1 a2 a3 k, LeO (spec_tidy.f k a0 a1 a2 a3) (spec_tidy.f (k + 1) a0 a1 a2 a3) := by
 intro a0 a1 a2 a3 k
 obtain ⟨ih0, ih1, ih2, ih3, ih4, ih5, ih6⟩ := spec_tidy.mono_l k
 exact ih0 a0 a1 a2 a3
set_option maxHeartbeats 8000000 in
set_option maxRecDepth 100000 in
theorem Tidy_of (k : Nat) (IH : Aside0 (∀ (a0_0 : Int) (a0_1 : Int) (a0_2 : ByteArray) (A0_3 : Option Addr) (c0_3 : Nat) (l0_3 : List (S30)) (r : Bool) (w : World) (HT0 : Tabs w) (hr0_3 : Kd.C k30 w A0_3 l0_3.length l0_3) (hc0_3 : l0_3.length ≤ c0_3) (h : spec_tidy.f k a0_0 a0_1 a0_2 l0_3 = some r),
  Calls Tryd.prog 14 #[.agg #[.int .u8 a0_0, .int .u64 a0_1, .string a0_2, .slice A0_3 l0_3.length c0_3]] w fun e w' => e = .returned (.bool r) ∧ Below w.heap.size w w')) (a0_0 : Int) (a0_1 : Int) (a0_2 : ByteArray) (A0_3 : Option Addr) (c0_3 : Nat) (l0_3 : List (S30)) (r : Bool) (w : World) (HT0 : Tabs w) (hr0_3 : Kd.C k30 w A0_3 l0_3.length l0_3) (hc0_3 : l0_3.length ≤ c0_3) (h : TidyW (spec_tidy.f k) k a0_0 a0_1 a0_2 l0_3 = some r) :
  Calls Tryd.prog 7 #[.agg #[.int .u8 a0_0, .int .u64 a0_1, .string a0_2, .slice A0_3 l0_3.length c0_3]] w fun e w' => e = .returned (.bool r) ∧ Below w.heap.size w w' := by
 have hu30 := Tryd.underlying30
 have HT := Aside0.mk HT0
 clear HT0
 have HR0_3 := Aside0.mk hr0_3
 have HC0_3 := Aside0.mk hc0_3
 clear hr0_3 hc0_3
 have HB := Aside0.mk (Below.refl w.heap.size w)
 have H : (if a0_0 = 123 then (some false) else ((spec_SigOf.f k a0_0 a0_1 a0_2 l0_3).bind fun t126 => ((spec_Valid.f k t126).bind fun t127 => (if t127 = true then ((spec_tidy.f k a0_0 a0_1 a0_2 l0_3).bind fun t128 => (some t128)) else (some false))))) = some r := h
 clear h
 by_cases c2 : a0_0 = 123
 ·rw [if_pos c2] at H
  have c2b0 : (a0_0 == 123) = true := beq_iff_eq.mpr c2
  have c2b1 : (a0_0 != 123) = false := bne_eq_false_iff_eq.mpr c2
  clear c2
  obtain rfl := Option.some.inj H
  go_enter Tryd.func7, Tryd.ntmps7
  go_wp2_with (first | ((with_reducible refine gate_dst (N := 1) rfl ?_); refine box_event ?hg (N := 1) ?hd (cs := #[.int .u8 a0_0, .int .u64 a0_1, .string a0_2, .slice A0_3 l0_3.length c0_3]) (t := 30) ?hr ?_; (case hd => rfl); (case hg => rfl); (case hr => first | (go_simp; done) | (go_simp; rfl)); intro gb125 hg w3 hbox hb; have n0_ := Aside0.mk (below_step (by repeat (first | (with_reducible first | exact HB.out | apply below_alloc | apply pw_below_drewN | apply below_drew1) | exact HB.out)) hb); have n1_ := Aside0.mk (hbox); have n2_ := Aside0.mk ((by rw [hg]; exact (below_size (by repeat (first | (with_reducible first | exact HB.out | apply below_alloc | apply pw_below_drewN | apply below_drew1) | exact HB.out))) : w.heap.size ≤ gb125)); have n3_ := Aside0.mk ((by rw [hg]; exact (below_size (by repeat (first | (with_reducible first | exact HB.out | apply below_alloc | apply pw_below_drewN | apply below_drew1) | exact HB.out))) : w.heap.size ≤ gb125)); clear HB; have HB := n0_; have BK125 := n1_; have GW125 := n2_; have GE125 := n3_; clear n0_ n1_ n2_ n3_; clear hb hbox hg; have hcz4_0 : w3.cell? ⟨gb125, 0, none⟩ = some (.int .u8 a0_0) := (blk_cell BK125.out 0).trans rfl; have hcz4_1 : w3.cell? ⟨gb125, 1, none⟩ = some (.int .u64 a0_1) := (blk_cell BK125.out 1).trans rfl; have hcz4_2 : w3.cell? ⟨gb125, 2, none⟩ = some (.string a0_2) := (blk_cell BK125.out 2).trans rfl; have hcz4_3 : w3.cell? ⟨gb125, 3, none⟩ = some (.slice A0_3 l0_3.length c0_3) := (blk_cell BK125.out 3).trans rfl; have hfz4_0 := blk_frozen BK125.out 0; have hfz4_1 := blk_frozen BK125.out 1; have hfz4_2 := blk_frozen BK125.out 2; have hfz4_3 := blk_frozen BK125.out 3))
  go_ret
  exact ⟨by rfl, by repeat (first | (with_reducible first | exact HB.out | apply below_alloc | apply pw_below_drewN | apply below_drew1 | refine below_set ?_ GE125.out) | exact HB.out)⟩
 ·rw [if_neg c2] at H
  have c2b0 : (a0_0 == 123) = false := beq_eq_false_iff_ne.mpr c2
  have c2b1 : (a0_0 != 123) = true := bne_iff_ne.mpr c2
  replace H := Option.bind_eq_some_iff.mp H
  obtain ⟨t126, A50, H⟩ := H
  replace H : ((spec_Valid.f k t126).bind fun t127 => (if t127 = true then ((spec_tidy.f k a0_0 a0_1 a0_2 l0_3).bind fun t128 => (some t128)) else (some false))) = some r := H
  have A5 := Aside0.mk A50
  clear A50
  replace H := Option.bind_eq_some_iff.mp H
  obtain ⟨t127, A60, H⟩ := H
  replace H : (if t127 = true then ((spec_tidy.f k a0_0 a0_1 a0_2 l0_3).bind fun t128 => (some t128)) else (some false)) = some r := H
  have A6 := Aside0.mk A60
  clear A60
  by_cases c7 : t127 = true
  ·subst c7
   have H1 : ((spec_tidy.f k a0_0 a0_1 a0_2 l0_3).bind fun t128 => (some t128)) = some r := by rw [if_pos rfl] at H; exact H
   clear H
   have H := H1
   clear H1
   replace H := Option.bind_eq_some_iff.mp H
   obtain ⟨t128, A80, H⟩ := H
   replace H : (some t128) = some r := H
   have A8 := Aside0.mk A80
   clear A80
   obtain rfl := Option.some.inj H
   go_enter Tryd.func7, Tryd.ntmps7
   go_wp2_with (first | ((with_reducible refine gate_dst (N := 1) rfl ?_); refine box_event ?hg (N := 1) ?hd (cs := #[.int .u8 a0_0, .int .u64 a0_1, .string a0_2, .slice A0_3 l0_3.length c0_3]) (t := 30) ?hr ?_; (case hd => rfl); (case hg => rfl); (case hr => first | (go_simp; done) | (go_simp; rfl)); intro gb125 hg w9 hbox hb; have n0_ := Aside0.mk (below_step (by repeat (first | (with_reducible first | exact HB.out | apply below_alloc | apply pw_below_drewN | apply below_drew1) | exact HB.out)) hb); have n1_ := Aside0.mk (hbox); have n2_ := Aside0.mk ((by rw [hg]; exact (below_size (by repeat (first | (with_reducible first | exact HB.out | apply below_alloc | apply pw_below_drewN | apply below_drew1) | exact HB.out))) : w.heap.size ≤ gb125)); have n3_ := Aside0.mk ((by rw [hg]; exact (below_size (by repeat (first | (with_reducible first | exact HB.out | apply below_alloc | apply pw_below_drewN | apply below_drew1) | exact HB.out))) : w.heap.size ≤ gb125)); clear HB; have HB := n0_; have BK125 := n1_; have GW125 := n2_; have GE125 := n3_; clear n0_ n1_ n2_ n3_; clear hb hbox hg; have hcz10_0 : w9.cell? ⟨gb125, 0, none⟩ = some (.int .u8 a0_0) := (blk_cell BK125.out 0).trans rfl; have hcz10_1 : w9.cell? ⟨gb125, 1, none⟩ = some (.int .u64 a0_1) := (blk_cell BK125.out 1).trans rfl; have hcz10_2 : w9.cell? ⟨gb125, 2, none⟩ = some (.string a0_2) := (blk_cell BK125.out 2).trans rfl; have hcz10_3 : w9.cell? ⟨gb125, 3, none⟩ = some (.slice A0_3 l0_3.length c0_3) := (blk_cell BK125.out 3).trans rfl; have hfz10_0 := blk_frozen BK125.out 0; have hfz10_1 := blk_frozen BK125.out 1; have hfz10_2 := blk_frozen BK125.out 2; have hfz10_3 := blk_frozen BK125.out 3) | (go_at_call 13; (with_reducible refine (spec_SigOf.calls k a0_0 a0_1 a0_2 _ _ l0_3 t126 _ ?side1 ?side2 A5.out).mono ?_); (case side1 => repeat (first | exact (Kd.C_below HR0_3.out HB.out) | (with_reducible refine Kd.C_alloc ?_ _) | (with_reducible refine Kd.C_drewN ?_ _) | (with_reducible refine Kd.C_drew ?_))); (case side2 => exact HC0_3.out); rintro e w11 ⟨rfl, hb⟩; have n0_ := Aside0.mk (blk_below (g := gb125) (o := .cells #[.int .u8 a0_0, .int .u64 a0_1, .string a0_2, .slice A0_3 l0_3.length c0_3] 30 (0, 0)) (by (with_reducible repeat (first | refine blk_drewN ?_ _ | refine blk_drew ?_ | refine blk_alloc ?_ _)); exact BK125.out) hb); have n1_ := Aside0.mk (below_step (by repeat (first | (with_reducible first | exact HB.out | apply below_alloc | apply pw_below_drewN | apply below_drew1 | refine below_set ?_ GE125.out) | exact HB.out)) hb); clear BK125; clear HB; have BK125 := n0_; have HB := n1_; clear n0_ n1_; (try clear hb); (try clear hb2); (try clear hk); (try clear hi)) | (go_at_call 12; (with_reducible refine (spec_Valid.calls k t126 true _ A6.out).mono ?_); rintro e w12 ⟨rfl, hb⟩; have n0_ := Aside0.mk (blk_below (g := gb125) (o := .cells #[.int .u8 a0_0, .int .u64 a0_1, .string a0_2, .slice A0_3 l0_3.length c0_3] 30 (0, 0)) (by (with_reducible repeat (first | refine blk_drewN ?_ _ | refine blk_drew ?_ | refine blk_alloc ?_ _)); exact BK125.out) hb); have n1_ := Aside0.mk (below_step (by repeat (first | (with_reducible first | exact HB.out | apply below_alloc | apply pw_below_drewN | apply below_drew1 | refine below_set ?_ GE125.out) | exact HB.out)) hb); clear BK125; clear HB; have BK125 := n0_; have HB := n1_; clear n0_ n1_; (try clear hb); (try clear hb2); (try clear hk); (try clear hi); have hcz13_0 : w12.cell? ⟨gb125, 0, none⟩ = some (.int .u8 a0_0) := (blk_cell BK125.out 0).trans rfl; have hcz13_1 : w12.cell? ⟨gb125, 1, none⟩ = some (.int .u64 a0_1) := (blk_cell BK125.out 1).trans rfl; have hcz13_2 : w12.cell? ⟨gb125, 2, none⟩ = some (.string a0_2) := (blk_cell BK125.out 2).trans rfl; have hcz13_3 : w12.cell? ⟨gb125, 3, none⟩ = some (.slice A0_3 l0_3.length c0_3) := (blk_cell BK125.out 3).trans rfl; have hfz13_0 := blk_frozen BK125.out 0; have hfz13_1 := blk_frozen BK125.out 1; have hfz13_2 := blk_frozen BK125.out 2; have hfz13_3 := blk_frozen BK125.out 3) | (go_at_call 14; (with_reducible refine (IH.out a0_0 a0_1 a0_2 _ _ l0_3 t128 _ (HT.out.below (by repeat (first | (with_reducible first | exact HB.out | apply below_alloc | apply pw_below_drewN | apply below_drew1) | exact HB.out))) ?side1 ?side2 A8.out).mono ?_); (case side1 => repeat (first | exact (Kd.C_below HR0_3.out HB.out) | (with_reducible refine Kd.C_alloc ?_ _) | (with_reducible refine Kd.C_drewN ?_ _) | (with_reducible refine Kd.C_drew ?_))); (case side2 => exact HC0_3.out); rintro e w14 ⟨rfl, hb⟩; have n0_ := Aside0.mk (blk_below (g := gb125) (o := .cells #[.int .u8 a0_0, .int .u64 a0_1, .string a0_2, .slice A0_3 l0_3.length c0_3] 30 (0, 0)) (by (with_reducible repeat (first | refine blk_drewN ?_ _ | refine blk_drew ?_ | refine blk_alloc ?_ _)); exact BK125.out) hb); have n1_ := Aside0.mk (below_step (by repeat (first | (with_reducible first | exact HB.out | apply below_alloc | apply pw_below_drewN | apply below_drew1 | refine below_set ?_ GE125.out) | exact HB.out)) hb); clear BK125; clear HB; have BK125 := n0_; have HB := n1_; clear n0_ n1_; (try clear hb); (try clear hb2); (try clear hk); (try clear hi)))
   go_ret
   exact ⟨by rfl, by repeat (first | (with_reducible first | exact HB.out | apply below_alloc | apply pw_below_drewN | apply below_drew1 | refine below_set ?_ GE125.out) | exact HB.out)⟩
  ·replace c7 := Bool.eq_false_iff.mpr c7
   subst c7
   have H1 : (some false) = some r := by rw [if_neg (show ¬ (false = true) by decide)] at H; exact H
   clear H
   have H := H1
   clear H1
   obtain rfl := Option.some.inj H
   go_enter Tryd.func7, Tryd.ntmps7
   go_wp2_with (first | ((with_reducible refine gate_dst (N := 1) rfl ?_); refine box_event ?hg (N := 1) ?hd (cs := #[.int .u8 a0_0, .int .u64 a0_1, .string a0_2, .slice A0_3 l0_3.length c0_3]) (t := 30) ?hr ?_; (case hd => rfl); (case hg => rfl); (case hr => first | (go_simp; done) | (go_simp; rfl)); intro gb125 hg w15 hbox hb; have n0_ := Aside0.mk (below_step (by repeat (first | (with_reducible first | exact HB.out | apply below_alloc | apply pw_below_drewN | apply below_drew1) | exact HB.out)) hb); have n1_ := Aside0.mk (hbox); have n2_ := Aside0.mk ((by rw [hg]; exact (below_size (by repeat (first | (with_reducible first | exact HB.out | apply below_alloc | apply pw_below_drewN | apply below_drew1) | exact HB.out))) : w.heap.size ≤ gb125)); have n3_ := Aside0.mk ((by rw [hg]; exact (below_size (by repeat (first | (with_reducible first | exact HB.out | apply below_alloc | apply pw_below_drewN | apply below_drew1) | exact HB.out))) : w.heap.size ≤ gb125)); clear HB; have HB := n0_; have BK125 := n1_; have GW125 := n2_; have GE125 := n3_; clear n0_ n1_ n2_ n3_; clear hb hbox hg; have hcz16_0 : w15.cell? ⟨gb125, 0, none⟩ = some (.int .u8 a0_0) := (blk_cell BK125.out 0).trans rfl; have hcz16_1 : w15.cell? ⟨gb125, 1, none⟩ = some (.int .u64 a0_1) := (blk_cell BK125.out 1).trans rfl; have hcz16_2 : w15.cell? ⟨gb125, 2, none⟩ = some (.string a0_2) := (blk_cell BK125.out 2).trans rfl; have hcz16_3 : w15.cell? ⟨gb125, 3, none⟩ = some (.slice A0_3 l0_3.length c0_3) := (blk_cell BK125.out 3).trans rfl; have hfz16_0 := blk_frozen BK125.out 0; have hfz16_1 := blk_frozen BK125.out 1; have hfz16_2 := blk_frozen BK125.out 2; have hfz16_3 := blk_frozen BK125.out 3) | (go_at_call 13; (with_reducible refine (spec_SigOf.calls k a0_0 a0_1 a0_2 _ _ l0_3 t126 _ ?side1 ?side2 A5.out).mono ?_); (case side1 => repeat (first | exact (Kd.C_below HR0_3.out HB.out) | (with_reducible refine Kd.C_alloc ?_ _) | (with_reducible refine Kd.C_drewN ?_ _) | (with_reducible refine Kd.C_drew ?_))); (case side2 => exact HC0_3.out); rintro e w17 ⟨rfl, hb⟩; have n0_ := Aside0.mk (blk_below (g := gb125) (o := .cells #[.int .u8 a0_0, .int .u64 a0_1, .string a0_2, .slice A0_3 l0_3.length c0_3] 30 (0, 0)) (by (with_reducible repeat (first | refine blk_drewN ?_ _ | refine blk_drew ?_ | refine blk_alloc ?_ _)); exact BK125.out) hb); have n1_ := Aside0.mk (below_step (by repeat (first | (with_reducible first | exact HB.out | apply below_alloc | apply pw_below_drewN | apply below_drew1 | refine below_set ?_ GE125.out) | exact HB.out)) hb); clear BK125; clear HB; have BK125 := n0_; have HB := n1_; clear n0_ n1_; (try clear hb); (try clear hb2); (try clear hk); (try clear hi)) | (go_at_call 12; (with_reducible refine (spec_Valid.calls k t126 false _ A6.out).mono ?_); rintro e w18 ⟨rfl, hb⟩; have n0_ := Aside0.mk (blk_below (g := gb125) (o := .cells #[.int .u8 a0_0, .int .u64 a0_1, .string a0_2, .slice A0_3 l0_3.length c0_3] 30 (0, 0)) (by (with_reducible repeat (first | refine blk_drewN ?_ _ | refine blk_drew ?_ | refine blk_alloc ?_ _)); exact BK125.out) hb); have n1_ := Aside0.mk (below_step (by repeat (first | (with_reducible first | exact HB.out | apply below_alloc | apply pw_below_drewN | apply below_drew1 | refine below_set ?_ GE125.out) | exact HB.out)) hb); clear BK125; clear HB; have BK125 := n0_; have HB := n1_; clear n0_ n1_; (try clear hb); (try clear hb2); (try clear hk); (try clear hi)))
   go_ret
   exact ⟨by rfl, by repeat (first | (with_reducible first | exact HB.out | apply below_alloc | apply pw_below_drewN | apply below_drew1 | refine below_set ?_ GE125.out) | exact HB.out)⟩

end Go.Proofs.YtoaehanfknjngaaDoor.Q
