-- Written by a program of this session out of the translation; Lean checks it.
import Derived.Test.YtoldgnmgjpjapaaDoorQ0
import Derived.Test.YtoldgnmgjpjapaaDoorMt
import Derived.Test.YtoldgnmgjpjapaaDoorQ4
import Derived.Test.YtoldgnmgjpjapaaDoorQ5
import Derived.Test.YtoldgnmgjpjapaaDoorQ6
import Derived.Test.YtoldgnmgjpjapaaDoorQ7
namespace Go.Proofs.YtoldgnmgjpjapaaDoor.Q
open Go.RowKit Go.Proofs.YtoldgnmgjpjapaaDoor.Mt Go.Proofs.YtoldgnmgjpjapaaDoorW.PrintWords Go.Proofs.YtoldgnmgjpjapaaDoorW.PrintLast Go.Proofs.YtoldgnmgjpjapaaDoor.Gt
set_option linter.unusedVariables false
set_option linter.unusedSimpArgs false

/-! ### laws_FnMtWithRule: function 4 -/
mutual
def laws_FnMtWithRule.j0 : Nat → List Int → List Int → List ByteArray → Bool → Int → Int → Int → List (S69) → List (S63) → Option (Bool)
 | 0, _, _, _, _, _, _, _, _, _ => none
 | k + 1, x0, x1, x2, x38, x169000, x169001, x169002, x169003, x169004 => if x38 = true then (some true) else (if (x0.length : Int) > 20 then (laws_FnMtWithRule.j1 k x0 x1 x2 true x169000 x169001 x169002 x169003 x169004) else (if (x1.length : Int) = (x0.length : Int) then (if (x2.length : Int) = (x0.length : Int) then (laws_FnMtWithRule.j1 k x0 x1 x2 (decide ((x169004.length : Int) > 70)) x169000 x169001 x169002 x169003 x169004) else (laws_FnMtWithRule.j1 k x0 x1 x2 true x169000 x169001 x169002 x169003 x169004)) else (laws_FnMtWithRule.j1 k x0 x1 x2 true x169000 x169001 x169002 x169003 x169004)))
def laws_FnMtWithRule.j1 : Nat → List Int → List Int → List ByteArray → Bool → Int → Int → Int → List (S69) → List (S63) → Option (Bool)
 | 0, _, _, _, _, _, _, _, _, _ => none
 | k + 1, x0, x1, x2, x61, x169000, x169001, x169002, x169003, x169004 => if x61 = true then (some true) else (laws_FnMtWithRule.l0 k x0 x1 x2 ([] : List (S32)) true (x0.length : Int) 0 x169000 x169001 x169002 x169003 x169004)
def laws_FnMtWithRule.l0 : Nat → List Int → List Int → List ByteArray → List (S32) → Bool → Int → Int → Int → Int → Int → List (S69) → List (S63) → Option (Bool)
 | 0, _, _, _, _, _, _, _, _, _, _, _, _ => none
 | k + 1, x0, x1, x2, x9, x10, x63, x64, x169000, x169001, x169002, x169003, x169004 => if x64 < x63 then (if 0 ≤ x64 then (if x64 < (x0.length : Int) then (if (rd x0 x64) > 8 then (laws_FnMtWithRule.j3 k x0 x1 x2 x9 x10 x64 x63 x64 true x169000 x169001 x169002 x169003 x169004) else (if x64 < (x1.length : Int) then (if (rd x1 x64) > 63 then (laws_FnMtWithRule.j3 k x0 x1 x2 x9 x10 x64 x63 x64 true x169000 x169001 x169002 x169003 x169004) else (if x64 < (x2.length : Int) then ((laws_mtPlain.f k (([(⟨(⟨#[]⟩ : ByteArray), rdOf ByteArray.empty x2 x64⟩ : S32)] : List (S32)))).bind fun t177 => (laws_FnMtWithRule.j3 k x0 x1 x2 x9 x10 x64 x63 x64 (!t177) x169000 x169001 x169002 x169003 x169004)) else (none))) else (none))) else (none)) else (none)) else ((impl_MtRule.f k x9).bind fun t193 => ((spec_ReadRule.f k t193).bind fun bt194 => ((spec_FitsAll.f k x169000 x169001 x169002 x169003 x169004 bt194.1).bind fun bt198 => (if bt194.2 = true then (if bt198.2 = true then (if (bt194.1.length : Int) = (x0.length : Int) then (if (bt198.1 == x10) = true then ((impl_MtRule.f k (([(⟨(⟨#[97]⟩ : ByteArray), (⟨#[98]⟩ : ByteArray)⟩ : S32)] : List (S32)))).bind fun t203 => (some (t203.toList == ([97, 61, 39, 98, 39] : List UInt8)))) else (some false)) else (some false)) else (some false)) else (some false)))))
def laws_FnMtWithRule.j3 : Nat → List Int → List Int → List ByteArray → List (S32) → Bool → Int → Int → Int → Bool → Int → Int → Int → List (S69) → List (S63) → Option (Bool)
 | 0, _, _, _, _, _, _, _, _, _, _, _, _, _, _ => none
 | k + 1, x0, x1, x2, x9, x10, x11, x63, x64, x88, x169000, x169001, x169002, x169003, x169004 => if x88 = true then (some true) else (if 0 ≤ x11 then (if x11 < (x0.length : Int) then (if x11 < (x1.length : Int) then (if x11 < (x2.length : Int) then ((impl_MtWith.f (wrap64 (rd x0 x11)) (wrap64 (rd x1 x11)) (rdOf ByteArray.empty x2 x11)).bind fun bt181 => (if bt181.2.2 = true then (if x9.length < 4398046511104 then ((some (x9 ++ [(⟨bt181.1, bt181.2.1⟩ : S32)] : List (S32))).bind fun y184 => ((laws_mtKeyOf.f k (wrap64 (rd x0 x11)) (wrap64 (rd x1 x11))).bind fun t189 => ((spec_Fits.f k x169000 x169001 x169002 x169003 x169004 t189 (rdOf ByteArray.empty x2 x11)).bind fun bt191 => (if x10 = true then (laws_FnMtWithRule.l0 k x0 x1 x2 y184 bt191.1 x63 (wrap64 (x64 + 1)) x169000 x169001 x169002 x169003 x169004) else (laws_FnMtWithRule.l0 k x0 x1 x2 y184 false x63 (wrap64 (x64 + 1)) x169000 x169001 x169002 x169003 x169004))))) else (none)) else (some false))) else (none)) else (none)) else (none)) else (none))
end
def laws_FnMtWithRule.f (k : Nat) (l0 : List Int) (l1 : List Int) (l2 : List ByteArray) (a3_0 : Int) (a3_1 : Int) (a3_2 : Int) (l3_3 : List (S69)) (l3_4 : List (S63)) : Option (Bool) := if (l0.length : Int) > 2147483647 then (laws_FnMtWithRule.j0 k l0 l1 l2 true a3_0 a3_1 a3_2 l3_3 l3_4) else (if (l1.length : Int) > 2147483647 then (laws_FnMtWithRule.j0 k l0 l1 l2 true a3_0 a3_1 a3_2 l3_3 l3_4) else ((laws_zzFits5.f k l2).bind fun t169 => (if t169 = true then ((laws_zzFits1.f a3_0 a3_1 a3_2 l3_3 l3_4).bind fun t170 => (laws_FnMtWithRule.j0 k l0 l1 l2 (!t170) a3_0 a3_1 a3_2 l3_3 l3_4)) else (laws_FnMtWithRule.j0 k l0 l1 l2 true a3_0 a3_1 a3_2 l3_3 l3_4))))
theorem laws_FnMtWithRule.mono_l : ∀ k, (∀ y0 y1 y2 y3 y4 y5 y6 y7 y8, LeO (laws_FnMtWithRule.j0 k y0 y1 y2 y3 y4 y5 y6 y7 y8) (laws_FnMtWithRule.j0 (k + 1) y0 y1 y2 y3 y4 y5 y6 y7 y8)) ∧ (∀ y0 y1 y2 y3 y4 y5 y6 y7 y8, LeO (laws_FnMtWithRule.j1 k y0 y1 y2 y3 y4 y5 y6 y7 y8) (laws_FnMtWithRule.j1 (k + 1) y0 y1 y2 y3 y4 y5 y6 y7 y8)) ∧ (∀ y0 y1 y2 y3 y4 y5 y6 y7 y8 y9 y10 y11, LeO (laws_FnMtWithRule.l0 k y0 y1 y2 y3 y4 y5 y6 y7 y8 y9 y10 y11) (laws_FnMtWithRule.l0 (k + 1) y0 y1 y2 y3 y4 y5 y6 y7 y8 y9 y10 y11)) ∧ (∀ y0 y1 y2 y3 y4 y5 y6 y7 y8 y9 y10 y11 y12 y13, LeO (laws_FnMtWithRule.j3 k y0 y1 y2 y3 y4 y5 y6 y7 y8 y9 y10 y11 y12 y13) (laws_FnMtWithRule.j3 (k + 1) y0 y1 y2 y3 y4 y5 y6 y7 y8 y9 y10 y11 y12 y13))
 | 0 => ⟨fun _ _ _ _ _ _ _ _ _ r h => by simp [laws_FnMtWithRule.j0] at h, fun _ _ _ _ _ _ _ _ _ r h => by simp [laws_FnMtWithRule.j1] at h, fun _ _ _ _ _ _ _ _ _ _ _ _ r h => by simp [laws_FnMtWithRule.l0] at h, fun _ _ _ _ _ _ _ _ _ _ _ _ _ _ r h => by simp [laws_FnMtWithRule.j3] at h⟩
 | k + 1 => by
  obtain ⟨ih0, ih1, ih2, ih3⟩ := laws_FnMtWithRule.mono_l k
  refine ⟨?_, ?_, ?_, ?_⟩
  ·intro y0 y1 y2 y3 y4 y5 y6 y7 y8
   unfold laws_FnMtWithRule.j0
   repeat' first
   | (with_reducible exact ih0 _ _ _ _ _ _ _ _ _)
   | (with_reducible exact ih1 _ _ _ _ _ _ _ _ _)
   | (with_reducible exact ih2 _ _ _ _ _ _ _ _ _ _ _ _)
   | (with_reducible exact ih3 _ _ _ _ _ _ _ _ _ _ _ _ _ _)
   | (with_reducible exact impl_MtRule.mono _ _)
   | (with_reducible exact laws_mtKeyOf.mono _ _ _)
   | (with_reducible exact laws_mtPlain.mono _ _)
   | (with_reducible exact laws_zzFits5.mono _ _)
   | (with_reducible exact spec_Fits.mono _ _ _ _ _ _ _ _)
   | (with_reducible exact spec_FitsAll.mono _ _ _ _ _ _ _)
   | (with_reducible exact spec_ReadRule.mono _ _)
   | (with_reducible exact LeO.refl _)
   | (with_reducible exact LeO.none _)
   | (with_reducible refine LeO.ite ?_ ?_)
   | (with_reducible refine LeO.bind ?_ (fun _ => ?_))
   | exact ih0 _ _ _ _ _ _ _ _ _
   | exact ih1 _ _ _ _ _ _ _ _ _
   | exact ih2 _ _ _ _ _ _ _ _ _ _ _ _
   | exact ih3 _ _ _ _ _ _ _ _ _ _ _ _ _ _
   | exact impl_MtRule.mono _ _
   | exact laws_mtKeyOf.mono _ _ _
   | exact laws_mtPlain.mono _ _
   | exact laws_zzFits5.mono _ _
   | exact spec_Fits.mono _ _ _ _ _ _ _ _
   | exact spec_FitsAll.mono _ _ _ _ _ _ _
   | exact spec_ReadRule.mono _ _
   | exact LeO.none _
   | refine LeO.ite ?_ ?_
   | refine LeO.bind ?_ (fun _ => ?_)
  ·intro y0 y1 y2 y3 y4 y5 y6 y7 y8
   unfold laws_FnMtWithRule.j1
   repeat' first
   | (with_reducible exact ih0 _ _ _ _ _ _ _ _ _)
   | (with_reducible exact ih1 _ _ _ _ _ _ _ _ _)
   | (with_reducible exact ih2 _ _ _ _ _ _ _ _ _ _ _ _)
   | (with_reducible exact ih3 _ _ _ _ _ _ _ _ _ _ _ _ _ _)
   | (with_reducible exact impl_MtRule.mono _ _)
   | (with_reducible exact laws_mtKeyOf.mono _ _ _)
   | (with_reducible exact laws_mtPlain.mono _ _)
   | (with_reducible exact laws_zzFits5.mono _ _)
   | (with_reducible exact spec_Fits.mono _ _ _ _ _ _ _ _)
   | (with_reducible exact spec_FitsAll.mono _ _ _ _ _ _ _)
   | (with_reducible exact spec_ReadRule.mono _ _)
   | (with_reducible exact LeO.refl _)
   | (with_reducible exact LeO.none _)
   | (with_reducible refine LeO.ite ?_ ?_)
   | (with_reducible refine LeO.bind ?_ (fun _ => ?_))
   | exact ih0 _ _ _ _ _ _ _ _ _
   | exact ih1 _ _ _ _ _ _ _ _ _
   | exact ih2 _ _ _ _ _ _ _ _ _ _ _ _
   | exact ih3 _ _ _ _ _ _ _ _ _ _ _ _ _ _
   | exact impl_MtRule.mono _ _
   | exact laws_mtKeyOf.mono _ _ _
   | exact laws_mtPlain.mono _ _
   | exact laws_zzFits5.mono _ _
   | exact spec_Fits.mono _ _ _ _ _ _ _ _
   | exact spec_FitsAll.mono _ _ _ _ _ _ _
   | exact spec_ReadRule.mono _ _
   | exact LeO.none _
   | refine LeO.ite ?_ ?_
   | refine LeO.bind ?_ (fun _ => ?_)
  ·intro y0 y1 y2 y3 y4 y5 y6 y7 y8 y9 y10 y11
   unfold laws_FnMtWithRule.l0
   repeat' first
   | (with_reducible exact ih0 _ _ _ _ _ _ _ _ _)
   | (with_reducible exact ih1 _ _ _ _ _ _ _ _ _)
   | (with_reducible exact ih2 _ _ _ _ _ _ _ _ _ _ _ _)
   | (with_reducible exact ih3 _ _ _ _ _ _ _ _ _ _ _ _ _ _)
   | (with_reducible exact impl_MtRule.mono _ _)
   | (with_reducible exact laws_mtKeyOf.mono _ _ _)
   | (with_reducible exact laws_mtPlain.mono _ _)
   | (with_reducible exact laws_zzFits5.mono _ _)
   | (with_reducible exact spec_Fits.mono _ _ _ _ _ _ _ _)
   | (with_reducible exact spec_FitsAll.mono _ _ _ _ _ _ _)
   | (with_reducible exact spec_ReadRule.mono _ _)
   | (with_reducible exact LeO.refl _)
   | (with_reducible exact LeO.none _)
   | (with_reducible refine LeO.ite ?_ ?_)
   | (with_reducible refine LeO.bind ?_ (fun _ => ?_))
   | exact ih0 _ _ _ _ _ _ _ _ _
   | exact ih1 _ _ _ _ _ _ _ _ _
   | exact ih2 _ _ _ _ _ _ _ _ _ _ _ _
   | exact ih3 _ _ _ _ _ _ _ _ _ _ _ _ _ _
   | exact impl_MtRule.mono _ _
   | exact laws_mtKeyOf.mono _ _ _
   | exact laws_mtPlain.mono _ _
   | exact laws_zzFits5.mono _ _
   | exact spec_Fits.mono _ _ _ _ _ _ _ _
   | exact spec_FitsAll.mono _ _ _ _ _ _ _
   | exact spec_ReadRule.mono _ _
   | exact LeO.none _
   | refine LeO.ite ?_ ?_
   | refine LeO.bind ?_ (fun _ => ?_)
  ·intro y0 y1 y2 y3 y4 y5 y6 y7 y8 y9 y10 y11 y12 y13
   unfold laws_FnMtWithRule.j3
   repeat' first
   | (with_reducible exact ih0 _ _ _ _ _ _ _ _ _)
   | (with_reducible exact ih1 _ _ _ _ _ _ _ _ _)
   | (with_reducible exact ih2 _ _ _ _ _ _ _ _ _ _ _ _)
   | (with_reducible exact ih3 _ _ _ _ _ _ _ _ _ _ _ _ _ _)
   | (with_reducible exact impl_MtRule.mono _ _)
   | (with_reducible exact laws_mtKeyOf.mono _ _ _)
   | (with_reducible exact laws_mtPlain.mono _ _)
   | (with_reducible exact laws_zzFits5.mono _ _)
   | (with_reducible exact spec_Fits.mono _ _ _ _ _ _ _ _)
   | (with_reducible exact spec_FitsAll.mono _ _ _ _ _ _ _)
   | (with_reducible exact spec_ReadRule.mono _ _)
   | (with_reducible exact LeO.refl _)
   | (with_reducible exact LeO.none _)
   | (with_reducible refine LeO.ite ?_ ?_)
   | (with_reducible refine LeO.bind ?_ (fun _ => ?_))
   | exact ih0 _ _ _ _ _ _ _ _ _
   | exact ih1 _ _ _ _ _ _ _ _ _
   | exact ih2 _ _ _ _ _ _ _ _ _ _ _ _
   | exact ih3 _ _ _ _ _ _ _ _ _ _ _ _ _ _
   | exact impl_MtRule.mono _ _
   | exact laws_mtKeyOf.mono _ _ _
   | exact laws_mtPlain.mono _ _
   | exact laws_zzFits5.mono _ _
   | exact spec_Fits.mono _ _ _ _ _ _ _ _
   | exact spec_FitsAll.mono _ _ _ _ _ _ _
   | exact spec_ReadRule.mono _ _
   | exact LeO.none _
   | refine LeO.ite ?_ ?_
   | refine LeO.bind ?_ (fun _ => ?_)
theorem laws_FnMtWithRule.mono : ∀ a0 a1 a2 a3 a4 a5 a6 a7 k, LeO (laws_FnMtWithRule.f k a0 a1 a2 a3 a4 a5 a6 a7) (laws_FnMtWithRule.f (k + 1) a0 a1 a2 a3 a4 a5 a6 a7) := by
 intro a0 a1 a2 a3 a4 a5 a6 a7 k
 obtain ⟨ih0, ih1, ih2, ih3⟩ := laws_FnMtWithRule.mono_l k
 unfold laws_FnMtWithRule.f
 repeat' first
   | (with_reducible exact ih0 _ _ _ _ _ _ _ _ _)
   | (with_reducible exact ih1 _ _ _ _ _ _ _ _ _)
   | (with_reducible exact ih2 _ _ _ _ _ _ _ _ _ _ _ _)
   | (with_reducible exact ih3 _ _ _ _ _ _ _ _ _ _ _ _ _ _)
   | (with_reducible exact impl_MtRule.mono _ _)
   | (with_reducible exact laws_mtKeyOf.mono _ _ _)
   | (with_reducible exact laws_mtPlain.mono _ _)
   | (with_reducible exact laws_zzFits5.mono _ _)
   | (with_reducible exact spec_Fits.mono _ _ _ _ _ _ _ _)
   | (with_reducible exact spec_FitsAll.mono _ _ _ _ _ _ _)
   | (with_reducible exact spec_ReadRule.mono _ _)
   | (with_reducible exact LeO.refl _)
   | (with_reducible exact LeO.none _)
   | (with_reducible refine LeO.ite ?_ ?_)
   | (with_reducible refine LeO.bind ?_ (fun _ => ?_))
   | exact ih0 _ _ _ _ _ _ _ _ _
   | exact ih1 _ _ _ _ _ _ _ _ _
   | exact ih2 _ _ _ _ _ _ _ _ _ _ _ _
   | exact ih3 _ _ _ _ _ _ _ _ _ _ _ _ _ _
   | exact impl_MtRule.mono _ _
   | exact laws_mtKeyOf.mono _ _ _
   | exact laws_mtPlain.mono _ _
   | exact laws_zzFits5.mono _ _
   | exact spec_Fits.mono _ _ _ _ _ _ _ _
   | exact spec_FitsAll.mono _ _ _ _ _ _ _
   | exact spec_ReadRule.mono _ _
   | exact LeO.none _
   | refine LeO.ite ?_ ?_
   | refine LeO.bind ?_ (fun _ => ?_)
def laws_FnMtWithRule.T12 : Bool × List (List Nat × List Nat) := (true, [([], []), ([], []), ([0, 1], [0, 1]), ([2], [2]), ([3], [3]), ([], []), ([], []), ([5, 6], [5, 6]), ([7], [7]), ([8], [8]), ([], []), ([], []), ([10, 11], [10, 11]), ([12], [12]), ([4, 9, 13], [4, 9, 13]), ([14], [14]), ([15], [15]), ([15], [15]), ([15], [15]), ([16, 14, 0, 1, 2, 3, 4, 5, 6, 7, 8, 9, 10, 11, 12, 13, 14, 15, 16], [16]), ([17, 19, 0, 1, 2, 3, 4, 5, 6, 7, 8, 9, 10, 11, 12, 13, 14, 15, 16, 17, 19], [17]), ([18, 20, 0, 1, 2, 3, 4, 5, 6, 7, 8, 9, 10, 11, 12, 13, 14, 15, 16, 17, 18, 19, 20], [18])])
def laws_FnMtWithRule.B12 : List Nat := [0, 0, 3, 7, 15, 0, 0, 96, 224, 480, 0, 0, 3072, 7168, 16383, 32767, 65535, 65535, 65535, 131071, 786431, 2097151]
theorem laws_FnMtWithRule.tab12 : rtab .any (opsOf Tryd.f4 12) = laws_FnMtWithRule.T12 := by kernel_rfl
theorem laws_FnMtWithRule.bits12 : waitsOk laws_FnMtWithRule.T12.2 laws_FnMtWithRule.B12 = true := by kernel_rfl
def laws_FnMtWithRule.T16 : Bool × List (List Nat × List Nat) := (true, [([], []), ([], []), ([], []), ([1, 2], [1, 2]), ([3], [3]), ([4], [4]), ([], []), ([], []), ([6, 7], [6, 7]), ([8], [8]), ([9], [9]), ([5, 10], [5, 10]), ([], []), ([], []), ([12, 13], [12, 13]), ([14], [14]), ([11, 15], [11, 15]), ([0, 16, 11], [0, 16]), ([17], [17]), ([18], [18]), ([18], [18]), ([19, 17, 0, 1, 2, 3, 4, 5, 6, 7, 8, 9, 10, 11, 12, 13, 14, 15, 16, 17, 18, 19], [19]), ([20, 21, 0, 1, 2, 3, 4, 5, 6, 7, 8, 9, 10, 11, 12, 13, 14, 15, 16, 17, 18, 19, 20, 21], [20])])
def laws_FnMtWithRule.B16 : List Nat := [0, 0, 0, 6, 14, 30, 0, 0, 192, 448, 960, 2046, 0, 0, 12288, 28672, 65534, 131071, 262143, 524287, 524287, 1048575, 4194303]
theorem laws_FnMtWithRule.tab16 : rtab .any (opsOf Tryd.f4 16) = laws_FnMtWithRule.T16 := by kernel_rfl
theorem laws_FnMtWithRule.bits16 : waitsOk laws_FnMtWithRule.T16.2 laws_FnMtWithRule.B16 = true := by kernel_rfl
set_option maxHeartbeats 8000000 in
set_option maxRecDepth 100000 in
theorem laws_FnMtWithRule.calls (k : Nat) (A0 : Option Addr) (c0 : Nat) (l0 : List Int) (A1 : Option Addr) (c1 : Nat) (l1 : List Int) (A2 : Option Addr) (c2 : Nat) (l2 : List ByteArray) (a3_0 : Int) (a3_1 : Int) (a3_2 : Int) (A3_3 : Option Addr) (c3_3 : Nat) (l3_3 : List (S69)) (A3_4 : Option Addr) (c3_4 : Nat) (l3_4 : List (S63)) (r : Bool) (w : World) (hr0 : Kd.C (Kd.int .u8) w A0 l0.length l0) (hc0 : l0.length ≤ c0) (hr1 : Kd.C (Kd.int .u8) w A1 l1.length l1) (hc1 : l1.length ≤ c1) (hr2 : Kd.C Kd.string w A2 l2.length l2) (hc2 : l2.length ≤ c2) (hr3_3 : Kd.C k69 w A3_3 l3_3.length l3_3) (hc3_3 : l3_3.length ≤ c3_3) (hr3_4 : Kd.C k63 w A3_4 l3_4.length l3_4) (hc3_4 : l3_4.length ≤ c3_4) (h : laws_FnMtWithRule.f k l0 l1 l2 a3_0 a3_1 a3_2 l3_3 l3_4 = some r) :
  Calls Tryd.prog 4 #[.slice A0 l0.length c0, .slice A1 l1.length c1, .slice A2 l2.length c2, .agg #[.int .u8 a3_0, .int .u8 a3_1, .int .u32 a3_2, .slice A3_3 l3_3.length c3_3, .slice A3_4 l3_4.length c3_4]] w fun e w' => e = .returned (.bool r) ∧ Below w.heap.size w w' := by
 have hu28 := Tryd.underlying28
 have hu32 := Tryd.underlying32
 have hu41 := Tryd.underlying41
 have HR0 := Aside0.mk hr0
 have HC0 := Aside0.mk hc0
 clear hr0 hc0
 have HR1 := Aside0.mk hr1
 have HC1 := Aside0.mk hc1
 clear hr1 hc1
 have HR2 := Aside0.mk hr2
 have HC2 := Aside0.mk hc2
 clear hr2 hc2
 have HR3_3 := Aside0.mk hr3_3
 have HC3_3 := Aside0.mk hc3_3
 clear hr3_3 hc3_3
 have HR3_4 := Aside0.mk hr3_4
 have HC3_4 := Aside0.mk hc3_4
 clear hr3_4 hc3_4
 have HB := Aside0.mk (Below.refl w.heap.size w)
 have H : (if (l0.length : Int) > 2147483647 then (laws_FnMtWithRule.j0 k l0 l1 l2 true a3_0 a3_1 a3_2 l3_3 l3_4) else (if (l1.length : Int) > 2147483647 then (laws_FnMtWithRule.j0 k l0 l1 l2 true a3_0 a3_1 a3_2 l3_3 l3_4) else ((laws_zzFits5.f k l2).bind fun t169 => (if t169 = true then ((laws_zzFits1.f a3_0 a3_1 a3_2 l3_3 l3_4).bind fun t170 => (laws_FnMtWithRule.j0 k l0 l1 l2 (!t170) a3_0 a3_1 a3_2 l3_3 l3_4)) else (laws_FnMtWithRule.j0 k l0 l1 l2 true a3_0 a3_1 a3_2 l3_3 l3_4))))) = some r := h
 clear h
 have HC5 := Aside0.mk H
 clear H
 go_enter Tryd.func4, Tryd.ntmps4
 go_upto_region 1 with (first | ((with_reducible refine gate_dst (N := 7) rfl ?_); (try (refine gate_guard (by rfl) ?_; dsimp only)); refine box_event ?hg (N := 7) ?hd (cs := #[.int .u8 a3_0, .int .u8 a3_1, .int .u32 a3_2, .slice A3_3 l3_3.length c3_3, .slice A3_4 l3_4.length c3_4]) (t := 28) ?hr ?_; (case hd => rfl); (case hg => rfl); (case hr => first | (go_simp; done) | (go_simp; rfl)); intro gb168 hg w6 hbox hb; have n0_ := Aside0.mk (below_step (by repeat (first | (with_reducible first | exact HB.out | apply below_alloc | apply pw_below_drewN | apply below_drew1) | exact HB.out)) hb); have n1_ := Aside0.mk (hbox); have n2_ := Aside0.mk ((by rw [hg]; exact (below_size (by repeat (first | (with_reducible first | exact HB.out | apply below_alloc | apply pw_below_drewN | apply below_drew1) | exact HB.out))) : w.heap.size ≤ gb168)); have n3_ := Aside0.mk ((by rw [hg]; exact (below_size (by repeat (first | (with_reducible first | exact HB.out | apply below_alloc | apply pw_below_drewN | apply below_drew1) | exact HB.out))) : w.heap.size ≤ gb168)); clear HB; have HB := n0_; have BK168 := n1_; have GW168 := n2_; have GE168 := n3_; clear n0_ n1_ n2_ n3_; clear hb hbox hg))
 (try simp only [Act.put, List.setIfInBounds_toArray, List.set_cons_zero, List.set_cons_succ])
 go_cut [38] (fun v38 wc => ∃ (kq : Nat) (x38_4 : Bool), v38 = .bool x38_4 ∧ Aside0 (laws_FnMtWithRule.j0 kq l0 l1 l2 x38_4 a3_0 a3_1 a3_2 l3_3 l3_4 = some r) ∧ Aside0 (kq ≤ k) ∧ Aside0 (wc.heap[gb168]? = some (.cells #[.int .u8 a3_0, .int .u8 a3_1, .int .u32 a3_2, (.slice A3_3 l3_3.length c3_3), (.slice A3_4 l3_4.length c3_4)] 28 (0, 0))) ∧ Aside0 (Below w.heap.size w wc))
 case first =>
  have H := HC5.out
  clear HC5
  by_cases c7 : (l0.length : Int) > 2147483647
  ·rw [if_pos c7] at H
   have c7b0 : decide (2147483647 < (l0.length : Int)) = true := decide_eq_true c7
   have c7b1 : decide (2147483647 < l0.length) = true := decide_eq_true (by omega)
   clear c7
   (first | rw [c7b0] | (simp only [i64_w, i32_w]; rw [c7b0]) | skip)
   have H' := Aside0.mk H
   clear H
   go_wp2
   go_meet
   case rel => exact ⟨_, (true), (by first | rfl | (simp; done) | (simp [*]; done)), H', ⟨by first | omega | exact Nat.le_refl _⟩, ⟨by (with_reducible repeat (first | refine blk_drewN ?_ _ | refine blk_drew ?_ | refine blk_alloc ?_ _)); exact BK168.out⟩, ⟨by repeat (first | (with_reducible first | exact HB.out | apply below_alloc | apply pw_below_drewN | apply below_drew1 | refine below_set ?_ GE168.out) | exact HB.out)⟩⟩
  ·rw [if_neg c7] at H
   have c7b0 : decide (2147483647 < (l0.length : Int)) = false := decide_eq_false c7
   have c7b1 : decide (2147483647 < l0.length) = false := decide_eq_false (by omega)
   clear c7
   (first | rw [c7b0] | (simp only [i64_w, i32_w]; rw [c7b0]) | skip)
   by_cases c8 : (l1.length : Int) > 2147483647
   ·rw [if_pos c8] at H
    have c8b0 : decide (2147483647 < (l1.length : Int)) = true := decide_eq_true c8
    have c8b1 : decide (2147483647 < l1.length) = true := decide_eq_true (by omega)
    clear c8
    have H' := Aside0.mk H
    clear H
    go_wp2
    go_meet
    case rel => exact ⟨_, (true), (by first | rfl | (simp; done) | (simp [*]; done)), H', ⟨by first | omega | exact Nat.le_refl _⟩, ⟨by (with_reducible repeat (first | refine blk_drewN ?_ _ | refine blk_drew ?_ | refine blk_alloc ?_ _)); exact BK168.out⟩, ⟨by repeat (first | (with_reducible first | exact HB.out | apply below_alloc | apply pw_below_drewN | apply below_drew1 | refine below_set ?_ GE168.out) | exact HB.out)⟩⟩
   ·rw [if_neg c8] at H
    have c8b0 : decide (2147483647 < (l1.length : Int)) = false := decide_eq_false c8
    have c8b1 : decide (2147483647 < l1.length) = false := decide_eq_false (by omega)
    clear c8
    replace H := Option.bind_eq_some_iff.mp H
    obtain ⟨t169, A90, H⟩ := H
    replace H : (if t169 = true then ((laws_zzFits1.f a3_0 a3_1 a3_2 l3_3 l3_4).bind fun t170 => (laws_FnMtWithRule.j0 k l0 l1 l2 (!t170) a3_0 a3_1 a3_2 l3_3 l3_4)) else (laws_FnMtWithRule.j0 k l0 l1 l2 true a3_0 a3_1 a3_2 l3_3 l3_4)) = some r := H
    have A9 := Aside0.mk A90
    clear A90
    by_cases c10 : t169 = true
    ·subst c10
     have H1 : ((laws_zzFits1.f a3_0 a3_1 a3_2 l3_3 l3_4).bind fun t170 => (laws_FnMtWithRule.j0 k l0 l1 l2 (!t170) a3_0 a3_1 a3_2 l3_3 l3_4)) = some r := by rw [if_pos rfl] at H; exact H
     clear H
     have H := H1
     clear H1
     replace H := Option.bind_eq_some_iff.mp H
     obtain ⟨t170, A110, H⟩ := H
     replace H : (laws_FnMtWithRule.j0 k l0 l1 l2 (!t170) a3_0 a3_1 a3_2 l3_3 l3_4) = some r := H
     have A11 := Aside0.mk A110
     clear A110
     have H' := Aside0.mk H
     clear H
     go_wp2_with (first | (go_at_call 5; (with_reducible refine (laws_zzFits5.calls k _ _ l2 true _ ?side1 ?side2 A9.out).mono ?_); (case side1 => repeat (first | exact (Kd.C_below HR2.out HB.out) | (with_reducible refine Kd.C_alloc ?_ _) | (with_reducible refine Kd.C_drewN ?_ _) | (with_reducible refine Kd.C_drew ?_))); (case side2 => exact HC2.out); rintro e w' ⟨rfl, ⟨nd, rfl⟩⟩; have hcz12_0 : w6.cell? ⟨gb168, 0, none⟩ = some (.int .u8 a3_0) := (blk_cell BK168.out 0).trans rfl; have hcz12_1 : w6.cell? ⟨gb168, 1, none⟩ = some (.int .u8 a3_1) := (blk_cell BK168.out 1).trans rfl; have hcz12_2 : w6.cell? ⟨gb168, 2, none⟩ = some (.int .u32 a3_2) := (blk_cell BK168.out 2).trans rfl; have hcz12_3 : w6.cell? ⟨gb168, 3, none⟩ = some (.slice A3_3 l3_3.length c3_3) := (blk_cell BK168.out 3).trans rfl; have hcz12_4 : w6.cell? ⟨gb168, 4, none⟩ = some (.slice A3_4 l3_4.length c3_4) := (blk_cell BK168.out 4).trans rfl; have hfz12_0 := blk_frozen BK168.out 0; have hfz12_1 := blk_frozen BK168.out 1; have hfz12_2 := blk_frozen BK168.out 2; have hfz12_3 := blk_frozen BK168.out 3; have hfz12_4 := blk_frozen BK168.out 4) | (go_at_call 6; (with_reducible refine (laws_zzFits1.calls a3_0 a3_1 a3_2 _ _ l3_3 _ _ l3_4 t170 _ ?side1 ?side2 ?side3 ?side4 A11.out).mono ?_); (case side1 => repeat (first | exact (Kd.C_below HR3_3.out (by repeat (first | (with_reducible first | exact HB.out | apply below_alloc | apply pw_below_drewN | apply below_drew1 | refine below_set ?_ GE168.out) | exact HB.out))) | (with_reducible refine Kd.C_alloc ?_ _) | (with_reducible refine Kd.C_drewN ?_ _) | (with_reducible refine Kd.C_drew ?_))); (case side2 => exact HC3_3.out); (case side3 => repeat (first | exact (Kd.C_below HR3_4.out (by repeat (first | (with_reducible first | exact HB.out | apply below_alloc | apply pw_below_drewN | apply below_drew1 | refine below_set ?_ GE168.out) | exact HB.out))) | (with_reducible refine Kd.C_alloc ?_ _) | (with_reducible refine Kd.C_drewN ?_ _) | (with_reducible refine Kd.C_drew ?_))); (case side4 => exact HC3_4.out); rintro e w13 ⟨rfl, hb⟩; have n0_ := Aside0.mk (blk_below (g := gb168) (o := .cells #[.int .u8 a3_0, .int .u8 a3_1, .int .u32 a3_2, .slice A3_3 l3_3.length c3_3, .slice A3_4 l3_4.length c3_4] 28 (0, 0)) (by (with_reducible repeat (first | refine blk_drewN ?_ _ | refine blk_drew ?_ | refine blk_alloc ?_ _)); exact BK168.out) hb); have n1_ := Aside0.mk (below_step (by repeat (first | (with_reducible first | exact HB.out | apply below_alloc | apply pw_below_drewN | apply below_drew1 | refine below_set ?_ GE168.out) | exact HB.out)) hb); clear BK168; clear HB; have BK168 := n0_; have HB := n1_; clear n0_ n1_; (try clear hb); (try clear hb2); (try clear hk); (try clear hi)))
     go_meet
     case rel => exact ⟨_, (!t170), (by first | rfl | (simp; done) | (simp [*]; done)), H', ⟨by first | omega | exact Nat.le_refl _⟩, ⟨by (with_reducible repeat (first | refine blk_drewN ?_ _ | refine blk_drew ?_ | refine blk_alloc ?_ _)); exact BK168.out⟩, ⟨by repeat (first | (with_reducible first | exact HB.out | apply below_alloc | apply pw_below_drewN | apply below_drew1 | refine below_set ?_ GE168.out) | exact HB.out)⟩⟩
    ·replace c10 := Bool.eq_false_iff.mpr c10
     subst c10
     have H1 : (laws_FnMtWithRule.j0 k l0 l1 l2 true a3_0 a3_1 a3_2 l3_3 l3_4) = some r := by rw [if_neg (show ¬ (false = true) by decide)] at H; exact H
     clear H
     have H := H1
     clear H1
     have H' := Aside0.mk H
     clear H
     go_wp2_with (first | (go_at_call 5; (with_reducible refine (laws_zzFits5.calls k _ _ l2 false _ ?side1 ?side2 A9.out).mono ?_); (case side1 => repeat (first | exact (Kd.C_below HR2.out HB.out) | (with_reducible refine Kd.C_alloc ?_ _) | (with_reducible refine Kd.C_drewN ?_ _) | (with_reducible refine Kd.C_drew ?_))); (case side2 => exact HC2.out); rintro e w' ⟨rfl, ⟨nd, rfl⟩⟩))
     go_meet
     case rel => exact ⟨_, (true), (by first | rfl | (simp; done) | (simp [*]; done)), H', ⟨by first | omega | exact Nat.le_refl _⟩, ⟨by (with_reducible repeat (first | refine blk_drewN ?_ _ | refine blk_drew ?_ | refine blk_alloc ?_ _)); exact BK168.out⟩, ⟨by repeat (first | (with_reducible first | exact HB.out | apply below_alloc | apply pw_below_drewN | apply below_drew1 | refine below_set ?_ GE168.out) | exact HB.out)⟩⟩
 case rest =>
  clear HC5
  try clear c1
  try clear c2
  try clear p2
  try clear c3
  try clear c4
  try clear c7
  try clear c7b0
  try clear c7b1
  try clear c8
  try clear c8b0
  try clear c8b1
  try clear c10
  try clear hcz12_0
  try clear hcz12_1
  try clear hcz12_2
  try clear hcz12_3
  try clear hcz12_4
  try clear hfz12_0
  try clear hfz12_1
  try clear hfz12_2
  try clear hfz12_3
  try clear hfz12_4
  obtain ⟨kq, x38_4, rfl, HA, HJ4, BK168, HB⟩ := hcut
  cases kq with
  | zero => exact absurd HA.out (by simp [laws_FnMtWithRule.j0])
  | succ kj4 =>
   have H := HA.out
   clear HA
   simp only [laws_FnMtWithRule.j0] at H
   by_cases c14 : x38_4 = true
   ·subst c14
    have H1 : (some true) = some r := by rw [if_pos rfl] at H; exact H
    clear H
    have H := H1
    clear H1
    obtain rfl := Option.some.inj H
    go_wp2
    go_ret
    exact ⟨by first | rfl | (simp [errW_none, errW_some] <;> rfl) | (simp [*, errW_none, errW_some] <;> rfl), by repeat (first | (with_reducible first | exact HB.out | apply below_alloc | apply pw_below_drewN | apply below_drew1 | refine below_set ?_ GE168.out) | exact HB.out)⟩
   ·replace c14 := Bool.eq_false_iff.mpr c14
    subst c14
    have H1 : (if (l0.length : Int) > 20 then (laws_FnMtWithRule.j1 kj4 l0 l1 l2 true a3_0 a3_1 a3_2 l3_3 l3_4) else (if (l1.length : Int) = (l0.length : Int) then (if (l2.length : Int) = (l0.length : Int) then (laws_FnMtWithRule.j1 kj4 l0 l1 l2 (decide ((l3_4.length : Int) > 70)) a3_0 a3_1 a3_2 l3_3 l3_4) else (laws_FnMtWithRule.j1 kj4 l0 l1 l2 true a3_0 a3_1 a3_2 l3_3 l3_4)) else (laws_FnMtWithRule.j1 kj4 l0 l1 l2 true a3_0 a3_1 a3_2 l3_3 l3_4))) = some r := by rw [if_neg (show ¬ (false = true) by decide)] at H; exact H
    clear H
    have H := H1
    clear H1
    have HC15 := Aside0.mk H
    clear H
    go_upto_region 3 with (fail)
    go_cut [61] (fun v61 wc => ∃ (kq : Nat) (x61_14 : Bool), v61 = .bool x61_14 ∧ Aside0 (laws_FnMtWithRule.j1 kq l0 l1 l2 x61_14 a3_0 a3_1 a3_2 l3_3 l3_4 = some r) ∧ Aside0 (kq ≤ kj4) ∧ Aside0 (wc.heap[gb168]? = some (.cells #[.int .u8 a3_0, .int .u8 a3_1, .int .u32 a3_2, (.slice A3_3 l3_3.length c3_3), (.slice A3_4 l3_4.length c3_4)] 28 (0, 0))) ∧ Aside0 (Below w.heap.size w wc))
    case first =>
     have H := HC15.out
     clear HC15
     by_cases c16 : (l0.length : Int) > 20
     ·rw [if_pos c16] at H
      have c16b0 : decide (20 < (l0.length : Int)) = true := decide_eq_true c16
      have c16b1 : decide (20 < l0.length) = true := decide_eq_true (by omega)
      clear c16
      (first | rw [c16b0] | (simp only [i64_w, i32_w]; rw [c16b0]) | skip)
      have H' := Aside0.mk H
      clear H
      go_wp2
      go_meet
      case rel => exact ⟨_, (true), (by first | rfl | (simp; done) | (simp [*]; done)), H', ⟨by have := HJ4.out; first | omega | exact Nat.le_refl _⟩, ⟨by (with_reducible repeat (first | refine blk_drewN ?_ _ | refine blk_drew ?_ | refine blk_alloc ?_ _)); exact BK168.out⟩, ⟨by repeat (first | (with_reducible first | exact HB.out | apply below_alloc | apply pw_below_drewN | apply below_drew1 | refine below_set ?_ GE168.out) | exact HB.out)⟩⟩
     ·rw [if_neg c16] at H
      have c16b0 : decide (20 < (l0.length : Int)) = false := decide_eq_false c16
      have c16b1 : decide (20 < l0.length) = false := decide_eq_false (by omega)
      clear c16
      (first | rw [c16b0] | (simp only [i64_w, i32_w]; rw [c16b0]) | skip)
      by_cases c17 : (l1.length : Int) = (l0.length : Int)
      ·rw [if_pos c17] at H
       have c17b0 : ((l1.length : Int) == (l0.length : Int)) = true := beq_iff_eq.mpr c17
       have c17b1 : ((l1.length : Int) != (l0.length : Int)) = false := bne_eq_false_iff_eq.mpr c17
       have c17b2 : (l1.length == l0.length) = true := by first | simpa using c17 | (simp at c17 ⊢; omega)
       clear c17
       by_cases c18 : (l2.length : Int) = (l0.length : Int)
       ·rw [if_pos c18] at H
        have c18b0 : ((l2.length : Int) == (l0.length : Int)) = true := beq_iff_eq.mpr c18
        have c18b1 : ((l2.length : Int) != (l0.length : Int)) = false := bne_eq_false_iff_eq.mpr c18
        have c18b2 : (l2.length == l0.length) = true := by first | simpa using c18 | (simp at c18 ⊢; omega)
        clear c18
        have H' := Aside0.mk H
        clear H
        have hcz19_0 : wc.cell? ⟨gb168, 0, none⟩ = some (.int .u8 a3_0) := (blk_cell BK168.out 0).trans rfl
        have hcz19_1 : wc.cell? ⟨gb168, 1, none⟩ = some (.int .u8 a3_1) := (blk_cell BK168.out 1).trans rfl
        have hcz19_2 : wc.cell? ⟨gb168, 2, none⟩ = some (.int .u32 a3_2) := (blk_cell BK168.out 2).trans rfl
        have hcz19_3 : wc.cell? ⟨gb168, 3, none⟩ = some (.slice A3_3 l3_3.length c3_3) := (blk_cell BK168.out 3).trans rfl
        have hcz19_4 : wc.cell? ⟨gb168, 4, none⟩ = some (.slice A3_4 l3_4.length c3_4) := (blk_cell BK168.out 4).trans rfl
        have hfz19_0 := blk_frozen BK168.out 0
        have hfz19_1 := blk_frozen BK168.out 1
        have hfz19_2 := blk_frozen BK168.out 2
        have hfz19_3 := blk_frozen BK168.out 3
        have hfz19_4 := blk_frozen BK168.out 4
        go_wp2
        go_meet
        case rel => exact ⟨_, (decide ((l3_4.length : Int) > 70)), (by first | rfl | (simp; done) | (simp [*]; done)), H', ⟨by have := HJ4.out; first | omega | exact Nat.le_refl _⟩, ⟨by (with_reducible repeat (first | refine blk_drewN ?_ _ | refine blk_drew ?_ | refine blk_alloc ?_ _)); exact BK168.out⟩, ⟨by repeat (first | (with_reducible first | exact HB.out | apply below_alloc | apply pw_below_drewN | apply below_drew1 | refine below_set ?_ GE168.out) | exact HB.out)⟩⟩
       ·rw [if_neg c18] at H
        have c18b0 : ((l2.length : Int) == (l0.length : Int)) = false := beq_eq_false_iff_ne.mpr c18
        have c18b1 : ((l2.length : Int) != (l0.length : Int)) = true := bne_iff_ne.mpr c18
        have c18b2 : (l2.length == l0.length) = false := by first | simpa using c18 | (simp at c18 ⊢; omega)
        have H' := Aside0.mk H
        clear H
        go_wp2
        go_meet
        case rel => exact ⟨_, (true), (by first | rfl | (simp; done) | (simp [*]; done)), H', ⟨by have := HJ4.out; first | omega | exact Nat.le_refl _⟩, ⟨by (with_reducible repeat (first | refine blk_drewN ?_ _ | refine blk_drew ?_ | refine blk_alloc ?_ _)); exact BK168.out⟩, ⟨by repeat (first | (with_reducible first | exact HB.out | apply below_alloc | apply pw_below_drewN | apply below_drew1 | refine below_set ?_ GE168.out) | exact HB.out)⟩⟩
      ·rw [if_neg c17] at H
       have c17b0 : ((l1.length : Int) == (l0.length : Int)) = false := beq_eq_false_iff_ne.mpr c17
       have c17b1 : ((l1.length : Int) != (l0.length : Int)) = true := bne_iff_ne.mpr c17
       have c17b2 : (l1.length == l0.length) = false := by first | simpa using c17 | (simp at c17 ⊢; omega)
       have H' := Aside0.mk H
       clear H
       go_wp2
       go_meet
       case rel => exact ⟨_, (true), (by first | rfl | (simp; done) | (simp [*]; done)), H', ⟨by have := HJ4.out; first | omega | exact Nat.le_refl _⟩, ⟨by (with_reducible repeat (first | refine blk_drewN ?_ _ | refine blk_drew ?_ | refine blk_alloc ?_ _)); exact BK168.out⟩, ⟨by repeat (first | (with_reducible first | exact HB.out | apply below_alloc | apply pw_below_drewN | apply below_drew1 | refine below_set ?_ GE168.out) | exact HB.out)⟩⟩
    case rest =>
     clear HC15
     try clear c1
     try clear c2
     try clear p2
     try clear c3
     try clear c4
     try clear c7
     try clear c7b0
     try clear c7b1
     try clear c8
     try clear c8b0
     try clear c8b1
     try clear c10
     try clear c14
     try clear c16
     try clear c16b0
     try clear c16b1
     try clear c17
     try clear c17b0
     try clear c17b1
     try clear c17b2
     try clear c18
     try clear c18b0
     try clear c18b1
     try clear c18b2
     try clear hcz12_0
     try clear hcz12_1
     try clear hcz12_2
     try clear hcz12_3
     try clear hcz12_4
     try clear hcz19_0
     try clear hcz19_1
     try clear hcz19_2
     try clear hcz19_3
     try clear hcz19_4
     try clear hfz12_0
     try clear hfz12_1
     try clear hfz12_2
     try clear hfz12_3
     try clear hfz12_4
     try clear hfz19_0
     try clear hfz19_1
     try clear hfz19_2
     try clear hfz19_3
     try clear hfz19_4
     try clear p2
     obtain ⟨kq, x61_14, rfl, HA, HJ14, BK168, HB⟩ := hcut
     cases kq with
     | zero => exact absurd HA.out (by simp [laws_FnMtWithRule.j1])
     | succ kj14 =>
      have H := HA.out
      clear HA
      simp only [laws_FnMtWithRule.j1] at H
      by_cases c20 : x61_14 = true
      ·subst c20
       have H1 : (some true) = some r := by rw [if_pos rfl] at H; exact H
       clear H
       have H := H1
       clear H1
       obtain rfl := Option.some.inj H
       go_wp2
       go_ret
       exact ⟨by first | rfl | (simp [errW_none, errW_some] <;> rfl) | (simp [*, errW_none, errW_some] <;> rfl), by repeat (first | (with_reducible first | exact HB.out | apply below_alloc | apply pw_below_drewN | apply below_drew1 | refine below_set ?_ GE168.out) | exact HB.out)⟩
      ·replace c20 := Bool.eq_false_iff.mpr c20
       subst c20
       have H1 : (laws_FnMtWithRule.l0 kj14 l0 l1 l2 ([] : List (S32)) true (l0.length : Int) 0 a3_0 a3_1 a3_2 l3_3 l3_4) = some r := by rw [if_neg (show ¬ (false = true) by decide)] at H; exact H
       clear H
       have H := H1
       clear H1
       have H' := Aside0.mk H
       clear H
       go_wp2
       go_loopg [9, 10, 64] kj14 (fun kq v9 v10 v64 w' => ∃ (x9_3 : List (S32)) (x10_3 : Bool) (x64_3 : Int), v10 = .bool x10_3 ∧ v64 = .int .i64 x64_3 ∧ Aside0 (laws_FnMtWithRule.l0 kq l0 l1 l2 x9_3 x10_3 (l0.length : Int) x64_3 a3_0 a3_1 a3_2 l3_3 l3_4 = some r) ∧ Aside0 (kq ≤ kj14) ∧ Aside0 (Kd.R k32 32 w' w.heap.size (fun _ => True) v9 x9_3) ∧ Aside0 (w'.heap[gb168]? = some (.cells #[.int .u8 a3_0, .int .u8 a3_1, .int .u32 a3_2, (.slice A3_3 l3_3.length c3_3), (.slice A3_4 l3_4.length c3_4)] 28 (0, 0))) ∧ Aside0 (Below w.heap.size w w'))
       case atStart => exact ⟨(([] : List (S32))), (true), (0), (by first | rfl | (simp; done) | (simp [*]; done)), (by first | rfl | (simp; done) | (simp [*]; done)), H', ⟨Nat.le_refl _⟩, ⟨by first | exact Kd.R_nil _ _ _ _ _ | exact Kd.N_nil _ _ _ _ _ | exact Kd.V_nil _ _ _ _ _ | exact Kd.Q_nil _ _ _ _ _ | exact Kd.S_nil _ _ _ _ _⟩, ⟨by (with_reducible repeat (first | refine blk_drewN ?_ _ | refine blk_drew ?_ | refine blk_alloc ?_ _)); exact BK168.out⟩, ⟨by repeat (first | (with_reducible first | exact HB.out | apply below_alloc | apply pw_below_drewN | apply below_drew1 | refine below_set ?_ GE168.out) | exact HB.out)⟩⟩
       case round =>
        clear H'
        try clear c1
        try clear c2
        try clear p2
        try clear c3
        try clear c4
        try clear c7
        try clear c7b0
        try clear c7b1
        try clear c8
        try clear c8b0
        try clear c8b1
        try clear c10
        try clear c14
        try clear c16
        try clear c16b0
        try clear c16b1
        try clear c17
        try clear c17b0
        try clear c17b1
        try clear c17b2
        try clear c18
        try clear c18b0
        try clear c18b1
        try clear c18b2
        try clear c20
        try clear hcz12_0
        try clear hcz12_1
        try clear hcz12_2
        try clear hcz12_3
        try clear hcz12_4
        try clear hcz19_0
        try clear hcz19_1
        try clear hcz19_2
        try clear hcz19_3
        try clear hcz19_4
        try clear hfz12_0
        try clear hfz12_1
        try clear hfz12_2
        try clear hfz12_3
        try clear hfz12_4
        try clear hfz19_0
        try clear hfz19_1
        try clear hfz19_2
        try clear hfz19_3
        try clear hfz19_4
        try clear p2
        obtain ⟨x9_3, x10_3, x64_3, rfl, rfl, HA, HK3, HO_9, BK168, HB⟩ := hrel
        cases gk with
        | zero => exact absurd HA.out (by simp [laws_FnMtWithRule.l0])
        | succ k3 =>
         have H := HA.out
         clear HA
         simp only [laws_FnMtWithRule.l0] at H
         by_cases c21 : x64_3 < (l0.length : Int)
         ·rw [if_pos c21] at H
          have c21b0 : decide (x64_3 < (l0.length : Int)) = true := decide_eq_true c21
          clear c21
          have HC22 := Aside0.mk H
          clear H
          go_upto_region 10 with (fail)
          go_cut [88] (fun v88 wc => ∃ (kq : Nat) (x88_21 : Bool), v88 = .bool x88_21 ∧ Aside0 (laws_FnMtWithRule.j3 kq l0 l1 l2 x9_3 x10_3 x64_3 (l0.length : Int) x64_3 x88_21 a3_0 a3_1 a3_2 l3_3 l3_4 = some r) ∧ Aside0 (kq ≤ k3) ∧ Aside0 (Kd.R k32 32 wc w.heap.size (fun _ => True) u9 x9_3) ∧ Aside0 (wc.heap[gb168]? = some (.cells #[.int .u8 a3_0, .int .u8 a3_1, .int .u32 a3_2, (.slice A3_3 l3_3.length c3_3), (.slice A3_4 l3_4.length c3_4)] 28 (0, 0))) ∧ Aside0 (Below w.heap.size w wc))
          case first =>
           have H := HC22.out
           clear HC22
           by_cases c23 : 0 ≤ x64_3
           ·rw [if_pos c23] at H
            have c23b0 : decide (0 ≤ x64_3) = true := decide_eq_true c23
            clear c23
            (first | rw [c23b0] | (simp only [i64_w, i32_w]; rw [c23b0]) | skip)
            by_cases c24 : x64_3 < (l0.length : Int)
            ·rw [if_pos c24] at H
             have c24b0 : decide (x64_3 < (l0.length : Int)) = true := decide_eq_true c24
             clear c24
             by_cases c25 : (rd l0 x64_3) > 8
             ·rw [if_pos c25] at H
              have c25b0 : decide (8 < (rd l0 x64_3)) = true := decide_eq_true c25
              clear c25
              have H' := Aside0.mk H
              clear H
              have p171 : 0 ≤ (x64_3 : Int) := of_decide_eq_true (by first | (with_reducible assumption) | assumption)
              have q171 : x64_3 < (l0.length : Int) := of_decide_eq_true (by first | (with_reducible assumption) | assumption)
              obtain ⟨ad171, e171, hx171_0⟩ := Kd.at_int HR0.out x64_3 p171 q171
              cases e171
              replace hx171_0 := (HB.out.cell (World.block_lt_of_cell? w _ hx171_0)).trans hx171_0
              replace p171 := eq_true p171
              replace q171 := eq_true q171
              go_wp2
              go_meet
              case rel => exact ⟨_, (true), (by first | rfl | (simp; done) | (simp [*]; done)), H', ⟨by have := HJ4.out; have := HJ14.out; have := HK3.out; first | omega | exact Nat.le_refl _⟩, ⟨by (with_reducible repeat (first | apply Kd.R_alloc | apply Kd.R_drewN | apply Kd.R_drew)); exact HO_9.out⟩, ⟨by (with_reducible repeat (first | refine blk_drewN ?_ _ | refine blk_drew ?_ | refine blk_alloc ?_ _)); exact BK168.out⟩, ⟨by repeat (first | (with_reducible first | exact HB.out | apply below_alloc | apply pw_below_drewN | apply below_drew1 | refine below_set ?_ GE168.out) | exact HB.out)⟩⟩
             ·rw [if_neg c25] at H
              have c25b0 : decide (8 < (rd l0 x64_3)) = false := decide_eq_false c25
              clear c25
              by_cases c26 : x64_3 < (l1.length : Int)
              ·rw [if_pos c26] at H
               have c26b0 : decide (x64_3 < (l1.length : Int)) = true := decide_eq_true c26
               clear c26
               by_cases c27 : (rd l1 x64_3) > 63
               ·rw [if_pos c27] at H
                have c27b0 : decide (63 < (rd l1 x64_3)) = true := decide_eq_true c27
                clear c27
                have H' := Aside0.mk H
                clear H
                have p171 : 0 ≤ (x64_3 : Int) := of_decide_eq_true (by first | (with_reducible assumption) | assumption)
                have q171 : x64_3 < (l0.length : Int) := of_decide_eq_true (by first | (with_reducible assumption) | assumption)
                obtain ⟨ad171, e171, hx171_0⟩ := Kd.at_int HR0.out x64_3 p171 q171
                cases e171
                replace hx171_0 := (HB.out.cell (World.block_lt_of_cell? w _ hx171_0)).trans hx171_0
                replace p171 := eq_true p171
                replace q171 := eq_true q171
                have p172 : 0 ≤ (x64_3 : Int) := of_decide_eq_true (by first | (with_reducible assumption) | assumption)
                have q172 : x64_3 < (l1.length : Int) := of_decide_eq_true (by first | (with_reducible assumption) | assumption)
                obtain ⟨ad172, e172, hx172_0⟩ := Kd.at_int HR1.out x64_3 p172 q172
                cases e172
                replace hx172_0 := (HB.out.cell (World.block_lt_of_cell? w _ hx172_0)).trans hx172_0
                replace p172 := eq_true p172
                replace q172 := eq_true q172
                go_wp2
                go_meet
                case rel => exact ⟨_, (true), (by first | rfl | (simp; done) | (simp [*]; done)), H', ⟨by have := HJ4.out; have := HJ14.out; have := HK3.out; first | omega | exact Nat.le_refl _⟩, ⟨by (with_reducible repeat (first | apply Kd.R_alloc | apply Kd.R_drewN | apply Kd.R_drew)); exact HO_9.out⟩, ⟨by (with_reducible repeat (first | refine blk_drewN ?_ _ | refine blk_drew ?_ | refine blk_alloc ?_ _)); exact BK168.out⟩, ⟨by repeat (first | (with_reducible first | exact HB.out | apply below_alloc | apply pw_below_drewN | apply below_drew1 | refine below_set ?_ GE168.out) | exact HB.out)⟩⟩
               ·rw [if_neg c27] at H
                have c27b0 : decide (63 < (rd l1 x64_3)) = false := decide_eq_false c27
                clear c27
                by_cases c28 : x64_3 < (l2.length : Int)
                ·rw [if_pos c28] at H
                 have c28b0 : decide (x64_3 < (l2.length : Int)) = true := decide_eq_true c28
                 clear c28
                 obtain ⟨y174, hy174⟩ : ∃ y_ : List (S32), y_ = (([(⟨(⟨#[]⟩ : ByteArray), rdOf ByteArray.empty l2 x64_3⟩ : S32)] : List (S32))) := ⟨_, rfl⟩
                 replace H : ((laws_mtPlain.f k3 y174).bind fun t177 => (laws_FnMtWithRule.j3 k3 l0 l1 l2 x9_3 x10_3 x64_3 (l0.length : Int) x64_3 (!t177) a3_0 a3_1 a3_2 l3_3 l3_4)) = some r := by first | (rw [hy174]; with_reducible exact H) | (have H2_ := (Option.bind_some _ _).symm.trans H; rw [hy174]; with_reducible exact H2_) | (have H2_ := (Option.bind_some _ _).symm.trans H; with_reducible exact H2_) | with_reducible exact H | (rw [hy174]; exact H) | exact H
                 have Ny174 := Aside0.mk hy174
                 clear hy174
                 replace H := Option.bind_eq_some_iff.mp H
                 obtain ⟨t177, A290, H⟩ := H
                 replace H : (laws_FnMtWithRule.j3 k3 l0 l1 l2 x9_3 x10_3 x64_3 (l0.length : Int) x64_3 (!t177) a3_0 a3_1 a3_2 l3_3 l3_4) = some r := H
                 have A29 := Aside0.mk A290
                 clear A290
                 have H' := Aside0.mk H
                 clear H
                 have p171 : 0 ≤ (x64_3 : Int) := of_decide_eq_true (by first | (with_reducible assumption) | assumption)
                 have q171 : x64_3 < (l0.length : Int) := of_decide_eq_true (by first | (with_reducible assumption) | assumption)
                 obtain ⟨ad171, e171, hx171_0⟩ := Kd.at_int HR0.out x64_3 p171 q171
                 cases e171
                 replace hx171_0 := (HB.out.cell (World.block_lt_of_cell? w _ hx171_0)).trans hx171_0
                 replace p171 := eq_true p171
                 replace q171 := eq_true q171
                 have p172 : 0 ≤ (x64_3 : Int) := of_decide_eq_true (by first | (with_reducible assumption) | assumption)
                 have q172 : x64_3 < (l1.length : Int) := of_decide_eq_true (by first | (with_reducible assumption) | assumption)
                 obtain ⟨ad172, e172, hx172_0⟩ := Kd.at_int HR1.out x64_3 p172 q172
                 cases e172
                 replace hx172_0 := (HB.out.cell (World.block_lt_of_cell? w _ hx172_0)).trans hx172_0
                 replace p172 := eq_true p172
                 replace q172 := eq_true q172
                 have p173 : 0 ≤ (x64_3 : Int) := of_decide_eq_true (by first | (with_reducible assumption) | assumption)
                 have q173 : x64_3 < (l2.length : Int) := of_decide_eq_true (by first | (with_reducible assumption) | assumption)
                 obtain ⟨ad173, e173, hx173_0⟩ := Kd.at_string HR2.out x64_3 p173 q173
                 cases e173
                 replace hx173_0 := (HB.out.cell (World.block_lt_of_cell? w _ hx173_0)).trans hx173_0
                 replace p173 := eq_true p173
                 replace q173 := eq_true q173
                 go_wp2_with (first | ((with_reducible refine gate_dst (N := 85) rfl ?_); (try (refine gate_guard (by rfl) ?_; dsimp only)); refine Kd.R_lit k32 _ 32 ?hg (N := 85) ?hd (xs := ([(⟨(⟨#[]⟩ : ByteArray), rdOf ByteArray.empty l2 x64_3⟩ : S32)] : List (S32))) (inner := [.string (⟨#[]⟩ : ByteArray), .string (rdOf ByteArray.empty l2 x64_3)]) (ok := fun _ => True) (okp := fun _ => True) ?hr ?hp (fun _ hk => hk) trivial (Below.refl _ _) (Nat.le_refl _) (by simp) ?_; (case hd => rfl); (case hg => rfl); (case hr => first | (go_simp; done) | (go_simp; rfl)); (case hp => exact (Reps.c2 (show Kd.M k32 _ _ _ (⟨(⟨#[]⟩ : ByteArray), rdOf ByteArray.empty l2 x64_3⟩ : S32) [.string (⟨#[]⟩ : ByteArray), .string (rdOf ByteArray.empty l2 x64_3)] from (k32_mkM _ _ _ (⟨(⟨#[]⟩ : ByteArray), rdOf ByteArray.empty l2 x64_3⟩ : S32) )) (Reps.none _ _))); intro v175 w30 ho31 hb hg_ hnew_; clear hg_ hnew_; (first | rw [← Ny174.out] at ho31 | (simp only [Int.reduceToNat] at ho31; rw [← Ny174.out] at ho31)); have n0_ := Aside0.mk (Kd.R_elder' (by (with_reducible repeat (first | apply Kd.R_alloc | apply Kd.R_drewN | apply Kd.R_drew)); exact HO_9.out) (Kd.R_base ho31) hb); have n1_ := Aside0.mk (Kd.R_lower (Kd.R_new' ho31 (Kd.R_lt (by (with_reducible repeat (first | apply Kd.R_alloc | apply Kd.R_drewN | apply Kd.R_drew)); exact HO_9.out))) (below_size (by repeat (first | (with_reducible first | exact HB.out | apply below_alloc | apply pw_below_drewN | apply below_drew1 | refine below_set ?_ GE168.out) | exact HB.out)))); have n2_ := Aside0.mk (blk_below (g := gb168) (o := .cells #[.int .u8 a3_0, .int .u8 a3_1, .int .u32 a3_2, .slice A3_3 l3_3.length c3_3, .slice A3_4 l3_4.length c3_4] 28 (0, 0)) (by (with_reducible repeat (first | refine blk_drewN ?_ _ | refine blk_drew ?_ | refine blk_alloc ?_ _)); exact BK168.out) hb); have n3_ := Aside0.mk (below_step (by repeat (first | (with_reducible first | exact HB.out | apply below_alloc | apply pw_below_drewN | apply below_drew1 | refine below_set ?_ GE168.out) | exact HB.out)) hb); clear HO_9; clear BK168; clear HB; have HO_9 := n0_; have HO176 := n1_; have BK168 := n2_; have HB := n3_; clear n0_ n1_ n2_ n3_; clear hb ho31; obtain ⟨Ao32, co32, eo32⟩ := Kd.R_slice HO176.out; subst eo32) | (go_at_call 7; (with_reducible refine (laws_mtPlain.calls k3 _ _ y174 t177 _ ?side1 ?side2 A29.out).mono ?_); (case side1 => repeat (first | exact (Kd.R_reads' HO176.out).2.2 | (with_reducible refine Kd.C_alloc ?_ _) | (with_reducible refine Kd.C_drewN ?_ _) | (with_reducible refine Kd.C_drew ?_))); (case side2 => exact (Kd.R_reads' HO176.out).2.1); rintro e w33 ⟨rfl, hb⟩; have n0_ := Aside0.mk (Kd.R_below (by (with_reducible repeat (first | apply Kd.R_alloc | apply Kd.R_drewN | apply Kd.R_drew)); exact HO_9.out) hb); have n1_ := Aside0.mk (Kd.R_below (by (with_reducible repeat (first | apply Kd.R_alloc | apply Kd.R_drewN | apply Kd.R_drew)); exact HO176.out) hb); have n2_ := Aside0.mk (blk_below (g := gb168) (o := .cells #[.int .u8 a3_0, .int .u8 a3_1, .int .u32 a3_2, .slice A3_3 l3_3.length c3_3, .slice A3_4 l3_4.length c3_4] 28 (0, 0)) (by (with_reducible repeat (first | refine blk_drewN ?_ _ | refine blk_drew ?_ | refine blk_alloc ?_ _)); exact BK168.out) hb); have n3_ := Aside0.mk (below_step (by repeat (first | (with_reducible first | exact HB.out | apply below_alloc | apply pw_below_drewN | apply below_drew1 | refine below_set ?_ GE168.out) | exact HB.out)) hb); clear HO_9; clear HO176; clear BK168; clear HB; have HO_9 := n0_; have HO176 := n1_; have BK168 := n2_; have HB := n3_; clear n0_ n1_ n2_ n3_; (try clear hb); (try clear hb2); (try clear hk); (try clear hi)))
                 go_meet
                 case rel => exact ⟨_, (!t177), (by first | rfl | (simp; done) | (simp [*]; done)), H', ⟨by have := HJ4.out; have := HJ14.out; have := HK3.out; first | omega | exact Nat.le_refl _⟩, ⟨by (with_reducible repeat (first | apply Kd.R_alloc | apply Kd.R_drewN | apply Kd.R_drew)); exact Kd.R_mono HO_9.out (fun _ hk => trivial)⟩, ⟨by (with_reducible repeat (first | refine blk_drewN ?_ _ | refine blk_drew ?_ | refine blk_alloc ?_ _)); exact BK168.out⟩, ⟨by repeat (first | (with_reducible first | exact HB.out | apply below_alloc | apply pw_below_drewN | apply below_drew1 | refine below_set ?_ GE168.out) | exact HB.out)⟩⟩
                ·rw [if_neg c28] at H
                 exact absurd H (by simp)
              ·rw [if_neg c26] at H
               exact absurd H (by simp)
            ·rw [if_neg c24] at H
             exact absurd H (by simp)
           ·rw [if_neg c23] at H
            exact absurd H (by simp)
          case rest =>
           clear HC22
           try clear c1
           try clear p1
           try clear q1
           try clear hx1
           try clear c2
           try clear p2
           try clear c3
           try clear c4
           try clear c7
           try clear c7b0
           try clear c7b1
           try clear c8
           try clear c8b0
           try clear c8b1
           try clear c10
           try clear c14
           try clear c16
           try clear c16b0
           try clear c16b1
           try clear c17
           try clear c17b0
           try clear c17b1
           try clear c17b2
           try clear p17
           try clear q17
           try clear hx17
           try clear c18
           try clear c18b0
           try clear c18b1
           try clear c18b2
           try clear c20
           try clear c21
           try clear c21b0
           try clear c23
           try clear c23b0
           try clear c24
           try clear c24b0
           try clear c25
           try clear c25b0
           try clear c26
           try clear c26b0
           try clear c27
           try clear c27b0
           try clear c28
           try clear c28b0
           try clear hcz12_0
           try clear hcz12_1
           try clear hcz12_2
           try clear hcz12_3
           try clear hcz12_4
           try clear hcz19_0
           try clear hcz19_1
           try clear hcz19_2
           try clear hcz19_3
           try clear hcz19_4
           try clear hfz12_0
           try clear hfz12_1
           try clear hfz12_2
           try clear hfz12_3
           try clear hfz12_4
           try clear hfz19_0
           try clear hfz19_1
           try clear hfz19_2
           try clear hfz19_3
           try clear hfz19_4
           try clear hx171_0
           try clear hx172_0
           try clear hx173_0
           try clear p171
           try clear p172
           try clear p173
           try clear p2
           try clear q171
           try clear q172
           try clear q173
           obtain ⟨kq, x88_21, rfl, HA, HJ21, HO_9, BK168, HB⟩ := hcut
           cases kq with
           | zero => exact absurd HA.out (by simp [laws_FnMtWithRule.j3])
           | succ kj21 =>
            have H := HA.out
            clear HA
            simp only [laws_FnMtWithRule.j3] at H
            by_cases c34 : x88_21 = true
            ·subst c34
             have H1 : (some true) = some r := by rw [if_pos rfl] at H; exact H
             clear H
             have H := H1
             clear H1
             obtain rfl := Option.some.inj H
             go_wp2
             go_ret
             exact ⟨by first | rfl | (simp [errW_none, errW_some] <;> rfl) | (simp [*, errW_none, errW_some] <;> rfl), by repeat (first | (with_reducible first | exact HB.out | apply below_alloc | apply pw_below_drewN | apply below_drew1 | refine below_set ?_ GE168.out) | exact HB.out)⟩
            ·replace c34 := Bool.eq_false_iff.mpr c34
             subst c34
             have H1 : (if 0 ≤ x64_3 then (if x64_3 < (l0.length : Int) then (if x64_3 < (l1.length : Int) then (if x64_3 < (l2.length : Int) then ((impl_MtWith.f (wrap64 (rd l0 x64_3)) (wrap64 (rd l1 x64_3)) (rdOf ByteArray.empty l2 x64_3)).bind fun bt181 => (if bt181.2.2 = true then (if x9_3.length < 4398046511104 then ((some (x9_3 ++ [(⟨bt181.1, bt181.2.1⟩ : S32)] : List (S32))).bind fun y184 => ((laws_mtKeyOf.f kj21 (wrap64 (rd l0 x64_3)) (wrap64 (rd l1 x64_3))).bind fun t189 => ((spec_Fits.f kj21 a3_0 a3_1 a3_2 l3_3 l3_4 t189 (rdOf ByteArray.empty l2 x64_3)).bind fun bt191 => (if x10_3 = true then (laws_FnMtWithRule.l0 kj21 l0 l1 l2 y184 bt191.1 (l0.length : Int) (wrap64 (x64_3 + 1)) a3_0 a3_1 a3_2 l3_3 l3_4) else (laws_FnMtWithRule.l0 kj21 l0 l1 l2 y184 false (l0.length : Int) (wrap64 (x64_3 + 1)) a3_0 a3_1 a3_2 l3_3 l3_4))))) else (none)) else (some false))) else (none)) else (none)) else (none)) else (none)) = some r := by rw [if_neg (show ¬ (false = true) by decide)] at H; exact H
             clear H
             have H := H1
             clear H1
             by_cases c35 : 0 ≤ x64_3
             ·rw [if_pos c35] at H
              have c35b0 : decide (0 ≤ x64_3) = true := decide_eq_true c35
              clear c35
              by_cases c36 : x64_3 < (l0.length : Int)
              ·rw [if_pos c36] at H
               have c36b0 : decide (x64_3 < (l0.length : Int)) = true := decide_eq_true c36
               clear c36
               by_cases c37 : x64_3 < (l1.length : Int)
               ·rw [if_pos c37] at H
                have c37b0 : decide (x64_3 < (l1.length : Int)) = true := decide_eq_true c37
                clear c37
                by_cases c38 : x64_3 < (l2.length : Int)
                ·rw [if_pos c38] at H
                 have c38b0 : decide (x64_3 < (l2.length : Int)) = true := decide_eq_true c38
                 clear c38
                 replace H := Option.bind_eq_some_iff.mp H
                 obtain ⟨⟨t181, t182, t183⟩, A390, H⟩ := H
                 replace H : (if t183 = true then (if x9_3.length < 4398046511104 then ((some (x9_3 ++ [(⟨t181, t182⟩ : S32)] : List (S32))).bind fun y184 => ((laws_mtKeyOf.f kj21 (wrap64 (rd l0 x64_3)) (wrap64 (rd l1 x64_3))).bind fun t189 => ((spec_Fits.f kj21 a3_0 a3_1 a3_2 l3_3 l3_4 t189 (rdOf ByteArray.empty l2 x64_3)).bind fun bt191 => (if x10_3 = true then (laws_FnMtWithRule.l0 kj21 l0 l1 l2 y184 bt191.1 (l0.length : Int) (wrap64 (x64_3 + 1)) a3_0 a3_1 a3_2 l3_3 l3_4) else (laws_FnMtWithRule.l0 kj21 l0 l1 l2 y184 false (l0.length : Int) (wrap64 (x64_3 + 1)) a3_0 a3_1 a3_2 l3_3 l3_4))))) else (none)) else (some false)) = some r := H
                 have A39 := Aside0.mk A390
                 clear A390
                 by_cases c40 : t183 = true
                 ·subst c40
                  have H1 : (if x9_3.length < 4398046511104 then ((some (x9_3 ++ [(⟨t181, t182⟩ : S32)] : List (S32))).bind fun y184 => ((laws_mtKeyOf.f kj21 (wrap64 (rd l0 x64_3)) (wrap64 (rd l1 x64_3))).bind fun t189 => ((spec_Fits.f kj21 a3_0 a3_1 a3_2 l3_3 l3_4 t189 (rdOf ByteArray.empty l2 x64_3)).bind fun bt191 => (if x10_3 = true then (laws_FnMtWithRule.l0 kj21 l0 l1 l2 y184 bt191.1 (l0.length : Int) (wrap64 (x64_3 + 1)) a3_0 a3_1 a3_2 l3_3 l3_4) else (laws_FnMtWithRule.l0 kj21 l0 l1 l2 y184 false (l0.length : Int) (wrap64 (x64_3 + 1)) a3_0 a3_1 a3_2 l3_3 l3_4))))) else (none)) = some r := by rw [if_pos rfl] at H; exact H
                  clear H
                  have H := H1
                  clear H1
                  by_cases c41 : x9_3.length < 4398046511104
                  ·rw [if_pos c41] at H
                   have LMc41 := Aside0.mk c41
                   clear c41
                   obtain ⟨y184, hy184⟩ : ∃ y_ : List (S32), y_ = (x9_3 ++ [(⟨t181, t182⟩ : S32)]) := ⟨_, rfl⟩
                   replace H : ((laws_mtKeyOf.f kj21 (wrap64 (rd l0 x64_3)) (wrap64 (rd l1 x64_3))).bind fun t189 => ((spec_Fits.f kj21 a3_0 a3_1 a3_2 l3_3 l3_4 t189 (rdOf ByteArray.empty l2 x64_3)).bind fun bt191 => (if x10_3 = true then (laws_FnMtWithRule.l0 kj21 l0 l1 l2 y184 bt191.1 (l0.length : Int) (wrap64 (x64_3 + 1)) a3_0 a3_1 a3_2 l3_3 l3_4) else (laws_FnMtWithRule.l0 kj21 l0 l1 l2 y184 false (l0.length : Int) (wrap64 (x64_3 + 1)) a3_0 a3_1 a3_2 l3_3 l3_4)))) = some r := by first | (rw [hy184]; with_reducible exact H) | (have H2_ := (Option.bind_some _ _).symm.trans H; rw [hy184]; with_reducible exact H2_) | (have H2_ := (Option.bind_some _ _).symm.trans H; with_reducible exact H2_) | with_reducible exact H | (rw [hy184]; exact H) | exact H
                   have Ny184 := Aside0.mk hy184
                   clear hy184
                   replace H := Option.bind_eq_some_iff.mp H
                   obtain ⟨t189, A420, H⟩ := H
                   replace H : ((spec_Fits.f kj21 a3_0 a3_1 a3_2 l3_3 l3_4 t189 (rdOf ByteArray.empty l2 x64_3)).bind fun bt191 => (if x10_3 = true then (laws_FnMtWithRule.l0 kj21 l0 l1 l2 y184 bt191.1 (l0.length : Int) (wrap64 (x64_3 + 1)) a3_0 a3_1 a3_2 l3_3 l3_4) else (laws_FnMtWithRule.l0 kj21 l0 l1 l2 y184 false (l0.length : Int) (wrap64 (x64_3 + 1)) a3_0 a3_1 a3_2 l3_3 l3_4))) = some r := H
                   have A42 := Aside0.mk A420
                   clear A420
                   replace H := Option.bind_eq_some_iff.mp H
                   obtain ⟨⟨t191, t192⟩, A430, H⟩ := H
                   replace H : (if x10_3 = true then (laws_FnMtWithRule.l0 kj21 l0 l1 l2 y184 t191 (l0.length : Int) (wrap64 (x64_3 + 1)) a3_0 a3_1 a3_2 l3_3 l3_4) else (laws_FnMtWithRule.l0 kj21 l0 l1 l2 y184 false (l0.length : Int) (wrap64 (x64_3 + 1)) a3_0 a3_1 a3_2 l3_3 l3_4)) = some r := H
                   have A43 := Aside0.mk A430
                   clear A430
                   by_cases c44 : x10_3 = true
                   ·subst c44
                    have H1 : (laws_FnMtWithRule.l0 kj21 l0 l1 l2 y184 t191 (l0.length : Int) (wrap64 (x64_3 + 1)) a3_0 a3_1 a3_2 l3_3 l3_4) = some r := by rw [if_pos rfl] at H; exact H
                    clear H
                    have H := H1
                    clear H1
                    have H' := Aside0.mk H
                    clear H
                    try go_wp2
                    have n0_ := Aside0.mk (Kd.R_drew HO_9.out)
                    have n1_ := Aside0.mk (blk_drew BK168.out)
                    have n2_ := Aside0.mk (below_drew1 HB.out)
                    clear HO_9
                    clear BK168
                    clear HB
                    have HO_9 := n0_
                    have BK168 := n1_
                    have HB := n2_
                    clear n0_ n1_ n2_
                    have p178 : 0 ≤ (x64_3 : Int) := of_decide_eq_true (by first | (with_reducible assumption) | assumption)
                    have q178 : x64_3 < (l0.length : Int) := of_decide_eq_true (by first | (with_reducible assumption) | assumption)
                    obtain ⟨ad178, e178, hx178_0⟩ := Kd.at_int HR0.out x64_3 p178 q178
                    have hw178_0 := hx178_0
                    cases e178
                    replace hx178_0 := (HB.out.cell (World.block_lt_of_cell? w _ hx178_0)).trans hx178_0
                    replace p178 := eq_true p178
                    replace q178 := eq_true q178
                    have p179 : 0 ≤ (x64_3 : Int) := of_decide_eq_true (by first | (with_reducible assumption) | assumption)
                    have q179 : x64_3 < (l1.length : Int) := of_decide_eq_true (by first | (with_reducible assumption) | assumption)
                    obtain ⟨ad179, e179, hx179_0⟩ := Kd.at_int HR1.out x64_3 p179 q179
                    have hw179_0 := hx179_0
                    cases e179
                    replace hx179_0 := (HB.out.cell (World.block_lt_of_cell? w _ hx179_0)).trans hx179_0
                    replace p179 := eq_true p179
                    replace q179 := eq_true q179
                    have p180 : 0 ≤ (x64_3 : Int) := of_decide_eq_true (by first | (with_reducible assumption) | assumption)
                    have q180 : x64_3 < (l2.length : Int) := of_decide_eq_true (by first | (with_reducible assumption) | assumption)
                    obtain ⟨ad180, e180, hx180_0⟩ := Kd.at_string HR2.out x64_3 p180 q180
                    have hw180_0 := hx180_0
                    cases e180
                    replace hx180_0 := (HB.out.cell (World.block_lt_of_cell? w _ hx180_0)).trans hx180_0
                    replace p180 := eq_true p180
                    replace q180 := eq_true q180
                    refine start_ (n := 22) (S := fun w' => w'.cell? (ad178.add (x64_3).toNat) = some (.int .u8 (rd l0 x64_3)) ∧ w'.cell? (ad179.add (x64_3).toNat) = some (.int .u8 (rd l1 x64_3)) ∧ w'.cell? (ad180.add (x64_3).toNat) = some (.string (rdOf ByteArray.empty l2 x64_3))) (ds := []) #[false, false, false, false, false, false, false, false, false, false, false, false, false, false, false, false, false, false, false, false, false, false] (by kernel_rfl) rfl rfl ⟨((HB.out.cell (World.block_lt_of_cell? w _ hw178_0)).trans hw178_0), ((HB.out.cell (World.block_lt_of_cell? w _ hw179_0)).trans hw179_0), ((HB.out.cell (World.block_lt_of_cell? w _ hw180_0)).trans hw180_0)⟩ (fun hHeld => ?_); refine with_tabW laws_FnMtWithRule.tab12 laws_FnMtWithRule.bits12 (fun HT_ HW_ => ?_)
                    generalize wc.drew = w45 at HO_9 BK168 HB hx178_0 hx179_0 hx180_0 hHeld ⊢
                    refine pure_ (i := 0) (N := some 90) (v := ?_) (a' := ?_) #[true, false, false, false, false, false, false, false, false, false, false, false, false, false, false, false, false, false, false, false, false, false] rfl rfl (any_of HT_.out (by kernel_rfl)) (fun _ _ _ h => h) (Or.inl ⟨by rfl, ?_⟩) ?_ ?_
                    rotate_left
                    ·intro w'
                     go_simp
                     with_reducible rfl
                    rotate_left
                    ·simp only [Act.put, List.setIfInBounds_toArray, List.set_cons_zero, List.set_cons_succ, i64_w, i32_w]
                     rfl
                    refine pure_ (i := 1) (N := some 91) (v := ?_) (a' := ?_) #[true, true, false, false, false, false, false, false, false, false, false, false, false, false, false, false, false, false, false, false, false, false] rfl rfl (any_of HT_.out (by kernel_rfl)) (fun _ _ _ h => h) (Or.inl ⟨by rfl, ?_⟩) ?_ ?_
                    rotate_left
                    ·intro w'
                     go_simp
                     with_reducible rfl
                    rotate_left
                    ·simp only [Act.put, List.setIfInBounds_toArray, List.set_cons_zero, List.set_cons_succ, i64_w, i32_w]
                     rfl
                    refine pure_ (i := 2) (N := some 92) (v := ?_) (a' := ?_) #[true, true, true, false, false, false, false, false, false, false, false, false, false, false, false, false, false, false, false, false, false, false] rfl rfl (any_of HT_.out (by kernel_rfl)) (fun _ _ _ h => h) (Or.inl ⟨by rfl, ?_⟩) ?_ ?_
                    rotate_left
                    ·intro w'
                     go_simp
                     with_reducible rfl
                    rotate_left
                    ·simp only [Act.put, List.setIfInBounds_toArray, List.set_cons_zero, List.set_cons_succ, i64_w, i32_w]
                     rfl
                    refine pure_ (i := 5) (N := some 95) (v := ?_) (a' := ?_) #[true, true, true, false, false, true, false, false, false, false, false, false, false, false, false, false, false, false, false, false, false, false] rfl rfl (any_of HT_.out (by kernel_rfl)) (fun _ _ _ h => h) (Or.inl ⟨by rfl, ?_⟩) ?_ ?_
                    rotate_left
                    ·intro w'
                     go_simp
                     with_reducible rfl
                    rotate_left
                    ·simp only [Act.put, List.setIfInBounds_toArray, List.set_cons_zero, List.set_cons_succ, i64_w, i32_w]
                     rfl
                    refine pure_ (i := 6) (N := some 96) (v := ?_) (a' := ?_) #[true, true, true, false, false, true, true, false, false, false, false, false, false, false, false, false, false, false, false, false, false, false] rfl rfl (any_of HT_.out (by kernel_rfl)) (fun _ _ _ h => h) (Or.inl ⟨by rfl, ?_⟩) ?_ ?_
                    rotate_left
                    ·intro w'
                     go_simp
                     with_reducible rfl
                    rotate_left
                    ·simp only [Act.put, List.setIfInBounds_toArray, List.set_cons_zero, List.set_cons_succ, i64_w, i32_w]
                     rfl
                    refine pure_ (i := 7) (N := some 97) (v := ?_) (a' := ?_) #[true, true, true, false, false, true, true, true, false, false, false, false, false, false, false, false, false, false, false, false, false, false] rfl rfl (any_of HT_.out (by kernel_rfl)) (fun _ _ _ h => h) (Or.inl ⟨by rfl, ?_⟩) ?_ ?_
                    rotate_left
                    ·intro w'
                     go_simp
                     with_reducible rfl
                    rotate_left
                    ·simp only [Act.put, List.setIfInBounds_toArray, List.set_cons_zero, List.set_cons_succ, i64_w, i32_w]
                     rfl
                    refine pure_ (i := 10) (N := some 100) (v := ?_) (a' := ?_) #[true, true, true, false, false, true, true, true, false, false, true, false, false, false, false, false, false, false, false, false, false, false] rfl rfl (any_of HT_.out (by kernel_rfl)) (fun _ _ _ h => h) (Or.inl ⟨by rfl, ?_⟩) ?_ ?_
                    rotate_left
                    ·intro w'
                     go_simp
                     with_reducible rfl
                    rotate_left
                    ·simp only [Act.put, List.setIfInBounds_toArray, List.set_cons_zero, List.set_cons_succ, i64_w, i32_w]
                     rfl
                    refine pure_ (i := 11) (N := some 101) (v := ?_) (a' := ?_) #[true, true, true, false, false, true, true, true, false, false, true, true, false, false, false, false, false, false, false, false, false, false] rfl rfl (any_of HT_.out (by kernel_rfl)) (fun _ _ _ h => h) (Or.inl ⟨by rfl, ?_⟩) ?_ ?_
                    rotate_left
                    ·intro w'
                     go_simp
                     with_reducible rfl
                    rotate_left
                    ·simp only [Act.put, List.setIfInBounds_toArray, List.set_cons_zero, List.set_cons_succ, i64_w, i32_w]
                     rfl
                    refine pure_ (i := 12) (N := some 102) (v := ?_) (a' := ?_) #[true, true, true, false, false, true, true, true, false, false, true, true, true, false, false, false, false, false, false, false, false, false] rfl rfl (any_of HT_.out (by kernel_rfl)) (fun _ _ _ h => h) (Or.inl ⟨by rfl, ?_⟩) ?_ ?_
                    rotate_left
                    ·intro w'
                     go_simp
                     with_reducible rfl
                    rotate_left
                    ·simp only [Act.put, List.setIfInBounds_toArray, List.set_cons_zero, List.set_cons_succ, i64_w, i32_w]
                     rfl
                    refine take_ (i := 3) (N := some 93) (v := ?_) (a' := ?_) #[true, true, true, true, false, true, true, true, false, false, true, true, true, false, false, false, false, false, false, false, false, false] rfl rfl (take_ofW HT_.out HW_.out (by kernel_rfl)) (fun _ _ _ h => h) (Or.inl ⟨by rfl, ?_⟩) hHeld ?_ ?_
                    rotate_left
                    ·rintro w' ⟨s0, s1, s2⟩
                     go_simp
                     with_reducible rfl
                    rotate_left
                    ·simp only [Act.put, List.setIfInBounds_toArray, List.set_cons_zero, List.set_cons_succ, i64_w, i32_w]
                     rfl
                    refine pure_ (i := 4) (N := some 94) (v := ?_) (a' := ?_) #[true, true, true, true, true, true, true, true, false, false, true, true, true, false, false, false, false, false, false, false, false, false] rfl rfl (any_of HT_.out (by kernel_rfl)) (fun _ _ _ h => h) (Or.inl ⟨by rfl, ?_⟩) ?_ ?_
                    rotate_left
                    ·intro w'
                     go_simp
                     with_reducible rfl
                    rotate_left
                    ·simp only [Act.put, List.setIfInBounds_toArray, List.set_cons_zero, List.set_cons_succ, i64_w, i32_w]
                     rfl
                    refine take_ (i := 8) (N := some 98) (v := ?_) (a' := ?_) #[true, true, true, true, true, true, true, true, true, false, true, true, true, false, false, false, false, false, false, false, false, false] rfl rfl (take_ofW HT_.out HW_.out (by kernel_rfl)) (fun _ _ _ h => h) (Or.inl ⟨by rfl, ?_⟩) hHeld ?_ ?_
                    rotate_left
                    ·rintro w' ⟨s0, s1, s2⟩
                     go_simp
                     with_reducible rfl
                    rotate_left
                    ·simp only [Act.put, List.setIfInBounds_toArray, List.set_cons_zero, List.set_cons_succ, i64_w, i32_w]
                     rfl
                    refine pure_ (i := 9) (N := some 99) (v := ?_) (a' := ?_) #[true, true, true, true, true, true, true, true, true, true, true, true, true, false, false, false, false, false, false, false, false, false] rfl rfl (any_of HT_.out (by kernel_rfl)) (fun _ _ _ h => h) (Or.inl ⟨by rfl, ?_⟩) ?_ ?_
                    rotate_left
                    ·intro w'
                     go_simp
                     with_reducible rfl
                    rotate_left
                    ·simp only [Act.put, List.setIfInBounds_toArray, List.set_cons_zero, List.set_cons_succ, i64_w, i32_w]
                     rfl
                    refine take_ (i := 13) (N := some 103) (v := ?_) (a' := ?_) #[true, true, true, true, true, true, true, true, true, true, true, true, true, true, false, false, false, false, false, false, false, false] rfl rfl (take_ofW HT_.out HW_.out (by kernel_rfl)) (fun _ _ _ h => h) (Or.inl ⟨by rfl, ?_⟩) hHeld ?_ ?_
                    rotate_left
                    ·rintro w' ⟨s0, s1, s2⟩
                     go_simp
                     with_reducible rfl
                    rotate_left
                    ·simp only [Act.put, List.setIfInBounds_toArray, List.set_cons_zero, List.set_cons_succ, i64_w, i32_w]
                     rfl
                    refine one_ (i := 14) (N := some 104) #[true, true, true, true, true, true, true, true, true, true, true, true, true, true, true, false, false, false, false, false, false, false] rfl rfl (one_of HT_.out (by kernel_rfl)) (by decide) (fun K hK => ?_)
                    refine goes_ Tryd.func8 (by kernel_rfl) rfl #[.int .i64 (wrap64 (rd l0 x64_3)), .int .i64 (wrap64 (rd l1 x64_3)), .string (rdOf ByteArray.empty l2 x64_3)] (by rfl) rfl rfl (by (try simp only [List.map_toArray, List.map_cons, List.map_nil]); first | done | rfl | (simp only [List.length_drop, List.length_take]; rfl)) ?_
                    with_reducible refine (impl_MtWith.calls (wrap64 (rd l0 x64_3)) (wrap64 (rd l1 x64_3)) (rdOf ByteArray.empty l2 x64_3) t181 t182 true _ A39.out).mono ?_
                    rintro e w46 ⟨rfl, hb⟩
                    refine ⟨_, rfl, ?_⟩
                    have n0_ := Aside0.mk (Kd.R_below (by (with_reducible repeat (first | apply Kd.R_alloc | apply Kd.R_drewN | apply Kd.R_drew)); exact HO_9.out) hb)
                    have n1_ := Aside0.mk (blk_below (g := gb168) (o := .cells #[.int .u8 a3_0, .int .u8 a3_1, .int .u32 a3_2, .slice A3_3 l3_3.length c3_3, .slice A3_4 l3_4.length c3_4] 28 (0, 0)) (by (with_reducible repeat (first | refine blk_drewN ?_ _ | refine blk_drew ?_ | refine blk_alloc ?_ _)); exact BK168.out) hb)
                    have n2_ := Aside0.mk (below_step (by repeat (first | (with_reducible first | exact HB.out | apply below_alloc | apply pw_below_drewN | apply below_drew1 | refine below_set ?_ GE168.out) | exact HB.out)) hb)
                    clear HO_9
                    clear BK168
                    clear HB
                    have HO_9 := n0_
                    have BK168 := n1_
                    have HB := n2_
                    clear n0_ n1_ n2_
                    (try clear hb)
                    (try clear hb2)
                    (try clear hk)
                    (try clear hi)
                    refine hK.out _ _ ⟨((HB.out.cell (World.block_lt_of_cell? w _ hw178_0)).trans hw178_0), ((HB.out.cell (World.block_lt_of_cell? w _ hw179_0)).trans hw179_0), ((HB.out.cell (World.block_lt_of_cell? w _ hw180_0)).trans hw180_0)⟩ (fun hHeld => ?_)
                    clear hK K
                    refine norm_ (a' := ?_) ?_ ?_
                    rotate_left
                    ·show Act.put _ (some 104) _ = _
                     simp only [Act.put, List.setIfInBounds_toArray, List.set_cons_zero, List.set_cons_succ, i64_w, i32_w]
                     rfl
                    refine pure_ (i := 15) (N := some 89) (v := ?_) (a' := ?_) #[true, true, true, true, true, true, true, true, true, true, true, true, true, true, true, true, false, false, false, false, false, false] rfl rfl (any_of HT_.out (by kernel_rfl)) (fun _ _ _ h => h) (Or.inl ⟨by rfl, ?_⟩) ?_ ?_
                    rotate_left
                    ·intro w'
                     go_simp
                     with_reducible rfl
                    rotate_left
                    ·simp only [Act.put, List.setIfInBounds_toArray, List.set_cons_zero, List.set_cons_succ, i64_w, i32_w]
                     rfl
                    refine pure_ (i := 16) (N := some 105) (v := ?_) (a' := ?_) #[true, true, true, true, true, true, true, true, true, true, true, true, true, true, true, true, true, false, false, false, false, false] rfl rfl (any_of HT_.out (by kernel_rfl)) (fun _ _ _ h => h) (Or.inl ⟨by rfl, ?_⟩) ?_ ?_
                    rotate_left
                    ·intro w'
                     go_simp
                     with_reducible rfl
                    rotate_left
                    ·simp only [Act.put, List.setIfInBounds_toArray, List.set_cons_zero, List.set_cons_succ, i64_w, i32_w]
                     rfl
                    refine pure_ (i := 17) (N := some 106) (v := ?_) (a' := ?_) #[true, true, true, true, true, true, true, true, true, true, true, true, true, true, true, true, true, true, false, false, false, false] rfl rfl (any_of HT_.out (by kernel_rfl)) (fun _ _ _ h => h) (Or.inl ⟨by rfl, ?_⟩) ?_ ?_
                    rotate_left
                    ·intro w'
                     go_simp
                     with_reducible rfl
                    rotate_left
                    ·simp only [Act.put, List.setIfInBounds_toArray, List.set_cons_zero, List.set_cons_succ, i64_w, i32_w]
                     rfl
                    refine pure_ (i := 18) (N := some 107) (v := ?_) (a' := ?_) #[true, true, true, true, true, true, true, true, true, true, true, true, true, true, true, true, true, true, true, false, false, false] rfl rfl (any_of HT_.out (by kernel_rfl)) (fun _ _ _ h => h) (Or.inl ⟨by rfl, ?_⟩) ?_ ?_
                    rotate_left
                    ·intro w'
                     go_simp
                     with_reducible rfl
                    rotate_left
                    ·simp only [Act.put, List.setIfInBounds_toArray, List.set_cons_zero, List.set_cons_succ, i64_w, i32_w]
                     rfl
                    refine pure_ (i := 19) (N := some 12) (v := ?_) (a' := ?_) #[true, true, true, true, true, true, true, true, true, true, true, true, true, true, true, true, true, true, true, true, false, false] rfl rfl (any_of HT_.out (by kernel_rfl)) (fun _ _ _ h => h) (Or.inl ⟨by rfl, ?_⟩) ?_ ?_
                    rotate_left
                    ·intro w'
                     go_simp
                     with_reducible rfl
                    rotate_left
                    ·simp only [Act.put, List.setIfInBounds_toArray, List.set_cons_zero, List.set_cons_succ, i64_w, i32_w]
                     rfl
                    refine pure_ (i := 20) (N := some 13) (v := ?_) (a' := ?_) #[true, true, true, true, true, true, true, true, true, true, true, true, true, true, true, true, true, true, true, true, true, false] rfl rfl (any_of HT_.out (by kernel_rfl)) (fun _ _ _ h => h) (Or.inl ⟨by rfl, ?_⟩) ?_ ?_
                    rotate_left
                    ·intro w'
                     go_simp
                     with_reducible rfl
                    rotate_left
                    ·simp only [Act.put, List.setIfInBounds_toArray, List.set_cons_zero, List.set_cons_succ, i64_w, i32_w]
                     rfl
                    refine pure_ (i := 21) (N := some 14) (v := ?_) (a' := ?_) #[true, true, true, true, true, true, true, true, true, true, true, true, true, true, true, true, true, true, true, true, true, true] rfl rfl (any_of HT_.out (by kernel_rfl)) (fun _ _ _ h => h) (Or.inl ⟨by rfl, ?_⟩) ?_ ?_
                    rotate_left
                    ·intro w'
                     go_simp
                     with_reducible rfl
                    rotate_left
                    ·simp only [Act.put, List.setIfInBounds_toArray, List.set_cons_zero, List.set_cons_succ, i64_w, i32_w]
                     rfl
                    refine done_ (done_of HT_.out (by kernel_rfl)) ?_
                    try go_wp2_with (first | ((with_reducible refine gate_builtin (b := .append) (xs := #[.tmp 110, .tmp 114]) rfl ?_); (try (refine gate_guard (by rfl) ?_; dsimp only)); at_builtin; refine Kd.R_append k32 (w0 := w) w.heap.size rfl (.tmp 110) (.tmp 114) 33 32 (.agg #[(.string ⟨#[]⟩), (.string ⟨#[]⟩)]) 32 rfl Tryd.underlying33 info32 rfl (by decide) (by omega) u9 x9_3 (⟨t181, t182⟩ : S32) [.string t181, .string t182] (fun _ => True) (fun _ => False) rfl rfl ?aP (fun _ hk => hk.elim) ?aF ?aO ?aB ?aS ?aL ?_; (case aP => exact k32_mkM _ _ _ (⟨t181, t182⟩ : S32)); (case aB => exact (by repeat (first | (with_reducible first | exact HB.out | apply below_alloc | apply pw_below_drewN | apply below_drew1 | refine below_set ?_ GE168.out) | exact HB.out))); (case aF => exact (fun _ _ => trivial)); (case aO => exact (by (with_reducible repeat (first | apply Kd.R_alloc | apply Kd.R_drewN | apply Kd.R_drew)); exact HO_9.out)); (case aS => exact (below_size (by repeat (first | (with_reducible first | exact HB.out | apply below_alloc | apply pw_below_drewN | apply below_drew1 | refine below_set ?_ GE168.out) | exact HB.out)))); (case aL => have := LMc41.out; omega); intro v185 w47 ho hb hg hat; rw [← Ny184.out] at ho; have n0_ := Aside0.mk (blk_grown (g := gb168) (o := .cells #[.int .u8 a3_0, .int .u8 a3_1, .int .u32 a3_2, .slice A3_3 l3_3.length c3_3, .slice A3_4 l3_4.length c3_4] 28 (0, 0)) (by (with_reducible repeat (first | refine blk_drewN ?_ _ | refine blk_drew ?_ | refine blk_alloc ?_ _)); exact BK168.out) hg (Kd.R_ne HO_9.out BK168.out (by decide))); have n1_ := Aside0.mk (hb); have n2_ := Aside0.mk (ho); clear BK168; clear HB; clear HO_9; have BK168 := n0_; have HB := n1_; have HO186 := n2_; clear n0_ n1_ n2_; clear ho hb hg hat))
                    have n0_ := Aside0.mk (Kd.R_drew HO186.out)
                    have n1_ := Aside0.mk (blk_drew BK168.out)
                    have n2_ := Aside0.mk (below_drew1 HB.out)
                    clear HO186
                    clear BK168
                    clear HB
                    have HO186 := n0_
                    have BK168 := n1_
                    have HB := n2_
                    clear n0_ n1_ n2_
                    have p187 : 0 ≤ (x64_3 : Int) := of_decide_eq_true (by first | (with_reducible assumption) | assumption)
                    have q187 : x64_3 < (l0.length : Int) := of_decide_eq_true (by first | (with_reducible assumption) | assumption)
                    obtain ⟨ad187, e187, hx187_0⟩ := Kd.at_int HR0.out x64_3 p187 q187
                    have hw187_0 := hx187_0
                    obtain rfl : ad178 = ad187 := (by injection e187)
                    replace hx187_0 := (HB.out.cell (World.block_lt_of_cell? w _ hx187_0)).trans hx187_0
                    replace p187 := eq_true p187
                    replace q187 := eq_true q187
                    have p188 : 0 ≤ (x64_3 : Int) := of_decide_eq_true (by first | (with_reducible assumption) | assumption)
                    have q188 : x64_3 < (l1.length : Int) := of_decide_eq_true (by first | (with_reducible assumption) | assumption)
                    obtain ⟨ad188, e188, hx188_0⟩ := Kd.at_int HR1.out x64_3 p188 q188
                    have hw188_0 := hx188_0
                    obtain rfl : ad179 = ad188 := (by injection e188)
                    replace hx188_0 := (HB.out.cell (World.block_lt_of_cell? w _ hx188_0)).trans hx188_0
                    replace p188 := eq_true p188
                    replace q188 := eq_true q188
                    have p190 : 0 ≤ (x64_3 : Int) := of_decide_eq_true (by first | (with_reducible assumption) | assumption)
                    have q190 : x64_3 < (l2.length : Int) := of_decide_eq_true (by first | (with_reducible assumption) | assumption)
                    obtain ⟨ad190, e190, hx190_0⟩ := Kd.at_string HR2.out x64_3 p190 q190
                    have hw190_0 := hx190_0
                    obtain rfl : ad180 = ad190 := (by injection e190)
                    replace hx190_0 := (HB.out.cell (World.block_lt_of_cell? w _ hx190_0)).trans hx190_0
                    replace p190 := eq_true p190
                    replace q190 := eq_true q190
                    refine start_ (n := 23) (S := fun w' => w'.cell? ⟨gb168, 0, none⟩ = some (.int .u8 a3_0) ∧ w'.cell? ⟨gb168, 1, none⟩ = some (.int .u8 a3_1) ∧ w'.cell? ⟨gb168, 2, none⟩ = some (.int .u32 a3_2) ∧ w'.cell? ⟨gb168, 3, none⟩ = some (.slice A3_3 l3_3.length c3_3) ∧ w'.cell? ⟨gb168, 4, none⟩ = some (.slice A3_4 l3_4.length c3_4) ∧ w'.cell? (ad178.add (x64_3).toNat) = some (.int .u8 (rd l0 x64_3)) ∧ w'.cell? (ad179.add (x64_3).toNat) = some (.int .u8 (rd l1 x64_3)) ∧ w'.cell? (ad180.add (x64_3).toNat) = some (.string (rdOf ByteArray.empty l2 x64_3))) (ds := []) #[false, false, false, false, false, false, false, false, false, false, false, false, false, false, false, false, false, false, false, false, false, false, false] (by kernel_rfl) rfl rfl ⟨(blk_cell BK168.out 0).trans rfl, (blk_cell BK168.out 1).trans rfl, (blk_cell BK168.out 2).trans rfl, (blk_cell BK168.out 3).trans rfl, (blk_cell BK168.out 4).trans rfl, ((HB.out.cell (World.block_lt_of_cell? w _ hw187_0)).trans hw187_0), ((HB.out.cell (World.block_lt_of_cell? w _ hw188_0)).trans hw188_0), ((HB.out.cell (World.block_lt_of_cell? w _ hw190_0)).trans hw190_0)⟩ (fun hHeld => ?_); refine with_tabW laws_FnMtWithRule.tab16 laws_FnMtWithRule.bits16 (fun HT_ HW_ => ?_)
                    generalize w47.drew = w48 at HO186 BK168 HB hx187_0 hx188_0 hx190_0 hHeld ⊢
                    refine pure_ (i := 1) (N := some 118) (v := ?_) (a' := ?_) #[false, true, false, false, false, false, false, false, false, false, false, false, false, false, false, false, false, false, false, false, false, false, false] rfl rfl (any_of HT_.out (by kernel_rfl)) (fun _ _ _ h => h) (Or.inl ⟨by rfl, ?_⟩) ?_ ?_
                    rotate_left
                    ·intro w'
                     go_simp
                     with_reducible rfl
                    rotate_left
                    ·simp only [Act.put, List.setIfInBounds_toArray, List.set_cons_zero, List.set_cons_succ, i64_w, i32_w]
                     rfl
                    refine pure_ (i := 2) (N := some 119) (v := ?_) (a' := ?_) #[false, true, true, false, false, false, false, false, false, false, false, false, false, false, false, false, false, false, false, false, false, false, false] rfl rfl (any_of HT_.out (by kernel_rfl)) (fun _ _ _ h => h) (Or.inl ⟨by rfl, ?_⟩) ?_ ?_
                    rotate_left
                    ·intro w'
                     go_simp
                     with_reducible rfl
                    rotate_left
                    ·simp only [Act.put, List.setIfInBounds_toArray, List.set_cons_zero, List.set_cons_succ, i64_w, i32_w]
                     rfl
                    refine pure_ (i := 3) (N := some 120) (v := ?_) (a' := ?_) #[false, true, true, true, false, false, false, false, false, false, false, false, false, false, false, false, false, false, false, false, false, false, false] rfl rfl (any_of HT_.out (by kernel_rfl)) (fun _ _ _ h => h) (Or.inl ⟨by rfl, ?_⟩) ?_ ?_
                    rotate_left
                    ·intro w'
                     go_simp
                     with_reducible rfl
                    rotate_left
                    ·simp only [Act.put, List.setIfInBounds_toArray, List.set_cons_zero, List.set_cons_succ, i64_w, i32_w]
                     rfl
                    refine pure_ (i := 6) (N := some 123) (v := ?_) (a' := ?_) #[false, true, true, true, false, false, true, false, false, false, false, false, false, false, false, false, false, false, false, false, false, false, false] rfl rfl (any_of HT_.out (by kernel_rfl)) (fun _ _ _ h => h) (Or.inl ⟨by rfl, ?_⟩) ?_ ?_
                    rotate_left
                    ·intro w'
                     go_simp
                     with_reducible rfl
                    rotate_left
                    ·simp only [Act.put, List.setIfInBounds_toArray, List.set_cons_zero, List.set_cons_succ, i64_w, i32_w]
                     rfl
                    refine pure_ (i := 7) (N := some 124) (v := ?_) (a' := ?_) #[false, true, true, true, false, false, true, true, false, false, false, false, false, false, false, false, false, false, false, false, false, false, false] rfl rfl (any_of HT_.out (by kernel_rfl)) (fun _ _ _ h => h) (Or.inl ⟨by rfl, ?_⟩) ?_ ?_
                    rotate_left
                    ·intro w'
                     go_simp
                     with_reducible rfl
                    rotate_left
                    ·simp only [Act.put, List.setIfInBounds_toArray, List.set_cons_zero, List.set_cons_succ, i64_w, i32_w]
                     rfl
                    refine pure_ (i := 8) (N := some 125) (v := ?_) (a' := ?_) #[false, true, true, true, false, false, true, true, true, false, false, false, false, false, false, false, false, false, false, false, false, false, false] rfl rfl (any_of HT_.out (by kernel_rfl)) (fun _ _ _ h => h) (Or.inl ⟨by rfl, ?_⟩) ?_ ?_
                    rotate_left
                    ·intro w'
                     go_simp
                     with_reducible rfl
                    rotate_left
                    ·simp only [Act.put, List.setIfInBounds_toArray, List.set_cons_zero, List.set_cons_succ, i64_w, i32_w]
                     rfl
                    refine pure_ (i := 12) (N := some 129) (v := ?_) (a' := ?_) #[false, true, true, true, false, false, true, true, true, false, false, false, true, false, false, false, false, false, false, false, false, false, false] rfl rfl (any_of HT_.out (by kernel_rfl)) (fun _ _ _ h => h) (Or.inl ⟨by rfl, ?_⟩) ?_ ?_
                    rotate_left
                    ·intro w'
                     go_simp
                     with_reducible rfl
                    rotate_left
                    ·simp only [Act.put, List.setIfInBounds_toArray, List.set_cons_zero, List.set_cons_succ, i64_w, i32_w]
                     rfl
                    refine pure_ (i := 13) (N := some 130) (v := ?_) (a' := ?_) #[false, true, true, true, false, false, true, true, true, false, false, false, true, true, false, false, false, false, false, false, false, false, false] rfl rfl (any_of HT_.out (by kernel_rfl)) (fun _ _ _ h => h) (Or.inl ⟨by rfl, ?_⟩) ?_ ?_
                    rotate_left
                    ·intro w'
                     go_simp
                     with_reducible rfl
                    rotate_left
                    ·simp only [Act.put, List.setIfInBounds_toArray, List.set_cons_zero, List.set_cons_succ, i64_w, i32_w]
                     rfl
                    refine pure_ (i := 14) (N := some 131) (v := ?_) (a' := ?_) #[false, true, true, true, false, false, true, true, true, false, false, false, true, true, true, false, false, false, false, false, false, false, false] rfl rfl (any_of HT_.out (by kernel_rfl)) (fun _ _ _ h => h) (Or.inl ⟨by rfl, ?_⟩) ?_ ?_
                    rotate_left
                    ·intro w'
                     go_simp
                     with_reducible rfl
                    rotate_left
                    ·simp only [Act.put, List.setIfInBounds_toArray, List.set_cons_zero, List.set_cons_succ, i64_w, i32_w]
                     rfl
                    refine take_ (i := 0) (N := some 117) (v := ?_) (a' := ?_) #[true, true, true, true, false, false, true, true, true, false, false, false, true, true, true, false, false, false, false, false, false, false, false] rfl rfl (take_ofW HT_.out HW_.out (by kernel_rfl)) (fun _ _ _ h => h) (Or.inl ⟨by rfl, ?_⟩) hHeld ?_ ?_
                    rotate_left
                    ·rintro w' ⟨s0, s1, s2, s3, s4, s5, s6, s7⟩
                     go_simp
                     with_reducible rfl
                    rotate_left
                    ·simp only [Act.put, List.setIfInBounds_toArray, List.set_cons_zero, List.set_cons_succ, i64_w, i32_w]
                     rfl
                    refine take_ (i := 4) (N := some 121) (v := ?_) (a' := ?_) #[true, true, true, true, true, false, true, true, true, false, false, false, true, true, true, false, false, false, false, false, false, false, false] rfl rfl (take_ofW HT_.out HW_.out (by kernel_rfl)) (fun _ _ _ h => h) (Or.inl ⟨by rfl, ?_⟩) hHeld ?_ ?_
                    rotate_left
                    ·rintro w' ⟨s0, s1, s2, s3, s4, s5, s6, s7⟩
                     go_simp
                     with_reducible rfl
                    rotate_left
                    ·simp only [Act.put, List.setIfInBounds_toArray, List.set_cons_zero, List.set_cons_succ, i64_w, i32_w]
                     rfl
                    refine pure_ (i := 5) (N := some 122) (v := ?_) (a' := ?_) #[true, true, true, true, true, true, true, true, true, false, false, false, true, true, true, false, false, false, false, false, false, false, false] rfl rfl (any_of HT_.out (by kernel_rfl)) (fun _ _ _ h => h) (Or.inl ⟨by rfl, ?_⟩) ?_ ?_
                    rotate_left
                    ·intro w'
                     go_simp
                     with_reducible rfl
                    rotate_left
                    ·simp only [Act.put, List.setIfInBounds_toArray, List.set_cons_zero, List.set_cons_succ, i64_w, i32_w]
                     rfl
                    refine take_ (i := 9) (N := some 126) (v := ?_) (a' := ?_) #[true, true, true, true, true, true, true, true, true, true, false, false, true, true, true, false, false, false, false, false, false, false, false] rfl rfl (take_ofW HT_.out HW_.out (by kernel_rfl)) (fun _ _ _ h => h) (Or.inl ⟨by rfl, ?_⟩) hHeld ?_ ?_
                    rotate_left
                    ·rintro w' ⟨s0, s1, s2, s3, s4, s5, s6, s7⟩
                     go_simp
                     with_reducible rfl
                    rotate_left
                    ·simp only [Act.put, List.setIfInBounds_toArray, List.set_cons_zero, List.set_cons_succ, i64_w, i32_w]
                     rfl
                    refine pure_ (i := 10) (N := some 127) (v := ?_) (a' := ?_) #[true, true, true, true, true, true, true, true, true, true, true, false, true, true, true, false, false, false, false, false, false, false, false] rfl rfl (any_of HT_.out (by kernel_rfl)) (fun _ _ _ h => h) (Or.inl ⟨by rfl, ?_⟩) ?_ ?_
                    rotate_left
                    ·intro w'
                     go_simp
                     with_reducible rfl
                    rotate_left
                    ·simp only [Act.put, List.setIfInBounds_toArray, List.set_cons_zero, List.set_cons_succ, i64_w, i32_w]
                     rfl
                    refine take_ (i := 15) (N := some 132) (v := ?_) (a' := ?_) #[true, true, true, true, true, true, true, true, true, true, true, false, true, true, true, true, false, false, false, false, false, false, false] rfl rfl (take_ofW HT_.out HW_.out (by kernel_rfl)) (fun _ _ _ h => h) (Or.inl ⟨by rfl, ?_⟩) hHeld ?_ ?_
                    rotate_left
                    ·rintro w' ⟨s0, s1, s2, s3, s4, s5, s6, s7⟩
                     go_simp
                     with_reducible rfl
                    rotate_left
                    ·simp only [Act.put, List.setIfInBounds_toArray, List.set_cons_zero, List.set_cons_succ, i64_w, i32_w]
                     rfl
                    refine one_ (i := 11) (N := some 128) #[true, true, true, true, true, true, true, true, true, true, true, true, true, true, true, true, false, false, false, false, false, false, false] rfl rfl (one_of HT_.out (by kernel_rfl)) (by decide) (fun K hK => ?_)
                    refine goes_ Tryd.func13 (by kernel_rfl) rfl #[.int .i64 (wrap64 (rd l0 x64_3)), .int .i64 (wrap64 (rd l1 x64_3))] (by rfl) rfl rfl (by (try simp only [List.map_toArray, List.map_cons, List.map_nil]); first | done | rfl | (simp only [List.length_drop, List.length_take]; rfl)) ?_
                    with_reducible refine (laws_mtKeyOf.calls kj21 (wrap64 (rd l0 x64_3)) (wrap64 (rd l1 x64_3)) t189 _ A42.out).mono ?_
                    rintro e w49 ⟨rfl, hb⟩
                    refine ⟨_, rfl, ?_⟩
                    have n0_ := Aside0.mk (Kd.R_below (by (with_reducible repeat (first | apply Kd.R_alloc | apply Kd.R_drewN | apply Kd.R_drew)); exact HO186.out) hb)
                    have n1_ := Aside0.mk (blk_below (g := gb168) (o := .cells #[.int .u8 a3_0, .int .u8 a3_1, .int .u32 a3_2, .slice A3_3 l3_3.length c3_3, .slice A3_4 l3_4.length c3_4] 28 (0, 0)) (by (with_reducible repeat (first | refine blk_drewN ?_ _ | refine blk_drew ?_ | refine blk_alloc ?_ _)); exact BK168.out) hb)
                    have n2_ := Aside0.mk (below_step (by repeat (first | (with_reducible first | exact HB.out | apply below_alloc | apply pw_below_drewN | apply below_drew1 | refine below_set ?_ GE168.out) | exact HB.out)) hb)
                    clear HO186
                    clear BK168
                    clear HB
                    have HO186 := n0_
                    have BK168 := n1_
                    have HB := n2_
                    clear n0_ n1_ n2_
                    (try clear hb)
                    (try clear hb2)
                    (try clear hk)
                    (try clear hi)
                    refine hK.out _ _ ⟨(blk_cell BK168.out 0).trans rfl, (blk_cell BK168.out 1).trans rfl, (blk_cell BK168.out 2).trans rfl, (blk_cell BK168.out 3).trans rfl, (blk_cell BK168.out 4).trans rfl, ((HB.out.cell (World.block_lt_of_cell? w _ hw187_0)).trans hw187_0), ((HB.out.cell (World.block_lt_of_cell? w _ hw188_0)).trans hw188_0), ((HB.out.cell (World.block_lt_of_cell? w _ hw190_0)).trans hw190_0)⟩ (fun hHeld => ?_)
                    clear hK K
                    refine norm_ (a' := ?_) ?_ ?_
                    rotate_left
                    ·show Act.put _ (some 128) _ = _
                     simp only [Act.put, List.setIfInBounds_toArray, List.set_cons_zero, List.set_cons_succ, i64_w, i32_w]
                     rfl
                    refine pure_ (i := 16) (N := some 133) (v := ?_) (a' := ?_) #[true, true, true, true, true, true, true, true, true, true, true, true, true, true, true, true, true, false, false, false, false, false, false] rfl rfl (any_of HT_.out (by kernel_rfl)) (fun _ _ _ h => h) (Or.inl ⟨by rfl, ?_⟩) ?_ ?_
                    rotate_left
                    ·intro w'
                     go_simp
                     with_reducible rfl
                    rotate_left
                    ·simp only [Act.put, List.setIfInBounds_toArray, List.set_cons_zero, List.set_cons_succ, i64_w, i32_w]
                     rfl
                    refine one_ (i := 17) (N := some 134) #[true, true, true, true, true, true, true, true, true, true, true, true, true, true, true, true, true, true, false, false, false, false, false] rfl rfl (one_of HT_.out (by kernel_rfl)) (by decide) (fun K hK => ?_)
                    refine goes_ Tryd.func12 (by kernel_rfl) rfl #[.agg #[.int .u8 a3_0, .int .u8 a3_1, .int .u32 a3_2, .slice A3_3 l3_3.length c3_3, .slice A3_4 l3_4.length c3_4], .agg #[.string t189, .string (rdOf ByteArray.empty l2 x64_3)]] (by rfl) rfl rfl (by (try simp only [List.map_toArray, List.map_cons, List.map_nil]); first | done | rfl | (simp only [List.length_drop, List.length_take]; rfl)) ?_
                    with_reducible refine (spec_Fits.calls kj21 a3_0 a3_1 a3_2 _ _ l3_3 _ _ l3_4 t189 (rdOf ByteArray.empty l2 x64_3) t191 t192 _ ?side1 ?side2 ?side3 ?side4 A43.out).mono ?_
                    (case side1 => repeat (first | exact (Kd.C_below HR3_3.out HB.out) | (with_reducible refine Kd.C_alloc ?_ _) | (with_reducible refine Kd.C_drewN ?_ _) | (with_reducible refine Kd.C_drew ?_)))
                    (case side2 => exact HC3_3.out)
                    (case side3 => repeat (first | exact (Kd.C_below HR3_4.out HB.out) | (with_reducible refine Kd.C_alloc ?_ _) | (with_reducible refine Kd.C_drewN ?_ _) | (with_reducible refine Kd.C_drew ?_)))
                    (case side4 => exact HC3_4.out)
                    rintro e w50 ⟨rfl, hb⟩
                    refine ⟨_, rfl, ?_⟩
                    have n0_ := Aside0.mk (Kd.R_below (by (with_reducible repeat (first | apply Kd.R_alloc | apply Kd.R_drewN | apply Kd.R_drew)); exact HO186.out) hb)
                    have n1_ := Aside0.mk (blk_below (g := gb168) (o := .cells #[.int .u8 a3_0, .int .u8 a3_1, .int .u32 a3_2, .slice A3_3 l3_3.length c3_3, .slice A3_4 l3_4.length c3_4] 28 (0, 0)) (by (with_reducible repeat (first | refine blk_drewN ?_ _ | refine blk_drew ?_ | refine blk_alloc ?_ _)); exact BK168.out) hb)
                    have n2_ := Aside0.mk (below_step (by repeat (first | (with_reducible first | exact HB.out | apply below_alloc | apply pw_below_drewN | apply below_drew1 | refine below_set ?_ GE168.out) | exact HB.out)) hb)
                    clear HO186
                    clear BK168
                    clear HB
                    have HO186 := n0_
                    have BK168 := n1_
                    have HB := n2_
                    clear n0_ n1_ n2_
                    (try clear hb)
                    (try clear hb2)
                    (try clear hk)
                    (try clear hi)
                    refine hK.out _ _ ⟨(blk_cell BK168.out 0).trans rfl, (blk_cell BK168.out 1).trans rfl, (blk_cell BK168.out 2).trans rfl, (blk_cell BK168.out 3).trans rfl, (blk_cell BK168.out 4).trans rfl, ((HB.out.cell (World.block_lt_of_cell? w _ hw187_0)).trans hw187_0), ((HB.out.cell (World.block_lt_of_cell? w _ hw188_0)).trans hw188_0), ((HB.out.cell (World.block_lt_of_cell? w _ hw190_0)).trans hw190_0)⟩ (fun hHeld => ?_)
                    clear hK K
                    refine norm_ (a' := ?_) ?_ ?_
                    rotate_left
                    ·show Act.put _ (some 134) _ = _
                     simp only [Act.put, List.setIfInBounds_toArray, List.set_cons_zero, List.set_cons_succ, i64_w, i32_w]
                     rfl
                    refine pure_ (i := 18) (N := some 116) (v := ?_) (a' := ?_) #[true, true, true, true, true, true, true, true, true, true, true, true, true, true, true, true, true, true, true, false, false, false, false] rfl rfl (any_of HT_.out (by kernel_rfl)) (fun _ _ _ h => h) (Or.inl ⟨by rfl, ?_⟩) ?_ ?_
                    rotate_left
                    ·intro w'
                     go_simp
                     with_reducible rfl
                    rotate_left
                    ·simp only [Act.put, List.setIfInBounds_toArray, List.set_cons_zero, List.set_cons_succ, i64_w, i32_w]
                     rfl
                    refine pure_ (i := 19) (N := some 135) (v := ?_) (a' := ?_) #[true, true, true, true, true, true, true, true, true, true, true, true, true, true, true, true, true, true, true, true, false, false, false] rfl rfl (any_of HT_.out (by kernel_rfl)) (fun _ _ _ h => h) (Or.inl ⟨by rfl, ?_⟩) ?_ ?_
                    rotate_left
                    ·intro w'
                     go_simp
                     with_reducible rfl
                    rotate_left
                    ·simp only [Act.put, List.setIfInBounds_toArray, List.set_cons_zero, List.set_cons_succ, i64_w, i32_w]
                     rfl
                    refine pure_ (i := 20) (N := some 136) (v := ?_) (a' := ?_) #[true, true, true, true, true, true, true, true, true, true, true, true, true, true, true, true, true, true, true, true, true, false, false] rfl rfl (any_of HT_.out (by kernel_rfl)) (fun _ _ _ h => h) (Or.inl ⟨by rfl, ?_⟩) ?_ ?_
                    rotate_left
                    ·intro w'
                     go_simp
                     with_reducible rfl
                    rotate_left
                    ·simp only [Act.put, List.setIfInBounds_toArray, List.set_cons_zero, List.set_cons_succ, i64_w, i32_w]
                     rfl
                    refine pure_ (i := 21) (N := some 15) (v := ?_) (a' := ?_) #[true, true, true, true, true, true, true, true, true, true, true, true, true, true, true, true, true, true, true, true, true, true, false] rfl rfl (any_of HT_.out (by kernel_rfl)) (fun _ _ _ h => h) (Or.inl ⟨by rfl, ?_⟩) ?_ ?_
                    rotate_left
                    ·intro w'
                     go_simp
                     with_reducible rfl
                    rotate_left
                    ·simp only [Act.put, List.setIfInBounds_toArray, List.set_cons_zero, List.set_cons_succ, i64_w, i32_w]
                     rfl
                    refine pure_ (i := 22) (N := some 16) (v := ?_) (a' := ?_) #[true, true, true, true, true, true, true, true, true, true, true, true, true, true, true, true, true, true, true, true, true, true, true] rfl rfl (any_of HT_.out (by kernel_rfl)) (fun _ _ _ h => h) (Or.inl ⟨by rfl, ?_⟩) ?_ ?_
                    rotate_left
                    ·intro w'
                     go_simp
                     with_reducible rfl
                    rotate_left
                    ·simp only [Act.put, List.setIfInBounds_toArray, List.set_cons_zero, List.set_cons_succ, i64_w, i32_w]
                     rfl
                    refine done_ (done_of HT_.out (by kernel_rfl)) ?_
                    try go_wp2
                    go_roundg kj21
                    case measure => have := HJ4.out; have := HJ14.out; have := HK3.out; have := HJ21.out; omega
                    case rel => exact ⟨(y184), (t191), (wrap64 (x64_3 + 1)), (by first | rfl | (simp; done) | (simp [*]; done)), (by first | rfl | (simp; done) | (simp [*]; done)), H', ⟨by have := HJ4.out; have := HJ14.out; have := HK3.out; have := HJ21.out; omega⟩, ⟨by (with_reducible repeat (first | apply Kd.R_alloc | apply Kd.R_drewN | apply Kd.R_drew)); exact HO186.out⟩, ⟨by (with_reducible repeat (first | refine blk_drewN ?_ _ | refine blk_drew ?_ | refine blk_alloc ?_ _)); exact BK168.out⟩, ⟨by repeat (first | (with_reducible first | exact HB.out | apply below_alloc | apply pw_below_drewN | apply below_drew1 | refine below_set ?_ GE168.out) | exact HB.out)⟩⟩
                   ·replace c44 := Bool.eq_false_iff.mpr c44
                    subst c44
                    have H1 : (laws_FnMtWithRule.l0 kj21 l0 l1 l2 y184 false (l0.length : Int) (wrap64 (x64_3 + 1)) a3_0 a3_1 a3_2 l3_3 l3_4) = some r := by rw [if_neg (show ¬ (false = true) by decide)] at H; exact H
                    clear H
                    have H := H1
                    clear H1
                    have H' := Aside0.mk H
                    clear H
                    try go_wp2
                    have n0_ := Aside0.mk (Kd.R_drew HO_9.out)
                    have n1_ := Aside0.mk (blk_drew BK168.out)
                    have n2_ := Aside0.mk (below_drew1 HB.out)
                    clear HO_9
                    clear BK168
                    clear HB
                    have HO_9 := n0_
                    have BK168 := n1_
                    have HB := n2_
                    clear n0_ n1_ n2_
                    have p178 : 0 ≤ (x64_3 : Int) := of_decide_eq_true (by first | (with_reducible assumption) | assumption)
                    have q178 : x64_3 < (l0.length : Int) := of_decide_eq_true (by first | (with_reducible assumption) | assumption)
                    obtain ⟨ad178, e178, hx178_0⟩ := Kd.at_int HR0.out x64_3 p178 q178
                    have hw178_0 := hx178_0
                    cases e178
                    replace hx178_0 := (HB.out.cell (World.block_lt_of_cell? w _ hx178_0)).trans hx178_0
                    replace p178 := eq_true p178
                    replace q178 := eq_true q178
                    have p179 : 0 ≤ (x64_3 : Int) := of_decide_eq_true (by first | (with_reducible assumption) | assumption)
                    have q179 : x64_3 < (l1.length : Int) := of_decide_eq_true (by first | (with_reducible assumption) | assumption)
                    obtain ⟨ad179, e179, hx179_0⟩ := Kd.at_int HR1.out x64_3 p179 q179
                    have hw179_0 := hx179_0
                    cases e179
                    replace hx179_0 := (HB.out.cell (World.block_lt_of_cell? w _ hx179_0)).trans hx179_0
                    replace p179 := eq_true p179
                    replace q179 := eq_true q179
                    have p180 : 0 ≤ (x64_3 : Int) := of_decide_eq_true (by first | (with_reducible assumption) | assumption)
                    have q180 : x64_3 < (l2.length : Int) := of_decide_eq_true (by first | (with_reducible assumption) | assumption)
                    obtain ⟨ad180, e180, hx180_0⟩ := Kd.at_string HR2.out x64_3 p180 q180
                    have hw180_0 := hx180_0
                    cases e180
                    replace hx180_0 := (HB.out.cell (World.block_lt_of_cell? w _ hx180_0)).trans hx180_0
                    replace p180 := eq_true p180
                    replace q180 := eq_true q180
                    refine start_ (n := 22) (S := fun w' => w'.cell? (ad178.add (x64_3).toNat) = some (.int .u8 (rd l0 x64_3)) ∧ w'.cell? (ad179.add (x64_3).toNat) = some (.int .u8 (rd l1 x64_3)) ∧ w'.cell? (ad180.add (x64_3).toNat) = some (.string (rdOf ByteArray.empty l2 x64_3))) (ds := []) #[false, false, false, false, false, false, false, false, false, false, false, false, false, false, false, false, false, false, false, false, false, false] (by kernel_rfl) rfl rfl ⟨((HB.out.cell (World.block_lt_of_cell? w _ hw178_0)).trans hw178_0), ((HB.out.cell (World.block_lt_of_cell? w _ hw179_0)).trans hw179_0), ((HB.out.cell (World.block_lt_of_cell? w _ hw180_0)).trans hw180_0)⟩ (fun hHeld => ?_); refine with_tabW laws_FnMtWithRule.tab12 laws_FnMtWithRule.bits12 (fun HT_ HW_ => ?_)
                    generalize wc.drew = w51 at HO_9 BK168 HB hx178_0 hx179_0 hx180_0 hHeld ⊢
                    refine pure_ (i := 0) (N := some 90) (v := ?_) (a' := ?_) #[true, false, false, false, false, false, false, false, false, false, false, false, false, false, false, false, false, false, false, false, false, false] rfl rfl (any_of HT_.out (by kernel_rfl)) (fun _ _ _ h => h) (Or.inl ⟨by rfl, ?_⟩) ?_ ?_
                    rotate_left
                    ·intro w'
                     go_simp
                     with_reducible rfl
                    rotate_left
                    ·simp only [Act.put, List.setIfInBounds_toArray, List.set_cons_zero, List.set_cons_succ, i64_w, i32_w]
                     rfl
                    refine pure_ (i := 1) (N := some 91) (v := ?_) (a' := ?_) #[true, true, false, false, false, false, false, false, false, false, false, false, false, false, false, false, false, false, false, false, false, false] rfl rfl (any_of HT_.out (by kernel_rfl)) (fun _ _ _ h => h) (Or.inl ⟨by rfl, ?_⟩) ?_ ?_
                    rotate_left
                    ·intro w'
                     go_simp
                     with_reducible rfl
                    rotate_left
                    ·simp only [Act.put, List.setIfInBounds_toArray, List.set_cons_zero, List.set_cons_succ, i64_w, i32_w]
                     rfl
                    refine pure_ (i := 2) (N := some 92) (v := ?_) (a' := ?_) #[true, true, true, false, false, false, false, false, false, false, false, false, false, false, false, false, false, false, false, false, false, false] rfl rfl (any_of HT_.out (by kernel_rfl)) (fun _ _ _ h => h) (Or.inl ⟨by rfl, ?_⟩) ?_ ?_
                    rotate_left
                    ·intro w'
                     go_simp
                     with_reducible rfl
                    rotate_left
                    ·simp only [Act.put, List.setIfInBounds_toArray, List.set_cons_zero, List.set_cons_succ, i64_w, i32_w]
                     rfl
                    refine pure_ (i := 5) (N := some 95) (v := ?_) (a' := ?_) #[true, true, true, false, false, true, false, false, false, false, false, false, false, false, false, false, false, false, false, false, false, false] rfl rfl (any_of HT_.out (by kernel_rfl)) (fun _ _ _ h => h) (Or.inl ⟨by rfl, ?_⟩) ?_ ?_
                    rotate_left
                    ·intro w'
                     go_simp
                     with_reducible rfl
                    rotate_left
                    ·simp only [Act.put, List.setIfInBounds_toArray, List.set_cons_zero, List.set_cons_succ, i64_w, i32_w]
                     rfl
                    refine pure_ (i := 6) (N := some 96) (v := ?_) (a' := ?_) #[true, true, true, false, false, true, true, false, false, false, false, false, false, false, false, false, false, false, false, false, false, false] rfl rfl (any_of HT_.out (by kernel_rfl)) (fun _ _ _ h => h) (Or.inl ⟨by rfl, ?_⟩) ?_ ?_
                    rotate_left
                    ·intro w'
                     go_simp
                     with_reducible rfl
                    rotate_left
                    ·simp only [Act.put, List.setIfInBounds_toArray, List.set_cons_zero, List.set_cons_succ, i64_w, i32_w]
                     rfl
                    refine pure_ (i := 7) (N := some 97) (v := ?_) (a' := ?_) #[true, true, true, false, false, true, true, true, false, false, false, false, false, false, false, false, false, false, false, false, false, false] rfl rfl (any_of HT_.out (by kernel_rfl)) (fun _ _ _ h => h) (Or.inl ⟨by rfl, ?_⟩) ?_ ?_
                    rotate_left
                    ·intro w'
                     go_simp
                     with_reducible rfl
                    rotate_left
                    ·simp only [Act.put, List.setIfInBounds_toArray, List.set_cons_zero, List.set_cons_succ, i64_w, i32_w]
                     rfl
                    refine pure_ (i := 10) (N := some 100) (v := ?_) (a' := ?_) #[true, true, true, false, false, true, true, true, false, false, true, false, false, false, false, false, false, false, false, false, false, false] rfl rfl (any_of HT_.out (by kernel_rfl)) (fun _ _ _ h => h) (Or.inl ⟨by rfl, ?_⟩) ?_ ?_
                    rotate_left
                    ·intro w'
                     go_simp
                     with_reducible rfl
                    rotate_left
                    ·simp only [Act.put, List.setIfInBounds_toArray, List.set_cons_zero, List.set_cons_succ, i64_w, i32_w]
                     rfl
                    refine pure_ (i := 11) (N := some 101) (v := ?_) (a' := ?_) #[true, true, true, false, false, true, true, true, false, false, true, true, false, false, false, false, false, false, false, false, false, false] rfl rfl (any_of HT_.out (by kernel_rfl)) (fun _ _ _ h => h) (Or.inl ⟨by rfl, ?_⟩) ?_ ?_
                    rotate_left
                    ·intro w'
                     go_simp
                     with_reducible rfl
                    rotate_left
                    ·simp only [Act.put, List.setIfInBounds_toArray, List.set_cons_zero, List.set_cons_succ, i64_w, i32_w]
                     rfl
                    refine pure_ (i := 12) (N := some 102) (v := ?_) (a' := ?_) #[true, true, true, false, false, true, true, true, false, false, true, true, true, false, false, false, false, false, false, false, false, false] rfl rfl (any_of HT_.out (by kernel_rfl)) (fun _ _ _ h => h) (Or.inl ⟨by rfl, ?_⟩) ?_ ?_
                    rotate_left
                    ·intro w'
                     go_simp
                     with_reducible rfl
                    rotate_left
                    ·simp only [Act.put, List.setIfInBounds_toArray, List.set_cons_zero, List.set_cons_succ, i64_w, i32_w]
                     rfl
                    refine take_ (i := 3) (N := some 93) (v := ?_) (a' := ?_) #[true, true, true, true, false, true, true, true, false, false, true, true, true, false, false, false, false, false, false, false, false, false] rfl rfl (take_ofW HT_.out HW_.out (by kernel_rfl)) (fun _ _ _ h => h) (Or.inl ⟨by rfl, ?_⟩) hHeld ?_ ?_
                    rotate_left
                    ·rintro w' ⟨s0, s1, s2⟩
                     go_simp
                     with_reducible rfl
                    rotate_left
                    ·simp only [Act.put, List.setIfInBounds_toArray, List.set_cons_zero, List.set_cons_succ, i64_w, i32_w]
                     rfl
                    refine pure_ (i := 4) (N := some 94) (v := ?_) (a' := ?_) #[true, true, true, true, true, true, true, true, false, false, true, true, true, false, false, false, false, false, false, false, false, false] rfl rfl (any_of HT_.out (by kernel_rfl)) (fun _ _ _ h => h) (Or.inl ⟨by rfl, ?_⟩) ?_ ?_
                    rotate_left
                    ·intro w'
                     go_simp
                     with_reducible rfl
                    rotate_left
                    ·simp only [Act.put, List.setIfInBounds_toArray, List.set_cons_zero, List.set_cons_succ, i64_w, i32_w]
                     rfl
                    refine take_ (i := 8) (N := some 98) (v := ?_) (a' := ?_) #[true, true, true, true, true, true, true, true, true, false, true, true, true, false, false, false, false, false, false, false, false, false] rfl rfl (take_ofW HT_.out HW_.out (by kernel_rfl)) (fun _ _ _ h => h) (Or.inl ⟨by rfl, ?_⟩) hHeld ?_ ?_
                    rotate_left
                    ·rintro w' ⟨s0, s1, s2⟩
                     go_simp
                     with_reducible rfl
                    rotate_left
                    ·simp only [Act.put, List.setIfInBounds_toArray, List.set_cons_zero, List.set_cons_succ, i64_w, i32_w]
                     rfl
                    refine pure_ (i := 9) (N := some 99) (v := ?_) (a' := ?_) #[true, true, true, true, true, true, true, true, true, true, true, true, true, false, false, false, false, false, false, false, false, false] rfl rfl (any_of HT_.out (by kernel_rfl)) (fun _ _ _ h => h) (Or.inl ⟨by rfl, ?_⟩) ?_ ?_
                    rotate_left
                    ·intro w'
                     go_simp
                     with_reducible rfl
                    rotate_left
                    ·simp only [Act.put, List.setIfInBounds_toArray, List.set_cons_zero, List.set_cons_succ, i64_w, i32_w]
                     rfl
                    refine take_ (i := 13) (N := some 103) (v := ?_) (a' := ?_) #[true, true, true, true, true, true, true, true, true, true, true, true, true, true, false, false, false, false, false, false, false, false] rfl rfl (take_ofW HT_.out HW_.out (by kernel_rfl)) (fun _ _ _ h => h) (Or.inl ⟨by rfl, ?_⟩) hHeld ?_ ?_
                    rotate_left
                    ·rintro w' ⟨s0, s1, s2⟩
                     go_simp
                     with_reducible rfl
                    rotate_left
                    ·simp only [Act.put, List.setIfInBounds_toArray, List.set_cons_zero, List.set_cons_succ, i64_w, i32_w]
                     rfl
                    refine one_ (i := 14) (N := some 104) #[true, true, true, true, true, true, true, true, true, true, true, true, true, true, true, false, false, false, false, false, false, false] rfl rfl (one_of HT_.out (by kernel_rfl)) (by decide) (fun K hK => ?_)
                    refine goes_ Tryd.func8 (by kernel_rfl) rfl #[.int .i64 (wrap64 (rd l0 x64_3)), .int .i64 (wrap64 (rd l1 x64_3)), .string (rdOf ByteArray.empty l2 x64_3)] (by rfl) rfl rfl (by (try simp only [List.map_toArray, List.map_cons, List.map_nil]); first | done | rfl | (simp only [List.length_drop, List.length_take]; rfl)) ?_
                    with_reducible refine (impl_MtWith.calls (wrap64 (rd l0 x64_3)) (wrap64 (rd l1 x64_3)) (rdOf ByteArray.empty l2 x64_3) t181 t182 true _ A39.out).mono ?_
                    rintro e w52 ⟨rfl, hb⟩
                    refine ⟨_, rfl, ?_⟩
                    have n0_ := Aside0.mk (Kd.R_below (by (with_reducible repeat (first | apply Kd.R_alloc | apply Kd.R_drewN | apply Kd.R_drew)); exact HO_9.out) hb)
                    have n1_ := Aside0.mk (blk_below (g := gb168) (o := .cells #[.int .u8 a3_0, .int .u8 a3_1, .int .u32 a3_2, .slice A3_3 l3_3.length c3_3, .slice A3_4 l3_4.length c3_4] 28 (0, 0)) (by (with_reducible repeat (first | refine blk_drewN ?_ _ | refine blk_drew ?_ | refine blk_alloc ?_ _)); exact BK168.out) hb)
                    have n2_ := Aside0.mk (below_step (by repeat (first | (with_reducible first | exact HB.out | apply below_alloc | apply pw_below_drewN | apply below_drew1 | refine below_set ?_ GE168.out) | exact HB.out)) hb)
                    clear HO_9
                    clear BK168
                    clear HB
                    have HO_9 := n0_
                    have BK168 := n1_
                    have HB := n2_
                    clear n0_ n1_ n2_
                    (try clear hb)
                    (try clear hb2)
                    (try clear hk)
                    (try clear hi)
                    refine hK.out _ _ ⟨((HB.out.cell (World.block_lt_of_cell? w _ hw178_0)).trans hw178_0), ((HB.out.cell (World.block_lt_of_cell? w _ hw179_0)).trans hw179_0), ((HB.out.cell (World.block_lt_of_cell? w _ hw180_0)).trans hw180_0)⟩ (fun hHeld => ?_)
                    clear hK K
                    refine norm_ (a' := ?_) ?_ ?_
                    rotate_left
                    ·show Act.put _ (some 104) _ = _
                     simp only [Act.put, List.setIfInBounds_toArray, List.set_cons_zero, List.set_cons_succ, i64_w, i32_w]
                     rfl
                    refine pure_ (i := 15) (N := some 89) (v := ?_) (a' := ?_) #[true, true, true, true, true, true, true, true, true, true, true, true, true, true, true, true, false, false, false, false, false, false] rfl rfl (any_of HT_.out (by kernel_rfl)) (fun _ _ _ h => h) (Or.inl ⟨by rfl, ?_⟩) ?_ ?_
                    rotate_left
                    ·intro w'
                     go_simp
                     with_reducible rfl
                    rotate_left
                    ·simp only [Act.put, List.setIfInBounds_toArray, List.set_cons_zero, List.set_cons_succ, i64_w, i32_w]
                     rfl
                    refine pure_ (i := 16) (N := some 105) (v := ?_) (a' := ?_) #[true, true, true, true, true, true, true, true, true, true, true, true, true, true, true, true, true, false, false, false, false, false] rfl rfl (any_of HT_.out (by kernel_rfl)) (fun _ _ _ h => h) (Or.inl ⟨by rfl, ?_⟩) ?_ ?_
                    rotate_left
                    ·intro w'
                     go_simp
                     with_reducible rfl
                    rotate_left
                    ·simp only [Act.put, List.setIfInBounds_toArray, List.set_cons_zero, List.set_cons_succ, i64_w, i32_w]
                     rfl
                    refine pure_ (i := 17) (N := some 106) (v := ?_) (a' := ?_) #[true, true, true, true, true, true, true, true, true, true, true, true, true, true, true, true, true, true, false, false, false, false] rfl rfl (any_of HT_.out (by kernel_rfl)) (fun _ _ _ h => h) (Or.inl ⟨by rfl, ?_⟩) ?_ ?_
                    rotate_left
                    ·intro w'
                     go_simp
                     with_reducible rfl
                    rotate_left
                    ·simp only [Act.put, List.setIfInBounds_toArray, List.set_cons_zero, List.set_cons_succ, i64_w, i32_w]
                     rfl
                    refine pure_ (i := 18) (N := some 107) (v := ?_) (a' := ?_) #[true, true, true, true, true, true, true, true, true, true, true, true, true, true, true, true, true, true, true, false, false, false] rfl rfl (any_of HT_.out (by kernel_rfl)) (fun _ _ _ h => h) (Or.inl ⟨by rfl, ?_⟩) ?_ ?_
                    rotate_left
                    ·intro w'
                     go_simp
                     with_reducible rfl
                    rotate_left
                    ·simp only [Act.put, List.setIfInBounds_toArray, List.set_cons_zero, List.set_cons_succ, i64_w, i32_w]
                     rfl
                    refine pure_ (i := 19) (N := some 12) (v := ?_) (a' := ?_) #[true, true, true, true, true, true, true, true, true, true, true, true, true, true, true, true, true, true, true, true, false, false] rfl rfl (any_of HT_.out (by kernel_rfl)) (fun _ _ _ h => h) (Or.inl ⟨by rfl, ?_⟩) ?_ ?_
                    rotate_left
                    ·intro w'
                     go_simp
                     with_reducible rfl
                    rotate_left
                    ·simp only [Act.put, List.setIfInBounds_toArray, List.set_cons_zero, List.set_cons_succ, i64_w, i32_w]
                     rfl
                    refine pure_ (i := 20) (N := some 13) (v := ?_) (a' := ?_) #[true, true, true, true, true, true, true, true, true, true, true, true, true, true, true, true, true, true, true, true, true, false] rfl rfl (any_of HT_.out (by kernel_rfl)) (fun _ _ _ h => h) (Or.inl ⟨by rfl, ?_⟩) ?_ ?_
                    rotate_left
                    ·intro w'
                     go_simp
                     with_reducible rfl
                    rotate_left
                    ·simp only [Act.put, List.setIfInBounds_toArray, List.set_cons_zero, List.set_cons_succ, i64_w, i32_w]
                     rfl
                    refine pure_ (i := 21) (N := some 14) (v := ?_) (a' := ?_) #[true, true, true, true, true, true, true, true, true, true, true, true, true, true, true, true, true, true, true, true, true, true] rfl rfl (any_of HT_.out (by kernel_rfl)) (fun _ _ _ h => h) (Or.inl ⟨by rfl, ?_⟩) ?_ ?_
                    rotate_left
                    ·intro w'
                     go_simp
                     with_reducible rfl
                    rotate_left
                    ·simp only [Act.put, List.setIfInBounds_toArray, List.set_cons_zero, List.set_cons_succ, i64_w, i32_w]
                     rfl
                    refine done_ (done_of HT_.out (by kernel_rfl)) ?_
                    try go_wp2_with (first | ((with_reducible refine gate_builtin (b := .append) (xs := #[.tmp 110, .tmp 114]) rfl ?_); (try (refine gate_guard (by rfl) ?_; dsimp only)); at_builtin; refine Kd.R_append k32 (w0 := w) w.heap.size rfl (.tmp 110) (.tmp 114) 33 32 (.agg #[(.string ⟨#[]⟩), (.string ⟨#[]⟩)]) 32 rfl Tryd.underlying33 info32 rfl (by decide) (by omega) u9 x9_3 (⟨t181, t182⟩ : S32) [.string t181, .string t182] (fun _ => True) (fun _ => False) rfl rfl ?aP (fun _ hk => hk.elim) ?aF ?aO ?aB ?aS ?aL ?_; (case aP => exact k32_mkM _ _ _ (⟨t181, t182⟩ : S32)); (case aB => exact (by repeat (first | (with_reducible first | exact HB.out | apply below_alloc | apply pw_below_drewN | apply below_drew1 | refine below_set ?_ GE168.out) | exact HB.out))); (case aF => exact (fun _ _ => trivial)); (case aO => exact (by (with_reducible repeat (first | apply Kd.R_alloc | apply Kd.R_drewN | apply Kd.R_drew)); exact HO_9.out)); (case aS => exact (below_size (by repeat (first | (with_reducible first | exact HB.out | apply below_alloc | apply pw_below_drewN | apply below_drew1 | refine below_set ?_ GE168.out) | exact HB.out)))); (case aL => have := LMc41.out; omega); intro v185 w53 ho hb hg hat; rw [← Ny184.out] at ho; have n0_ := Aside0.mk (blk_grown (g := gb168) (o := .cells #[.int .u8 a3_0, .int .u8 a3_1, .int .u32 a3_2, .slice A3_3 l3_3.length c3_3, .slice A3_4 l3_4.length c3_4] 28 (0, 0)) (by (with_reducible repeat (first | refine blk_drewN ?_ _ | refine blk_drew ?_ | refine blk_alloc ?_ _)); exact BK168.out) hg (Kd.R_ne HO_9.out BK168.out (by decide))); have n1_ := Aside0.mk (hb); have n2_ := Aside0.mk (ho); clear BK168; clear HB; clear HO_9; have BK168 := n0_; have HB := n1_; have HO186 := n2_; clear n0_ n1_ n2_; clear ho hb hg hat))
                    have n0_ := Aside0.mk (Kd.R_drew HO186.out)
                    have n1_ := Aside0.mk (blk_drew BK168.out)
                    have n2_ := Aside0.mk (below_drew1 HB.out)
                    clear HO186
                    clear BK168
                    clear HB
                    have HO186 := n0_
                    have BK168 := n1_
                    have HB := n2_
                    clear n0_ n1_ n2_
                    have p187 : 0 ≤ (x64_3 : Int) := of_decide_eq_true (by first | (with_reducible assumption) | assumption)
                    have q187 : x64_3 < (l0.length : Int) := of_decide_eq_true (by first | (with_reducible assumption) | assumption)
                    obtain ⟨ad187, e187, hx187_0⟩ := Kd.at_int HR0.out x64_3 p187 q187
                    have hw187_0 := hx187_0
                    obtain rfl : ad178 = ad187 := (by injection e187)
                    replace hx187_0 := (HB.out.cell (World.block_lt_of_cell? w _ hx187_0)).trans hx187_0
                    replace p187 := eq_true p187
                    replace q187 := eq_true q187
                    have p188 : 0 ≤ (x64_3 : Int) := of_decide_eq_true (by first | (with_reducible assumption) | assumption)
                    have q188 : x64_3 < (l1.length : Int) := of_decide_eq_true (by first | (with_reducible assumption) | assumption)
                    obtain ⟨ad188, e188, hx188_0⟩ := Kd.at_int HR1.out x64_3 p188 q188
                    have hw188_0 := hx188_0
                    obtain rfl : ad179 = ad188 := (by injection e188)
                    replace hx188_0 := (HB.out.cell (World.block_lt_of_cell? w _ hx188_0)).trans hx188_0
                    replace p188 := eq_true p188
                    replace q188 := eq_true q188
                    have p190 : 0 ≤ (x64_3 : Int) := of_decide_eq_true (by first | (with_reducible assumption) | assumption)
                    have q190 : x64_3 < (l2.length : Int) := of_decide_eq_true (by first | (with_reducible assumption) | assumption)
                    obtain ⟨ad190, e190, hx190_0⟩ := Kd.at_string HR2.out x64_3 p190 q190
                    have hw190_0 := hx190_0
                    obtain rfl : ad180 = ad190 := (by injection e190)
                    replace hx190_0 := (HB.out.cell (World.block_lt_of_cell? w _ hx190_0)).trans hx190_0
                    replace p190 := eq_true p190
                    replace q190 := eq_true q190
                    refine start_ (n := 23) (S := fun w' => w'.cell? ⟨gb168, 0, none⟩ = some (.int .u8 a3_0) ∧ w'.cell? ⟨gb168, 1, none⟩ = some (.int .u8 a3_1) ∧ w'.cell? ⟨gb168, 2, none⟩ = some (.int .u32 a3_2) ∧ w'.cell? ⟨gb168, 3, none⟩ = some (.slice A3_3 l3_3.length c3_3) ∧ w'.cell? ⟨gb168, 4, none⟩ = some (.slice A3_4 l3_4.length c3_4) ∧ w'.cell? (ad178.add (x64_3).toNat) = some (.int .u8 (rd l0 x64_3)) ∧ w'.cell? (ad179.add (x64_3).toNat) = some (.int .u8 (rd l1 x64_3)) ∧ w'.cell? (ad180.add (x64_3).toNat) = some (.string (rdOf ByteArray.empty l2 x64_3))) (ds := []) #[false, false, false, false, false, false, false, false, false, false, false, false, false, false, false, false, false, false, false, false, false, false, false] (by kernel_rfl) rfl rfl ⟨(blk_cell BK168.out 0).trans rfl, (blk_cell BK168.out 1).trans rfl, (blk_cell BK168.out 2).trans rfl, (blk_cell BK168.out 3).trans rfl, (blk_cell BK168.out 4).trans rfl, ((HB.out.cell (World.block_lt_of_cell? w _ hw187_0)).trans hw187_0), ((HB.out.cell (World.block_lt_of_cell? w _ hw188_0)).trans hw188_0), ((HB.out.cell (World.block_lt_of_cell? w _ hw190_0)).trans hw190_0)⟩ (fun hHeld => ?_); refine with_tabW laws_FnMtWithRule.tab16 laws_FnMtWithRule.bits16 (fun HT_ HW_ => ?_)
                    generalize w53.drew = w54 at HO186 BK168 HB hx187_0 hx188_0 hx190_0 hHeld ⊢
                    refine pure_ (i := 1) (N := some 118) (v := ?_) (a' := ?_) #[false, true, false, false, false, false, false, false, false, false, false, false, false, false, false, false, false, false, false, false, false, false, false] rfl rfl (any_of HT_.out (by kernel_rfl)) (fun _ _ _ h => h) (Or.inl ⟨by rfl, ?_⟩) ?_ ?_
                    rotate_left
                    ·intro w'
                     go_simp
                     with_reducible rfl
                    rotate_left
                    ·simp only [Act.put, List.setIfInBounds_toArray, List.set_cons_zero, List.set_cons_succ, i64_w, i32_w]
                     rfl
                    refine pure_ (i := 2) (N := some 119) (v := ?_) (a' := ?_) #[false, true, true, false, false, false, false, false, false, false, false, false, false, false, false, false, false, false, false, false, false, false, false] rfl rfl (any_of HT_.out (by kernel_rfl)) (fun _ _ _ h => h) (Or.inl ⟨by rfl, ?_⟩) ?_ ?_
                    rotate_left
                    ·intro w'
                     go_simp
                     with_reducible rfl
                    rotate_left
                    ·simp only [Act.put, List.setIfInBounds_toArray, List.set_cons_zero, List.set_cons_succ, i64_w, i32_w]
                     rfl
                    refine pure_ (i := 3) (N := some 120) (v := ?_) (a' := ?_) #[false, true, true, true, false, false, false, false, false, false, false, false, false, false, false, false, false, false, false, false, false, false, false] rfl rfl (any_of HT_.out (by kernel_rfl)) (fun _ _ _ h => h) (Or.inl ⟨by rfl, ?_⟩) ?_ ?_
                    rotate_left
                    ·intro w'
                     go_simp
                     with_reducible rfl
                    rotate_left
                    ·simp only [Act.put, List.setIfInBounds_toArray, List.set_cons_zero, List.set_cons_succ, i64_w, i32_w]
                     rfl
                    refine pure_ (i := 6) (N := some 123) (v := ?_) (a' := ?_) #[false, true, true, true, false, false, true, false, false, false, false, false, false, false, false, false, false, false, false, false, false, false, false] rfl rfl (any_of HT_.out (by kernel_rfl)) (fun _ _ _ h => h) (Or.inl ⟨by rfl, ?_⟩) ?_ ?_
                    rotate_left
                    ·intro w'
                     go_simp
                     with_reducible rfl
                    rotate_left
                    ·simp only [Act.put, List.setIfInBounds_toArray, List.set_cons_zero, List.set_cons_succ, i64_w, i32_w]
                     rfl
                    refine pure_ (i := 7) (N := some 124) (v := ?_) (a' := ?_) #[false, true, true, true, false, false, true, true, false, false, false, false, false, false, false, false, false, false, false, false, false, false, false] rfl rfl (any_of HT_.out (by kernel_rfl)) (fun _ _ _ h => h) (Or.inl ⟨by rfl, ?_⟩) ?_ ?_
                    rotate_left
                    ·intro w'
                     go_simp
                     with_reducible rfl
                    rotate_left
                    ·simp only [Act.put, List.setIfInBounds_toArray, List.set_cons_zero, List.set_cons_succ, i64_w, i32_w]
                     rfl
                    refine pure_ (i := 8) (N := some 125) (v := ?_) (a' := ?_) #[false, true, true, true, false, false, true, true, true, false, false, false, false, false, false, false, false, false, false, false, false, false, false] rfl rfl (any_of HT_.out (by kernel_rfl)) (fun _ _ _ h => h) (Or.inl ⟨by rfl, ?_⟩) ?_ ?_
                    rotate_left
                    ·intro w'
                     go_simp
                     with_reducible rfl
                    rotate_left
                    ·simp only [Act.put, List.setIfInBounds_toArray, List.set_cons_zero, List.set_cons_succ, i64_w, i32_w]
                     rfl
                    refine pure_ (i := 12) (N := some 129) (v := ?_) (a' := ?_) #[false, true, true, true, false, false, true, true, true, false, false, false, true, false, false, false, false, false, false, false, false, false, false] rfl rfl (any_of HT_.out (by kernel_rfl)) (fun _ _ _ h => h) (Or.inl ⟨by rfl, ?_⟩) ?_ ?_
                    rotate_left
                    ·intro w'
                     go_simp
                     with_reducible rfl
                    rotate_left
                    ·simp only [Act.put, List.setIfInBounds_toArray, List.set_cons_zero, List.set_cons_succ, i64_w, i32_w]
                     rfl
                    refine pure_ (i := 13) (N := some 130) (v := ?_) (a' := ?_) #[false, true, true, true, false, false, true, true, true, false, false, false, true, true, false, false, false, false, false, false, false, false, false] rfl rfl (any_of HT_.out (by kernel_rfl)) (fun _ _ _ h => h) (Or.inl ⟨by rfl, ?_⟩) ?_ ?_
                    rotate_left
                    ·intro w'
                     go_simp
                     with_reducible rfl
                    rotate_left
                    ·simp only [Act.put, List.setIfInBounds_toArray, List.set_cons_zero, List.set_cons_succ, i64_w, i32_w]
                     rfl
                    refine pure_ (i := 14) (N := some 131) (v := ?_) (a' := ?_) #[false, true, true, true, false, false, true, true, true, false, false, false, true, true, true, false, false, false, false, false, false, false, false] rfl rfl (any_of HT_.out (by kernel_rfl)) (fun _ _ _ h => h) (Or.inl ⟨by rfl, ?_⟩) ?_ ?_
                    rotate_left
                    ·intro w'
                     go_simp
                     with_reducible rfl
                    rotate_left
                    ·simp only [Act.put, List.setIfInBounds_toArray, List.set_cons_zero, List.set_cons_succ, i64_w, i32_w]
                     rfl
                    refine take_ (i := 0) (N := some 117) (v := ?_) (a' := ?_) #[true, true, true, true, false, false, true, true, true, false, false, false, true, true, true, false, false, false, false, false, false, false, false] rfl rfl (take_ofW HT_.out HW_.out (by kernel_rfl)) (fun _ _ _ h => h) (Or.inl ⟨by rfl, ?_⟩) hHeld ?_ ?_
                    rotate_left
                    ·rintro w' ⟨s0, s1, s2, s3, s4, s5, s6, s7⟩
                     go_simp
                     with_reducible rfl
                    rotate_left
                    ·simp only [Act.put, List.setIfInBounds_toArray, List.set_cons_zero, List.set_cons_succ, i64_w, i32_w]
                     rfl
                    refine take_ (i := 4) (N := some 121) (v := ?_) (a' := ?_) #[true, true, true, true, true, false, true, true, true, false, false, false, true, true, true, false, false, false, false, false, false, false, false] rfl rfl (take_ofW HT_.out HW_.out (by kernel_rfl)) (fun _ _ _ h => h) (Or.inl ⟨by rfl, ?_⟩) hHeld ?_ ?_
                    rotate_left
                    ·rintro w' ⟨s0, s1, s2, s3, s4, s5, s6, s7⟩
                     go_simp
                     with_reducible rfl
                    rotate_left
                    ·simp only [Act.put, List.setIfInBounds_toArray, List.set_cons_zero, List.set_cons_succ, i64_w, i32_w]
                     rfl
                    refine pure_ (i := 5) (N := some 122) (v := ?_) (a' := ?_) #[true, true, true, true, true, true, true, true, true, false, false, false, true, true, true, false, false, false, false, false, false, false, false] rfl rfl (any_of HT_.out (by kernel_rfl)) (fun _ _ _ h => h) (Or.inl ⟨by rfl, ?_⟩) ?_ ?_
                    rotate_left
                    ·intro w'
                     go_simp
                     with_reducible rfl
                    rotate_left
                    ·simp only [Act.put, List.setIfInBounds_toArray, List.set_cons_zero, List.set_cons_succ, i64_w, i32_w]
                     rfl
                    refine take_ (i := 9) (N := some 126) (v := ?_) (a' := ?_) #[true, true, true, true, true, true, true, true, true, true, false, false, true, true, true, false, false, false, false, false, false, false, false] rfl rfl (take_ofW HT_.out HW_.out (by kernel_rfl)) (fun _ _ _ h => h) (Or.inl ⟨by rfl, ?_⟩) hHeld ?_ ?_
                    rotate_left
                    ·rintro w' ⟨s0, s1, s2, s3, s4, s5, s6, s7⟩
                     go_simp
                     with_reducible rfl
                    rotate_left
                    ·simp only [Act.put, List.setIfInBounds_toArray, List.set_cons_zero, List.set_cons_succ, i64_w, i32_w]
                     rfl
                    refine pure_ (i := 10) (N := some 127) (v := ?_) (a' := ?_) #[true, true, true, true, true, true, true, true, true, true, true, false, true, true, true, false, false, false, false, false, false, false, false] rfl rfl (any_of HT_.out (by kernel_rfl)) (fun _ _ _ h => h) (Or.inl ⟨by rfl, ?_⟩) ?_ ?_
                    rotate_left
                    ·intro w'
                     go_simp
                     with_reducible rfl
                    rotate_left
                    ·simp only [Act.put, List.setIfInBounds_toArray, List.set_cons_zero, List.set_cons_succ, i64_w, i32_w]
                     rfl
                    refine take_ (i := 15) (N := some 132) (v := ?_) (a' := ?_) #[true, true, true, true, true, true, true, true, true, true, true, false, true, true, true, true, false, false, false, false, false, false, false] rfl rfl (take_ofW HT_.out HW_.out (by kernel_rfl)) (fun _ _ _ h => h) (Or.inl ⟨by rfl, ?_⟩) hHeld ?_ ?_
                    rotate_left
                    ·rintro w' ⟨s0, s1, s2, s3, s4, s5, s6, s7⟩
                     go_simp
                     with_reducible rfl
                    rotate_left
                    ·simp only [Act.put, List.setIfInBounds_toArray, List.set_cons_zero, List.set_cons_succ, i64_w, i32_w]
                     rfl
                    refine one_ (i := 11) (N := some 128) #[true, true, true, true, true, true, true, true, true, true, true, true, true, true, true, true, false, false, false, false, false, false, false] rfl rfl (one_of HT_.out (by kernel_rfl)) (by decide) (fun K hK => ?_)
                    refine goes_ Tryd.func13 (by kernel_rfl) rfl #[.int .i64 (wrap64 (rd l0 x64_3)), .int .i64 (wrap64 (rd l1 x64_3))] (by rfl) rfl rfl (by (try simp only [List.map_toArray, List.map_cons, List.map_nil]); first | done | rfl | (simp only [List.length_drop, List.length_take]; rfl)) ?_
                    with_reducible refine (laws_mtKeyOf.calls kj21 (wrap64 (rd l0 x64_3)) (wrap64 (rd l1 x64_3)) t189 _ A42.out).mono ?_
                    rintro e w55 ⟨rfl, hb⟩
                    refine ⟨_, rfl, ?_⟩
                    have n0_ := Aside0.mk (Kd.R_below (by (with_reducible repeat (first | apply Kd.R_alloc | apply Kd.R_drewN | apply Kd.R_drew)); exact HO186.out) hb)
                    have n1_ := Aside0.mk (blk_below (g := gb168) (o := .cells #[.int .u8 a3_0, .int .u8 a3_1, .int .u32 a3_2, .slice A3_3 l3_3.length c3_3, .slice A3_4 l3_4.length c3_4] 28 (0, 0)) (by (with_reducible repeat (first | refine blk_drewN ?_ _ | refine blk_drew ?_ | refine blk_alloc ?_ _)); exact BK168.out) hb)
                    have n2_ := Aside0.mk (below_step (by repeat (first | (with_reducible first | exact HB.out | apply below_alloc | apply pw_below_drewN | apply below_drew1 | refine below_set ?_ GE168.out) | exact HB.out)) hb)
                    clear HO186
                    clear BK168
                    clear HB
                    have HO186 := n0_
                    have BK168 := n1_
                    have HB := n2_
                    clear n0_ n1_ n2_
                    (try clear hb)
                    (try clear hb2)
                    (try clear hk)
                    (try clear hi)
                    refine hK.out _ _ ⟨(blk_cell BK168.out 0).trans rfl, (blk_cell BK168.out 1).trans rfl, (blk_cell BK168.out 2).trans rfl, (blk_cell BK168.out 3).trans rfl, (blk_cell BK168.out 4).trans rfl, ((HB.out.cell (World.block_lt_of_cell? w _ hw187_0)).trans hw187_0), ((HB.out.cell (World.block_lt_of_cell? w _ hw188_0)).trans hw188_0), ((HB.out.cell (World.block_lt_of_cell? w _ hw190_0)).trans hw190_0)⟩ (fun hHeld => ?_)
                    clear hK K
                    refine norm_ (a' := ?_) ?_ ?_
                    rotate_left
                    ·show Act.put _ (some 128) _ = _
                     simp only [Act.put, List.setIfInBounds_toArray, List.set_cons_zero, List.set_cons_succ, i64_w, i32_w]
                     rfl
                    refine pure_ (i := 16) (N := some 133) (v := ?_) (a' := ?_) #[true, true, true, true, true, true, true, true, true, true, true, true, true, true, true, true, true, false, false, false, false, false, false] rfl rfl (any_of HT_.out (by kernel_rfl)) (fun _ _ _ h => h) (Or.inl ⟨by rfl, ?_⟩) ?_ ?_
                    rotate_left
                    ·intro w'
                     go_simp
                     with_reducible rfl
                    rotate_left
                    ·simp only [Act.put, List.setIfInBounds_toArray, List.set_cons_zero, List.set_cons_succ, i64_w, i32_w]
                     rfl
                    refine one_ (i := 17) (N := some 134) #[true, true, true, true, true, true, true, true, true, true, true, true, true, true, true, true, true, true, false, false, false, false, false] rfl rfl (one_of HT_.out (by kernel_rfl)) (by decide) (fun K hK => ?_)
                    refine goes_ Tryd.func12 (by kernel_rfl) rfl #[.agg #[.int .u8 a3_0, .int .u8 a3_1, .int .u32 a3_2, .slice A3_3 l3_3.length c3_3, .slice A3_4 l3_4.length c3_4], .agg #[.string t189, .string (rdOf ByteArray.empty l2 x64_3)]] (by rfl) rfl rfl (by (try simp only [List.map_toArray, List.map_cons, List.map_nil]); first | done | rfl | (simp only [List.length_drop, List.length_take]; rfl)) ?_
                    with_reducible refine (spec_Fits.calls kj21 a3_0 a3_1 a3_2 _ _ l3_3 _ _ l3_4 t189 (rdOf ByteArray.empty l2 x64_3) t191 t192 _ ?side1 ?side2 ?side3 ?side4 A43.out).mono ?_
                    (case side1 => repeat (first | exact (Kd.C_below HR3_3.out HB.out) | (with_reducible refine Kd.C_alloc ?_ _) | (with_reducible refine Kd.C_drewN ?_ _) | (with_reducible refine Kd.C_drew ?_)))
                    (case side2 => exact HC3_3.out)
                    (case side3 => repeat (first | exact (Kd.C_below HR3_4.out HB.out) | (with_reducible refine Kd.C_alloc ?_ _) | (with_reducible refine Kd.C_drewN ?_ _) | (with_reducible refine Kd.C_drew ?_)))
                    (case side4 => exact HC3_4.out)
                    rintro e w56 ⟨rfl, hb⟩
                    refine ⟨_, rfl, ?_⟩
                    have n0_ := Aside0.mk (Kd.R_below (by (with_reducible repeat (first | apply Kd.R_alloc | apply Kd.R_drewN | apply Kd.R_drew)); exact HO186.out) hb)
                    have n1_ := Aside0.mk (blk_below (g := gb168) (o := .cells #[.int .u8 a3_0, .int .u8 a3_1, .int .u32 a3_2, .slice A3_3 l3_3.length c3_3, .slice A3_4 l3_4.length c3_4] 28 (0, 0)) (by (with_reducible repeat (first | refine blk_drewN ?_ _ | refine blk_drew ?_ | refine blk_alloc ?_ _)); exact BK168.out) hb)
                    have n2_ := Aside0.mk (below_step (by repeat (first | (with_reducible first | exact HB.out | apply below_alloc | apply pw_below_drewN | apply below_drew1 | refine below_set ?_ GE168.out) | exact HB.out)) hb)
                    clear HO186
                    clear BK168
                    clear HB
                    have HO186 := n0_
                    have BK168 := n1_
                    have HB := n2_
                    clear n0_ n1_ n2_
                    (try clear hb)
                    (try clear hb2)
                    (try clear hk)
                    (try clear hi)
                    refine hK.out _ _ ⟨(blk_cell BK168.out 0).trans rfl, (blk_cell BK168.out 1).trans rfl, (blk_cell BK168.out 2).trans rfl, (blk_cell BK168.out 3).trans rfl, (blk_cell BK168.out 4).trans rfl, ((HB.out.cell (World.block_lt_of_cell? w _ hw187_0)).trans hw187_0), ((HB.out.cell (World.block_lt_of_cell? w _ hw188_0)).trans hw188_0), ((HB.out.cell (World.block_lt_of_cell? w _ hw190_0)).trans hw190_0)⟩ (fun hHeld => ?_)
                    clear hK K
                    refine norm_ (a' := ?_) ?_ ?_
                    rotate_left
                    ·show Act.put _ (some 134) _ = _
                     simp only [Act.put, List.setIfInBounds_toArray, List.set_cons_zero, List.set_cons_succ, i64_w, i32_w]
                     rfl
                    refine pure_ (i := 18) (N := some 116) (v := ?_) (a' := ?_) #[true, true, true, true, true, true, true, true, true, true, true, true, true, true, true, true, true, true, true, false, false, false, false] rfl rfl (any_of HT_.out (by kernel_rfl)) (fun _ _ _ h => h) (Or.inl ⟨by rfl, ?_⟩) ?_ ?_
                    rotate_left
                    ·intro w'
                     go_simp
                     with_reducible rfl
                    rotate_left
                    ·simp only [Act.put, List.setIfInBounds_toArray, List.set_cons_zero, List.set_cons_succ, i64_w, i32_w]
                     rfl
                    refine pure_ (i := 19) (N := some 135) (v := ?_) (a' := ?_) #[true, true, true, true, true, true, true, true, true, true, true, true, true, true, true, true, true, true, true, true, false, false, false] rfl rfl (any_of HT_.out (by kernel_rfl)) (fun _ _ _ h => h) (Or.inl ⟨by rfl, ?_⟩) ?_ ?_
                    rotate_left
                    ·intro w'
                     go_simp
                     with_reducible rfl
                    rotate_left
                    ·simp only [Act.put, List.setIfInBounds_toArray, List.set_cons_zero, List.set_cons_succ, i64_w, i32_w]
                     rfl
                    refine pure_ (i := 20) (N := some 136) (v := ?_) (a' := ?_) #[true, true, true, true, true, true, true, true, true, true, true, true, true, true, true, true, true, true, true, true, true, false, false] rfl rfl (any_of HT_.out (by kernel_rfl)) (fun _ _ _ h => h) (Or.inl ⟨by rfl, ?_⟩) ?_ ?_
                    rotate_left
                    ·intro w'
                     go_simp
                     with_reducible rfl
                    rotate_left
                    ·simp only [Act.put, List.setIfInBounds_toArray, List.set_cons_zero, List.set_cons_succ, i64_w, i32_w]
                     rfl
                    refine pure_ (i := 21) (N := some 15) (v := ?_) (a' := ?_) #[true, true, true, true, true, true, true, true, true, true, true, true, true, true, true, true, true, true, true, true, true, true, false] rfl rfl (any_of HT_.out (by kernel_rfl)) (fun _ _ _ h => h) (Or.inl ⟨by rfl, ?_⟩) ?_ ?_
                    rotate_left
                    ·intro w'
                     go_simp
                     with_reducible rfl
                    rotate_left
                    ·simp only [Act.put, List.setIfInBounds_toArray, List.set_cons_zero, List.set_cons_succ, i64_w, i32_w]
                     rfl
                    refine pure_ (i := 22) (N := some 16) (v := ?_) (a' := ?_) #[true, true, true, true, true, true, true, true, true, true, true, true, true, true, true, true, true, true, true, true, true, true, true] rfl rfl (any_of HT_.out (by kernel_rfl)) (fun _ _ _ h => h) (Or.inl ⟨by rfl, ?_⟩) ?_ ?_
                    rotate_left
                    ·intro w'
                     go_simp
                     with_reducible rfl
                    rotate_left
                    ·simp only [Act.put, List.setIfInBounds_toArray, List.set_cons_zero, List.set_cons_succ, i64_w, i32_w]
                     rfl
                    refine done_ (done_of HT_.out (by kernel_rfl)) ?_
                    try go_wp2
                    go_roundg kj21
                    case measure => have := HJ4.out; have := HJ14.out; have := HK3.out; have := HJ21.out; omega
                    case rel => exact ⟨(y184), (false), (wrap64 (x64_3 + 1)), (by first | rfl | (simp; done) | (simp [*]; done)), (by first | rfl | (simp; done) | (simp [*]; done)), H', ⟨by have := HJ4.out; have := HJ14.out; have := HK3.out; have := HJ21.out; omega⟩, ⟨by (with_reducible repeat (first | apply Kd.R_alloc | apply Kd.R_drewN | apply Kd.R_drew)); exact HO186.out⟩, ⟨by (with_reducible repeat (first | refine blk_drewN ?_ _ | refine blk_drew ?_ | refine blk_alloc ?_ _)); exact BK168.out⟩, ⟨by repeat (first | (with_reducible first | exact HB.out | apply below_alloc | apply pw_below_drewN | apply below_drew1 | refine below_set ?_ GE168.out) | exact HB.out)⟩⟩
                  ·rw [if_neg c41] at H
                   exact absurd H (by simp)
                 ·replace c40 := Bool.eq_false_iff.mpr c40
                  subst c40
                  have H1 : (some false) = some r := by rw [if_neg (show ¬ (false = true) by decide)] at H; exact H
                  clear H
                  have H := H1
                  clear H1
                  obtain rfl := Option.some.inj H
                  try go_wp2
                  have n0_ := Aside0.mk (Kd.R_drew HO_9.out)
                  have n1_ := Aside0.mk (blk_drew BK168.out)
                  have n2_ := Aside0.mk (below_drew1 HB.out)
                  clear HO_9
                  clear BK168
                  clear HB
                  have HO_9 := n0_
                  have BK168 := n1_
                  have HB := n2_
                  clear n0_ n1_ n2_
                  have p178 : 0 ≤ (x64_3 : Int) := of_decide_eq_true (by first | (with_reducible assumption) | assumption)
                  have q178 : x64_3 < (l0.length : Int) := of_decide_eq_true (by first | (with_reducible assumption) | assumption)
                  obtain ⟨ad178, e178, hx178_0⟩ := Kd.at_int HR0.out x64_3 p178 q178
                  have hw178_0 := hx178_0
                  cases e178
                  replace hx178_0 := (HB.out.cell (World.block_lt_of_cell? w _ hx178_0)).trans hx178_0
                  replace p178 := eq_true p178
                  replace q178 := eq_true q178
                  have p179 : 0 ≤ (x64_3 : Int) := of_decide_eq_true (by first | (with_reducible assumption) | assumption)
                  have q179 : x64_3 < (l1.length : Int) := of_decide_eq_true (by first | (with_reducible assumption) | assumption)
                  obtain ⟨ad179, e179, hx179_0⟩ := Kd.at_int HR1.out x64_3 p179 q179
                  have hw179_0 := hx179_0
                  cases e179
                  replace hx179_0 := (HB.out.cell (World.block_lt_of_cell? w _ hx179_0)).trans hx179_0
                  replace p179 := eq_true p179
                  replace q179 := eq_true q179
                  have p180 : 0 ≤ (x64_3 : Int) := of_decide_eq_true (by first | (with_reducible assumption) | assumption)
                  have q180 : x64_3 < (l2.length : Int) := of_decide_eq_true (by first | (with_reducible assumption) | assumption)
                  obtain ⟨ad180, e180, hx180_0⟩ := Kd.at_string HR2.out x64_3 p180 q180
                  have hw180_0 := hx180_0
                  cases e180
                  replace hx180_0 := (HB.out.cell (World.block_lt_of_cell? w _ hx180_0)).trans hx180_0
                  replace p180 := eq_true p180
                  replace q180 := eq_true q180
                  refine start_ (n := 22) (S := fun w' => w'.cell? (ad178.add (x64_3).toNat) = some (.int .u8 (rd l0 x64_3)) ∧ w'.cell? (ad179.add (x64_3).toNat) = some (.int .u8 (rd l1 x64_3)) ∧ w'.cell? (ad180.add (x64_3).toNat) = some (.string (rdOf ByteArray.empty l2 x64_3))) (ds := []) #[false, false, false, false, false, false, false, false, false, false, false, false, false, false, false, false, false, false, false, false, false, false] (by kernel_rfl) rfl rfl ⟨((HB.out.cell (World.block_lt_of_cell? w _ hw178_0)).trans hw178_0), ((HB.out.cell (World.block_lt_of_cell? w _ hw179_0)).trans hw179_0), ((HB.out.cell (World.block_lt_of_cell? w _ hw180_0)).trans hw180_0)⟩ (fun hHeld => ?_); refine with_tabW laws_FnMtWithRule.tab12 laws_FnMtWithRule.bits12 (fun HT_ HW_ => ?_)
                  generalize wc.drew = w57 at HO_9 BK168 HB hx178_0 hx179_0 hx180_0 hHeld ⊢
                  refine pure_ (i := 0) (N := some 90) (v := ?_) (a' := ?_) #[true, false, false, false, false, false, false, false, false, false, false, false, false, false, false, false, false, false, false, false, false, false] rfl rfl (any_of HT_.out (by kernel_rfl)) (fun _ _ _ h => h) (Or.inl ⟨by rfl, ?_⟩) ?_ ?_
                  rotate_left
                  ·intro w'
                   go_simp
                   with_reducible rfl
                  rotate_left
                  ·simp only [Act.put, List.setIfInBounds_toArray, List.set_cons_zero, List.set_cons_succ, i64_w, i32_w]
                   rfl
                  refine pure_ (i := 1) (N := some 91) (v := ?_) (a' := ?_) #[true, true, false, false, false, false, false, false, false, false, false, false, false, false, false, false, false, false, false, false, false, false] rfl rfl (any_of HT_.out (by kernel_rfl)) (fun _ _ _ h => h) (Or.inl ⟨by rfl, ?_⟩) ?_ ?_
                  rotate_left
                  ·intro w'
                   go_simp
                   with_reducible rfl
                  rotate_left
                  ·simp only [Act.put, List.setIfInBounds_toArray, List.set_cons_zero, List.set_cons_succ, i64_w, i32_w]
                   rfl
                  refine pure_ (i := 2) (N := some 92) (v := ?_) (a' := ?_) #[true, true, true, false, false, false, false, false, false, false, false, false, false, false, false, false, false, false, false, false, false, false] rfl rfl (any_of HT_.out (by kernel_rfl)) (fun _ _ _ h => h) (Or.inl ⟨by rfl, ?_⟩) ?_ ?_
                  rotate_left
                  ·intro w'
                   go_simp
                   with_reducible rfl
                  rotate_left
                  ·simp only [Act.put, List.setIfInBounds_toArray, List.set_cons_zero, List.set_cons_succ, i64_w, i32_w]
                   rfl
                  refine pure_ (i := 5) (N := some 95) (v := ?_) (a' := ?_) #[true, true, true, false, false, true, false, false, false, false, false, false, false, false, false, false, false, false, false, false, false, false] rfl rfl (any_of HT_.out (by kernel_rfl)) (fun _ _ _ h => h) (Or.inl ⟨by rfl, ?_⟩) ?_ ?_
                  rotate_left
                  ·intro w'
                   go_simp
                   with_reducible rfl
                  rotate_left
                  ·simp only [Act.put, List.setIfInBounds_toArray, List.set_cons_zero, List.set_cons_succ, i64_w, i32_w]
                   rfl
                  refine pure_ (i := 6) (N := some 96) (v := ?_) (a' := ?_) #[true, true, true, false, false, true, true, false, false, false, false, false, false, false, false, false, false, false, false, false, false, false] rfl rfl (any_of HT_.out (by kernel_rfl)) (fun _ _ _ h => h) (Or.inl ⟨by rfl, ?_⟩) ?_ ?_
                  rotate_left
                  ·intro w'
                   go_simp
                   with_reducible rfl
                  rotate_left
                  ·simp only [Act.put, List.setIfInBounds_toArray, List.set_cons_zero, List.set_cons_succ, i64_w, i32_w]
                   rfl
                  refine pure_ (i := 7) (N := some 97) (v := ?_) (a' := ?_) #[true, true, true, false, false, true, true, true, false, false, false, false, false, false, false, false, false, false, false, false, false, false] rfl rfl (any_of HT_.out (by kernel_rfl)) (fun _ _ _ h => h) (Or.inl ⟨by rfl, ?_⟩) ?_ ?_
                  rotate_left
                  ·intro w'
                   go_simp
                   with_reducible rfl
                  rotate_left
                  ·simp only [Act.put, List.setIfInBounds_toArray, List.set_cons_zero, List.set_cons_succ, i64_w, i32_w]
                   rfl
                  refine pure_ (i := 10) (N := some 100) (v := ?_) (a' := ?_) #[true, true, true, false, false, true, true, true, false, false, true, false, false, false, false, false, false, false, false, false, false, false] rfl rfl (any_of HT_.out (by kernel_rfl)) (fun _ _ _ h => h) (Or.inl ⟨by rfl, ?_⟩) ?_ ?_
                  rotate_left
                  ·intro w'
                   go_simp
                   with_reducible rfl
                  rotate_left
                  ·simp only [Act.put, List.setIfInBounds_toArray, List.set_cons_zero, List.set_cons_succ, i64_w, i32_w]
                   rfl
                  refine pure_ (i := 11) (N := some 101) (v := ?_) (a' := ?_) #[true, true, true, false, false, true, true, true, false, false, true, true, false, false, false, false, false, false, false, false, false, false] rfl rfl (any_of HT_.out (by kernel_rfl)) (fun _ _ _ h => h) (Or.inl ⟨by rfl, ?_⟩) ?_ ?_
                  rotate_left
                  ·intro w'
                   go_simp
                   with_reducible rfl
                  rotate_left
                  ·simp only [Act.put, List.setIfInBounds_toArray, List.set_cons_zero, List.set_cons_succ, i64_w, i32_w]
                   rfl
                  refine pure_ (i := 12) (N := some 102) (v := ?_) (a' := ?_) #[true, true, true, false, false, true, true, true, false, false, true, true, true, false, false, false, false, false, false, false, false, false] rfl rfl (any_of HT_.out (by kernel_rfl)) (fun _ _ _ h => h) (Or.inl ⟨by rfl, ?_⟩) ?_ ?_
                  rotate_left
                  ·intro w'
                   go_simp
                   with_reducible rfl
                  rotate_left
                  ·simp only [Act.put, List.setIfInBounds_toArray, List.set_cons_zero, List.set_cons_succ, i64_w, i32_w]
                   rfl
                  refine take_ (i := 3) (N := some 93) (v := ?_) (a' := ?_) #[true, true, true, true, false, true, true, true, false, false, true, true, true, false, false, false, false, false, false, false, false, false] rfl rfl (take_ofW HT_.out HW_.out (by kernel_rfl)) (fun _ _ _ h => h) (Or.inl ⟨by rfl, ?_⟩) hHeld ?_ ?_
                  rotate_left
                  ·rintro w' ⟨s0, s1, s2⟩
                   go_simp
                   with_reducible rfl
                  rotate_left
                  ·simp only [Act.put, List.setIfInBounds_toArray, List.set_cons_zero, List.set_cons_succ, i64_w, i32_w]
                   rfl
                  refine pure_ (i := 4) (N := some 94) (v := ?_) (a' := ?_) #[true, true, true, true, true, true, true, true, false, false, true, true, true, false, false, false, false, false, false, false, false, false] rfl rfl (any_of HT_.out (by kernel_rfl)) (fun _ _ _ h => h) (Or.inl ⟨by rfl, ?_⟩) ?_ ?_
                  rotate_left
                  ·intro w'
                   go_simp
                   with_reducible rfl
                  rotate_left
                  ·simp only [Act.put, List.setIfInBounds_toArray, List.set_cons_zero, List.set_cons_succ, i64_w, i32_w]
                   rfl
                  refine take_ (i := 8) (N := some 98) (v := ?_) (a' := ?_) #[true, true, true, true, true, true, true, true, true, false, true, true, true, false, false, false, false, false, false, false, false, false] rfl rfl (take_ofW HT_.out HW_.out (by kernel_rfl)) (fun _ _ _ h => h) (Or.inl ⟨by rfl, ?_⟩) hHeld ?_ ?_
                  rotate_left
                  ·rintro w' ⟨s0, s1, s2⟩
                   go_simp
                   with_reducible rfl
                  rotate_left
                  ·simp only [Act.put, List.setIfInBounds_toArray, List.set_cons_zero, List.set_cons_succ, i64_w, i32_w]
                   rfl
                  refine pure_ (i := 9) (N := some 99) (v := ?_) (a' := ?_) #[true, true, true, true, true, true, true, true, true, true, true, true, true, false, false, false, false, false, false, false, false, false] rfl rfl (any_of HT_.out (by kernel_rfl)) (fun _ _ _ h => h) (Or.inl ⟨by rfl, ?_⟩) ?_ ?_
                  rotate_left
                  ·intro w'
                   go_simp
                   with_reducible rfl
                  rotate_left
                  ·simp only [Act.put, List.setIfInBounds_toArray, List.set_cons_zero, List.set_cons_succ, i64_w, i32_w]
                   rfl
                  refine take_ (i := 13) (N := some 103) (v := ?_) (a' := ?_) #[true, true, true, true, true, true, true, true, true, true, true, true, true, true, false, false, false, false, false, false, false, false] rfl rfl (take_ofW HT_.out HW_.out (by kernel_rfl)) (fun _ _ _ h => h) (Or.inl ⟨by rfl, ?_⟩) hHeld ?_ ?_
                  rotate_left
                  ·rintro w' ⟨s0, s1, s2⟩
                   go_simp
                   with_reducible rfl
                  rotate_left
                  ·simp only [Act.put, List.setIfInBounds_toArray, List.set_cons_zero, List.set_cons_succ, i64_w, i32_w]
                   rfl
                  refine one_ (i := 14) (N := some 104) #[true, true, true, true, true, true, true, true, true, true, true, true, true, true, true, false, false, false, false, false, false, false] rfl rfl (one_of HT_.out (by kernel_rfl)) (by decide) (fun K hK => ?_)
                  refine goes_ Tryd.func8 (by kernel_rfl) rfl #[.int .i64 (wrap64 (rd l0 x64_3)), .int .i64 (wrap64 (rd l1 x64_3)), .string (rdOf ByteArray.empty l2 x64_3)] (by rfl) rfl rfl (by (try simp only [List.map_toArray, List.map_cons, List.map_nil]); first | done | rfl | (simp only [List.length_drop, List.length_take]; rfl)) ?_
                  with_reducible refine (impl_MtWith.calls (wrap64 (rd l0 x64_3)) (wrap64 (rd l1 x64_3)) (rdOf ByteArray.empty l2 x64_3) t181 t182 false _ A39.out).mono ?_
                  rintro e w58 ⟨rfl, hb⟩
                  refine ⟨_, rfl, ?_⟩
                  have n0_ := Aside0.mk (Kd.R_below (by (with_reducible repeat (first | apply Kd.R_alloc | apply Kd.R_drewN | apply Kd.R_drew)); exact HO_9.out) hb)
                  have n1_ := Aside0.mk (blk_below (g := gb168) (o := .cells #[.int .u8 a3_0, .int .u8 a3_1, .int .u32 a3_2, .slice A3_3 l3_3.length c3_3, .slice A3_4 l3_4.length c3_4] 28 (0, 0)) (by (with_reducible repeat (first | refine blk_drewN ?_ _ | refine blk_drew ?_ | refine blk_alloc ?_ _)); exact BK168.out) hb)
                  have n2_ := Aside0.mk (below_step (by repeat (first | (with_reducible first | exact HB.out | apply below_alloc | apply pw_below_drewN | apply below_drew1 | refine below_set ?_ GE168.out) | exact HB.out)) hb)
                  clear HO_9
                  clear BK168
                  clear HB
                  have HO_9 := n0_
                  have BK168 := n1_
                  have HB := n2_
                  clear n0_ n1_ n2_
                  (try clear hb)
                  (try clear hb2)
                  (try clear hk)
                  (try clear hi)
                  refine hK.out _ _ ⟨((HB.out.cell (World.block_lt_of_cell? w _ hw178_0)).trans hw178_0), ((HB.out.cell (World.block_lt_of_cell? w _ hw179_0)).trans hw179_0), ((HB.out.cell (World.block_lt_of_cell? w _ hw180_0)).trans hw180_0)⟩ (fun hHeld => ?_)
                  clear hK K
                  refine norm_ (a' := ?_) ?_ ?_
                  rotate_left
                  ·show Act.put _ (some 104) _ = _
                   simp only [Act.put, List.setIfInBounds_toArray, List.set_cons_zero, List.set_cons_succ, i64_w, i32_w]
                   rfl
                  refine pure_ (i := 15) (N := some 89) (v := ?_) (a' := ?_) #[true, true, true, true, true, true, true, true, true, true, true, true, true, true, true, true, false, false, false, false, false, false] rfl rfl (any_of HT_.out (by kernel_rfl)) (fun _ _ _ h => h) (Or.inl ⟨by rfl, ?_⟩) ?_ ?_
                  rotate_left
                  ·intro w'
                   go_simp
                   with_reducible rfl
                  rotate_left
                  ·simp only [Act.put, List.setIfInBounds_toArray, List.set_cons_zero, List.set_cons_succ, i64_w, i32_w]
                   rfl
                  refine pure_ (i := 16) (N := some 105) (v := ?_) (a' := ?_) #[true, true, true, true, true, true, true, true, true, true, true, true, true, true, true, true, true, false, false, false, false, false] rfl rfl (any_of HT_.out (by kernel_rfl)) (fun _ _ _ h => h) (Or.inl ⟨by rfl, ?_⟩) ?_ ?_
                  rotate_left
                  ·intro w'
                   go_simp
                   with_reducible rfl
                  rotate_left
                  ·simp only [Act.put, List.setIfInBounds_toArray, List.set_cons_zero, List.set_cons_succ, i64_w, i32_w]
                   rfl
                  refine pure_ (i := 17) (N := some 106) (v := ?_) (a' := ?_) #[true, true, true, true, true, true, true, true, true, true, true, true, true, true, true, true, true, true, false, false, false, false] rfl rfl (any_of HT_.out (by kernel_rfl)) (fun _ _ _ h => h) (Or.inl ⟨by rfl, ?_⟩) ?_ ?_
                  rotate_left
                  ·intro w'
                   go_simp
                   with_reducible rfl
                  rotate_left
                  ·simp only [Act.put, List.setIfInBounds_toArray, List.set_cons_zero, List.set_cons_succ, i64_w, i32_w]
                   rfl
                  refine pure_ (i := 18) (N := some 107) (v := ?_) (a' := ?_) #[true, true, true, true, true, true, true, true, true, true, true, true, true, true, true, true, true, true, true, false, false, false] rfl rfl (any_of HT_.out (by kernel_rfl)) (fun _ _ _ h => h) (Or.inl ⟨by rfl, ?_⟩) ?_ ?_
                  rotate_left
                  ·intro w'
                   go_simp
                   with_reducible rfl
                  rotate_left
                  ·simp only [Act.put, List.setIfInBounds_toArray, List.set_cons_zero, List.set_cons_succ, i64_w, i32_w]
                   rfl
                  refine pure_ (i := 19) (N := some 12) (v := ?_) (a' := ?_) #[true, true, true, true, true, true, true, true, true, true, true, true, true, true, true, true, true, true, true, true, false, false] rfl rfl (any_of HT_.out (by kernel_rfl)) (fun _ _ _ h => h) (Or.inl ⟨by rfl, ?_⟩) ?_ ?_
                  rotate_left
                  ·intro w'
                   go_simp
                   with_reducible rfl
                  rotate_left
                  ·simp only [Act.put, List.setIfInBounds_toArray, List.set_cons_zero, List.set_cons_succ, i64_w, i32_w]
                   rfl
                  refine pure_ (i := 20) (N := some 13) (v := ?_) (a' := ?_) #[true, true, true, true, true, true, true, true, true, true, true, true, true, true, true, true, true, true, true, true, true, false] rfl rfl (any_of HT_.out (by kernel_rfl)) (fun _ _ _ h => h) (Or.inl ⟨by rfl, ?_⟩) ?_ ?_
                  rotate_left
                  ·intro w'
                   go_simp
                   with_reducible rfl
                  rotate_left
                  ·simp only [Act.put, List.setIfInBounds_toArray, List.set_cons_zero, List.set_cons_succ, i64_w, i32_w]
                   rfl
                  refine pure_ (i := 21) (N := some 14) (v := ?_) (a' := ?_) #[true, true, true, true, true, true, true, true, true, true, true, true, true, true, true, true, true, true, true, true, true, true] rfl rfl (any_of HT_.out (by kernel_rfl)) (fun _ _ _ h => h) (Or.inl ⟨by rfl, ?_⟩) ?_ ?_
                  rotate_left
                  ·intro w'
                   go_simp
                   with_reducible rfl
                  rotate_left
                  ·simp only [Act.put, List.setIfInBounds_toArray, List.set_cons_zero, List.set_cons_succ, i64_w, i32_w]
                   rfl
                  refine done_ (done_of HT_.out (by kernel_rfl)) ?_
                  try go_wp2
                  go_ret
                  exact ⟨by first | rfl | (simp [errW_none, errW_some] <;> rfl) | (simp [*, errW_none, errW_some] <;> rfl), by repeat (first | (with_reducible first | exact HB.out | apply below_alloc | apply pw_below_drewN | apply below_drew1 | refine below_set ?_ GE168.out) | exact HB.out)⟩
                ·rw [if_neg c38] at H
                 exact absurd H (by simp)
               ·rw [if_neg c37] at H
                exact absurd H (by simp)
              ·rw [if_neg c36] at H
               exact absurd H (by simp)
             ·rw [if_neg c35] at H
              exact absurd H (by simp)
         ·rw [if_neg c21] at H
          have c21b0 : decide (x64_3 < (l0.length : Int)) = false := decide_eq_false c21
          clear c21
          replace H := Option.bind_eq_some_iff.mp H
          obtain ⟨t193, A590, H⟩ := H
          replace H : ((spec_ReadRule.f k3 t193).bind fun bt194 => ((spec_FitsAll.f k3 a3_0 a3_1 a3_2 l3_3 l3_4 bt194.1).bind fun bt198 => (if bt194.2 = true then (if bt198.2 = true then (if (bt194.1.length : Int) = (l0.length : Int) then (if (bt198.1 == x10_3) = true then ((impl_MtRule.f k3 (([(⟨(⟨#[97]⟩ : ByteArray), (⟨#[98]⟩ : ByteArray)⟩ : S32)] : List (S32)))).bind fun t203 => (some (t203.toList == ([97, 61, 39, 98, 39] : List UInt8)))) else (some false)) else (some false)) else (some false)) else (some false)))) = some r := H
          have A59 := Aside0.mk A590
          clear A590
          replace H := Option.bind_eq_some_iff.mp H
          obtain ⟨⟨t194, t195⟩, A600, H⟩ := H
          replace H : ((spec_FitsAll.f k3 a3_0 a3_1 a3_2 l3_3 l3_4 t194).bind fun bt198 => (if t195 = true then (if bt198.2 = true then (if (t194.length : Int) = (l0.length : Int) then (if (bt198.1 == x10_3) = true then ((impl_MtRule.f k3 (([(⟨(⟨#[97]⟩ : ByteArray), (⟨#[98]⟩ : ByteArray)⟩ : S32)] : List (S32)))).bind fun t203 => (some (t203.toList == ([97, 61, 39, 98, 39] : List UInt8)))) else (some false)) else (some false)) else (some false)) else (some false))) = some r := H
          have A60 := Aside0.mk A600
          clear A600
          replace H := Option.bind_eq_some_iff.mp H
          obtain ⟨⟨t198, t199⟩, A610, H⟩ := H
          replace H : (if t195 = true then (if t199 = true then (if (t194.length : Int) = (l0.length : Int) then (if (t198 == x10_3) = true then ((impl_MtRule.f k3 (([(⟨(⟨#[97]⟩ : ByteArray), (⟨#[98]⟩ : ByteArray)⟩ : S32)] : List (S32)))).bind fun t203 => (some (t203.toList == ([97, 61, 39, 98, 39] : List UInt8)))) else (some false)) else (some false)) else (some false)) else (some false)) = some r := H
          have A61 := Aside0.mk A610
          clear A610
          by_cases c62 : t195 = true
          ·subst c62
           have H1 : (if t199 = true then (if (t194.length : Int) = (l0.length : Int) then (if (t198 == x10_3) = true then ((impl_MtRule.f k3 (([(⟨(⟨#[97]⟩ : ByteArray), (⟨#[98]⟩ : ByteArray)⟩ : S32)] : List (S32)))).bind fun t203 => (some (t203.toList == ([97, 61, 39, 98, 39] : List UInt8)))) else (some false)) else (some false)) else (some false)) = some r := by rw [if_pos rfl] at H; exact H
           clear H
           have H := H1
           clear H1
           by_cases c63 : t199 = true
           ·subst c63
            have H1 : (if (t194.length : Int) = (l0.length : Int) then (if (t198 == x10_3) = true then ((impl_MtRule.f k3 (([(⟨(⟨#[97]⟩ : ByteArray), (⟨#[98]⟩ : ByteArray)⟩ : S32)] : List (S32)))).bind fun t203 => (some (t203.toList == ([97, 61, 39, 98, 39] : List UInt8)))) else (some false)) else (some false)) = some r := by rw [if_pos rfl] at H; exact H
            clear H
            have H := H1
            clear H1
            by_cases c64 : (t194.length : Int) = (l0.length : Int)
            ·rw [if_pos c64] at H
             have c64b0 : ((t194.length : Int) == (l0.length : Int)) = true := beq_iff_eq.mpr c64
             have c64b1 : ((t194.length : Int) != (l0.length : Int)) = false := bne_eq_false_iff_eq.mpr c64
             have c64b2 : (t194.length == l0.length) = true := by first | simpa using c64 | (simp at c64 ⊢; omega)
             clear c64
             by_cases c65 : (t198 == x10_3) = true
             ·rw [if_pos c65] at H
              have c65b0 : (t198 == x10_3) = true := c65
              (try (have c65b1 : decide (t198 = x10_3) = true := by simpa using c65))
              (try (have c65b2 : (t198 == x10_3) = true := by simpa using c65))
              clear c65
              obtain ⟨y200, hy200⟩ : ∃ y_ : List (S32), y_ = (([(⟨(⟨#[97]⟩ : ByteArray), (⟨#[98]⟩ : ByteArray)⟩ : S32)] : List (S32))) := ⟨_, rfl⟩
              replace H : ((impl_MtRule.f k3 y200).bind fun t203 => (some (t203.toList == ([97, 61, 39, 98, 39] : List UInt8)))) = some r := by first | (rw [hy200]; with_reducible exact H) | (have H2_ := (Option.bind_some _ _).symm.trans H; rw [hy200]; with_reducible exact H2_) | (have H2_ := (Option.bind_some _ _).symm.trans H; with_reducible exact H2_) | with_reducible exact H | (rw [hy200]; exact H) | exact H
              have Ny200 := Aside0.mk hy200
              clear hy200
              replace H := Option.bind_eq_some_iff.mp H
              obtain ⟨t203, A660, H⟩ := H
              replace H : (some (t203.toList == ([97, 61, 39, 98, 39] : List UInt8))) = some r := H
              have A66 := Aside0.mk A660
              clear A660
              obtain rfl := Option.some.inj H
              obtain ⟨Ao67, co67, eo67⟩ := Kd.R_slice HO_9.out
              subst eo67
              go_wp2_with (first | ((with_reducible refine gate_callee (f := 10) rfl ?_); refine goesL_ (some 144) rfl rfl Tryd.func10 (by kernel_rfl) rfl #[.slice Ao67 x9_3.length co67] rfl (by (try simp only [List.map_toArray, List.map_cons, List.map_nil]); first | done | rfl | (simp only [List.length_drop, List.length_take]; rfl)) ?_; (with_reducible refine (impl_MtRule.calls k3 _ _ x9_3 t193 _ ?side1 ?side2 A59.out).mono ?_); (case side1 => repeat (first | exact (Kd.R_reads' HO_9.out).2.2 | (with_reducible refine Kd.C_alloc ?_ _) | (with_reducible refine Kd.C_drewN ?_ _) | (with_reducible refine Kd.C_drew ?_))); (case side2 => exact (Kd.R_reads' HO_9.out).2.1); rintro e w68 ⟨rfl, hb⟩; refine ⟨_, rfl, ?_⟩; have n0_ := Aside0.mk (Kd.R_below (by (with_reducible repeat (first | apply Kd.R_alloc | apply Kd.R_drewN | apply Kd.R_drew)); exact HO_9.out) hb); have n1_ := Aside0.mk (blk_below (g := gb168) (o := .cells #[.int .u8 a3_0, .int .u8 a3_1, .int .u32 a3_2, .slice A3_3 l3_3.length c3_3, .slice A3_4 l3_4.length c3_4] 28 (0, 0)) (by (with_reducible repeat (first | refine blk_drewN ?_ _ | refine blk_drew ?_ | refine blk_alloc ?_ _)); exact BK168.out) hb); have n2_ := Aside0.mk (below_step (by repeat (first | (with_reducible first | exact HB.out | apply below_alloc | apply pw_below_drewN | apply below_drew1 | refine below_set ?_ GE168.out) | exact HB.out)) hb); clear HO_9; clear BK168; clear HB; have HO_9 := n0_; have BK168 := n1_; have HB := n2_; clear n0_ n1_ n2_; (try clear hb); (try clear hb2); (try clear hk); (try clear hi)) | ((with_reducible refine gate_callee (f := 9) rfl ?_); refine goesL_ (some 145) rfl rfl Tryd.func9 (by kernel_rfl) rfl #[.string t193] rfl (by (try simp only [List.map_toArray, List.map_cons, List.map_nil]); first | done | rfl | (simp only [List.length_drop, List.length_take]; rfl)) ?_; (with_reducible refine (spec_ReadRule.calls k3 t193 t194 true _ A60.out).mono ?_); rintro e w69 ⟨v196, rfl, ho0, hb⟩; refine ⟨_, rfl, ?_⟩; have n0_ := Aside0.mk (Kd.R_below (by (with_reducible repeat (first | apply Kd.R_alloc | apply Kd.R_drewN | apply Kd.R_drew)); exact HO_9.out) hb); have n1_ := Aside0.mk (Kd.R_lower ho0 (below_size (by repeat (first | (with_reducible first | exact HB.out | apply below_alloc | apply pw_below_drewN | apply below_drew1 | refine below_set ?_ GE168.out) | exact HB.out)))); have n2_ := Aside0.mk (blk_below (g := gb168) (o := .cells #[.int .u8 a3_0, .int .u8 a3_1, .int .u32 a3_2, .slice A3_3 l3_3.length c3_3, .slice A3_4 l3_4.length c3_4] 28 (0, 0)) (by (with_reducible repeat (first | refine blk_drewN ?_ _ | refine blk_drew ?_ | refine blk_alloc ?_ _)); exact BK168.out) hb); have n3_ := Aside0.mk (below_step (by repeat (first | (with_reducible first | exact HB.out | apply below_alloc | apply pw_below_drewN | apply below_drew1 | refine below_set ?_ GE168.out) | exact HB.out)) hb); clear HO_9; clear BK168; clear HB; have HO_9 := n0_; have HO197 := n1_; have BK168 := n2_; have HB := n3_; clear n0_ n1_ n2_ n3_; (try clear hb); (try clear hb2); (try clear hk); (try clear hi); (try clear ho0); have hcz70_0 : w69.cell? ⟨gb168, 0, none⟩ = some (.int .u8 a3_0) := (blk_cell BK168.out 0).trans rfl; have hcz70_1 : w69.cell? ⟨gb168, 1, none⟩ = some (.int .u8 a3_1) := (blk_cell BK168.out 1).trans rfl; have hcz70_2 : w69.cell? ⟨gb168, 2, none⟩ = some (.int .u32 a3_2) := (blk_cell BK168.out 2).trans rfl; have hcz70_3 : w69.cell? ⟨gb168, 3, none⟩ = some (.slice A3_3 l3_3.length c3_3) := (blk_cell BK168.out 3).trans rfl; have hcz70_4 : w69.cell? ⟨gb168, 4, none⟩ = some (.slice A3_4 l3_4.length c3_4) := (blk_cell BK168.out 4).trans rfl; have hfz70_0 := blk_frozen BK168.out 0; have hfz70_1 := blk_frozen BK168.out 1; have hfz70_2 := blk_frozen BK168.out 2; have hfz70_3 := blk_frozen BK168.out 3; have hfz70_4 := blk_frozen BK168.out 4; obtain ⟨Ao71, co71, eo71⟩ := Kd.R_slice HO197.out; subst eo71) | ((with_reducible refine gate_callee (f := 11) rfl ?_); refine goesL_ (some 151) rfl rfl Tryd.func11 (by kernel_rfl) rfl #[.agg #[.int .u8 a3_0, .int .u8 a3_1, .int .u32 a3_2, .slice A3_3 l3_3.length c3_3, .slice A3_4 l3_4.length c3_4], .slice Ao71 t194.length co71] rfl (by (try simp only [List.map_toArray, List.map_cons, List.map_nil]); first | done | rfl | (simp only [List.length_drop, List.length_take]; rfl)) ?_; (with_reducible refine (spec_FitsAll.calls k3 a3_0 a3_1 a3_2 _ _ l3_3 _ _ l3_4 _ _ t194 t198 true _ ?side1 ?side2 ?side3 ?side4 ?side5 ?side6 A61.out).mono ?_); (case side1 => repeat (first | exact (Kd.C_below HR3_3.out HB.out) | (with_reducible refine Kd.C_alloc ?_ _) | (with_reducible refine Kd.C_drewN ?_ _) | (with_reducible refine Kd.C_drew ?_))); (case side2 => exact HC3_3.out); (case side3 => repeat (first | exact (Kd.C_below HR3_4.out HB.out) | (with_reducible refine Kd.C_alloc ?_ _) | (with_reducible refine Kd.C_drewN ?_ _) | (with_reducible refine Kd.C_drew ?_))); (case side4 => exact HC3_4.out); (case side5 => repeat (first | exact (Kd.R_reads' HO197.out).2.2 | (with_reducible refine Kd.C_alloc ?_ _) | (with_reducible refine Kd.C_drewN ?_ _) | (with_reducible refine Kd.C_drew ?_))); (case side6 => exact (Kd.R_reads' HO197.out).2.1); rintro e w72 ⟨rfl, hb⟩; refine ⟨_, rfl, ?_⟩; have n0_ := Aside0.mk (Kd.R_below (by (with_reducible repeat (first | apply Kd.R_alloc | apply Kd.R_drewN | apply Kd.R_drew)); exact HO_9.out) hb); have n1_ := Aside0.mk (Kd.R_below (by (with_reducible repeat (first | apply Kd.R_alloc | apply Kd.R_drewN | apply Kd.R_drew)); exact HO197.out) hb); have n2_ := Aside0.mk (blk_below (g := gb168) (o := .cells #[.int .u8 a3_0, .int .u8 a3_1, .int .u32 a3_2, .slice A3_3 l3_3.length c3_3, .slice A3_4 l3_4.length c3_4] 28 (0, 0)) (by (with_reducible repeat (first | refine blk_drewN ?_ _ | refine blk_drew ?_ | refine blk_alloc ?_ _)); exact BK168.out) hb); have n3_ := Aside0.mk (below_step (by repeat (first | (with_reducible first | exact HB.out | apply below_alloc | apply pw_below_drewN | apply below_drew1 | refine below_set ?_ GE168.out) | exact HB.out)) hb); clear HO_9; clear HO197; clear BK168; clear HB; have HO_9 := n0_; have HO197 := n1_; have BK168 := n2_; have HB := n3_; clear n0_ n1_ n2_ n3_; (try clear hb); (try clear hb2); (try clear hk); (try clear hi)) | ((with_reducible refine gate_dst (N := 172) rfl ?_); (try (refine gate_guard (by rfl) ?_; dsimp only)); refine Kd.R_lit k32 _ 32 ?hg (N := 172) ?hd (xs := ([(⟨(⟨#[97]⟩ : ByteArray), (⟨#[98]⟩ : ByteArray)⟩ : S32)] : List (S32))) (inner := [.string (⟨#[97]⟩ : ByteArray), .string (⟨#[98]⟩ : ByteArray)]) (ok := fun _ => True) (okp := fun _ => True) ?hr ?hp (fun _ hk => hk) trivial (Below.refl _ _) (Nat.le_refl _) (by simp) ?_; (case hd => rfl); (case hg => rfl); (case hr => first | (go_simp; done) | (go_simp; rfl)); (case hp => exact (Reps.c2 (show Kd.M k32 _ _ _ (⟨(⟨#[97]⟩ : ByteArray), (⟨#[98]⟩ : ByteArray)⟩ : S32) [.string (⟨#[97]⟩ : ByteArray), .string (⟨#[98]⟩ : ByteArray)] from (k32_mkM _ _ _ (⟨(⟨#[97]⟩ : ByteArray), (⟨#[98]⟩ : ByteArray)⟩ : S32) )) (Reps.none _ _))); intro v201 w73 ho74 hb hg_ hnew_; clear hg_ hnew_; (first | rw [← Ny200.out] at ho74 | (simp only [Int.reduceToNat] at ho74; rw [← Ny200.out] at ho74)); have n0_ := Aside0.mk (Kd.R_elder' (by (with_reducible repeat (first | apply Kd.R_alloc | apply Kd.R_drewN | apply Kd.R_drew)); exact HO_9.out) (Kd.R_base ho74) hb); have n1_ := Aside0.mk (Kd.R_below (by (with_reducible repeat (first | apply Kd.R_alloc | apply Kd.R_drewN | apply Kd.R_drew)); exact HO197.out) hb); have n2_ := Aside0.mk (Kd.R_lower (Kd.R_new' ho74 (Kd.R_lt (by (with_reducible repeat (first | apply Kd.R_alloc | apply Kd.R_drewN | apply Kd.R_drew)); exact HO_9.out))) (below_size (by repeat (first | (with_reducible first | exact HB.out | apply below_alloc | apply pw_below_drewN | apply below_drew1 | refine below_set ?_ GE168.out) | exact HB.out)))); have n3_ := Aside0.mk (blk_below (g := gb168) (o := .cells #[.int .u8 a3_0, .int .u8 a3_1, .int .u32 a3_2, .slice A3_3 l3_3.length c3_3, .slice A3_4 l3_4.length c3_4] 28 (0, 0)) (by (with_reducible repeat (first | refine blk_drewN ?_ _ | refine blk_drew ?_ | refine blk_alloc ?_ _)); exact BK168.out) hb); have n4_ := Aside0.mk (below_step (by repeat (first | (with_reducible first | exact HB.out | apply below_alloc | apply pw_below_drewN | apply below_drew1 | refine below_set ?_ GE168.out) | exact HB.out)) hb); clear HO_9; clear HO197; clear BK168; clear HB; have HO_9 := n0_; have HO197 := n1_; have HO202 := n2_; have BK168 := n3_; have HB := n4_; clear n0_ n1_ n2_ n3_ n4_; clear hb ho74; obtain ⟨Ao75, co75, eo75⟩ := Kd.R_slice HO202.out; subst eo75) | (go_at_call 10; (with_reducible refine (impl_MtRule.calls k3 _ _ y200 t203 _ ?side1 ?side2 A66.out).mono ?_); (case side1 => repeat (first | exact (Kd.R_reads' HO202.out).2.2 | (with_reducible refine Kd.C_alloc ?_ _) | (with_reducible refine Kd.C_drewN ?_ _) | (with_reducible refine Kd.C_drew ?_))); (case side2 => exact (Kd.R_reads' HO202.out).2.1); rintro e w76 ⟨rfl, hb⟩; have n0_ := Aside0.mk (Kd.R_below (by (with_reducible repeat (first | apply Kd.R_alloc | apply Kd.R_drewN | apply Kd.R_drew)); exact HO_9.out) hb); have n1_ := Aside0.mk (Kd.R_below (by (with_reducible repeat (first | apply Kd.R_alloc | apply Kd.R_drewN | apply Kd.R_drew)); exact HO197.out) hb); have n2_ := Aside0.mk (Kd.R_below (by (with_reducible repeat (first | apply Kd.R_alloc | apply Kd.R_drewN | apply Kd.R_drew)); exact HO202.out) hb); have n3_ := Aside0.mk (blk_below (g := gb168) (o := .cells #[.int .u8 a3_0, .int .u8 a3_1, .int .u32 a3_2, .slice A3_3 l3_3.length c3_3, .slice A3_4 l3_4.length c3_4] 28 (0, 0)) (by (with_reducible repeat (first | refine blk_drewN ?_ _ | refine blk_drew ?_ | refine blk_alloc ?_ _)); exact BK168.out) hb); have n4_ := Aside0.mk (below_step (by repeat (first | (with_reducible first | exact HB.out | apply below_alloc | apply pw_below_drewN | apply below_drew1 | refine below_set ?_ GE168.out) | exact HB.out)) hb); clear HO_9; clear HO197; clear HO202; clear BK168; clear HB; have HO_9 := n0_; have HO197 := n1_; have HO202 := n2_; have BK168 := n3_; have HB := n4_; clear n0_ n1_ n2_ n3_ n4_; (try clear hb); (try clear hb2); (try clear hk); (try clear hi)))
              go_ret
              exact ⟨by first | rfl | (simp [errW_none, errW_some] <;> rfl) | (simp [*, errW_none, errW_some] <;> rfl), by repeat (first | (with_reducible first | exact HB.out | apply below_alloc | apply pw_below_drewN | apply below_drew1 | refine below_set ?_ GE168.out) | exact HB.out)⟩
             ·rw [if_neg c65] at H
              have c65b0 : (t198 == x10_3) = false := by simpa using c65
              (try (have c65b1 : decide (t198 = x10_3) = false := by simpa using c65))
              (try (have c65b2 : (t198 == x10_3) = false := by simpa using c65))
              (try (have c65b3 : ¬ (t198 = x10_3) := by simpa using c65))
              clear c65
              obtain rfl := Option.some.inj H
              obtain ⟨Ao77, co77, eo77⟩ := Kd.R_slice HO_9.out
              subst eo77
              go_wp2_with (first | ((with_reducible refine gate_callee (f := 10) rfl ?_); refine goesL_ (some 144) rfl rfl Tryd.func10 (by kernel_rfl) rfl #[.slice Ao77 x9_3.length co77] rfl (by (try simp only [List.map_toArray, List.map_cons, List.map_nil]); first | done | rfl | (simp only [List.length_drop, List.length_take]; rfl)) ?_; (with_reducible refine (impl_MtRule.calls k3 _ _ x9_3 t193 _ ?side1 ?side2 A59.out).mono ?_); (case side1 => repeat (first | exact (Kd.R_reads' HO_9.out).2.2 | (with_reducible refine Kd.C_alloc ?_ _) | (with_reducible refine Kd.C_drewN ?_ _) | (with_reducible refine Kd.C_drew ?_))); (case side2 => exact (Kd.R_reads' HO_9.out).2.1); rintro e w78 ⟨rfl, hb⟩; refine ⟨_, rfl, ?_⟩; have n0_ := Aside0.mk (Kd.R_below (by (with_reducible repeat (first | apply Kd.R_alloc | apply Kd.R_drewN | apply Kd.R_drew)); exact HO_9.out) hb); have n1_ := Aside0.mk (blk_below (g := gb168) (o := .cells #[.int .u8 a3_0, .int .u8 a3_1, .int .u32 a3_2, .slice A3_3 l3_3.length c3_3, .slice A3_4 l3_4.length c3_4] 28 (0, 0)) (by (with_reducible repeat (first | refine blk_drewN ?_ _ | refine blk_drew ?_ | refine blk_alloc ?_ _)); exact BK168.out) hb); have n2_ := Aside0.mk (below_step (by repeat (first | (with_reducible first | exact HB.out | apply below_alloc | apply pw_below_drewN | apply below_drew1 | refine below_set ?_ GE168.out) | exact HB.out)) hb); clear HO_9; clear BK168; clear HB; have HO_9 := n0_; have BK168 := n1_; have HB := n2_; clear n0_ n1_ n2_; (try clear hb); (try clear hb2); (try clear hk); (try clear hi)) | ((with_reducible refine gate_callee (f := 9) rfl ?_); refine goesL_ (some 145) rfl rfl Tryd.func9 (by kernel_rfl) rfl #[.string t193] rfl (by (try simp only [List.map_toArray, List.map_cons, List.map_nil]); first | done | rfl | (simp only [List.length_drop, List.length_take]; rfl)) ?_; (with_reducible refine (spec_ReadRule.calls k3 t193 t194 true _ A60.out).mono ?_); rintro e w79 ⟨v196, rfl, ho0, hb⟩; refine ⟨_, rfl, ?_⟩; have n0_ := Aside0.mk (Kd.R_below (by (with_reducible repeat (first | apply Kd.R_alloc | apply Kd.R_drewN | apply Kd.R_drew)); exact HO_9.out) hb); have n1_ := Aside0.mk (Kd.R_lower ho0 (below_size (by repeat (first | (with_reducible first | exact HB.out | apply below_alloc | apply pw_below_drewN | apply below_drew1 | refine below_set ?_ GE168.out) | exact HB.out)))); have n2_ := Aside0.mk (blk_below (g := gb168) (o := .cells #[.int .u8 a3_0, .int .u8 a3_1, .int .u32 a3_2, .slice A3_3 l3_3.length c3_3, .slice A3_4 l3_4.length c3_4] 28 (0, 0)) (by (with_reducible repeat (first | refine blk_drewN ?_ _ | refine blk_drew ?_ | refine blk_alloc ?_ _)); exact BK168.out) hb); have n3_ := Aside0.mk (below_step (by repeat (first | (with_reducible first | exact HB.out | apply below_alloc | apply pw_below_drewN | apply below_drew1 | refine below_set ?_ GE168.out) | exact HB.out)) hb); clear HO_9; clear BK168; clear HB; have HO_9 := n0_; have HO197 := n1_; have BK168 := n2_; have HB := n3_; clear n0_ n1_ n2_ n3_; (try clear hb); (try clear hb2); (try clear hk); (try clear hi); (try clear ho0); have hcz80_0 : w79.cell? ⟨gb168, 0, none⟩ = some (.int .u8 a3_0) := (blk_cell BK168.out 0).trans rfl; have hcz80_1 : w79.cell? ⟨gb168, 1, none⟩ = some (.int .u8 a3_1) := (blk_cell BK168.out 1).trans rfl; have hcz80_2 : w79.cell? ⟨gb168, 2, none⟩ = some (.int .u32 a3_2) := (blk_cell BK168.out 2).trans rfl; have hcz80_3 : w79.cell? ⟨gb168, 3, none⟩ = some (.slice A3_3 l3_3.length c3_3) := (blk_cell BK168.out 3).trans rfl; have hcz80_4 : w79.cell? ⟨gb168, 4, none⟩ = some (.slice A3_4 l3_4.length c3_4) := (blk_cell BK168.out 4).trans rfl; have hfz80_0 := blk_frozen BK168.out 0; have hfz80_1 := blk_frozen BK168.out 1; have hfz80_2 := blk_frozen BK168.out 2; have hfz80_3 := blk_frozen BK168.out 3; have hfz80_4 := blk_frozen BK168.out 4; obtain ⟨Ao81, co81, eo81⟩ := Kd.R_slice HO197.out; subst eo81) | ((with_reducible refine gate_callee (f := 11) rfl ?_); refine goesL_ (some 151) rfl rfl Tryd.func11 (by kernel_rfl) rfl #[.agg #[.int .u8 a3_0, .int .u8 a3_1, .int .u32 a3_2, .slice A3_3 l3_3.length c3_3, .slice A3_4 l3_4.length c3_4], .slice Ao81 t194.length co81] rfl (by (try simp only [List.map_toArray, List.map_cons, List.map_nil]); first | done | rfl | (simp only [List.length_drop, List.length_take]; rfl)) ?_; (with_reducible refine (spec_FitsAll.calls k3 a3_0 a3_1 a3_2 _ _ l3_3 _ _ l3_4 _ _ t194 t198 true _ ?side1 ?side2 ?side3 ?side4 ?side5 ?side6 A61.out).mono ?_); (case side1 => repeat (first | exact (Kd.C_below HR3_3.out HB.out) | (with_reducible refine Kd.C_alloc ?_ _) | (with_reducible refine Kd.C_drewN ?_ _) | (with_reducible refine Kd.C_drew ?_))); (case side2 => exact HC3_3.out); (case side3 => repeat (first | exact (Kd.C_below HR3_4.out HB.out) | (with_reducible refine Kd.C_alloc ?_ _) | (with_reducible refine Kd.C_drewN ?_ _) | (with_reducible refine Kd.C_drew ?_))); (case side4 => exact HC3_4.out); (case side5 => repeat (first | exact (Kd.R_reads' HO197.out).2.2 | (with_reducible refine Kd.C_alloc ?_ _) | (with_reducible refine Kd.C_drewN ?_ _) | (with_reducible refine Kd.C_drew ?_))); (case side6 => exact (Kd.R_reads' HO197.out).2.1); rintro e w82 ⟨rfl, hb⟩; refine ⟨_, rfl, ?_⟩; have n0_ := Aside0.mk (Kd.R_below (by (with_reducible repeat (first | apply Kd.R_alloc | apply Kd.R_drewN | apply Kd.R_drew)); exact HO_9.out) hb); have n1_ := Aside0.mk (Kd.R_below (by (with_reducible repeat (first | apply Kd.R_alloc | apply Kd.R_drewN | apply Kd.R_drew)); exact HO197.out) hb); have n2_ := Aside0.mk (blk_below (g := gb168) (o := .cells #[.int .u8 a3_0, .int .u8 a3_1, .int .u32 a3_2, .slice A3_3 l3_3.length c3_3, .slice A3_4 l3_4.length c3_4] 28 (0, 0)) (by (with_reducible repeat (first | refine blk_drewN ?_ _ | refine blk_drew ?_ | refine blk_alloc ?_ _)); exact BK168.out) hb); have n3_ := Aside0.mk (below_step (by repeat (first | (with_reducible first | exact HB.out | apply below_alloc | apply pw_below_drewN | apply below_drew1 | refine below_set ?_ GE168.out) | exact HB.out)) hb); clear HO_9; clear HO197; clear BK168; clear HB; have HO_9 := n0_; have HO197 := n1_; have BK168 := n2_; have HB := n3_; clear n0_ n1_ n2_ n3_; (try clear hb); (try clear hb2); (try clear hk); (try clear hi)))
              go_ret
              exact ⟨by first | rfl | (simp [errW_none, errW_some] <;> rfl) | (simp [*, errW_none, errW_some] <;> rfl), by repeat (first | (with_reducible first | exact HB.out | apply below_alloc | apply pw_below_drewN | apply below_drew1 | refine below_set ?_ GE168.out) | exact HB.out)⟩
            ·rw [if_neg c64] at H
             have c64b0 : ((t194.length : Int) == (l0.length : Int)) = false := beq_eq_false_iff_ne.mpr c64
             have c64b1 : ((t194.length : Int) != (l0.length : Int)) = true := bne_iff_ne.mpr c64
             have c64b2 : (t194.length == l0.length) = false := by first | simpa using c64 | (simp at c64 ⊢; omega)
             obtain rfl := Option.some.inj H
             obtain ⟨Ao83, co83, eo83⟩ := Kd.R_slice HO_9.out
             subst eo83
             go_wp2_with (first | ((with_reducible refine gate_callee (f := 10) rfl ?_); refine goesL_ (some 144) rfl rfl Tryd.func10 (by kernel_rfl) rfl #[.slice Ao83 x9_3.length co83] rfl (by (try simp only [List.map_toArray, List.map_cons, List.map_nil]); first | done | rfl | (simp only [List.length_drop, List.length_take]; rfl)) ?_; (with_reducible refine (impl_MtRule.calls k3 _ _ x9_3 t193 _ ?side1 ?side2 A59.out).mono ?_); (case side1 => repeat (first | exact (Kd.R_reads' HO_9.out).2.2 | (with_reducible refine Kd.C_alloc ?_ _) | (with_reducible refine Kd.C_drewN ?_ _) | (with_reducible refine Kd.C_drew ?_))); (case side2 => exact (Kd.R_reads' HO_9.out).2.1); rintro e w84 ⟨rfl, hb⟩; refine ⟨_, rfl, ?_⟩; have n0_ := Aside0.mk (Kd.R_below (by (with_reducible repeat (first | apply Kd.R_alloc | apply Kd.R_drewN | apply Kd.R_drew)); exact HO_9.out) hb); have n1_ := Aside0.mk (blk_below (g := gb168) (o := .cells #[.int .u8 a3_0, .int .u8 a3_1, .int .u32 a3_2, .slice A3_3 l3_3.length c3_3, .slice A3_4 l3_4.length c3_4] 28 (0, 0)) (by (with_reducible repeat (first | refine blk_drewN ?_ _ | refine blk_drew ?_ | refine blk_alloc ?_ _)); exact BK168.out) hb); have n2_ := Aside0.mk (below_step (by repeat (first | (with_reducible first | exact HB.out | apply below_alloc | apply pw_below_drewN | apply below_drew1 | refine below_set ?_ GE168.out) | exact HB.out)) hb); clear HO_9; clear BK168; clear HB; have HO_9 := n0_; have BK168 := n1_; have HB := n2_; clear n0_ n1_ n2_; (try clear hb); (try clear hb2); (try clear hk); (try clear hi)) | ((with_reducible refine gate_callee (f := 9) rfl ?_); refine goesL_ (some 145) rfl rfl Tryd.func9 (by kernel_rfl) rfl #[.string t193] rfl (by (try simp only [List.map_toArray, List.map_cons, List.map_nil]); first | done | rfl | (simp only [List.length_drop, List.length_take]; rfl)) ?_; (with_reducible refine (spec_ReadRule.calls k3 t193 t194 true _ A60.out).mono ?_); rintro e w85 ⟨v196, rfl, ho0, hb⟩; refine ⟨_, rfl, ?_⟩; have n0_ := Aside0.mk (Kd.R_below (by (with_reducible repeat (first | apply Kd.R_alloc | apply Kd.R_drewN | apply Kd.R_drew)); exact HO_9.out) hb); have n1_ := Aside0.mk (Kd.R_lower ho0 (below_size (by repeat (first | (with_reducible first | exact HB.out | apply below_alloc | apply pw_below_drewN | apply below_drew1 | refine below_set ?_ GE168.out) | exact HB.out)))); have n2_ := Aside0.mk (blk_below (g := gb168) (o := .cells #[.int .u8 a3_0, .int .u8 a3_1, .int .u32 a3_2, .slice A3_3 l3_3.length c3_3, .slice A3_4 l3_4.length c3_4] 28 (0, 0)) (by (with_reducible repeat (first | refine blk_drewN ?_ _ | refine blk_drew ?_ | refine blk_alloc ?_ _)); exact BK168.out) hb); have n3_ := Aside0.mk (below_step (by repeat (first | (with_reducible first | exact HB.out | apply below_alloc | apply pw_below_drewN | apply below_drew1 | refine below_set ?_ GE168.out) | exact HB.out)) hb); clear HO_9; clear BK168; clear HB; have HO_9 := n0_; have HO197 := n1_; have BK168 := n2_; have HB := n3_; clear n0_ n1_ n2_ n3_; (try clear hb); (try clear hb2); (try clear hk); (try clear hi); (try clear ho0); have hcz86_0 : w85.cell? ⟨gb168, 0, none⟩ = some (.int .u8 a3_0) := (blk_cell BK168.out 0).trans rfl; have hcz86_1 : w85.cell? ⟨gb168, 1, none⟩ = some (.int .u8 a3_1) := (blk_cell BK168.out 1).trans rfl; have hcz86_2 : w85.cell? ⟨gb168, 2, none⟩ = some (.int .u32 a3_2) := (blk_cell BK168.out 2).trans rfl; have hcz86_3 : w85.cell? ⟨gb168, 3, none⟩ = some (.slice A3_3 l3_3.length c3_3) := (blk_cell BK168.out 3).trans rfl; have hcz86_4 : w85.cell? ⟨gb168, 4, none⟩ = some (.slice A3_4 l3_4.length c3_4) := (blk_cell BK168.out 4).trans rfl; have hfz86_0 := blk_frozen BK168.out 0; have hfz86_1 := blk_frozen BK168.out 1; have hfz86_2 := blk_frozen BK168.out 2; have hfz86_3 := blk_frozen BK168.out 3; have hfz86_4 := blk_frozen BK168.out 4; obtain ⟨Ao87, co87, eo87⟩ := Kd.R_slice HO197.out; subst eo87) | ((with_reducible refine gate_callee (f := 11) rfl ?_); refine goesL_ (some 151) rfl rfl Tryd.func11 (by kernel_rfl) rfl #[.agg #[.int .u8 a3_0, .int .u8 a3_1, .int .u32 a3_2, .slice A3_3 l3_3.length c3_3, .slice A3_4 l3_4.length c3_4], .slice Ao87 t194.length co87] rfl (by (try simp only [List.map_toArray, List.map_cons, List.map_nil]); first | done | rfl | (simp only [List.length_drop, List.length_take]; rfl)) ?_; (with_reducible refine (spec_FitsAll.calls k3 a3_0 a3_1 a3_2 _ _ l3_3 _ _ l3_4 _ _ t194 t198 true _ ?side1 ?side2 ?side3 ?side4 ?side5 ?side6 A61.out).mono ?_); (case side1 => repeat (first | exact (Kd.C_below HR3_3.out HB.out) | (with_reducible refine Kd.C_alloc ?_ _) | (with_reducible refine Kd.C_drewN ?_ _) | (with_reducible refine Kd.C_drew ?_))); (case side2 => exact HC3_3.out); (case side3 => repeat (first | exact (Kd.C_below HR3_4.out HB.out) | (with_reducible refine Kd.C_alloc ?_ _) | (with_reducible refine Kd.C_drewN ?_ _) | (with_reducible refine Kd.C_drew ?_))); (case side4 => exact HC3_4.out); (case side5 => repeat (first | exact (Kd.R_reads' HO197.out).2.2 | (with_reducible refine Kd.C_alloc ?_ _) | (with_reducible refine Kd.C_drewN ?_ _) | (with_reducible refine Kd.C_drew ?_))); (case side6 => exact (Kd.R_reads' HO197.out).2.1); rintro e w88 ⟨rfl, hb⟩; refine ⟨_, rfl, ?_⟩; have n0_ := Aside0.mk (Kd.R_below (by (with_reducible repeat (first | apply Kd.R_alloc | apply Kd.R_drewN | apply Kd.R_drew)); exact HO_9.out) hb); have n1_ := Aside0.mk (Kd.R_below (by (with_reducible repeat (first | apply Kd.R_alloc | apply Kd.R_drewN | apply Kd.R_drew)); exact HO197.out) hb); have n2_ := Aside0.mk (blk_below (g := gb168) (o := .cells #[.int .u8 a3_0, .int .u8 a3_1, .int .u32 a3_2, .slice A3_3 l3_3.length c3_3, .slice A3_4 l3_4.length c3_4] 28 (0, 0)) (by (with_reducible repeat (first | refine blk_drewN ?_ _ | refine blk_drew ?_ | refine blk_alloc ?_ _)); exact BK168.out) hb); have n3_ := Aside0.mk (below_step (by repeat (first | (with_reducible first | exact HB.out | apply below_alloc | apply pw_below_drewN | apply below_drew1 | refine below_set ?_ GE168.out) | exact HB.out)) hb); clear HO_9; clear HO197; clear BK168; clear HB; have HO_9 := n0_; have HO197 := n1_; have BK168 := n2_; have HB := n3_; clear n0_ n1_ n2_ n3_; (try clear hb); (try clear hb2); (try clear hk); (try clear hi)))
             go_ret
             exact ⟨by first | rfl | (simp [errW_none, errW_some] <;> rfl) | (simp [*, errW_none, errW_some] <;> rfl), by repeat (first | (with_reducible first | exact HB.out | apply below_alloc | apply pw_below_drewN | apply below_drew1 | refine below_set ?_ GE168.out) | exact HB.out)⟩
           ·replace c63 := Bool.eq_false_iff.mpr c63
            subst c63
            have H1 : (some false) = some r := by rw [if_neg (show ¬ (false = true) by decide)] at H; exact H
            clear H
            have H := H1
            clear H1
            obtain rfl := Option.some.inj H
            obtain ⟨Ao89, co89, eo89⟩ := Kd.R_slice HO_9.out
            subst eo89
            go_wp2_with (first | ((with_reducible refine gate_callee (f := 10) rfl ?_); refine goesL_ (some 144) rfl rfl Tryd.func10 (by kernel_rfl) rfl #[.slice Ao89 x9_3.length co89] rfl (by (try simp only [List.map_toArray, List.map_cons, List.map_nil]); first | done | rfl | (simp only [List.length_drop, List.length_take]; rfl)) ?_; (with_reducible refine (impl_MtRule.calls k3 _ _ x9_3 t193 _ ?side1 ?side2 A59.out).mono ?_); (case side1 => repeat (first | exact (Kd.R_reads' HO_9.out).2.2 | (with_reducible refine Kd.C_alloc ?_ _) | (with_reducible refine Kd.C_drewN ?_ _) | (with_reducible refine Kd.C_drew ?_))); (case side2 => exact (Kd.R_reads' HO_9.out).2.1); rintro e w90 ⟨rfl, hb⟩; refine ⟨_, rfl, ?_⟩; have n0_ := Aside0.mk (Kd.R_below (by (with_reducible repeat (first | apply Kd.R_alloc | apply Kd.R_drewN | apply Kd.R_drew)); exact HO_9.out) hb); have n1_ := Aside0.mk (blk_below (g := gb168) (o := .cells #[.int .u8 a3_0, .int .u8 a3_1, .int .u32 a3_2, .slice A3_3 l3_3.length c3_3, .slice A3_4 l3_4.length c3_4] 28 (0, 0)) (by (with_reducible repeat (first | refine blk_drewN ?_ _ | refine blk_drew ?_ | refine blk_alloc ?_ _)); exact BK168.out) hb); have n2_ := Aside0.mk (below_step (by repeat (first | (with_reducible first | exact HB.out | apply below_alloc | apply pw_below_drewN | apply below_drew1 | refine below_set ?_ GE168.out) | exact HB.out)) hb); clear HO_9; clear BK168; clear HB; have HO_9 := n0_; have BK168 := n1_; have HB := n2_; clear n0_ n1_ n2_; (try clear hb); (try clear hb2); (try clear hk); (try clear hi)) | ((with_reducible refine gate_callee (f := 9) rfl ?_); refine goesL_ (some 145) rfl rfl Tryd.func9 (by kernel_rfl) rfl #[.string t193] rfl (by (try simp only [List.map_toArray, List.map_cons, List.map_nil]); first | done | rfl | (simp only [List.length_drop, List.length_take]; rfl)) ?_; (with_reducible refine (spec_ReadRule.calls k3 t193 t194 true _ A60.out).mono ?_); rintro e w91 ⟨v196, rfl, ho0, hb⟩; refine ⟨_, rfl, ?_⟩; have n0_ := Aside0.mk (Kd.R_below (by (with_reducible repeat (first | apply Kd.R_alloc | apply Kd.R_drewN | apply Kd.R_drew)); exact HO_9.out) hb); have n1_ := Aside0.mk (Kd.R_lower ho0 (below_size (by repeat (first | (with_reducible first | exact HB.out | apply below_alloc | apply pw_below_drewN | apply below_drew1 | refine below_set ?_ GE168.out) | exact HB.out)))); have n2_ := Aside0.mk (blk_below (g := gb168) (o := .cells #[.int .u8 a3_0, .int .u8 a3_1, .int .u32 a3_2, .slice A3_3 l3_3.length c3_3, .slice A3_4 l3_4.length c3_4] 28 (0, 0)) (by (with_reducible repeat (first | refine blk_drewN ?_ _ | refine blk_drew ?_ | refine blk_alloc ?_ _)); exact BK168.out) hb); have n3_ := Aside0.mk (below_step (by repeat (first | (with_reducible first | exact HB.out | apply below_alloc | apply pw_below_drewN | apply below_drew1 | refine below_set ?_ GE168.out) | exact HB.out)) hb); clear HO_9; clear BK168; clear HB; have HO_9 := n0_; have HO197 := n1_; have BK168 := n2_; have HB := n3_; clear n0_ n1_ n2_ n3_; (try clear hb); (try clear hb2); (try clear hk); (try clear hi); (try clear ho0); have hcz92_0 : w91.cell? ⟨gb168, 0, none⟩ = some (.int .u8 a3_0) := (blk_cell BK168.out 0).trans rfl; have hcz92_1 : w91.cell? ⟨gb168, 1, none⟩ = some (.int .u8 a3_1) := (blk_cell BK168.out 1).trans rfl; have hcz92_2 : w91.cell? ⟨gb168, 2, none⟩ = some (.int .u32 a3_2) := (blk_cell BK168.out 2).trans rfl; have hcz92_3 : w91.cell? ⟨gb168, 3, none⟩ = some (.slice A3_3 l3_3.length c3_3) := (blk_cell BK168.out 3).trans rfl; have hcz92_4 : w91.cell? ⟨gb168, 4, none⟩ = some (.slice A3_4 l3_4.length c3_4) := (blk_cell BK168.out 4).trans rfl; have hfz92_0 := blk_frozen BK168.out 0; have hfz92_1 := blk_frozen BK168.out 1; have hfz92_2 := blk_frozen BK168.out 2; have hfz92_3 := blk_frozen BK168.out 3; have hfz92_4 := blk_frozen BK168.out 4; obtain ⟨Ao93, co93, eo93⟩ := Kd.R_slice HO197.out; subst eo93) | ((with_reducible refine gate_callee (f := 11) rfl ?_); refine goesL_ (some 151) rfl rfl Tryd.func11 (by kernel_rfl) rfl #[.agg #[.int .u8 a3_0, .int .u8 a3_1, .int .u32 a3_2, .slice A3_3 l3_3.length c3_3, .slice A3_4 l3_4.length c3_4], .slice Ao93 t194.length co93] rfl (by (try simp only [List.map_toArray, List.map_cons, List.map_nil]); first | done | rfl | (simp only [List.length_drop, List.length_take]; rfl)) ?_; (with_reducible refine (spec_FitsAll.calls k3 a3_0 a3_1 a3_2 _ _ l3_3 _ _ l3_4 _ _ t194 t198 false _ ?side1 ?side2 ?side3 ?side4 ?side5 ?side6 A61.out).mono ?_); (case side1 => repeat (first | exact (Kd.C_below HR3_3.out HB.out) | (with_reducible refine Kd.C_alloc ?_ _) | (with_reducible refine Kd.C_drewN ?_ _) | (with_reducible refine Kd.C_drew ?_))); (case side2 => exact HC3_3.out); (case side3 => repeat (first | exact (Kd.C_below HR3_4.out HB.out) | (with_reducible refine Kd.C_alloc ?_ _) | (with_reducible refine Kd.C_drewN ?_ _) | (with_reducible refine Kd.C_drew ?_))); (case side4 => exact HC3_4.out); (case side5 => repeat (first | exact (Kd.R_reads' HO197.out).2.2 | (with_reducible refine Kd.C_alloc ?_ _) | (with_reducible refine Kd.C_drewN ?_ _) | (with_reducible refine Kd.C_drew ?_))); (case side6 => exact (Kd.R_reads' HO197.out).2.1); rintro e w94 ⟨rfl, hb⟩; refine ⟨_, rfl, ?_⟩; have n0_ := Aside0.mk (Kd.R_below (by (with_reducible repeat (first | apply Kd.R_alloc | apply Kd.R_drewN | apply Kd.R_drew)); exact HO_9.out) hb); have n1_ := Aside0.mk (Kd.R_below (by (with_reducible repeat (first | apply Kd.R_alloc | apply Kd.R_drewN | apply Kd.R_drew)); exact HO197.out) hb); have n2_ := Aside0.mk (blk_below (g := gb168) (o := .cells #[.int .u8 a3_0, .int .u8 a3_1, .int .u32 a3_2, .slice A3_3 l3_3.length c3_3, .slice A3_4 l3_4.length c3_4] 28 (0, 0)) (by (with_reducible repeat (first | refine blk_drewN ?_ _ | refine blk_drew ?_ | refine blk_alloc ?_ _)); exact BK168.out) hb); have n3_ := Aside0.mk (below_step (by repeat (first | (with_reducible first | exact HB.out | apply below_alloc | apply pw_below_drewN | apply below_drew1 | refine below_set ?_ GE168.out) | exact HB.out)) hb); clear HO_9; clear HO197; clear BK168; clear HB; have HO_9 := n0_; have HO197 := n1_; have BK168 := n2_; have HB := n3_; clear n0_ n1_ n2_ n3_; (try clear hb); (try clear hb2); (try clear hk); (try clear hi)))
            go_ret
            exact ⟨by first | rfl | (simp [errW_none, errW_some] <;> rfl) | (simp [*, errW_none, errW_some] <;> rfl), by repeat (first | (with_reducible first | exact HB.out | apply below_alloc | apply pw_below_drewN | apply below_drew1 | refine below_set ?_ GE168.out) | exact HB.out)⟩
          ·replace c62 := Bool.eq_false_iff.mpr c62
           subst c62
           have H1 : (some false) = some r := by rw [if_neg (show ¬ (false = true) by decide)] at H; exact H
           clear H
           have H := H1
           clear H1
           obtain rfl := Option.some.inj H
           obtain ⟨Ao95, co95, eo95⟩ := Kd.R_slice HO_9.out
           subst eo95
           go_wp2_with (first | ((with_reducible refine gate_callee (f := 10) rfl ?_); refine goesL_ (some 144) rfl rfl Tryd.func10 (by kernel_rfl) rfl #[.slice Ao95 x9_3.length co95] rfl (by (try simp only [List.map_toArray, List.map_cons, List.map_nil]); first | done | rfl | (simp only [List.length_drop, List.length_take]; rfl)) ?_; (with_reducible refine (impl_MtRule.calls k3 _ _ x9_3 t193 _ ?side1 ?side2 A59.out).mono ?_); (case side1 => repeat (first | exact (Kd.R_reads' HO_9.out).2.2 | (with_reducible refine Kd.C_alloc ?_ _) | (with_reducible refine Kd.C_drewN ?_ _) | (with_reducible refine Kd.C_drew ?_))); (case side2 => exact (Kd.R_reads' HO_9.out).2.1); rintro e w96 ⟨rfl, hb⟩; refine ⟨_, rfl, ?_⟩; have n0_ := Aside0.mk (Kd.R_below (by (with_reducible repeat (first | apply Kd.R_alloc | apply Kd.R_drewN | apply Kd.R_drew)); exact HO_9.out) hb); have n1_ := Aside0.mk (blk_below (g := gb168) (o := .cells #[.int .u8 a3_0, .int .u8 a3_1, .int .u32 a3_2, .slice A3_3 l3_3.length c3_3, .slice A3_4 l3_4.length c3_4] 28 (0, 0)) (by (with_reducible repeat (first | refine blk_drewN ?_ _ | refine blk_drew ?_ | refine blk_alloc ?_ _)); exact BK168.out) hb); have n2_ := Aside0.mk (below_step (by repeat (first | (with_reducible first | exact HB.out | apply below_alloc | apply pw_below_drewN | apply below_drew1 | refine below_set ?_ GE168.out) | exact HB.out)) hb); clear HO_9; clear BK168; clear HB; have HO_9 := n0_; have BK168 := n1_; have HB := n2_; clear n0_ n1_ n2_; (try clear hb); (try clear hb2); (try clear hk); (try clear hi)) | ((with_reducible refine gate_callee (f := 9) rfl ?_); refine goesL_ (some 145) rfl rfl Tryd.func9 (by kernel_rfl) rfl #[.string t193] rfl (by (try simp only [List.map_toArray, List.map_cons, List.map_nil]); first | done | rfl | (simp only [List.length_drop, List.length_take]; rfl)) ?_; (with_reducible refine (spec_ReadRule.calls k3 t193 t194 false _ A60.out).mono ?_); rintro e w97 ⟨v196, rfl, ho0, hb⟩; refine ⟨_, rfl, ?_⟩; have n0_ := Aside0.mk (Kd.R_below (by (with_reducible repeat (first | apply Kd.R_alloc | apply Kd.R_drewN | apply Kd.R_drew)); exact HO_9.out) hb); have n1_ := Aside0.mk (Kd.R_lower ho0 (below_size (by repeat (first | (with_reducible first | exact HB.out | apply below_alloc | apply pw_below_drewN | apply below_drew1 | refine below_set ?_ GE168.out) | exact HB.out)))); have n2_ := Aside0.mk (blk_below (g := gb168) (o := .cells #[.int .u8 a3_0, .int .u8 a3_1, .int .u32 a3_2, .slice A3_3 l3_3.length c3_3, .slice A3_4 l3_4.length c3_4] 28 (0, 0)) (by (with_reducible repeat (first | refine blk_drewN ?_ _ | refine blk_drew ?_ | refine blk_alloc ?_ _)); exact BK168.out) hb); have n3_ := Aside0.mk (below_step (by repeat (first | (with_reducible first | exact HB.out | apply below_alloc | apply pw_below_drewN | apply below_drew1 | refine below_set ?_ GE168.out) | exact HB.out)) hb); clear HO_9; clear BK168; clear HB; have HO_9 := n0_; have HO197 := n1_; have BK168 := n2_; have HB := n3_; clear n0_ n1_ n2_ n3_; (try clear hb); (try clear hb2); (try clear hk); (try clear hi); (try clear ho0); have hcz98_0 : w97.cell? ⟨gb168, 0, none⟩ = some (.int .u8 a3_0) := (blk_cell BK168.out 0).trans rfl; have hcz98_1 : w97.cell? ⟨gb168, 1, none⟩ = some (.int .u8 a3_1) := (blk_cell BK168.out 1).trans rfl; have hcz98_2 : w97.cell? ⟨gb168, 2, none⟩ = some (.int .u32 a3_2) := (blk_cell BK168.out 2).trans rfl; have hcz98_3 : w97.cell? ⟨gb168, 3, none⟩ = some (.slice A3_3 l3_3.length c3_3) := (blk_cell BK168.out 3).trans rfl; have hcz98_4 : w97.cell? ⟨gb168, 4, none⟩ = some (.slice A3_4 l3_4.length c3_4) := (blk_cell BK168.out 4).trans rfl; have hfz98_0 := blk_frozen BK168.out 0; have hfz98_1 := blk_frozen BK168.out 1; have hfz98_2 := blk_frozen BK168.out 2; have hfz98_3 := blk_frozen BK168.out 3; have hfz98_4 := blk_frozen BK168.out 4; obtain ⟨Ao99, co99, eo99⟩ := Kd.R_slice HO197.out; subst eo99) | ((with_reducible refine gate_callee (f := 11) rfl ?_); refine goesL_ (some 151) rfl rfl Tryd.func11 (by kernel_rfl) rfl #[.agg #[.int .u8 a3_0, .int .u8 a3_1, .int .u32 a3_2, .slice A3_3 l3_3.length c3_3, .slice A3_4 l3_4.length c3_4], .slice Ao99 t194.length co99] rfl (by (try simp only [List.map_toArray, List.map_cons, List.map_nil]); first | done | rfl | (simp only [List.length_drop, List.length_take]; rfl)) ?_; (with_reducible refine (spec_FitsAll.calls k3 a3_0 a3_1 a3_2 _ _ l3_3 _ _ l3_4 _ _ t194 t198 t199 _ ?side1 ?side2 ?side3 ?side4 ?side5 ?side6 A61.out).mono ?_); (case side1 => repeat (first | exact (Kd.C_below HR3_3.out HB.out) | (with_reducible refine Kd.C_alloc ?_ _) | (with_reducible refine Kd.C_drewN ?_ _) | (with_reducible refine Kd.C_drew ?_))); (case side2 => exact HC3_3.out); (case side3 => repeat (first | exact (Kd.C_below HR3_4.out HB.out) | (with_reducible refine Kd.C_alloc ?_ _) | (with_reducible refine Kd.C_drewN ?_ _) | (with_reducible refine Kd.C_drew ?_))); (case side4 => exact HC3_4.out); (case side5 => repeat (first | exact (Kd.R_reads' HO197.out).2.2 | (with_reducible refine Kd.C_alloc ?_ _) | (with_reducible refine Kd.C_drewN ?_ _) | (with_reducible refine Kd.C_drew ?_))); (case side6 => exact (Kd.R_reads' HO197.out).2.1); rintro e w100 ⟨rfl, hb⟩; refine ⟨_, rfl, ?_⟩; have n0_ := Aside0.mk (Kd.R_below (by (with_reducible repeat (first | apply Kd.R_alloc | apply Kd.R_drewN | apply Kd.R_drew)); exact HO_9.out) hb); have n1_ := Aside0.mk (Kd.R_below (by (with_reducible repeat (first | apply Kd.R_alloc | apply Kd.R_drewN | apply Kd.R_drew)); exact HO197.out) hb); have n2_ := Aside0.mk (blk_below (g := gb168) (o := .cells #[.int .u8 a3_0, .int .u8 a3_1, .int .u32 a3_2, .slice A3_3 l3_3.length c3_3, .slice A3_4 l3_4.length c3_4] 28 (0, 0)) (by (with_reducible repeat (first | refine blk_drewN ?_ _ | refine blk_drew ?_ | refine blk_alloc ?_ _)); exact BK168.out) hb); have n3_ := Aside0.mk (below_step (by repeat (first | (with_reducible first | exact HB.out | apply below_alloc | apply pw_below_drewN | apply below_drew1 | refine below_set ?_ GE168.out) | exact HB.out)) hb); clear HO_9; clear HO197; clear BK168; clear HB; have HO_9 := n0_; have HO197 := n1_; have BK168 := n2_; have HB := n3_; clear n0_ n1_ n2_ n3_; (try clear hb); (try clear hb2); (try clear hk); (try clear hi)))
           go_ret
           exact ⟨by first | rfl | (simp [errW_none, errW_some] <;> rfl) | (simp [*, errW_none, errW_some] <;> rfl), by repeat (first | (with_reducible first | exact HB.out | apply below_alloc | apply pw_below_drewN | apply below_drew1 | refine below_set ?_ GE168.out) | exact HB.out)⟩

end Go.Proofs.YtoldgnmgjpjapaaDoor.Q
