-- Written by a program of this session out of the translation; Lean checks it.
import Derived.Test.YtoldgnmgjpjapaaDoorQ0
import Derived.Test.YtoldgnmgjpjapaaDoorWEqStruct
import Derived.Test.YtoldgnmgjpjapaaDoorMt
import Derived.Test.YtoldgnmgjpjapaaDoorQ1
import Derived.Test.YtoldgnmgjpjapaaDoorQ4
import Derived.Test.YtoldgnmgjpjapaaDoorQ5
import Derived.Test.YtoldgnmgjpjapaaDoorQ6
import Derived.Test.YtoldgnmgjpjapaaDoorQ7
namespace Go.Proofs.YtoldgnmgjpjapaaDoor.Q
open Go.RowKit Go.Proofs.YtoldgnmgjpjapaaDoor.Mt Go.Proofs.YtoldgnmgjpjapaaDoorW.PrintWords Go.Proofs.YtoldgnmgjpjapaaDoorW.PrintLast Go.Proofs.YtoldgnmgjpjapaaDoor.Gt
set_option linter.unusedVariables false
set_option linter.unusedSimpArgs false

attribute [local go_sem high] eqA41
/-! ### laws_FnMtRuleOrder: function 3 -/
mutual
def laws_FnMtRuleOrder.j0 : Nat → List Int → List Int → List ByteArray → Int → Bool → Int → Int → Int → List (S69) → List (S63) → Option (Bool)
  | 0, _, _, _, _, _, _, _, _, _, _ => none
  | k + 1, x0, x1, x2, x3, x46, x205000, x205001, x205002, x205003, x205004 => if x46 = true then (some true) else (if (x0.length : Int) = 0 then (laws_FnMtRuleOrder.j1 k x0 x1 x2 x3 (x0.length : Int) true x205000 x205001 x205002 x205003 x205004) else (if (x0.length : Int) > 20 then (laws_FnMtRuleOrder.j1 k x0 x1 x2 x3 (x0.length : Int) true x205000 x205001 x205002 x205003 x205004) else (if (x1.length : Int) = (x0.length : Int) then (if (x2.length : Int) = (x0.length : Int) then (laws_FnMtRuleOrder.j1 k x0 x1 x2 x3 (x0.length : Int) (decide ((x205004.length : Int) > 70)) x205000 x205001 x205002 x205003 x205004) else (laws_FnMtRuleOrder.j1 k x0 x1 x2 x3 (x0.length : Int) true x205000 x205001 x205002 x205003 x205004)) else (laws_FnMtRuleOrder.j1 k x0 x1 x2 x3 (x0.length : Int) true x205000 x205001 x205002 x205003 x205004))))
def laws_FnMtRuleOrder.j1 : Nat → List Int → List Int → List ByteArray → Int → Int → Bool → Int → Int → Int → List (S69) → List (S63) → Option (Bool)
  | 0, _, _, _, _, _, _, _, _, _, _, _ => none
  | k + 1, x0, x1, x2, x3, x11, x72, x205000, x205001, x205002, x205003, x205004 => if x72 = true then (some true) else (laws_FnMtRuleOrder.l0 k x0 x1 x2 x3 x11 (x0.length : Int) 0 x205000 x205001 x205002 x205003 x205004)
def laws_FnMtRuleOrder.l0 : Nat → List Int → List Int → List ByteArray → Int → Int → Int → Int → Int → Int → Int → List (S69) → List (S63) → Option (Bool)
  | 0, _, _, _, _, _, _, _, _, _, _, _, _ => none
  | k + 1, x0, x1, x2, x3, x11, x74, x75, x205000, x205001, x205002, x205003, x205004 => if x75 < x74 then (if 0 ≤ x75 then (if x75 < (x0.length : Int) then (if (rd x0 x75) > 8 then (some true) else (if x75 < (x1.length : Int) then (if (rd x1 x75) > 63 then (some true) else (if x75 < (x2.length : Int) then ((laws_mtPlain.f k (([(⟨(⟨#[]⟩ : ByteArray), rdOf ByteArray.empty x2 x75⟩ : S32)] : List (S32)))).bind fun t213 => (if t213 = true then (laws_FnMtRuleOrder.l0 k x0 x1 x2 x3 x11 x74 (wrap64 (x75 + 1)) x205000 x205001 x205002 x205003 x205004) else (some true))) else (none))) else (none))) else (none)) else (none)) else (laws_FnMtRuleOrder.l1 k x0 x1 x2 x3 x11 ([] : List (S32)) (x0.length : Int) 0 x205000 x205001 x205002 x205003 x205004)
def laws_FnMtRuleOrder.l1 : Nat → List Int → List Int → List ByteArray → Int → Int → List (S32) → Int → Int → Int → Int → Int → List (S69) → List (S63) → Option (Bool)
  | 0, _, _, _, _, _, _, _, _, _, _, _, _, _ => none
  | k + 1, x0, x1, x2, x3, x11, x13, x102, x103, x205000, x205001, x205002, x205003, x205004 => if x103 < x102 then (if 0 ≤ x103 then (if x103 < (x0.length : Int) then (if x103 < (x1.length : Int) then (if x103 < (x2.length : Int) then ((impl_MtWith.f (wrap64 (rd x0 x103)) (wrap64 (rd x1 x103)) (rdOf ByteArray.empty x2 x103)).bind fun bt217 => (if bt217.2.2 = true then (if x13.length < 4398046511104 then (laws_FnMtRuleOrder.l1 k x0 x1 x2 x3 x11 (x13 ++ [(⟨bt217.1, bt217.2.1⟩ : S32)]) x102 (wrap64 (x103 + 1)) x205000 x205001 x205002 x205003 x205004) else (none)) else (some false))) else (none)) else (none)) else (none)) else (none)) else (if x11 = 0 then (none) else ((some (([] : List (S32)) : List (S32))).bind fun y223 => (if 0 ≤ (Int.tmod (wrap64 (x3)) x11) then (if (Int.tmod (wrap64 (x3)) x11) ≤ (x13.length : Int) then ((some (x13.drop ((Int.tmod (wrap64 (x3)) x11) : Int).toNat : List (S32))).bind fun y226 => (if y223.length + y226.length < 4398046511104 then ((some (y223 ++ y226 : List (S32))).bind fun y230 => ((some (x13.take ((Int.tmod (wrap64 (x3)) x11) : Int).toNat : List (S32))).bind fun y233 => (if y230.length + y233.length < 4398046511104 then ((impl_MtRule.f k x13).bind fun t240 => ((spec_ReadRule.f k t240).bind fun bt241 => ((impl_MtRule.f k (y230 ++ y233)).bind fun t245 => ((spec_ReadRule.f k t245).bind fun bt246 => (if bt241.2 = true then (if bt246.2 = true then (if (bt241.1.length : Int) = x11 then (laws_FnMtRuleOrder.j4 k x11 (Int.tmod (wrap64 (x3)) x11) bt241.1 bt246.1 ((bt246.1.length : Int) != x11) x205000 x205001 x205002 x205003 x205004) else (laws_FnMtRuleOrder.j4 k x11 (Int.tmod (wrap64 (x3)) x11) bt241.1 bt246.1 true x205000 x205001 x205002 x205003 x205004)) else (laws_FnMtRuleOrder.j4 k x11 (Int.tmod (wrap64 (x3)) x11) bt241.1 bt246.1 true x205000 x205001 x205002 x205003 x205004)) else (laws_FnMtRuleOrder.j4 k x11 (Int.tmod (wrap64 (x3)) x11) bt241.1 bt246.1 true x205000 x205001 x205002 x205003 x205004)))))) else (none)))) else (none))) else (none)) else (none))))
def laws_FnMtRuleOrder.j4 : Nat → Int → Int → List (S41) → List (S41) → Bool → Int → Int → Int → List (S69) → List (S63) → Option (Bool)
  | 0, _, _, _, _, _, _, _, _, _, _ => none
  | k + 1, x11, x18, x20, x22, x176, x205000, x205001, x205002, x205003, x205004 => if x176 = true then (some false) else (laws_FnMtRuleOrder.l2 k x11 x18 x20 x22 (x20.length : Int) 0 x205000 x205001 x205002 x205003 x205004)
def laws_FnMtRuleOrder.l2 : Nat → Int → Int → List (S41) → List (S41) → Int → Int → Int → Int → Int → List (S69) → List (S63) → Option (Bool)
  | 0, _, _, _, _, _, _, _, _, _, _, _ => none
  | k + 1, x11, x18, x20, x22, x178, x179, x205000, x205001, x205002, x205003, x205004 => if x179 < x178 then (if x11 = 0 then (none) else (if 0 ≤ (Int.tmod (wrap64 (x179 + x18)) x11) then (if (Int.tmod (wrap64 (x179 + x18)) x11) < (x20.length : Int) then (if 0 ≤ x179 then (if x179 < (x22.length : Int) then (if (!((((rd_T41 x20 (Int.tmod (wrap64 (x179 + x18)) x11)).f0).toList) == (((rd_T41 x22 x179).f0).toList)) || (!((((rd_T41 x20 (Int.tmod (wrap64 (x179 + x18)) x11)).f1).toList) == (((rd_T41 x22 x179).f1).toList)))) = true then (some false) else (laws_FnMtRuleOrder.l2 k x11 x18 x20 x22 x178 (wrap64 (x179 + 1)) x205000 x205001 x205002 x205003 x205004)) else (none)) else (none)) else (none)) else (none))) else ((spec_FitsAll.f k x205000 x205001 x205002 x205003 x205004 x20).bind fun bt252 => ((spec_FitsAll.f k x205000 x205001 x205002 x205003 x205004 x22).bind fun bt254 => (if bt252.2 = true then (if bt254.2 = true then (some (bt252.1 == bt254.1)) else (some false)) else (some false))))
end
def laws_FnMtRuleOrder.f (k : Nat) (l0 : List Int) (l1 : List Int) (l2 : List ByteArray) (a3 : Int) (a4_0 : Int) (a4_1 : Int) (a4_2 : Int) (l4_3 : List (S69)) (l4_4 : List (S63)) : Option (Bool) := if (l0.length : Int) > 2147483647 then (laws_FnMtRuleOrder.j0 k l0 l1 l2 a3 true a4_0 a4_1 a4_2 l4_3 l4_4) else (if (l1.length : Int) > 2147483647 then (laws_FnMtRuleOrder.j0 k l0 l1 l2 a3 true a4_0 a4_1 a4_2 l4_3 l4_4) else ((laws_zzFits5.f k l2).bind fun t205 => (if t205 = true then ((laws_zzFits1.f a4_0 a4_1 a4_2 l4_3 l4_4).bind fun t206 => (laws_FnMtRuleOrder.j0 k l0 l1 l2 a3 (!t206) a4_0 a4_1 a4_2 l4_3 l4_4)) else (laws_FnMtRuleOrder.j0 k l0 l1 l2 a3 true a4_0 a4_1 a4_2 l4_3 l4_4))))
theorem laws_FnMtRuleOrder.mono_l : ∀ k, (∀ y0 y1 y2 y3 y4 y5 y6 y7 y8 y9, LeO (laws_FnMtRuleOrder.j0 k y0 y1 y2 y3 y4 y5 y6 y7 y8 y9) (laws_FnMtRuleOrder.j0 (k + 1) y0 y1 y2 y3 y4 y5 y6 y7 y8 y9)) ∧ (∀ y0 y1 y2 y3 y4 y5 y6 y7 y8 y9 y10, LeO (laws_FnMtRuleOrder.j1 k y0 y1 y2 y3 y4 y5 y6 y7 y8 y9 y10) (laws_FnMtRuleOrder.j1 (k + 1) y0 y1 y2 y3 y4 y5 y6 y7 y8 y9 y10)) ∧ (∀ y0 y1 y2 y3 y4 y5 y6 y7 y8 y9 y10 y11, LeO (laws_FnMtRuleOrder.l0 k y0 y1 y2 y3 y4 y5 y6 y7 y8 y9 y10 y11) (laws_FnMtRuleOrder.l0 (k + 1) y0 y1 y2 y3 y4 y5 y6 y7 y8 y9 y10 y11)) ∧ (∀ y0 y1 y2 y3 y4 y5 y6 y7 y8 y9 y10 y11 y12, LeO (laws_FnMtRuleOrder.l1 k y0 y1 y2 y3 y4 y5 y6 y7 y8 y9 y10 y11 y12) (laws_FnMtRuleOrder.l1 (k + 1) y0 y1 y2 y3 y4 y5 y6 y7 y8 y9 y10 y11 y12)) ∧ (∀ y0 y1 y2 y3 y4 y5 y6 y7 y8 y9, LeO (laws_FnMtRuleOrder.j4 k y0 y1 y2 y3 y4 y5 y6 y7 y8 y9) (laws_FnMtRuleOrder.j4 (k + 1) y0 y1 y2 y3 y4 y5 y6 y7 y8 y9)) ∧ (∀ y0 y1 y2 y3 y4 y5 y6 y7 y8 y9 y10, LeO (laws_FnMtRuleOrder.l2 k y0 y1 y2 y3 y4 y5 y6 y7 y8 y9 y10) (laws_FnMtRuleOrder.l2 (k + 1) y0 y1 y2 y3 y4 y5 y6 y7 y8 y9 y10))
  | 0 => ⟨fun _ _ _ _ _ _ _ _ _ _ r h => by simp [laws_FnMtRuleOrder.j0] at h, fun _ _ _ _ _ _ _ _ _ _ _ r h => by simp [laws_FnMtRuleOrder.j1] at h, fun _ _ _ _ _ _ _ _ _ _ _ _ r h => by simp [laws_FnMtRuleOrder.l0] at h, fun _ _ _ _ _ _ _ _ _ _ _ _ _ r h => by simp [laws_FnMtRuleOrder.l1] at h, fun _ _ _ _ _ _ _ _ _ _ r h => by simp [laws_FnMtRuleOrder.j4] at h, fun _ _ _ _ _ _ _ _ _ _ _ r h => by simp [laws_FnMtRuleOrder.l2] at h⟩
  | k + 1 => by
    obtain ⟨ih0, ih1, ih2, ih3, ih4, ih5⟩ := laws_FnMtRuleOrder.mono_l k
    refine ⟨?_, ?_, ?_, ?_, ?_, ?_⟩
    · intro y0 y1 y2 y3 y4 y5 y6 y7 y8 y9
      unfold laws_FnMtRuleOrder.j0
      repeat' first
      | (with_reducible exact ih0 _ _ _ _ _ _ _ _ _ _)
      | (with_reducible exact ih1 _ _ _ _ _ _ _ _ _ _ _)
      | (with_reducible exact ih2 _ _ _ _ _ _ _ _ _ _ _ _)
      | (with_reducible exact ih3 _ _ _ _ _ _ _ _ _ _ _ _ _)
      | (with_reducible exact ih4 _ _ _ _ _ _ _ _ _ _)
      | (with_reducible exact ih5 _ _ _ _ _ _ _ _ _ _ _)
      | (with_reducible exact impl_MtRule.mono _ _)
      | (with_reducible exact laws_mtPlain.mono _ _)
      | (with_reducible exact laws_zzFits5.mono _ _)
      | (with_reducible exact spec_FitsAll.mono _ _ _ _ _ _ _)
      | (with_reducible exact spec_ReadRule.mono _ _)
      | (with_reducible exact LeO.refl _)
      | (with_reducible exact LeO.none _)
      | (with_reducible refine LeO.ite ?_ ?_)
      | (with_reducible refine LeO.bind ?_ (fun _ => ?_))
      | exact ih0 _ _ _ _ _ _ _ _ _ _
      | exact ih1 _ _ _ _ _ _ _ _ _ _ _
      | exact ih2 _ _ _ _ _ _ _ _ _ _ _ _
      | exact ih3 _ _ _ _ _ _ _ _ _ _ _ _ _
      | exact ih4 _ _ _ _ _ _ _ _ _ _
      | exact ih5 _ _ _ _ _ _ _ _ _ _ _
      | exact impl_MtRule.mono _ _
      | exact laws_mtPlain.mono _ _
      | exact laws_zzFits5.mono _ _
      | exact spec_FitsAll.mono _ _ _ _ _ _ _
      | exact spec_ReadRule.mono _ _
      | exact LeO.none _
      | refine LeO.ite ?_ ?_
      | refine LeO.bind ?_ (fun _ => ?_)
    · intro y0 y1 y2 y3 y4 y5 y6 y7 y8 y9 y10
      unfold laws_FnMtRuleOrder.j1
      repeat' first
      | (with_reducible exact ih0 _ _ _ _ _ _ _ _ _ _)
      | (with_reducible exact ih1 _ _ _ _ _ _ _ _ _ _ _)
      | (with_reducible exact ih2 _ _ _ _ _ _ _ _ _ _ _ _)
      | (with_reducible exact ih3 _ _ _ _ _ _ _ _ _ _ _ _ _)
      | (with_reducible exact ih4 _ _ _ _ _ _ _ _ _ _)
      | (with_reducible exact ih5 _ _ _ _ _ _ _ _ _ _ _)
      | (with_reducible exact impl_MtRule.mono _ _)
      | (with_reducible exact laws_mtPlain.mono _ _)
      | (with_reducible exact laws_zzFits5.mono _ _)
      | (with_reducible exact spec_FitsAll.mono _ _ _ _ _ _ _)
      | (with_reducible exact spec_ReadRule.mono _ _)
      | (with_reducible exact LeO.refl _)
      | (with_reducible exact LeO.none _)
      | (with_reducible refine LeO.ite ?_ ?_)
      | (with_reducible refine LeO.bind ?_ (fun _ => ?_))
      | exact ih0 _ _ _ _ _ _ _ _ _ _
      | exact ih1 _ _ _ _ _ _ _ _ _ _ _
      | exact ih2 _ _ _ _ _ _ _ _ _ _ _ _
      | exact ih3 _ _ _ _ _ _ _ _ _ _ _ _ _
      | exact ih4 _ _ _ _ _ _ _ _ _ _
      | exact ih5 _ _ _ _ _ _ _ _ _ _ _
      | exact impl_MtRule.mono _ _
      | exact laws_mtPlain.mono _ _
      | exact laws_zzFits5.mono _ _
      | exact spec_FitsAll.mono _ _ _ _ _ _ _
      | exact spec_ReadRule.mono _ _
      | exact LeO.none _
      | refine LeO.ite ?_ ?_
      | refine LeO.bind ?_ (fun _ => ?_)
    · intro y0 y1 y2 y3 y4 y5 y6 y7 y8 y9 y10 y11
      unfold laws_FnMtRuleOrder.l0
      repeat' first
      | (with_reducible exact ih0 _ _ _ _ _ _ _ _ _ _)
      | (with_reducible exact ih1 _ _ _ _ _ _ _ _ _ _ _)
      | (with_reducible exact ih2 _ _ _ _ _ _ _ _ _ _ _ _)
      | (with_reducible exact ih3 _ _ _ _ _ _ _ _ _ _ _ _ _)
      | (with_reducible exact ih4 _ _ _ _ _ _ _ _ _ _)
      | (with_reducible exact ih5 _ _ _ _ _ _ _ _ _ _ _)
      | (with_reducible exact impl_MtRule.mono _ _)
      | (with_reducible exact laws_mtPlain.mono _ _)
      | (with_reducible exact laws_zzFits5.mono _ _)
      | (with_reducible exact spec_FitsAll.mono _ _ _ _ _ _ _)
      | (with_reducible exact spec_ReadRule.mono _ _)
      | (with_reducible exact LeO.refl _)
      | (with_reducible exact LeO.none _)
      | (with_reducible refine LeO.ite ?_ ?_)
      | (with_reducible refine LeO.bind ?_ (fun _ => ?_))
      | exact ih0 _ _ _ _ _ _ _ _ _ _
      | exact ih1 _ _ _ _ _ _ _ _ _ _ _
      | exact ih2 _ _ _ _ _ _ _ _ _ _ _ _
      | exact ih3 _ _ _ _ _ _ _ _ _ _ _ _ _
      | exact ih4 _ _ _ _ _ _ _ _ _ _
      | exact ih5 _ _ _ _ _ _ _ _ _ _ _
      | exact impl_MtRule.mono _ _
      | exact laws_mtPlain.mono _ _
      | exact laws_zzFits5.mono _ _
      | exact spec_FitsAll.mono _ _ _ _ _ _ _
      | exact spec_ReadRule.mono _ _
      | exact LeO.none _
      | refine LeO.ite ?_ ?_
      | refine LeO.bind ?_ (fun _ => ?_)
    · intro y0 y1 y2 y3 y4 y5 y6 y7 y8 y9 y10 y11 y12
      unfold laws_FnMtRuleOrder.l1
      repeat' first
      | (with_reducible exact ih0 _ _ _ _ _ _ _ _ _ _)
      | (with_reducible exact ih1 _ _ _ _ _ _ _ _ _ _ _)
      | (with_reducible exact ih2 _ _ _ _ _ _ _ _ _ _ _ _)
      | (with_reducible exact ih3 _ _ _ _ _ _ _ _ _ _ _ _ _)
      | (with_reducible exact ih4 _ _ _ _ _ _ _ _ _ _)
      | (with_reducible exact ih5 _ _ _ _ _ _ _ _ _ _ _)
      | (with_reducible exact impl_MtRule.mono _ _)
      | (with_reducible exact laws_mtPlain.mono _ _)
      | (with_reducible exact laws_zzFits5.mono _ _)
      | (with_reducible exact spec_FitsAll.mono _ _ _ _ _ _ _)
      | (with_reducible exact spec_ReadRule.mono _ _)
      | (with_reducible exact LeO.refl _)
      | (with_reducible exact LeO.none _)
      | (with_reducible refine LeO.ite ?_ ?_)
      | (with_reducible refine LeO.bind ?_ (fun _ => ?_))
      | exact ih0 _ _ _ _ _ _ _ _ _ _
      | exact ih1 _ _ _ _ _ _ _ _ _ _ _
      | exact ih2 _ _ _ _ _ _ _ _ _ _ _ _
      | exact ih3 _ _ _ _ _ _ _ _ _ _ _ _ _
      | exact ih4 _ _ _ _ _ _ _ _ _ _
      | exact ih5 _ _ _ _ _ _ _ _ _ _ _
      | exact impl_MtRule.mono _ _
      | exact laws_mtPlain.mono _ _
      | exact laws_zzFits5.mono _ _
      | exact spec_FitsAll.mono _ _ _ _ _ _ _
      | exact spec_ReadRule.mono _ _
      | exact LeO.none _
      | refine LeO.ite ?_ ?_
      | refine LeO.bind ?_ (fun _ => ?_)
    · intro y0 y1 y2 y3 y4 y5 y6 y7 y8 y9
      unfold laws_FnMtRuleOrder.j4
      repeat' first
      | (with_reducible exact ih0 _ _ _ _ _ _ _ _ _ _)
      | (with_reducible exact ih1 _ _ _ _ _ _ _ _ _ _ _)
      | (with_reducible exact ih2 _ _ _ _ _ _ _ _ _ _ _ _)
      | (with_reducible exact ih3 _ _ _ _ _ _ _ _ _ _ _ _ _)
      | (with_reducible exact ih4 _ _ _ _ _ _ _ _ _ _)
      | (with_reducible exact ih5 _ _ _ _ _ _ _ _ _ _ _)
      | (with_reducible exact impl_MtRule.mono _ _)
      | (with_reducible exact laws_mtPlain.mono _ _)
      | (with_reducible exact laws_zzFits5.mono _ _)
      | (with_reducible exact spec_FitsAll.mono _ _ _ _ _ _ _)
      | (with_reducible exact spec_ReadRule.mono _ _)
      | (with_reducible exact LeO.refl _)
      | (with_reducible exact LeO.none _)
      | (with_reducible refine LeO.ite ?_ ?_)
      | (with_reducible refine LeO.bind ?_ (fun _ => ?_))
      | exact ih0 _ _ _ _ _ _ _ _ _ _
      | exact ih1 _ _ _ _ _ _ _ _ _ _ _
      | exact ih2 _ _ _ _ _ _ _ _ _ _ _ _
      | exact ih3 _ _ _ _ _ _ _ _ _ _ _ _ _
      | exact ih4 _ _ _ _ _ _ _ _ _ _
      | exact ih5 _ _ _ _ _ _ _ _ _ _ _
      | exact impl_MtRule.mono _ _
      | exact laws_mtPlain.mono _ _
      | exact laws_zzFits5.mono _ _
      | exact spec_FitsAll.mono _ _ _ _ _ _ _
      | exact spec_ReadRule.mono _ _
      | exact LeO.none _
      | refine LeO.ite ?_ ?_
      | refine LeO.bind ?_ (fun _ => ?_)
    · intro y0 y1 y2 y3 y4 y5 y6 y7 y8 y9 y10
      unfold laws_FnMtRuleOrder.l2
      repeat' first
      | (with_reducible exact ih0 _ _ _ _ _ _ _ _ _ _)
      | (with_reducible exact ih1 _ _ _ _ _ _ _ _ _ _ _)
      | (with_reducible exact ih2 _ _ _ _ _ _ _ _ _ _ _ _)
      | (with_reducible exact ih3 _ _ _ _ _ _ _ _ _ _ _ _ _)
      | (with_reducible exact ih4 _ _ _ _ _ _ _ _ _ _)
      | (with_reducible exact ih5 _ _ _ _ _ _ _ _ _ _ _)
      | (with_reducible exact impl_MtRule.mono _ _)
      | (with_reducible exact laws_mtPlain.mono _ _)
      | (with_reducible exact laws_zzFits5.mono _ _)
      | (with_reducible exact spec_FitsAll.mono _ _ _ _ _ _ _)
      | (with_reducible exact spec_ReadRule.mono _ _)
      | (with_reducible exact LeO.refl _)
      | (with_reducible exact LeO.none _)
      | (with_reducible refine LeO.ite ?_ ?_)
      | (with_reducible refine LeO.bind ?_ (fun _ => ?_))
      | exact ih0 _ _ _ _ _ _ _ _ _ _
      | exact ih1 _ _ _ _ _ _ _ _ _ _ _
      | exact ih2 _ _ _ _ _ _ _ _ _ _ _ _
      | exact ih3 _ _ _ _ _ _ _ _ _ _ _ _ _
      | exact ih4 _ _ _ _ _ _ _ _ _ _
      | exact ih5 _ _ _ _ _ _ _ _ _ _ _
      | exact impl_MtRule.mono _ _
      | exact laws_mtPlain.mono _ _
      | exact laws_zzFits5.mono _ _
      | exact spec_FitsAll.mono _ _ _ _ _ _ _
      | exact spec_ReadRule.mono _ _
      | exact LeO.none _
      | refine LeO.ite ?_ ?_
      | refine LeO.bind ?_ (fun _ => ?_)
theorem laws_FnMtRuleOrder.mono : ∀ a0 a1 a2 a3 a4 a5 a6 a7 a8 k, LeO (laws_FnMtRuleOrder.f k a0 a1 a2 a3 a4 a5 a6 a7 a8) (laws_FnMtRuleOrder.f (k + 1) a0 a1 a2 a3 a4 a5 a6 a7 a8) := by
  intro a0 a1 a2 a3 a4 a5 a6 a7 a8 k
  obtain ⟨ih0, ih1, ih2, ih3, ih4, ih5⟩ := laws_FnMtRuleOrder.mono_l k
  unfold laws_FnMtRuleOrder.f
  repeat' first
      | (with_reducible exact ih0 _ _ _ _ _ _ _ _ _ _)
      | (with_reducible exact ih1 _ _ _ _ _ _ _ _ _ _ _)
      | (with_reducible exact ih2 _ _ _ _ _ _ _ _ _ _ _ _)
      | (with_reducible exact ih3 _ _ _ _ _ _ _ _ _ _ _ _ _)
      | (with_reducible exact ih4 _ _ _ _ _ _ _ _ _ _)
      | (with_reducible exact ih5 _ _ _ _ _ _ _ _ _ _ _)
      | (with_reducible exact impl_MtRule.mono _ _)
      | (with_reducible exact laws_mtPlain.mono _ _)
      | (with_reducible exact laws_zzFits5.mono _ _)
      | (with_reducible exact spec_FitsAll.mono _ _ _ _ _ _ _)
      | (with_reducible exact spec_ReadRule.mono _ _)
      | (with_reducible exact LeO.refl _)
      | (with_reducible exact LeO.none _)
      | (with_reducible refine LeO.ite ?_ ?_)
      | (with_reducible refine LeO.bind ?_ (fun _ => ?_))
      | exact ih0 _ _ _ _ _ _ _ _ _ _
      | exact ih1 _ _ _ _ _ _ _ _ _ _ _
      | exact ih2 _ _ _ _ _ _ _ _ _ _ _ _
      | exact ih3 _ _ _ _ _ _ _ _ _ _ _ _ _
      | exact ih4 _ _ _ _ _ _ _ _ _ _
      | exact ih5 _ _ _ _ _ _ _ _ _ _ _
      | exact impl_MtRule.mono _ _
      | exact laws_mtPlain.mono _ _
      | exact laws_zzFits5.mono _ _
      | exact spec_FitsAll.mono _ _ _ _ _ _ _
      | exact spec_ReadRule.mono _ _
      | exact LeO.none _
      | refine LeO.ite ?_ ?_
      | refine LeO.bind ?_ (fun _ => ?_)
def laws_FnMtRuleOrder.T16 : Bool × List (List Nat × List Nat) := (true, [([], []), ([], []), ([0, 1], [0, 1]), ([2], [2]), ([3], [3]), ([], []), ([], []), ([5, 6], [5, 6]), ([7], [7]), ([8], [8]), ([], []), ([], []), ([10, 11], [10, 11]), ([12], [12]), ([4, 9, 13], [4, 9, 13]), ([14], [14]), ([15], [15]), ([15], [15]), ([15], [15]), ([16, 14, 0, 1, 2, 3, 4, 5, 6, 7, 8, 9, 10, 11, 12, 13, 14, 15, 16], [16]), ([17, 19, 0, 1, 2, 3, 4, 5, 6, 7, 8, 9, 10, 11, 12, 13, 14, 15, 16, 17, 19], [17]), ([18, 20, 0, 1, 2, 3, 4, 5, 6, 7, 8, 9, 10, 11, 12, 13, 14, 15, 16, 17, 18, 19, 20], [18])])
def laws_FnMtRuleOrder.B16 : List Nat := [0, 0, 3, 7, 15, 0, 0, 96, 224, 480, 0, 0, 3072, 7168, 16383, 32767, 65535, 65535, 65535, 131071, 786431, 2097151]
theorem laws_FnMtRuleOrder.tab16 : rtab .any (opsOf Tryd.f3 16) = laws_FnMtRuleOrder.T16 := by kernel_rfl
theorem laws_FnMtRuleOrder.bits16 : waitsOk laws_FnMtRuleOrder.T16.2 laws_FnMtRuleOrder.B16 = true := by kernel_rfl
def laws_FnMtRuleOrder.T22 : Bool × List (List Nat × List Nat) := (true, [([], []), ([], []), ([], []), ([1, 2], [1, 2]), ([0, 3], [0, 3]), ([], []), ([], []), ([5, 6], [5, 6]), ([4, 7, 4], [4, 7]), ([8, 8, 0, 1, 2, 3, 4, 5, 6, 7, 8], [8])])
def laws_FnMtRuleOrder.B22 : List Nat := [0, 0, 0, 6, 15, 0, 0, 96, 255, 511]
theorem laws_FnMtRuleOrder.tab22 : rtab .any (opsOf Tryd.f3 22) = laws_FnMtRuleOrder.T22 := by kernel_rfl
theorem laws_FnMtRuleOrder.bits22 : waitsOk laws_FnMtRuleOrder.T22.2 laws_FnMtRuleOrder.B22 = true := by kernel_rfl
def laws_FnMtRuleOrder.T30 : Bool × List (List Nat × List Nat) := (true, [([], []), ([], []), ([], []), ([1, 2], [1, 2]), ([], []), ([3, 4], [3, 4]), ([0, 5], [0, 5]), ([6], [6]), ([], []), ([], []), ([8, 9], [8, 9]), ([10], [10]), ([7, 11], [7, 11])])
def laws_FnMtRuleOrder.B30 : List Nat := [0, 0, 0, 6, 0, 30, 63, 127, 0, 0, 768, 1792, 4095]
theorem laws_FnMtRuleOrder.tab30 : rtab .any (opsOf Tryd.f3 30) = laws_FnMtRuleOrder.T30 := by kernel_rfl
theorem laws_FnMtRuleOrder.bits30 : waitsOk laws_FnMtRuleOrder.T30.2 laws_FnMtRuleOrder.B30 = true := by kernel_rfl
set_option maxHeartbeats 8000000 in
set_option maxRecDepth 100000 in
theorem laws_FnMtRuleOrder.calls (k : Nat) (A0 : Option Addr) (c0 : Nat) (l0 : List Int) (A1 : Option Addr) (c1 : Nat) (l1 : List Int) (A2 : Option Addr) (c2 : Nat) (l2 : List ByteArray) (a3 : Int) (a4_0 : Int) (a4_1 : Int) (a4_2 : Int) (A4_3 : Option Addr) (c4_3 : Nat) (l4_3 : List (S69)) (A4_4 : Option Addr) (c4_4 : Nat) (l4_4 : List (S63)) (r : Bool) (w : World) (hr0 : Kd.C (Kd.int .u8) w A0 l0.length l0) (hc0 : l0.length ≤ c0) (hr1 : Kd.C (Kd.int .u8) w A1 l1.length l1) (hc1 : l1.length ≤ c1) (hr2 : Kd.C Kd.string w A2 l2.length l2) (hc2 : l2.length ≤ c2) (hr4_3 : Kd.C k69 w A4_3 l4_3.length l4_3) (hc4_3 : l4_3.length ≤ c4_3) (hr4_4 : Kd.C k63 w A4_4 l4_4.length l4_4) (hc4_4 : l4_4.length ≤ c4_4) (h : laws_FnMtRuleOrder.f k l0 l1 l2 a3 a4_0 a4_1 a4_2 l4_3 l4_4 = some r) :
    Calls Tryd.prog 3 #[.slice A0 l0.length c0, .slice A1 l1.length c1, .slice A2 l2.length c2, .int .u8 a3, .agg #[.int .u8 a4_0, .int .u8 a4_1, .int .u32 a4_2, .slice A4_3 l4_3.length c4_3, .slice A4_4 l4_4.length c4_4]] w fun e w' => e = .returned (.bool r) ∧ Below w.heap.size w w' := by
  have hu28 := Tryd.underlying28
  have hu32 := Tryd.underlying32
  have hu41 := Tryd.underlying41
  have HR0 := Aside0.mk hr0
  have HC0 := Aside0.mk hc0
  clear hr0 hc0
  have HR1 := Aside0.mk hr1
  have HC1 := Aside0.mk hc1
  clear hr1 hc1
  have HR2 := Aside0.mk hr2
  have HC2 := Aside0.mk hc2
  clear hr2 hc2
  have HR4_3 := Aside0.mk hr4_3
  have HC4_3 := Aside0.mk hc4_3
  clear hr4_3 hc4_3
  have HR4_4 := Aside0.mk hr4_4
  have HC4_4 := Aside0.mk hc4_4
  clear hr4_4 hc4_4
  have HB := Aside0.mk (Below.refl w.heap.size w)
  have H : (if (l0.length : Int) > 2147483647 then (laws_FnMtRuleOrder.j0 k l0 l1 l2 a3 true a4_0 a4_1 a4_2 l4_3 l4_4) else (if (l1.length : Int) > 2147483647 then (laws_FnMtRuleOrder.j0 k l0 l1 l2 a3 true a4_0 a4_1 a4_2 l4_3 l4_4) else ((laws_zzFits5.f k l2).bind fun t205 => (if t205 = true then ((laws_zzFits1.f a4_0 a4_1 a4_2 l4_3 l4_4).bind fun t206 => (laws_FnMtRuleOrder.j0 k l0 l1 l2 a3 (!t206) a4_0 a4_1 a4_2 l4_3 l4_4)) else (laws_FnMtRuleOrder.j0 k l0 l1 l2 a3 true a4_0 a4_1 a4_2 l4_3 l4_4))))) = some r := h
  clear h
  have HC6 := Aside0.mk H
  clear H
  go_enter Tryd.func3, Tryd.ntmps3
  go_upto_region 1 with (first | ((with_reducible refine gate_dst (N := 9) rfl ?_); (try (refine gate_guard (by rfl) ?_; dsimp only)); refine box_event ?hg (N := 9) ?hd (cs := #[.int .u8 a4_0, .int .u8 a4_1, .int .u32 a4_2, .slice A4_3 l4_3.length c4_3, .slice A4_4 l4_4.length c4_4]) (t := 28) ?hr ?_; (case hd => rfl); (case hg => rfl); (case hr => first | (go_simp; done) | (go_simp; rfl)); intro gb204 hg w7 hbox hb; have n0_ := Aside0.mk (below_step (by repeat (first | (with_reducible first | exact HB.out | apply below_alloc | apply pw_below_drewN | apply below_drew1) | exact HB.out)) hb); have n1_ := Aside0.mk (hbox); have n2_ := Aside0.mk ((by rw [hg]; exact (below_size (by repeat (first | (with_reducible first | exact HB.out | apply below_alloc | apply pw_below_drewN | apply below_drew1) | exact HB.out))) : w.heap.size ≤ gb204)); have n3_ := Aside0.mk ((by rw [hg]; exact (below_size (by repeat (first | (with_reducible first | exact HB.out | apply below_alloc | apply pw_below_drewN | apply below_drew1) | exact HB.out))) : w.heap.size ≤ gb204)); clear HB; have HB := n0_; have BK204 := n1_; have GW204 := n2_; have GE204 := n3_; clear n0_ n1_ n2_ n3_; clear hb hbox hg))
  (try simp only [Act.put, List.setIfInBounds_toArray, List.set_cons_zero, List.set_cons_succ])
  go_cut [46] (fun v46 wc => ∃ (kq : Nat) (x46_5 : Bool), v46 = .bool x46_5 ∧ Aside0 (laws_FnMtRuleOrder.j0 kq l0 l1 l2 a3 x46_5 a4_0 a4_1 a4_2 l4_3 l4_4 = some r) ∧ Aside0 (kq ≤ k) ∧ Aside0 (wc.heap[gb204]? = some (.cells #[.int .u8 a4_0, .int .u8 a4_1, .int .u32 a4_2, (.slice A4_3 l4_3.length c4_3), (.slice A4_4 l4_4.length c4_4)] 28 (0, 0))) ∧ Aside0 (Below w.heap.size w wc))
  case first => as_aux_lemma =>
    have H := HC6.out
    clear HC6
    by_cases c8 : (l0.length : Int) > 2147483647
    · rw [if_pos c8] at H
      have c8b0 : decide (2147483647 < (l0.length : Int)) = true := decide_eq_true c8
      have c8b1 : decide (2147483647 < l0.length) = true := decide_eq_true (by omega)
      clear c8
      (first | rw [c8b0] | (simp only [i64_w, i32_w]; rw [c8b0]) | skip)
      have H' := Aside0.mk H
      clear H
      go_wp2
      go_meet
      case rel => exact ⟨_, (true), (by first | rfl | (simp; done) | (simp [*]; done)), H', ⟨by first | omega | exact Nat.le_refl _⟩, ⟨by (with_reducible repeat (first | refine blk_drewN ?_ _ | refine blk_drew ?_ | refine blk_alloc ?_ _)); exact BK204.out⟩, ⟨by repeat (first | (with_reducible first | exact HB.out | apply below_alloc | apply pw_below_drewN | apply below_drew1 | refine below_set ?_ GE204.out) | exact HB.out)⟩⟩
    · rw [if_neg c8] at H
      have c8b0 : decide (2147483647 < (l0.length : Int)) = false := decide_eq_false c8
      have c8b1 : decide (2147483647 < l0.length) = false := decide_eq_false (by omega)
      clear c8
      (first | rw [c8b0] | (simp only [i64_w, i32_w]; rw [c8b0]) | skip)
      by_cases c9 : (l1.length : Int) > 2147483647
      · rw [if_pos c9] at H
        have c9b0 : decide (2147483647 < (l1.length : Int)) = true := decide_eq_true c9
        have c9b1 : decide (2147483647 < l1.length) = true := decide_eq_true (by omega)
        clear c9
        have H' := Aside0.mk H
        clear H
        go_wp2
        go_meet
        case rel => exact ⟨_, (true), (by first | rfl | (simp; done) | (simp [*]; done)), H', ⟨by first | omega | exact Nat.le_refl _⟩, ⟨by (with_reducible repeat (first | refine blk_drewN ?_ _ | refine blk_drew ?_ | refine blk_alloc ?_ _)); exact BK204.out⟩, ⟨by repeat (first | (with_reducible first | exact HB.out | apply below_alloc | apply pw_below_drewN | apply below_drew1 | refine below_set ?_ GE204.out) | exact HB.out)⟩⟩
      · rw [if_neg c9] at H
        have c9b0 : decide (2147483647 < (l1.length : Int)) = false := decide_eq_false c9
        have c9b1 : decide (2147483647 < l1.length) = false := decide_eq_false (by omega)
        clear c9
        replace H := Option.bind_eq_some_iff.mp H
        obtain ⟨t205, A100, H⟩ := H
        replace H : (if t205 = true then ((laws_zzFits1.f a4_0 a4_1 a4_2 l4_3 l4_4).bind fun t206 => (laws_FnMtRuleOrder.j0 k l0 l1 l2 a3 (!t206) a4_0 a4_1 a4_2 l4_3 l4_4)) else (laws_FnMtRuleOrder.j0 k l0 l1 l2 a3 true a4_0 a4_1 a4_2 l4_3 l4_4)) = some r := H
        have A10 := Aside0.mk A100
        clear A100
        by_cases c11 : t205 = true
        · subst c11
          have H1 : ((laws_zzFits1.f a4_0 a4_1 a4_2 l4_3 l4_4).bind fun t206 => (laws_FnMtRuleOrder.j0 k l0 l1 l2 a3 (!t206) a4_0 a4_1 a4_2 l4_3 l4_4)) = some r := by rw [if_pos rfl] at H; exact H
          clear H
          have H := H1
          clear H1
          replace H := Option.bind_eq_some_iff.mp H
          obtain ⟨t206, A120, H⟩ := H
          replace H : (laws_FnMtRuleOrder.j0 k l0 l1 l2 a3 (!t206) a4_0 a4_1 a4_2 l4_3 l4_4) = some r := H
          have A12 := Aside0.mk A120
          clear A120
          have H' := Aside0.mk H
          clear H
          go_wp2_with (first | (go_at_call 5; (with_reducible refine (laws_zzFits5.calls k _ _ l2 true _ ?side1 ?side2 A10.out).mono ?_); (case side1 => repeat (first | exact (Kd.C_below HR2.out HB.out) | (with_reducible refine Kd.C_alloc ?_ _) | (with_reducible refine Kd.C_drewN ?_ _) | (with_reducible refine Kd.C_drew ?_))); (case side2 => exact HC2.out); rintro e w' ⟨rfl, ⟨nd, rfl⟩⟩; have hcz13_0 : w7.cell? ⟨gb204, 0, none⟩ = some (.int .u8 a4_0) := (blk_cell BK204.out 0).trans rfl; have hcz13_1 : w7.cell? ⟨gb204, 1, none⟩ = some (.int .u8 a4_1) := (blk_cell BK204.out 1).trans rfl; have hcz13_2 : w7.cell? ⟨gb204, 2, none⟩ = some (.int .u32 a4_2) := (blk_cell BK204.out 2).trans rfl; have hcz13_3 : w7.cell? ⟨gb204, 3, none⟩ = some (.slice A4_3 l4_3.length c4_3) := (blk_cell BK204.out 3).trans rfl; have hcz13_4 : w7.cell? ⟨gb204, 4, none⟩ = some (.slice A4_4 l4_4.length c4_4) := (blk_cell BK204.out 4).trans rfl; have hfz13_0 := blk_frozen BK204.out 0; have hfz13_1 := blk_frozen BK204.out 1; have hfz13_2 := blk_frozen BK204.out 2; have hfz13_3 := blk_frozen BK204.out 3; have hfz13_4 := blk_frozen BK204.out 4) | (go_at_call 6; (with_reducible refine (laws_zzFits1.calls a4_0 a4_1 a4_2 _ _ l4_3 _ _ l4_4 t206 _ ?side1 ?side2 ?side3 ?side4 A12.out).mono ?_); (case side1 => repeat (first | exact (Kd.C_below HR4_3.out (by repeat (first | (with_reducible first | exact HB.out | apply below_alloc | apply pw_below_drewN | apply below_drew1 | refine below_set ?_ GE204.out) | exact HB.out))) | (with_reducible refine Kd.C_alloc ?_ _) | (with_reducible refine Kd.C_drewN ?_ _) | (with_reducible refine Kd.C_drew ?_))); (case side2 => exact HC4_3.out); (case side3 => repeat (first | exact (Kd.C_below HR4_4.out (by repeat (first | (with_reducible first | exact HB.out | apply below_alloc | apply pw_below_drewN | apply below_drew1 | refine below_set ?_ GE204.out) | exact HB.out))) | (with_reducible refine Kd.C_alloc ?_ _) | (with_reducible refine Kd.C_drewN ?_ _) | (with_reducible refine Kd.C_drew ?_))); (case side4 => exact HC4_4.out); rintro e w14 ⟨rfl, hb⟩; have n0_ := Aside0.mk (blk_below (g := gb204) (o := .cells #[.int .u8 a4_0, .int .u8 a4_1, .int .u32 a4_2, .slice A4_3 l4_3.length c4_3, .slice A4_4 l4_4.length c4_4] 28 (0, 0)) (by (with_reducible repeat (first | refine blk_drewN ?_ _ | refine blk_drew ?_ | refine blk_alloc ?_ _)); exact BK204.out) hb); have n1_ := Aside0.mk (below_step (by repeat (first | (with_reducible first | exact HB.out | apply below_alloc | apply pw_below_drewN | apply below_drew1 | refine below_set ?_ GE204.out) | exact HB.out)) hb); clear BK204; clear HB; have BK204 := n0_; have HB := n1_; clear n0_ n1_; (try clear hb); (try clear hb2); (try clear hk); (try clear hi)))
          go_meet
          case rel => exact ⟨_, (!t206), (by first | rfl | (simp; done) | (simp [*]; done)), H', ⟨by first | omega | exact Nat.le_refl _⟩, ⟨by (with_reducible repeat (first | refine blk_drewN ?_ _ | refine blk_drew ?_ | refine blk_alloc ?_ _)); exact BK204.out⟩, ⟨by repeat (first | (with_reducible first | exact HB.out | apply below_alloc | apply pw_below_drewN | apply below_drew1 | refine below_set ?_ GE204.out) | exact HB.out)⟩⟩
        · replace c11 := Bool.eq_false_iff.mpr c11
          subst c11
          have H1 : (laws_FnMtRuleOrder.j0 k l0 l1 l2 a3 true a4_0 a4_1 a4_2 l4_3 l4_4) = some r := by rw [if_neg (show ¬ (false = true) by decide)] at H; exact H
          clear H
          have H := H1
          clear H1
          have H' := Aside0.mk H
          clear H
          go_wp2_with (first | (go_at_call 5; (with_reducible refine (laws_zzFits5.calls k _ _ l2 false _ ?side1 ?side2 A10.out).mono ?_); (case side1 => repeat (first | exact (Kd.C_below HR2.out HB.out) | (with_reducible refine Kd.C_alloc ?_ _) | (with_reducible refine Kd.C_drewN ?_ _) | (with_reducible refine Kd.C_drew ?_))); (case side2 => exact HC2.out); rintro e w' ⟨rfl, ⟨nd, rfl⟩⟩))
          go_meet
          case rel => exact ⟨_, (true), (by first | rfl | (simp; done) | (simp [*]; done)), H', ⟨by first | omega | exact Nat.le_refl _⟩, ⟨by (with_reducible repeat (first | refine blk_drewN ?_ _ | refine blk_drew ?_ | refine blk_alloc ?_ _)); exact BK204.out⟩, ⟨by repeat (first | (with_reducible first | exact HB.out | apply below_alloc | apply pw_below_drewN | apply below_drew1 | refine below_set ?_ GE204.out) | exact HB.out)⟩⟩
  case rest => as_aux_lemma =>
    clear HC6
    try clear c1
    try clear c2
    try clear p2
    try clear c3
    try clear c4
    try clear c8
    try clear c8b0
    try clear c8b1
    try clear c9
    try clear c9b0
    try clear c9b1
    try clear c11
    try clear hcz13_0
    try clear hcz13_1
    try clear hcz13_2
    try clear hcz13_3
    try clear hcz13_4
    try clear hfz13_0
    try clear hfz13_1
    try clear hfz13_2
    try clear hfz13_3
    try clear hfz13_4
    obtain ⟨kq, x46_5, rfl, HA, HJ5, BK204, HB⟩ := hcut
    cases kq with
    | zero => exact absurd HA.out (by simp [laws_FnMtRuleOrder.j0])
    | succ kj5 =>
      have H := HA.out
      clear HA
      simp only [laws_FnMtRuleOrder.j0] at H
      by_cases c15 : x46_5 = true
      · subst c15
        have H1 : (some true) = some r := by rw [if_pos rfl] at H; exact H
        clear H
        have H := H1
        clear H1
        obtain rfl := Option.some.inj H
        go_wp2
        go_ret
        exact ⟨by first | rfl | (simp [errW_none, errW_some] <;> rfl) | (simp [*, errW_none, errW_some] <;> rfl), by repeat (first | (with_reducible first | exact HB.out | apply below_alloc | apply pw_below_drewN | apply below_drew1 | refine below_set ?_ GE204.out) | exact HB.out)⟩
      · replace c15 := Bool.eq_false_iff.mpr c15
        subst c15
        have H1 : (if (l0.length : Int) = 0 then (laws_FnMtRuleOrder.j1 kj5 l0 l1 l2 a3 (l0.length : Int) true a4_0 a4_1 a4_2 l4_3 l4_4) else (if (l0.length : Int) > 20 then (laws_FnMtRuleOrder.j1 kj5 l0 l1 l2 a3 (l0.length : Int) true a4_0 a4_1 a4_2 l4_3 l4_4) else (if (l1.length : Int) = (l0.length : Int) then (if (l2.length : Int) = (l0.length : Int) then (laws_FnMtRuleOrder.j1 kj5 l0 l1 l2 a3 (l0.length : Int) (decide ((l4_4.length : Int) > 70)) a4_0 a4_1 a4_2 l4_3 l4_4) else (laws_FnMtRuleOrder.j1 kj5 l0 l1 l2 a3 (l0.length : Int) true a4_0 a4_1 a4_2 l4_3 l4_4)) else (laws_FnMtRuleOrder.j1 kj5 l0 l1 l2 a3 (l0.length : Int) true a4_0 a4_1 a4_2 l4_3 l4_4)))) = some r := by rw [if_neg (show ¬ (false = true) by decide)] at H; exact H
        clear H
        have H := H1
        clear H1
        have HC16 := Aside0.mk H
        clear H
        go_upto_region 4 with (fail)
        go_cut [72] (fun v72 wc => ∃ (kq : Nat) (x72_15 : Bool), v72 = .bool x72_15 ∧ Aside0 (laws_FnMtRuleOrder.j1 kq l0 l1 l2 a3 (l0.length : Int) x72_15 a4_0 a4_1 a4_2 l4_3 l4_4 = some r) ∧ Aside0 (kq ≤ kj5) ∧ Aside0 (wc.heap[gb204]? = some (.cells #[.int .u8 a4_0, .int .u8 a4_1, .int .u32 a4_2, (.slice A4_3 l4_3.length c4_3), (.slice A4_4 l4_4.length c4_4)] 28 (0, 0))) ∧ Aside0 (Below w.heap.size w wc))
        case first => as_aux_lemma =>
          have H := HC16.out
          clear HC16
          by_cases c17 : (l0.length : Int) = 0
          · rw [if_pos c17] at H
            have c17b0 : ((l0.length : Int) == 0) = true := beq_iff_eq.mpr c17
            have c17b1 : ((l0.length : Int) != 0) = false := bne_eq_false_iff_eq.mpr c17
            clear c17
            (first | rw [c17b0] | (simp only [i64_w, i32_w]; rw [c17b0]) | skip)
            have H' := Aside0.mk H
            clear H
            go_wp2
            go_meet
            case rel => exact ⟨_, (true), (by first | rfl | (simp; done) | (simp [*]; done)), H', ⟨by have := HJ5.out; first | omega | exact Nat.le_refl _⟩, ⟨by (with_reducible repeat (first | refine blk_drewN ?_ _ | refine blk_drew ?_ | refine blk_alloc ?_ _)); exact BK204.out⟩, ⟨by repeat (first | (with_reducible first | exact HB.out | apply below_alloc | apply pw_below_drewN | apply below_drew1 | refine below_set ?_ GE204.out) | exact HB.out)⟩⟩
          · rw [if_neg c17] at H
            have c17b0 : ((l0.length : Int) == 0) = false := beq_eq_false_iff_ne.mpr c17
            have c17b1 : ((l0.length : Int) != 0) = true := bne_iff_ne.mpr c17
            have c17b2 : ¬ (l0 = []) := fun h_ => c17 (by rw [h_]; rfl)
            (first | rw [c17b0] | (simp only [i64_w, i32_w]; rw [c17b0]) | skip)
            by_cases c18 : (l0.length : Int) > 20
            · rw [if_pos c18] at H
              have c18b0 : decide (20 < (l0.length : Int)) = true := decide_eq_true c18
              have c18b1 : decide (20 < l0.length) = true := decide_eq_true (by omega)
              clear c18
              have H' := Aside0.mk H
              clear H
              go_wp2
              go_meet
              case rel => exact ⟨_, (true), (by first | rfl | (simp; done) | (simp [*]; done)), H', ⟨by have := HJ5.out; first | omega | exact Nat.le_refl _⟩, ⟨by (with_reducible repeat (first | refine blk_drewN ?_ _ | refine blk_drew ?_ | refine blk_alloc ?_ _)); exact BK204.out⟩, ⟨by repeat (first | (with_reducible first | exact HB.out | apply below_alloc | apply pw_below_drewN | apply below_drew1 | refine below_set ?_ GE204.out) | exact HB.out)⟩⟩
            · rw [if_neg c18] at H
              have c18b0 : decide (20 < (l0.length : Int)) = false := decide_eq_false c18
              have c18b1 : decide (20 < l0.length) = false := decide_eq_false (by omega)
              clear c18
              by_cases c19 : (l1.length : Int) = (l0.length : Int)
              · rw [if_pos c19] at H
                have c19b0 : ((l1.length : Int) == (l0.length : Int)) = true := beq_iff_eq.mpr c19
                have c19b1 : ((l1.length : Int) != (l0.length : Int)) = false := bne_eq_false_iff_eq.mpr c19
                have c19b2 : (l1.length == l0.length) = true := by first | simpa using c19 | (simp at c19 ⊢; omega)
                clear c19
                by_cases c20 : (l2.length : Int) = (l0.length : Int)
                · rw [if_pos c20] at H
                  have c20b0 : ((l2.length : Int) == (l0.length : Int)) = true := beq_iff_eq.mpr c20
                  have c20b1 : ((l2.length : Int) != (l0.length : Int)) = false := bne_eq_false_iff_eq.mpr c20
                  have c20b2 : (l2.length == l0.length) = true := by first | simpa using c20 | (simp at c20 ⊢; omega)
                  clear c20
                  have H' := Aside0.mk H
                  clear H
                  have hcz21_0 : wc.cell? ⟨gb204, 0, none⟩ = some (.int .u8 a4_0) := (blk_cell BK204.out 0).trans rfl
                  have hcz21_1 : wc.cell? ⟨gb204, 1, none⟩ = some (.int .u8 a4_1) := (blk_cell BK204.out 1).trans rfl
                  have hcz21_2 : wc.cell? ⟨gb204, 2, none⟩ = some (.int .u32 a4_2) := (blk_cell BK204.out 2).trans rfl
                  have hcz21_3 : wc.cell? ⟨gb204, 3, none⟩ = some (.slice A4_3 l4_3.length c4_3) := (blk_cell BK204.out 3).trans rfl
                  have hcz21_4 : wc.cell? ⟨gb204, 4, none⟩ = some (.slice A4_4 l4_4.length c4_4) := (blk_cell BK204.out 4).trans rfl
                  have hfz21_0 := blk_frozen BK204.out 0
                  have hfz21_1 := blk_frozen BK204.out 1
                  have hfz21_2 := blk_frozen BK204.out 2
                  have hfz21_3 := blk_frozen BK204.out 3
                  have hfz21_4 := blk_frozen BK204.out 4
                  go_wp2
                  go_meet
                  case rel => exact ⟨_, (decide ((l4_4.length : Int) > 70)), (by first | rfl | (simp; done) | (simp [*]; done)), H', ⟨by have := HJ5.out; first | omega | exact Nat.le_refl _⟩, ⟨by (with_reducible repeat (first | refine blk_drewN ?_ _ | refine blk_drew ?_ | refine blk_alloc ?_ _)); exact BK204.out⟩, ⟨by repeat (first | (with_reducible first | exact HB.out | apply below_alloc | apply pw_below_drewN | apply below_drew1 | refine below_set ?_ GE204.out) | exact HB.out)⟩⟩
                · rw [if_neg c20] at H
                  have c20b0 : ((l2.length : Int) == (l0.length : Int)) = false := beq_eq_false_iff_ne.mpr c20
                  have c20b1 : ((l2.length : Int) != (l0.length : Int)) = true := bne_iff_ne.mpr c20
                  have c20b2 : (l2.length == l0.length) = false := by first | simpa using c20 | (simp at c20 ⊢; omega)
                  have H' := Aside0.mk H
                  clear H
                  go_wp2
                  go_meet
                  case rel => exact ⟨_, (true), (by first | rfl | (simp; done) | (simp [*]; done)), H', ⟨by have := HJ5.out; first | omega | exact Nat.le_refl _⟩, ⟨by (with_reducible repeat (first | refine blk_drewN ?_ _ | refine blk_drew ?_ | refine blk_alloc ?_ _)); exact BK204.out⟩, ⟨by repeat (first | (with_reducible first | exact HB.out | apply below_alloc | apply pw_below_drewN | apply below_drew1 | refine below_set ?_ GE204.out) | exact HB.out)⟩⟩
              · rw [if_neg c19] at H
                have c19b0 : ((l1.length : Int) == (l0.length : Int)) = false := beq_eq_false_iff_ne.mpr c19
                have c19b1 : ((l1.length : Int) != (l0.length : Int)) = true := bne_iff_ne.mpr c19
                have c19b2 : (l1.length == l0.length) = false := by first | simpa using c19 | (simp at c19 ⊢; omega)
                have H' := Aside0.mk H
                clear H
                go_wp2
                go_meet
                case rel => exact ⟨_, (true), (by first | rfl | (simp; done) | (simp [*]; done)), H', ⟨by have := HJ5.out; first | omega | exact Nat.le_refl _⟩, ⟨by (with_reducible repeat (first | refine blk_drewN ?_ _ | refine blk_drew ?_ | refine blk_alloc ?_ _)); exact BK204.out⟩, ⟨by repeat (first | (with_reducible first | exact HB.out | apply below_alloc | apply pw_below_drewN | apply below_drew1 | refine below_set ?_ GE204.out) | exact HB.out)⟩⟩
        case rest => as_aux_lemma =>
          clear HC16
          try clear c1
          try clear c2
          try clear p2
          try clear c3
          try clear c4
          try clear c8
          try clear c8b0
          try clear c8b1
          try clear c9
          try clear c9b0
          try clear c9b1
          try clear c11
          try clear c15
          try clear c17
          try clear c17b0
          try clear c17b1
          try clear c17b2
          try clear c18
          try clear c18b0
          try clear c18b1
          try clear c19
          try clear c19b0
          try clear c19b1
          try clear c19b2
          try clear c20
          try clear c20b0
          try clear c20b1
          try clear c20b2
          try clear hcz13_0
          try clear hcz13_1
          try clear hcz13_2
          try clear hcz13_3
          try clear hcz13_4
          try clear hcz21_0
          try clear hcz21_1
          try clear hcz21_2
          try clear hcz21_3
          try clear hcz21_4
          try clear hfz13_0
          try clear hfz13_1
          try clear hfz13_2
          try clear hfz13_3
          try clear hfz13_4
          try clear hfz21_0
          try clear hfz21_1
          try clear hfz21_2
          try clear hfz21_3
          try clear hfz21_4
          try clear p2
          obtain ⟨kq, x72_15, rfl, HA, HJ15, BK204, HB⟩ := hcut
          cases kq with
          | zero => exact absurd HA.out (by simp [laws_FnMtRuleOrder.j1])
          | succ kj15 =>
            have H := HA.out
            clear HA
            simp only [laws_FnMtRuleOrder.j1] at H
            by_cases c22 : x72_15 = true
            · subst c22
              have H1 : (some true) = some r := by rw [if_pos rfl] at H; exact H
              clear H
              have H := H1
              clear H1
              obtain rfl := Option.some.inj H
              go_wp2
              go_ret
              exact ⟨by first | rfl | (simp [errW_none, errW_some] <;> rfl) | (simp [*, errW_none, errW_some] <;> rfl), by repeat (first | (with_reducible first | exact HB.out | apply below_alloc | apply pw_below_drewN | apply below_drew1 | refine below_set ?_ GE204.out) | exact HB.out)⟩
            · replace c22 := Bool.eq_false_iff.mpr c22
              subst c22
              have H1 : (laws_FnMtRuleOrder.l0 kj15 l0 l1 l2 a3 (l0.length : Int) (l0.length : Int) 0 a4_0 a4_1 a4_2 l4_3 l4_4) = some r := by rw [if_neg (show ¬ (false = true) by decide)] at H; exact H
              clear H
              have H := H1
              clear H1
              have H' := Aside0.mk H
              clear H
              go_wp2
              go_loopg [75] kj15 (fun kq v75 w' => ∃ (x75_3 : Int), v75 = .int .i64 x75_3 ∧ Aside0 (laws_FnMtRuleOrder.l0 kq l0 l1 l2 a3 (l0.length : Int) (l0.length : Int) x75_3 a4_0 a4_1 a4_2 l4_3 l4_4 = some r) ∧ Aside0 (kq ≤ kj15) ∧ Aside0 (w'.heap[gb204]? = some (.cells #[.int .u8 a4_0, .int .u8 a4_1, .int .u32 a4_2, (.slice A4_3 l4_3.length c4_3), (.slice A4_4 l4_4.length c4_4)] 28 (0, 0))) ∧ Aside0 (Below w.heap.size w w'))
              case atStart => exact ⟨(0), (by first | rfl | (simp; done) | (simp [*]; done)), H', ⟨Nat.le_refl _⟩, ⟨by (with_reducible repeat (first | refine blk_drewN ?_ _ | refine blk_drew ?_ | refine blk_alloc ?_ _)); exact BK204.out⟩, ⟨by repeat (first | (with_reducible first | exact HB.out | apply below_alloc | apply pw_below_drewN | apply below_drew1 | refine below_set ?_ GE204.out) | exact HB.out)⟩⟩
              case round => as_aux_lemma =>
                clear H'
                try clear c1
                try clear c2
                try clear p2
                try clear c3
                try clear c4
                try clear c8
                try clear c8b0
                try clear c8b1
                try clear c9
                try clear c9b0
                try clear c9b1
                try clear c11
                try clear c15
                try clear c17
                try clear c17b0
                try clear c17b1
                try clear c17b2
                try clear c18
                try clear c18b0
                try clear c18b1
                try clear c19
                try clear c19b0
                try clear c19b1
                try clear c19b2
                try clear c20
                try clear c20b0
                try clear c20b1
                try clear c20b2
                try clear c22
                try clear hcz13_0
                try clear hcz13_1
                try clear hcz13_2
                try clear hcz13_3
                try clear hcz13_4
                try clear hcz21_0
                try clear hcz21_1
                try clear hcz21_2
                try clear hcz21_3
                try clear hcz21_4
                try clear hfz13_0
                try clear hfz13_1
                try clear hfz13_2
                try clear hfz13_3
                try clear hfz13_4
                try clear hfz21_0
                try clear hfz21_1
                try clear hfz21_2
                try clear hfz21_3
                try clear hfz21_4
                try clear p2
                obtain ⟨x75_3, rfl, HA, HK3, BK204, HB⟩ := hrel
                cases gk with
                | zero => exact absurd HA.out (by simp [laws_FnMtRuleOrder.l0])
                | succ k3 =>
                  have H := HA.out
                  clear HA
                  simp only [laws_FnMtRuleOrder.l0] at H
                  by_cases c23 : x75_3 < (l0.length : Int)
                  · rw [if_pos c23] at H
                    have c23b0 : decide (x75_3 < (l0.length : Int)) = true := decide_eq_true c23
                    clear c23
                    by_cases c24 : 0 ≤ x75_3
                    · rw [if_pos c24] at H
                      have c24b0 : decide (0 ≤ x75_3) = true := decide_eq_true c24
                      clear c24
                      by_cases c25 : x75_3 < (l0.length : Int)
                      · rw [if_pos c25] at H
                        have c25b0 : decide (x75_3 < (l0.length : Int)) = true := decide_eq_true c25
                        clear c25
                        by_cases c26 : (rd l0 x75_3) > 8
                        · rw [if_pos c26] at H
                          have c26b0 : decide (8 < (rd l0 x75_3)) = true := decide_eq_true c26
                          clear c26
                          obtain rfl := Option.some.inj H
                          have p207 : 0 ≤ (x75_3 : Int) := of_decide_eq_true (by first | (with_reducible assumption) | assumption)
                          have q207 : x75_3 < (l0.length : Int) := of_decide_eq_true (by first | (with_reducible assumption) | assumption)
                          obtain ⟨ad207, e207, hx207_0⟩ := Kd.at_int HR0.out x75_3 p207 q207
                          cases e207
                          replace hx207_0 := (HB.out.cell (World.block_lt_of_cell? w _ hx207_0)).trans hx207_0
                          replace p207 := eq_true p207
                          replace q207 := eq_true q207
                          go_wp2
                          go_ret
                          exact ⟨by first | rfl | (simp [errW_none, errW_some] <;> rfl) | (simp [*, errW_none, errW_some] <;> rfl), by repeat (first | (with_reducible first | exact HB.out | apply below_alloc | apply pw_below_drewN | apply below_drew1 | refine below_set ?_ GE204.out) | exact HB.out)⟩
                        · rw [if_neg c26] at H
                          have c26b0 : decide (8 < (rd l0 x75_3)) = false := decide_eq_false c26
                          clear c26
                          by_cases c27 : x75_3 < (l1.length : Int)
                          · rw [if_pos c27] at H
                            have c27b0 : decide (x75_3 < (l1.length : Int)) = true := decide_eq_true c27
                            clear c27
                            by_cases c28 : (rd l1 x75_3) > 63
                            · rw [if_pos c28] at H
                              have c28b0 : decide (63 < (rd l1 x75_3)) = true := decide_eq_true c28
                              clear c28
                              obtain rfl := Option.some.inj H
                              have p207 : 0 ≤ (x75_3 : Int) := of_decide_eq_true (by first | (with_reducible assumption) | assumption)
                              have q207 : x75_3 < (l0.length : Int) := of_decide_eq_true (by first | (with_reducible assumption) | assumption)
                              obtain ⟨ad207, e207, hx207_0⟩ := Kd.at_int HR0.out x75_3 p207 q207
                              cases e207
                              replace hx207_0 := (HB.out.cell (World.block_lt_of_cell? w _ hx207_0)).trans hx207_0
                              replace p207 := eq_true p207
                              replace q207 := eq_true q207
                              have p208 : 0 ≤ (x75_3 : Int) := of_decide_eq_true (by first | (with_reducible assumption) | assumption)
                              have q208 : x75_3 < (l1.length : Int) := of_decide_eq_true (by first | (with_reducible assumption) | assumption)
                              obtain ⟨ad208, e208, hx208_0⟩ := Kd.at_int HR1.out x75_3 p208 q208
                              cases e208
                              replace hx208_0 := (HB.out.cell (World.block_lt_of_cell? w _ hx208_0)).trans hx208_0
                              replace p208 := eq_true p208
                              replace q208 := eq_true q208
                              go_wp2
                              go_ret
                              exact ⟨by first | rfl | (simp [errW_none, errW_some] <;> rfl) | (simp [*, errW_none, errW_some] <;> rfl), by repeat (first | (with_reducible first | exact HB.out | apply below_alloc | apply pw_below_drewN | apply below_drew1 | refine below_set ?_ GE204.out) | exact HB.out)⟩
                            · rw [if_neg c28] at H
                              have c28b0 : decide (63 < (rd l1 x75_3)) = false := decide_eq_false c28
                              clear c28
                              by_cases c29 : x75_3 < (l2.length : Int)
                              · rw [if_pos c29] at H
                                have c29b0 : decide (x75_3 < (l2.length : Int)) = true := decide_eq_true c29
                                clear c29
                                obtain ⟨y210, hy210⟩ : ∃ y_ : List (S32), y_ = (([(⟨(⟨#[]⟩ : ByteArray), rdOf ByteArray.empty l2 x75_3⟩ : S32)] : List (S32))) := ⟨_, rfl⟩
                                replace H : ((laws_mtPlain.f k3 y210).bind fun t213 => (if t213 = true then (laws_FnMtRuleOrder.l0 k3 l0 l1 l2 a3 (l0.length : Int) (l0.length : Int) (wrap64 (x75_3 + 1)) a4_0 a4_1 a4_2 l4_3 l4_4) else (some true))) = some r := by first | (rw [hy210]; with_reducible exact H) | (have H2_ := (Option.bind_some _ _).symm.trans H; rw [hy210]; with_reducible exact H2_) | (have H2_ := (Option.bind_some _ _).symm.trans H; with_reducible exact H2_) | with_reducible exact H | (rw [hy210]; exact H) | exact H
                                have Ny210 := Aside0.mk hy210
                                clear hy210
                                replace H := Option.bind_eq_some_iff.mp H
                                obtain ⟨t213, A300, H⟩ := H
                                replace H : (if t213 = true then (laws_FnMtRuleOrder.l0 k3 l0 l1 l2 a3 (l0.length : Int) (l0.length : Int) (wrap64 (x75_3 + 1)) a4_0 a4_1 a4_2 l4_3 l4_4) else (some true)) = some r := H
                                have A30 := Aside0.mk A300
                                clear A300
                                by_cases c31 : t213 = true
                                · subst c31
                                  have H1 : (laws_FnMtRuleOrder.l0 k3 l0 l1 l2 a3 (l0.length : Int) (l0.length : Int) (wrap64 (x75_3 + 1)) a4_0 a4_1 a4_2 l4_3 l4_4) = some r := by rw [if_pos rfl] at H; exact H
                                  clear H
                                  have H := H1
                                  clear H1
                                  have H' := Aside0.mk H
                                  clear H
                                  have p207 : 0 ≤ (x75_3 : Int) := of_decide_eq_true (by first | (with_reducible assumption) | assumption)
                                  have q207 : x75_3 < (l0.length : Int) := of_decide_eq_true (by first | (with_reducible assumption) | assumption)
                                  obtain ⟨ad207, e207, hx207_0⟩ := Kd.at_int HR0.out x75_3 p207 q207
                                  cases e207
                                  replace hx207_0 := (HB.out.cell (World.block_lt_of_cell? w _ hx207_0)).trans hx207_0
                                  replace p207 := eq_true p207
                                  replace q207 := eq_true q207
                                  have p208 : 0 ≤ (x75_3 : Int) := of_decide_eq_true (by first | (with_reducible assumption) | assumption)
                                  have q208 : x75_3 < (l1.length : Int) := of_decide_eq_true (by first | (with_reducible assumption) | assumption)
                                  obtain ⟨ad208, e208, hx208_0⟩ := Kd.at_int HR1.out x75_3 p208 q208
                                  cases e208
                                  replace hx208_0 := (HB.out.cell (World.block_lt_of_cell? w _ hx208_0)).trans hx208_0
                                  replace p208 := eq_true p208
                                  replace q208 := eq_true q208
                                  have p209 : 0 ≤ (x75_3 : Int) := of_decide_eq_true (by first | (with_reducible assumption) | assumption)
                                  have q209 : x75_3 < (l2.length : Int) := of_decide_eq_true (by first | (with_reducible assumption) | assumption)
                                  obtain ⟨ad209, e209, hx209_0⟩ := Kd.at_string HR2.out x75_3 p209 q209
                                  cases e209
                                  replace hx209_0 := (HB.out.cell (World.block_lt_of_cell? w _ hx209_0)).trans hx209_0
                                  replace p209 := eq_true p209
                                  replace q209 := eq_true q209
                                  go_wp2_with (first | ((with_reducible refine gate_dst (N := 96) rfl ?_); (try (refine gate_guard (by rfl) ?_; dsimp only)); refine Kd.R_lit k32 _ 32 ?hg (N := 96) ?hd (xs := ([(⟨(⟨#[]⟩ : ByteArray), rdOf ByteArray.empty l2 x75_3⟩ : S32)] : List (S32))) (inner := [.string (⟨#[]⟩ : ByteArray), .string (rdOf ByteArray.empty l2 x75_3)]) (ok := fun _ => True) (okp := fun _ => True) ?hr ?hp (fun _ hk => hk) trivial (Below.refl _ _) (Nat.le_refl _) (by simp) ?_; (case hd => rfl); (case hg => rfl); (case hr => first | (go_simp; done) | (go_simp; rfl)); (case hp => exact (Reps.c2 (show Kd.M k32 _ _ _ (⟨(⟨#[]⟩ : ByteArray), rdOf ByteArray.empty l2 x75_3⟩ : S32) [.string (⟨#[]⟩ : ByteArray), .string (rdOf ByteArray.empty l2 x75_3)] from (k32_mkM _ _ _ (⟨(⟨#[]⟩ : ByteArray), rdOf ByteArray.empty l2 x75_3⟩ : S32) )) (Reps.none _ _))); intro v211 w32 ho33 hb hg_ hnew_; clear hg_ hnew_; (first | rw [← Ny210.out] at ho33 | (simp only [Int.reduceToNat] at ho33; rw [← Ny210.out] at ho33)); have n0_ := Aside0.mk (Kd.R_lower ho33 (below_size (by repeat (first | (with_reducible first | exact HB.out | apply below_alloc | apply pw_below_drewN | apply below_drew1 | refine below_set ?_ GE204.out) | exact HB.out)))); have n1_ := Aside0.mk (blk_below (g := gb204) (o := .cells #[.int .u8 a4_0, .int .u8 a4_1, .int .u32 a4_2, .slice A4_3 l4_3.length c4_3, .slice A4_4 l4_4.length c4_4] 28 (0, 0)) (by (with_reducible repeat (first | refine blk_drewN ?_ _ | refine blk_drew ?_ | refine blk_alloc ?_ _)); exact BK204.out) hb); have n2_ := Aside0.mk (below_step (by repeat (first | (with_reducible first | exact HB.out | apply below_alloc | apply pw_below_drewN | apply below_drew1 | refine below_set ?_ GE204.out) | exact HB.out)) hb); clear BK204; clear HB; have HO212 := n0_; have BK204 := n1_; have HB := n2_; clear n0_ n1_ n2_; clear hb ho33; obtain ⟨Ao34, co34, eo34⟩ := Kd.R_slice HO212.out; subst eo34) | (go_at_call 7; (with_reducible refine (laws_mtPlain.calls k3 _ _ y210 true _ ?side1 ?side2 A30.out).mono ?_); (case side1 => repeat (first | exact (Kd.R_reads' HO212.out).2.2 | (with_reducible refine Kd.C_alloc ?_ _) | (with_reducible refine Kd.C_drewN ?_ _) | (with_reducible refine Kd.C_drew ?_))); (case side2 => exact (Kd.R_reads' HO212.out).2.1); rintro e w35 ⟨rfl, hb⟩; have n0_ := Aside0.mk (Kd.R_below (by (with_reducible repeat (first | apply Kd.R_alloc | apply Kd.R_drewN | apply Kd.R_drew)); exact HO212.out) hb); have n1_ := Aside0.mk (blk_below (g := gb204) (o := .cells #[.int .u8 a4_0, .int .u8 a4_1, .int .u32 a4_2, .slice A4_3 l4_3.length c4_3, .slice A4_4 l4_4.length c4_4] 28 (0, 0)) (by (with_reducible repeat (first | refine blk_drewN ?_ _ | refine blk_drew ?_ | refine blk_alloc ?_ _)); exact BK204.out) hb); have n2_ := Aside0.mk (below_step (by repeat (first | (with_reducible first | exact HB.out | apply below_alloc | apply pw_below_drewN | apply below_drew1 | refine below_set ?_ GE204.out) | exact HB.out)) hb); clear HO212; clear BK204; clear HB; have HO212 := n0_; have BK204 := n1_; have HB := n2_; clear n0_ n1_ n2_; (try clear hb); (try clear hb2); (try clear hk); (try clear hi)))
                                  go_roundg k3
                                  case measure => have := HJ5.out; have := HJ15.out; have := HK3.out; omega
                                  case rel => exact ⟨(wrap64 (x75_3 + 1)), (by first | rfl | (simp; done) | (simp [*]; done)), H', ⟨by have := HJ5.out; have := HJ15.out; have := HK3.out; omega⟩, ⟨by (with_reducible repeat (first | refine blk_drewN ?_ _ | refine blk_drew ?_ | refine blk_alloc ?_ _)); exact BK204.out⟩, ⟨by repeat (first | (with_reducible first | exact HB.out | apply below_alloc | apply pw_below_drewN | apply below_drew1 | refine below_set ?_ GE204.out) | exact HB.out)⟩⟩
                                · replace c31 := Bool.eq_false_iff.mpr c31
                                  subst c31
                                  have H1 : (some true) = some r := by rw [if_neg (show ¬ (false = true) by decide)] at H; exact H
                                  clear H
                                  have H := H1
                                  clear H1
                                  obtain rfl := Option.some.inj H
                                  have p207 : 0 ≤ (x75_3 : Int) := of_decide_eq_true (by first | (with_reducible assumption) | assumption)
                                  have q207 : x75_3 < (l0.length : Int) := of_decide_eq_true (by first | (with_reducible assumption) | assumption)
                                  obtain ⟨ad207, e207, hx207_0⟩ := Kd.at_int HR0.out x75_3 p207 q207
                                  cases e207
                                  replace hx207_0 := (HB.out.cell (World.block_lt_of_cell? w _ hx207_0)).trans hx207_0
                                  replace p207 := eq_true p207
                                  replace q207 := eq_true q207
                                  have p208 : 0 ≤ (x75_3 : Int) := of_decide_eq_true (by first | (with_reducible assumption) | assumption)
                                  have q208 : x75_3 < (l1.length : Int) := of_decide_eq_true (by first | (with_reducible assumption) | assumption)
                                  obtain ⟨ad208, e208, hx208_0⟩ := Kd.at_int HR1.out x75_3 p208 q208
                                  cases e208
                                  replace hx208_0 := (HB.out.cell (World.block_lt_of_cell? w _ hx208_0)).trans hx208_0
                                  replace p208 := eq_true p208
                                  replace q208 := eq_true q208
                                  have p209 : 0 ≤ (x75_3 : Int) := of_decide_eq_true (by first | (with_reducible assumption) | assumption)
                                  have q209 : x75_3 < (l2.length : Int) := of_decide_eq_true (by first | (with_reducible assumption) | assumption)
                                  obtain ⟨ad209, e209, hx209_0⟩ := Kd.at_string HR2.out x75_3 p209 q209
                                  cases e209
                                  replace hx209_0 := (HB.out.cell (World.block_lt_of_cell? w _ hx209_0)).trans hx209_0
                                  replace p209 := eq_true p209
                                  replace q209 := eq_true q209
                                  go_wp2_with (first | ((with_reducible refine gate_dst (N := 96) rfl ?_); (try (refine gate_guard (by rfl) ?_; dsimp only)); refine Kd.R_lit k32 _ 32 ?hg (N := 96) ?hd (xs := ([(⟨(⟨#[]⟩ : ByteArray), rdOf ByteArray.empty l2 x75_3⟩ : S32)] : List (S32))) (inner := [.string (⟨#[]⟩ : ByteArray), .string (rdOf ByteArray.empty l2 x75_3)]) (ok := fun _ => True) (okp := fun _ => True) ?hr ?hp (fun _ hk => hk) trivial (Below.refl _ _) (Nat.le_refl _) (by simp) ?_; (case hd => rfl); (case hg => rfl); (case hr => first | (go_simp; done) | (go_simp; rfl)); (case hp => exact (Reps.c2 (show Kd.M k32 _ _ _ (⟨(⟨#[]⟩ : ByteArray), rdOf ByteArray.empty l2 x75_3⟩ : S32) [.string (⟨#[]⟩ : ByteArray), .string (rdOf ByteArray.empty l2 x75_3)] from (k32_mkM _ _ _ (⟨(⟨#[]⟩ : ByteArray), rdOf ByteArray.empty l2 x75_3⟩ : S32) )) (Reps.none _ _))); intro v211 w36 ho37 hb hg_ hnew_; clear hg_ hnew_; (first | rw [← Ny210.out] at ho37 | (simp only [Int.reduceToNat] at ho37; rw [← Ny210.out] at ho37)); have n0_ := Aside0.mk (Kd.R_lower ho37 (below_size (by repeat (first | (with_reducible first | exact HB.out | apply below_alloc | apply pw_below_drewN | apply below_drew1 | refine below_set ?_ GE204.out) | exact HB.out)))); have n1_ := Aside0.mk (blk_below (g := gb204) (o := .cells #[.int .u8 a4_0, .int .u8 a4_1, .int .u32 a4_2, .slice A4_3 l4_3.length c4_3, .slice A4_4 l4_4.length c4_4] 28 (0, 0)) (by (with_reducible repeat (first | refine blk_drewN ?_ _ | refine blk_drew ?_ | refine blk_alloc ?_ _)); exact BK204.out) hb); have n2_ := Aside0.mk (below_step (by repeat (first | (with_reducible first | exact HB.out | apply below_alloc | apply pw_below_drewN | apply below_drew1 | refine below_set ?_ GE204.out) | exact HB.out)) hb); clear BK204; clear HB; have HO212 := n0_; have BK204 := n1_; have HB := n2_; clear n0_ n1_ n2_; clear hb ho37; obtain ⟨Ao38, co38, eo38⟩ := Kd.R_slice HO212.out; subst eo38) | (go_at_call 7; (with_reducible refine (laws_mtPlain.calls k3 _ _ y210 false _ ?side1 ?side2 A30.out).mono ?_); (case side1 => repeat (first | exact (Kd.R_reads' HO212.out).2.2 | (with_reducible refine Kd.C_alloc ?_ _) | (with_reducible refine Kd.C_drewN ?_ _) | (with_reducible refine Kd.C_drew ?_))); (case side2 => exact (Kd.R_reads' HO212.out).2.1); rintro e w39 ⟨rfl, hb⟩; have n0_ := Aside0.mk (Kd.R_below (by (with_reducible repeat (first | apply Kd.R_alloc | apply Kd.R_drewN | apply Kd.R_drew)); exact HO212.out) hb); have n1_ := Aside0.mk (blk_below (g := gb204) (o := .cells #[.int .u8 a4_0, .int .u8 a4_1, .int .u32 a4_2, .slice A4_3 l4_3.length c4_3, .slice A4_4 l4_4.length c4_4] 28 (0, 0)) (by (with_reducible repeat (first | refine blk_drewN ?_ _ | refine blk_drew ?_ | refine blk_alloc ?_ _)); exact BK204.out) hb); have n2_ := Aside0.mk (below_step (by repeat (first | (with_reducible first | exact HB.out | apply below_alloc | apply pw_below_drewN | apply below_drew1 | refine below_set ?_ GE204.out) | exact HB.out)) hb); clear HO212; clear BK204; clear HB; have HO212 := n0_; have BK204 := n1_; have HB := n2_; clear n0_ n1_ n2_; (try clear hb); (try clear hb2); (try clear hk); (try clear hi)))
                                  go_ret
                                  exact ⟨by first | rfl | (simp [errW_none, errW_some] <;> rfl) | (simp [*, errW_none, errW_some] <;> rfl), by repeat (first | (with_reducible first | exact HB.out | apply below_alloc | apply pw_below_drewN | apply below_drew1 | refine below_set ?_ GE204.out) | exact HB.out)⟩
                              · rw [if_neg c29] at H
                                exact absurd H (by simp)
                          · rw [if_neg c27] at H
                            exact absurd H (by simp)
                      · rw [if_neg c25] at H
                        exact absurd H (by simp)
                    · rw [if_neg c24] at H
                      exact absurd H (by simp)
                  · rw [if_neg c23] at H
                    have c23b0 : decide (x75_3 < (l0.length : Int)) = false := decide_eq_false c23
                    clear c23
                    have H' := Aside0.mk H
                    clear H
                    go_wp2
                    go_loopg [13, 103] k3 (fun kq v13 v103 w' => ∃ (x13_4 : List (S32)) (x103_4 : Int), v103 = .int .i64 x103_4 ∧ Aside0 (laws_FnMtRuleOrder.l1 kq l0 l1 l2 a3 (l0.length : Int) x13_4 (l0.length : Int) x103_4 a4_0 a4_1 a4_2 l4_3 l4_4 = some r) ∧ Aside0 (kq ≤ k3) ∧ Aside0 (Kd.R k32 32 w' w.heap.size (fun _ => True) v13 x13_4) ∧ Aside0 (w'.heap[gb204]? = some (.cells #[.int .u8 a4_0, .int .u8 a4_1, .int .u32 a4_2, (.slice A4_3 l4_3.length c4_3), (.slice A4_4 l4_4.length c4_4)] 28 (0, 0))) ∧ Aside0 (Below w.heap.size w w'))
                    case atStart => exact ⟨(([] : List (S32))), (0), (by first | rfl | (simp; done) | (simp [*]; done)), H', ⟨Nat.le_refl _⟩, ⟨by first | exact Kd.R_nil _ _ _ _ _ | exact Kd.N_nil _ _ _ _ _ | exact Kd.V_nil _ _ _ _ _ | exact Kd.Q_nil _ _ _ _ _ | exact Kd.S_nil _ _ _ _ _⟩, ⟨by (with_reducible repeat (first | refine blk_drewN ?_ _ | refine blk_drew ?_ | refine blk_alloc ?_ _)); exact BK204.out⟩, ⟨by repeat (first | (with_reducible first | exact HB.out | apply below_alloc | apply pw_below_drewN | apply below_drew1 | refine below_set ?_ GE204.out) | exact HB.out)⟩⟩
                    case round => as_aux_lemma =>
                      clear H'
                      try clear c1
                      try clear c2
                      try clear p2
                      try clear q2
                      try clear hx2
                      try clear c3
                      try clear c4
                      try clear p6
                      try clear c8
                      try clear c8b0
                      try clear c8b1
                      try clear c9
                      try clear c9b0
                      try clear c9b1
                      try clear c11
                      try clear c15
                      try clear c17
                      try clear c17b0
                      try clear c17b1
                      try clear c17b2
                      try clear c18
                      try clear c18b0
                      try clear c18b1
                      try clear c19
                      try clear c19b0
                      try clear c19b1
                      try clear c19b2
                      try clear c20
                      try clear c20b0
                      try clear c20b1
                      try clear c20b2
                      try clear p20
                      try clear q20
                      try clear hx20
                      try clear c22
                      try clear c23
                      try clear c23b0
                      try clear c24
                      try clear c24b0
                      try clear c25
                      try clear c25b0
                      try clear c26
                      try clear c26b0
                      try clear c27
                      try clear c27b0
                      try clear c28
                      try clear c28b0
                      try clear c29
                      try clear c29b0
                      try clear c31
                      try clear hcz13_0
                      try clear hcz13_1
                      try clear hcz13_2
                      try clear hcz13_3
                      try clear hcz13_4
                      try clear hcz21_0
                      try clear hcz21_1
                      try clear hcz21_2
                      try clear hcz21_3
                      try clear hcz21_4
                      try clear hfz13_0
                      try clear hfz13_1
                      try clear hfz13_2
                      try clear hfz13_3
                      try clear hfz13_4
                      try clear hfz21_0
                      try clear hfz21_1
                      try clear hfz21_2
                      try clear hfz21_3
                      try clear hfz21_4
                      try clear hx207_0
                      try clear hx208_0
                      try clear hx209_0
                      try clear p2
                      try clear p207
                      try clear p208
                      try clear p209
                      try clear q207
                      try clear q208
                      try clear q209
                      obtain ⟨x13_4, x103_4, rfl, HA, HK4, HO_13, BK204, HB⟩ := hrel
                      cases gk with
                      | zero => exact absurd HA.out (by simp [laws_FnMtRuleOrder.l1])
                      | succ k4 =>
                        have H := HA.out
                        clear HA
                        simp only [laws_FnMtRuleOrder.l1] at H
                        by_cases c40 : x103_4 < (l0.length : Int)
                        · rw [if_pos c40] at H
                          have c40b0 : decide (x103_4 < (l0.length : Int)) = true := decide_eq_true c40
                          clear c40
                          by_cases c41 : 0 ≤ x103_4
                          · rw [if_pos c41] at H
                            have c41b0 : decide (0 ≤ x103_4) = true := decide_eq_true c41
                            clear c41
                            by_cases c42 : x103_4 < (l0.length : Int)
                            · rw [if_pos c42] at H
                              have c42b0 : decide (x103_4 < (l0.length : Int)) = true := decide_eq_true c42
                              clear c42
                              by_cases c43 : x103_4 < (l1.length : Int)
                              · rw [if_pos c43] at H
                                have c43b0 : decide (x103_4 < (l1.length : Int)) = true := decide_eq_true c43
                                clear c43
                                by_cases c44 : x103_4 < (l2.length : Int)
                                · rw [if_pos c44] at H
                                  have c44b0 : decide (x103_4 < (l2.length : Int)) = true := decide_eq_true c44
                                  clear c44
                                  replace H := Option.bind_eq_some_iff.mp H
                                  obtain ⟨⟨t217, t218, t219⟩, A450, H⟩ := H
                                  replace H : (if t219 = true then (if x13_4.length < 4398046511104 then (laws_FnMtRuleOrder.l1 k4 l0 l1 l2 a3 (l0.length : Int) (x13_4 ++ [(⟨t217, t218⟩ : S32)]) (l0.length : Int) (wrap64 (x103_4 + 1)) a4_0 a4_1 a4_2 l4_3 l4_4) else (none)) else (some false)) = some r := H
                                  have A45 := Aside0.mk A450
                                  clear A450
                                  by_cases c46 : t219 = true
                                  · subst c46
                                    have H1 : (if x13_4.length < 4398046511104 then (laws_FnMtRuleOrder.l1 k4 l0 l1 l2 a3 (l0.length : Int) (x13_4 ++ [(⟨t217, t218⟩ : S32)]) (l0.length : Int) (wrap64 (x103_4 + 1)) a4_0 a4_1 a4_2 l4_3 l4_4) else (none)) = some r := by rw [if_pos rfl] at H; exact H
                                    clear H
                                    have H := H1
                                    clear H1
                                    by_cases c47 : x13_4.length < 4398046511104
                                    · rw [if_pos c47] at H
                                      have LMc47 := Aside0.mk c47
                                      clear c47
                                      obtain ⟨y220, hy220⟩ : ∃ y_ : List (S32), y_ = (x13_4 ++ [(⟨t217, t218⟩ : S32)]) := ⟨_, rfl⟩
                                      replace H : (laws_FnMtRuleOrder.l1 k4 l0 l1 l2 a3 (l0.length : Int) y220 (l0.length : Int) (wrap64 (x103_4 + 1)) a4_0 a4_1 a4_2 l4_3 l4_4) = some r := by first | (rw [hy220]; with_reducible exact H) | (have H2_ := (Option.bind_some _ _).symm.trans H; rw [hy220]; with_reducible exact H2_) | (have H2_ := (Option.bind_some _ _).symm.trans H; with_reducible exact H2_) | with_reducible exact H | (rw [hy220]; exact H) | exact H
                                      have Ny220 := Aside0.mk hy220
                                      clear hy220
                                      have H' := Aside0.mk H
                                      clear H
                                      try go_wp2
                                      have n0_ := Aside0.mk (Kd.R_drew HO_13.out)
                                      have n1_ := Aside0.mk (blk_drew BK204.out)
                                      have n2_ := Aside0.mk (below_drew1 HB.out)
                                      clear HO_13
                                      clear BK204
                                      clear HB
                                      have HO_13 := n0_
                                      have BK204 := n1_
                                      have HB := n2_
                                      clear n0_ n1_ n2_
                                      have p214 : 0 ≤ (x103_4 : Int) := of_decide_eq_true (by first | (with_reducible assumption) | assumption)
                                      have q214 : x103_4 < (l0.length : Int) := of_decide_eq_true (by first | (with_reducible assumption) | assumption)
                                      obtain ⟨ad214, e214, hx214_0⟩ := Kd.at_int HR0.out x103_4 p214 q214
                                      have hw214_0 := hx214_0
                                      cases e214
                                      replace hx214_0 := (HB.out.cell (World.block_lt_of_cell? w _ hx214_0)).trans hx214_0
                                      replace p214 := eq_true p214
                                      replace q214 := eq_true q214
                                      have p215 : 0 ≤ (x103_4 : Int) := of_decide_eq_true (by first | (with_reducible assumption) | assumption)
                                      have q215 : x103_4 < (l1.length : Int) := of_decide_eq_true (by first | (with_reducible assumption) | assumption)
                                      obtain ⟨ad215, e215, hx215_0⟩ := Kd.at_int HR1.out x103_4 p215 q215
                                      have hw215_0 := hx215_0
                                      cases e215
                                      replace hx215_0 := (HB.out.cell (World.block_lt_of_cell? w _ hx215_0)).trans hx215_0
                                      replace p215 := eq_true p215
                                      replace q215 := eq_true q215
                                      have p216 : 0 ≤ (x103_4 : Int) := of_decide_eq_true (by first | (with_reducible assumption) | assumption)
                                      have q216 : x103_4 < (l2.length : Int) := of_decide_eq_true (by first | (with_reducible assumption) | assumption)
                                      obtain ⟨ad216, e216, hx216_0⟩ := Kd.at_string HR2.out x103_4 p216 q216
                                      have hw216_0 := hx216_0
                                      cases e216
                                      replace hx216_0 := (HB.out.cell (World.block_lt_of_cell? w _ hx216_0)).trans hx216_0
                                      replace p216 := eq_true p216
                                      replace q216 := eq_true q216
                                      refine start_ (n := 22) (S := fun w' => w'.cell? (ad214.add (x103_4).toNat) = some (.int .u8 (rd l0 x103_4)) ∧ w'.cell? (ad215.add (x103_4).toNat) = some (.int .u8 (rd l1 x103_4)) ∧ w'.cell? (ad216.add (x103_4).toNat) = some (.string (rdOf ByteArray.empty l2 x103_4))) (ds := []) #[false, false, false, false, false, false, false, false, false, false, false, false, false, false, false, false, false, false, false, false, false, false] (by kernel_rfl) rfl rfl ⟨((HB.out.cell (World.block_lt_of_cell? w _ hw214_0)).trans hw214_0), ((HB.out.cell (World.block_lt_of_cell? w _ hw215_0)).trans hw215_0), ((HB.out.cell (World.block_lt_of_cell? w _ hw216_0)).trans hw216_0)⟩ (fun hHeld => ?_); refine with_tabW laws_FnMtRuleOrder.tab16 laws_FnMtRuleOrder.bits16 (fun HT_ HW_ => ?_)
                                      generalize wr.drew = w48 at HO_13 BK204 HB hx214_0 hx215_0 hx216_0 hHeld ⊢
                                      refine pure_ (i := 0) (N := some 107) (v := ?_) (a' := ?_) #[true, false, false, false, false, false, false, false, false, false, false, false, false, false, false, false, false, false, false, false, false, false] rfl rfl (any_of HT_.out (by kernel_rfl)) (fun _ _ _ h => h) (Or.inl ⟨by rfl, ?_⟩) ?_ ?_
                                      rotate_left
                                      · intro w'
                                        go_simp
                                        with_reducible rfl
                                      rotate_left
                                      · simp only [Act.put, List.setIfInBounds_toArray, List.set_cons_zero, List.set_cons_succ, i64_w, i32_w]
                                        rfl
                                      refine pure_ (i := 1) (N := some 108) (v := ?_) (a' := ?_) #[true, true, false, false, false, false, false, false, false, false, false, false, false, false, false, false, false, false, false, false, false, false] rfl rfl (any_of HT_.out (by kernel_rfl)) (fun _ _ _ h => h) (Or.inl ⟨by rfl, ?_⟩) ?_ ?_
                                      rotate_left
                                      · intro w'
                                        go_simp
                                        with_reducible rfl
                                      rotate_left
                                      · simp only [Act.put, List.setIfInBounds_toArray, List.set_cons_zero, List.set_cons_succ, i64_w, i32_w]
                                        rfl
                                      refine pure_ (i := 2) (N := some 109) (v := ?_) (a' := ?_) #[true, true, true, false, false, false, false, false, false, false, false, false, false, false, false, false, false, false, false, false, false, false] rfl rfl (any_of HT_.out (by kernel_rfl)) (fun _ _ _ h => h) (Or.inl ⟨by rfl, ?_⟩) ?_ ?_
                                      rotate_left
                                      · intro w'
                                        go_simp
                                        with_reducible rfl
                                      rotate_left
                                      · simp only [Act.put, List.setIfInBounds_toArray, List.set_cons_zero, List.set_cons_succ, i64_w, i32_w]
                                        rfl
                                      refine pure_ (i := 5) (N := some 112) (v := ?_) (a' := ?_) #[true, true, true, false, false, true, false, false, false, false, false, false, false, false, false, false, false, false, false, false, false, false] rfl rfl (any_of HT_.out (by kernel_rfl)) (fun _ _ _ h => h) (Or.inl ⟨by rfl, ?_⟩) ?_ ?_
                                      rotate_left
                                      · intro w'
                                        go_simp
                                        with_reducible rfl
                                      rotate_left
                                      · simp only [Act.put, List.setIfInBounds_toArray, List.set_cons_zero, List.set_cons_succ, i64_w, i32_w]
                                        rfl
                                      refine pure_ (i := 6) (N := some 113) (v := ?_) (a' := ?_) #[true, true, true, false, false, true, true, false, false, false, false, false, false, false, false, false, false, false, false, false, false, false] rfl rfl (any_of HT_.out (by kernel_rfl)) (fun _ _ _ h => h) (Or.inl ⟨by rfl, ?_⟩) ?_ ?_
                                      rotate_left
                                      · intro w'
                                        go_simp
                                        with_reducible rfl
                                      rotate_left
                                      · simp only [Act.put, List.setIfInBounds_toArray, List.set_cons_zero, List.set_cons_succ, i64_w, i32_w]
                                        rfl
                                      refine pure_ (i := 7) (N := some 114) (v := ?_) (a' := ?_) #[true, true, true, false, false, true, true, true, false, false, false, false, false, false, false, false, false, false, false, false, false, false] rfl rfl (any_of HT_.out (by kernel_rfl)) (fun _ _ _ h => h) (Or.inl ⟨by rfl, ?_⟩) ?_ ?_
                                      rotate_left
                                      · intro w'
                                        go_simp
                                        with_reducible rfl
                                      rotate_left
                                      · simp only [Act.put, List.setIfInBounds_toArray, List.set_cons_zero, List.set_cons_succ, i64_w, i32_w]
                                        rfl
                                      refine pure_ (i := 10) (N := some 117) (v := ?_) (a' := ?_) #[true, true, true, false, false, true, true, true, false, false, true, false, false, false, false, false, false, false, false, false, false, false] rfl rfl (any_of HT_.out (by kernel_rfl)) (fun _ _ _ h => h) (Or.inl ⟨by rfl, ?_⟩) ?_ ?_
                                      rotate_left
                                      · intro w'
                                        go_simp
                                        with_reducible rfl
                                      rotate_left
                                      · simp only [Act.put, List.setIfInBounds_toArray, List.set_cons_zero, List.set_cons_succ, i64_w, i32_w]
                                        rfl
                                      refine pure_ (i := 11) (N := some 118) (v := ?_) (a' := ?_) #[true, true, true, false, false, true, true, true, false, false, true, true, false, false, false, false, false, false, false, false, false, false] rfl rfl (any_of HT_.out (by kernel_rfl)) (fun _ _ _ h => h) (Or.inl ⟨by rfl, ?_⟩) ?_ ?_
                                      rotate_left
                                      · intro w'
                                        go_simp
                                        with_reducible rfl
                                      rotate_left
                                      · simp only [Act.put, List.setIfInBounds_toArray, List.set_cons_zero, List.set_cons_succ, i64_w, i32_w]
                                        rfl
                                      refine pure_ (i := 12) (N := some 119) (v := ?_) (a' := ?_) #[true, true, true, false, false, true, true, true, false, false, true, true, true, false, false, false, false, false, false, false, false, false] rfl rfl (any_of HT_.out (by kernel_rfl)) (fun _ _ _ h => h) (Or.inl ⟨by rfl, ?_⟩) ?_ ?_
                                      rotate_left
                                      · intro w'
                                        go_simp
                                        with_reducible rfl
                                      rotate_left
                                      · simp only [Act.put, List.setIfInBounds_toArray, List.set_cons_zero, List.set_cons_succ, i64_w, i32_w]
                                        rfl
                                      refine take_ (i := 3) (N := some 110) (v := ?_) (a' := ?_) #[true, true, true, true, false, true, true, true, false, false, true, true, true, false, false, false, false, false, false, false, false, false] rfl rfl (take_ofW HT_.out HW_.out (by kernel_rfl)) (fun _ _ _ h => h) (Or.inl ⟨by rfl, ?_⟩) hHeld ?_ ?_
                                      rotate_left
                                      · rintro w' ⟨s0, s1, s2⟩
                                        go_simp
                                        with_reducible rfl
                                      rotate_left
                                      · simp only [Act.put, List.setIfInBounds_toArray, List.set_cons_zero, List.set_cons_succ, i64_w, i32_w]
                                        rfl
                                      refine pure_ (i := 4) (N := some 111) (v := ?_) (a' := ?_) #[true, true, true, true, true, true, true, true, false, false, true, true, true, false, false, false, false, false, false, false, false, false] rfl rfl (any_of HT_.out (by kernel_rfl)) (fun _ _ _ h => h) (Or.inl ⟨by rfl, ?_⟩) ?_ ?_
                                      rotate_left
                                      · intro w'
                                        go_simp
                                        with_reducible rfl
                                      rotate_left
                                      · simp only [Act.put, List.setIfInBounds_toArray, List.set_cons_zero, List.set_cons_succ, i64_w, i32_w]
                                        rfl
                                      refine take_ (i := 8) (N := some 115) (v := ?_) (a' := ?_) #[true, true, true, true, true, true, true, true, true, false, true, true, true, false, false, false, false, false, false, false, false, false] rfl rfl (take_ofW HT_.out HW_.out (by kernel_rfl)) (fun _ _ _ h => h) (Or.inl ⟨by rfl, ?_⟩) hHeld ?_ ?_
                                      rotate_left
                                      · rintro w' ⟨s0, s1, s2⟩
                                        go_simp
                                        with_reducible rfl
                                      rotate_left
                                      · simp only [Act.put, List.setIfInBounds_toArray, List.set_cons_zero, List.set_cons_succ, i64_w, i32_w]
                                        rfl
                                      refine pure_ (i := 9) (N := some 116) (v := ?_) (a' := ?_) #[true, true, true, true, true, true, true, true, true, true, true, true, true, false, false, false, false, false, false, false, false, false] rfl rfl (any_of HT_.out (by kernel_rfl)) (fun _ _ _ h => h) (Or.inl ⟨by rfl, ?_⟩) ?_ ?_
                                      rotate_left
                                      · intro w'
                                        go_simp
                                        with_reducible rfl
                                      rotate_left
                                      · simp only [Act.put, List.setIfInBounds_toArray, List.set_cons_zero, List.set_cons_succ, i64_w, i32_w]
                                        rfl
                                      refine take_ (i := 13) (N := some 120) (v := ?_) (a' := ?_) #[true, true, true, true, true, true, true, true, true, true, true, true, true, true, false, false, false, false, false, false, false, false] rfl rfl (take_ofW HT_.out HW_.out (by kernel_rfl)) (fun _ _ _ h => h) (Or.inl ⟨by rfl, ?_⟩) hHeld ?_ ?_
                                      rotate_left
                                      · rintro w' ⟨s0, s1, s2⟩
                                        go_simp
                                        with_reducible rfl
                                      rotate_left
                                      · simp only [Act.put, List.setIfInBounds_toArray, List.set_cons_zero, List.set_cons_succ, i64_w, i32_w]
                                        rfl
                                      refine one_ (i := 14) (N := some 121) #[true, true, true, true, true, true, true, true, true, true, true, true, true, true, true, false, false, false, false, false, false, false] rfl rfl (one_of HT_.out (by kernel_rfl)) (by decide) (fun K hK => ?_)
                                      refine goes_ Tryd.func8 (by kernel_rfl) rfl #[.int .i64 (wrap64 (rd l0 x103_4)), .int .i64 (wrap64 (rd l1 x103_4)), .string (rdOf ByteArray.empty l2 x103_4)] (by rfl) rfl rfl (by (try simp only [List.map_toArray, List.map_cons, List.map_nil]); first | done | rfl | (simp only [List.length_drop, List.length_take]; rfl)) ?_
                                      with_reducible refine (impl_MtWith.calls (wrap64 (rd l0 x103_4)) (wrap64 (rd l1 x103_4)) (rdOf ByteArray.empty l2 x103_4) t217 t218 true _ A45.out).mono ?_
                                      rintro e w49 ⟨rfl, hb⟩
                                      refine ⟨_, rfl, ?_⟩
                                      have n0_ := Aside0.mk (Kd.R_below (by (with_reducible repeat (first | apply Kd.R_alloc | apply Kd.R_drewN | apply Kd.R_drew)); exact HO_13.out) hb)
                                      have n1_ := Aside0.mk (blk_below (g := gb204) (o := .cells #[.int .u8 a4_0, .int .u8 a4_1, .int .u32 a4_2, .slice A4_3 l4_3.length c4_3, .slice A4_4 l4_4.length c4_4] 28 (0, 0)) (by (with_reducible repeat (first | refine blk_drewN ?_ _ | refine blk_drew ?_ | refine blk_alloc ?_ _)); exact BK204.out) hb)
                                      have n2_ := Aside0.mk (below_step (by repeat (first | (with_reducible first | exact HB.out | apply below_alloc | apply pw_below_drewN | apply below_drew1 | refine below_set ?_ GE204.out) | exact HB.out)) hb)
                                      clear HO_13
                                      clear BK204
                                      clear HB
                                      have HO_13 := n0_
                                      have BK204 := n1_
                                      have HB := n2_
                                      clear n0_ n1_ n2_
                                      (try clear hb)
                                      (try clear hb2)
                                      (try clear hk)
                                      (try clear hi)
                                      refine hK.out _ _ ⟨((HB.out.cell (World.block_lt_of_cell? w _ hw214_0)).trans hw214_0), ((HB.out.cell (World.block_lt_of_cell? w _ hw215_0)).trans hw215_0), ((HB.out.cell (World.block_lt_of_cell? w _ hw216_0)).trans hw216_0)⟩ (fun hHeld => ?_)
                                      clear hK K
                                      refine norm_ (a' := ?_) ?_ ?_
                                      rotate_left
                                      · show Act.put _ (some 121) _ = _
                                        simp only [Act.put, List.setIfInBounds_toArray, List.set_cons_zero, List.set_cons_succ, i64_w, i32_w]
                                        rfl
                                      refine pure_ (i := 15) (N := some 106) (v := ?_) (a' := ?_) #[true, true, true, true, true, true, true, true, true, true, true, true, true, true, true, true, false, false, false, false, false, false] rfl rfl (any_of HT_.out (by kernel_rfl)) (fun _ _ _ h => h) (Or.inl ⟨by rfl, ?_⟩) ?_ ?_
                                      rotate_left
                                      · intro w'
                                        go_simp
                                        with_reducible rfl
                                      rotate_left
                                      · simp only [Act.put, List.setIfInBounds_toArray, List.set_cons_zero, List.set_cons_succ, i64_w, i32_w]
                                        rfl
                                      refine pure_ (i := 16) (N := some 122) (v := ?_) (a' := ?_) #[true, true, true, true, true, true, true, true, true, true, true, true, true, true, true, true, true, false, false, false, false, false] rfl rfl (any_of HT_.out (by kernel_rfl)) (fun _ _ _ h => h) (Or.inl ⟨by rfl, ?_⟩) ?_ ?_
                                      rotate_left
                                      · intro w'
                                        go_simp
                                        with_reducible rfl
                                      rotate_left
                                      · simp only [Act.put, List.setIfInBounds_toArray, List.set_cons_zero, List.set_cons_succ, i64_w, i32_w]
                                        rfl
                                      refine pure_ (i := 17) (N := some 123) (v := ?_) (a' := ?_) #[true, true, true, true, true, true, true, true, true, true, true, true, true, true, true, true, true, true, false, false, false, false] rfl rfl (any_of HT_.out (by kernel_rfl)) (fun _ _ _ h => h) (Or.inl ⟨by rfl, ?_⟩) ?_ ?_
                                      rotate_left
                                      · intro w'
                                        go_simp
                                        with_reducible rfl
                                      rotate_left
                                      · simp only [Act.put, List.setIfInBounds_toArray, List.set_cons_zero, List.set_cons_succ, i64_w, i32_w]
                                        rfl
                                      refine pure_ (i := 18) (N := some 124) (v := ?_) (a' := ?_) #[true, true, true, true, true, true, true, true, true, true, true, true, true, true, true, true, true, true, true, false, false, false] rfl rfl (any_of HT_.out (by kernel_rfl)) (fun _ _ _ h => h) (Or.inl ⟨by rfl, ?_⟩) ?_ ?_
                                      rotate_left
                                      · intro w'
                                        go_simp
                                        with_reducible rfl
                                      rotate_left
                                      · simp only [Act.put, List.setIfInBounds_toArray, List.set_cons_zero, List.set_cons_succ, i64_w, i32_w]
                                        rfl
                                      refine pure_ (i := 19) (N := some 15) (v := ?_) (a' := ?_) #[true, true, true, true, true, true, true, true, true, true, true, true, true, true, true, true, true, true, true, true, false, false] rfl rfl (any_of HT_.out (by kernel_rfl)) (fun _ _ _ h => h) (Or.inl ⟨by rfl, ?_⟩) ?_ ?_
                                      rotate_left
                                      · intro w'
                                        go_simp
                                        with_reducible rfl
                                      rotate_left
                                      · simp only [Act.put, List.setIfInBounds_toArray, List.set_cons_zero, List.set_cons_succ, i64_w, i32_w]
                                        rfl
                                      refine pure_ (i := 20) (N := some 16) (v := ?_) (a' := ?_) #[true, true, true, true, true, true, true, true, true, true, true, true, true, true, true, true, true, true, true, true, true, false] rfl rfl (any_of HT_.out (by kernel_rfl)) (fun _ _ _ h => h) (Or.inl ⟨by rfl, ?_⟩) ?_ ?_
                                      rotate_left
                                      · intro w'
                                        go_simp
                                        with_reducible rfl
                                      rotate_left
                                      · simp only [Act.put, List.setIfInBounds_toArray, List.set_cons_zero, List.set_cons_succ, i64_w, i32_w]
                                        rfl
                                      refine pure_ (i := 21) (N := some 17) (v := ?_) (a' := ?_) #[true, true, true, true, true, true, true, true, true, true, true, true, true, true, true, true, true, true, true, true, true, true] rfl rfl (any_of HT_.out (by kernel_rfl)) (fun _ _ _ h => h) (Or.inl ⟨by rfl, ?_⟩) ?_ ?_
                                      rotate_left
                                      · intro w'
                                        go_simp
                                        with_reducible rfl
                                      rotate_left
                                      · simp only [Act.put, List.setIfInBounds_toArray, List.set_cons_zero, List.set_cons_succ, i64_w, i32_w]
                                        rfl
                                      refine done_ (done_of HT_.out (by kernel_rfl)) ?_
                                      try go_wp2_with (first | ((with_reducible refine gate_builtin (b := .append) (xs := #[.tmp 127, .tmp 131]) rfl ?_); (try (refine gate_guard (by rfl) ?_; dsimp only)); at_builtin; refine Kd.R_append k32 (w0 := w) w.heap.size rfl (.tmp 127) (.tmp 131) 33 32 (.agg #[(.string ⟨#[]⟩), (.string ⟨#[]⟩)]) 32 rfl Tryd.underlying33 info32 rfl (by decide) (by omega) u13 x13_4 (⟨t217, t218⟩ : S32) [.string t217, .string t218] (fun _ => True) (fun _ => False) rfl rfl ?aP (fun _ hk => hk.elim) ?aF ?aO ?aB ?aS ?aL ?_; (case aP => exact k32_mkM _ _ _ (⟨t217, t218⟩ : S32)); (case aB => exact (by repeat (first | (with_reducible first | exact HB.out | apply below_alloc | apply pw_below_drewN | apply below_drew1 | refine below_set ?_ GE204.out) | exact HB.out))); (case aF => exact (fun _ _ => trivial)); (case aO => exact (by (with_reducible repeat (first | apply Kd.R_alloc | apply Kd.R_drewN | apply Kd.R_drew)); exact HO_13.out)); (case aS => exact (below_size (by repeat (first | (with_reducible first | exact HB.out | apply below_alloc | apply pw_below_drewN | apply below_drew1 | refine below_set ?_ GE204.out) | exact HB.out)))); (case aL => have := LMc47.out; omega); intro v221 w50 ho hb hg hat; rw [← Ny220.out] at ho; have n0_ := Aside0.mk (blk_grown (g := gb204) (o := .cells #[.int .u8 a4_0, .int .u8 a4_1, .int .u32 a4_2, .slice A4_3 l4_3.length c4_3, .slice A4_4 l4_4.length c4_4] 28 (0, 0)) (by (with_reducible repeat (first | refine blk_drewN ?_ _ | refine blk_drew ?_ | refine blk_alloc ?_ _)); exact BK204.out) hg (Kd.R_ne HO_13.out BK204.out (by decide))); have n1_ := Aside0.mk (hb); have n2_ := Aside0.mk (ho); clear BK204; clear HB; clear HO_13; have BK204 := n0_; have HB := n1_; have HO222 := n2_; clear n0_ n1_ n2_; clear ho hb hg hat))
                                      go_roundg k4
                                      case measure => have := HJ5.out; have := HJ15.out; have := HK3.out; have := HK4.out; omega
                                      case rel => exact ⟨(y220), (wrap64 (x103_4 + 1)), (by first | rfl | (simp; done) | (simp [*]; done)), H', ⟨by have := HJ5.out; have := HJ15.out; have := HK3.out; have := HK4.out; omega⟩, ⟨by (with_reducible repeat (first | apply Kd.R_alloc | apply Kd.R_drewN | apply Kd.R_drew)); exact HO222.out⟩, ⟨by (with_reducible repeat (first | refine blk_drewN ?_ _ | refine blk_drew ?_ | refine blk_alloc ?_ _)); exact BK204.out⟩, ⟨by repeat (first | (with_reducible first | exact HB.out | apply below_alloc | apply pw_below_drewN | apply below_drew1 | refine below_set ?_ GE204.out) | exact HB.out)⟩⟩
                                    · rw [if_neg c47] at H
                                      exact absurd H (by simp)
                                  · replace c46 := Bool.eq_false_iff.mpr c46
                                    subst c46
                                    have H1 : (some false) = some r := by rw [if_neg (show ¬ (false = true) by decide)] at H; exact H
                                    clear H
                                    have H := H1
                                    clear H1
                                    obtain rfl := Option.some.inj H
                                    try go_wp2
                                    have n0_ := Aside0.mk (Kd.R_drew HO_13.out)
                                    have n1_ := Aside0.mk (blk_drew BK204.out)
                                    have n2_ := Aside0.mk (below_drew1 HB.out)
                                    clear HO_13
                                    clear BK204
                                    clear HB
                                    have HO_13 := n0_
                                    have BK204 := n1_
                                    have HB := n2_
                                    clear n0_ n1_ n2_
                                    have p214 : 0 ≤ (x103_4 : Int) := of_decide_eq_true (by first | (with_reducible assumption) | assumption)
                                    have q214 : x103_4 < (l0.length : Int) := of_decide_eq_true (by first | (with_reducible assumption) | assumption)
                                    obtain ⟨ad214, e214, hx214_0⟩ := Kd.at_int HR0.out x103_4 p214 q214
                                    have hw214_0 := hx214_0
                                    cases e214
                                    replace hx214_0 := (HB.out.cell (World.block_lt_of_cell? w _ hx214_0)).trans hx214_0
                                    replace p214 := eq_true p214
                                    replace q214 := eq_true q214
                                    have p215 : 0 ≤ (x103_4 : Int) := of_decide_eq_true (by first | (with_reducible assumption) | assumption)
                                    have q215 : x103_4 < (l1.length : Int) := of_decide_eq_true (by first | (with_reducible assumption) | assumption)
                                    obtain ⟨ad215, e215, hx215_0⟩ := Kd.at_int HR1.out x103_4 p215 q215
                                    have hw215_0 := hx215_0
                                    cases e215
                                    replace hx215_0 := (HB.out.cell (World.block_lt_of_cell? w _ hx215_0)).trans hx215_0
                                    replace p215 := eq_true p215
                                    replace q215 := eq_true q215
                                    have p216 : 0 ≤ (x103_4 : Int) := of_decide_eq_true (by first | (with_reducible assumption) | assumption)
                                    have q216 : x103_4 < (l2.length : Int) := of_decide_eq_true (by first | (with_reducible assumption) | assumption)
                                    obtain ⟨ad216, e216, hx216_0⟩ := Kd.at_string HR2.out x103_4 p216 q216
                                    have hw216_0 := hx216_0
                                    cases e216
                                    replace hx216_0 := (HB.out.cell (World.block_lt_of_cell? w _ hx216_0)).trans hx216_0
                                    replace p216 := eq_true p216
                                    replace q216 := eq_true q216
                                    refine start_ (n := 22) (S := fun w' => w'.cell? (ad214.add (x103_4).toNat) = some (.int .u8 (rd l0 x103_4)) ∧ w'.cell? (ad215.add (x103_4).toNat) = some (.int .u8 (rd l1 x103_4)) ∧ w'.cell? (ad216.add (x103_4).toNat) = some (.string (rdOf ByteArray.empty l2 x103_4))) (ds := []) #[false, false, false, false, false, false, false, false, false, false, false, false, false, false, false, false, false, false, false, false, false, false] (by kernel_rfl) rfl rfl ⟨((HB.out.cell (World.block_lt_of_cell? w _ hw214_0)).trans hw214_0), ((HB.out.cell (World.block_lt_of_cell? w _ hw215_0)).trans hw215_0), ((HB.out.cell (World.block_lt_of_cell? w _ hw216_0)).trans hw216_0)⟩ (fun hHeld => ?_); refine with_tabW laws_FnMtRuleOrder.tab16 laws_FnMtRuleOrder.bits16 (fun HT_ HW_ => ?_)
                                    generalize wr.drew = w51 at HO_13 BK204 HB hx214_0 hx215_0 hx216_0 hHeld ⊢
                                    refine pure_ (i := 0) (N := some 107) (v := ?_) (a' := ?_) #[true, false, false, false, false, false, false, false, false, false, false, false, false, false, false, false, false, false, false, false, false, false] rfl rfl (any_of HT_.out (by kernel_rfl)) (fun _ _ _ h => h) (Or.inl ⟨by rfl, ?_⟩) ?_ ?_
                                    rotate_left
                                    · intro w'
                                      go_simp
                                      with_reducible rfl
                                    rotate_left
                                    · simp only [Act.put, List.setIfInBounds_toArray, List.set_cons_zero, List.set_cons_succ, i64_w, i32_w]
                                      rfl
                                    refine pure_ (i := 1) (N := some 108) (v := ?_) (a' := ?_) #[true, true, false, false, false, false, false, false, false, false, false, false, false, false, false, false, false, false, false, false, false, false] rfl rfl (any_of HT_.out (by kernel_rfl)) (fun _ _ _ h => h) (Or.inl ⟨by rfl, ?_⟩) ?_ ?_
                                    rotate_left
                                    · intro w'
                                      go_simp
                                      with_reducible rfl
                                    rotate_left
                                    · simp only [Act.put, List.setIfInBounds_toArray, List.set_cons_zero, List.set_cons_succ, i64_w, i32_w]
                                      rfl
                                    refine pure_ (i := 2) (N := some 109) (v := ?_) (a' := ?_) #[true, true, true, false, false, false, false, false, false, false, false, false, false, false, false, false, false, false, false, false, false, false] rfl rfl (any_of HT_.out (by kernel_rfl)) (fun _ _ _ h => h) (Or.inl ⟨by rfl, ?_⟩) ?_ ?_
                                    rotate_left
                                    · intro w'
                                      go_simp
                                      with_reducible rfl
                                    rotate_left
                                    · simp only [Act.put, List.setIfInBounds_toArray, List.set_cons_zero, List.set_cons_succ, i64_w, i32_w]
                                      rfl
                                    refine pure_ (i := 5) (N := some 112) (v := ?_) (a' := ?_) #[true, true, true, false, false, true, false, false, false, false, false, false, false, false, false, false, false, false, false, false, false, false] rfl rfl (any_of HT_.out (by kernel_rfl)) (fun _ _ _ h => h) (Or.inl ⟨by rfl, ?_⟩) ?_ ?_
                                    rotate_left
                                    · intro w'
                                      go_simp
                                      with_reducible rfl
                                    rotate_left
                                    · simp only [Act.put, List.setIfInBounds_toArray, List.set_cons_zero, List.set_cons_succ, i64_w, i32_w]
                                      rfl
                                    refine pure_ (i := 6) (N := some 113) (v := ?_) (a' := ?_) #[true, true, true, false, false, true, true, false, false, false, false, false, false, false, false, false, false, false, false, false, false, false] rfl rfl (any_of HT_.out (by kernel_rfl)) (fun _ _ _ h => h) (Or.inl ⟨by rfl, ?_⟩) ?_ ?_
                                    rotate_left
                                    · intro w'
                                      go_simp
                                      with_reducible rfl
                                    rotate_left
                                    · simp only [Act.put, List.setIfInBounds_toArray, List.set_cons_zero, List.set_cons_succ, i64_w, i32_w]
                                      rfl
                                    refine pure_ (i := 7) (N := some 114) (v := ?_) (a' := ?_) #[true, true, true, false, false, true, true, true, false, false, false, false, false, false, false, false, false, false, false, false, false, false] rfl rfl (any_of HT_.out (by kernel_rfl)) (fun _ _ _ h => h) (Or.inl ⟨by rfl, ?_⟩) ?_ ?_
                                    rotate_left
                                    · intro w'
                                      go_simp
                                      with_reducible rfl
                                    rotate_left
                                    · simp only [Act.put, List.setIfInBounds_toArray, List.set_cons_zero, List.set_cons_succ, i64_w, i32_w]
                                      rfl
                                    refine pure_ (i := 10) (N := some 117) (v := ?_) (a' := ?_) #[true, true, true, false, false, true, true, true, false, false, true, false, false, false, false, false, false, false, false, false, false, false] rfl rfl (any_of HT_.out (by kernel_rfl)) (fun _ _ _ h => h) (Or.inl ⟨by rfl, ?_⟩) ?_ ?_
                                    rotate_left
                                    · intro w'
                                      go_simp
                                      with_reducible rfl
                                    rotate_left
                                    · simp only [Act.put, List.setIfInBounds_toArray, List.set_cons_zero, List.set_cons_succ, i64_w, i32_w]
                                      rfl
                                    refine pure_ (i := 11) (N := some 118) (v := ?_) (a' := ?_) #[true, true, true, false, false, true, true, true, false, false, true, true, false, false, false, false, false, false, false, false, false, false] rfl rfl (any_of HT_.out (by kernel_rfl)) (fun _ _ _ h => h) (Or.inl ⟨by rfl, ?_⟩) ?_ ?_
                                    rotate_left
                                    · intro w'
                                      go_simp
                                      with_reducible rfl
                                    rotate_left
                                    · simp only [Act.put, List.setIfInBounds_toArray, List.set_cons_zero, List.set_cons_succ, i64_w, i32_w]
                                      rfl
                                    refine pure_ (i := 12) (N := some 119) (v := ?_) (a' := ?_) #[true, true, true, false, false, true, true, true, false, false, true, true, true, false, false, false, false, false, false, false, false, false] rfl rfl (any_of HT_.out (by kernel_rfl)) (fun _ _ _ h => h) (Or.inl ⟨by rfl, ?_⟩) ?_ ?_
                                    rotate_left
                                    · intro w'
                                      go_simp
                                      with_reducible rfl
                                    rotate_left
                                    · simp only [Act.put, List.setIfInBounds_toArray, List.set_cons_zero, List.set_cons_succ, i64_w, i32_w]
                                      rfl
                                    refine take_ (i := 3) (N := some 110) (v := ?_) (a' := ?_) #[true, true, true, true, false, true, true, true, false, false, true, true, true, false, false, false, false, false, false, false, false, false] rfl rfl (take_ofW HT_.out HW_.out (by kernel_rfl)) (fun _ _ _ h => h) (Or.inl ⟨by rfl, ?_⟩) hHeld ?_ ?_
                                    rotate_left
                                    · rintro w' ⟨s0, s1, s2⟩
                                      go_simp
                                      with_reducible rfl
                                    rotate_left
                                    · simp only [Act.put, List.setIfInBounds_toArray, List.set_cons_zero, List.set_cons_succ, i64_w, i32_w]
                                      rfl
                                    refine pure_ (i := 4) (N := some 111) (v := ?_) (a' := ?_) #[true, true, true, true, true, true, true, true, false, false, true, true, true, false, false, false, false, false, false, false, false, false] rfl rfl (any_of HT_.out (by kernel_rfl)) (fun _ _ _ h => h) (Or.inl ⟨by rfl, ?_⟩) ?_ ?_
                                    rotate_left
                                    · intro w'
                                      go_simp
                                      with_reducible rfl
                                    rotate_left
                                    · simp only [Act.put, List.setIfInBounds_toArray, List.set_cons_zero, List.set_cons_succ, i64_w, i32_w]
                                      rfl
                                    refine take_ (i := 8) (N := some 115) (v := ?_) (a' := ?_) #[true, true, true, true, true, true, true, true, true, false, true, true, true, false, false, false, false, false, false, false, false, false] rfl rfl (take_ofW HT_.out HW_.out (by kernel_rfl)) (fun _ _ _ h => h) (Or.inl ⟨by rfl, ?_⟩) hHeld ?_ ?_
                                    rotate_left
                                    · rintro w' ⟨s0, s1, s2⟩
                                      go_simp
                                      with_reducible rfl
                                    rotate_left
                                    · simp only [Act.put, List.setIfInBounds_toArray, List.set_cons_zero, List.set_cons_succ, i64_w, i32_w]
                                      rfl
                                    refine pure_ (i := 9) (N := some 116) (v := ?_) (a' := ?_) #[true, true, true, true, true, true, true, true, true, true, true, true, true, false, false, false, false, false, false, false, false, false] rfl rfl (any_of HT_.out (by kernel_rfl)) (fun _ _ _ h => h) (Or.inl ⟨by rfl, ?_⟩) ?_ ?_
                                    rotate_left
                                    · intro w'
                                      go_simp
                                      with_reducible rfl
                                    rotate_left
                                    · simp only [Act.put, List.setIfInBounds_toArray, List.set_cons_zero, List.set_cons_succ, i64_w, i32_w]
                                      rfl
                                    refine take_ (i := 13) (N := some 120) (v := ?_) (a' := ?_) #[true, true, true, true, true, true, true, true, true, true, true, true, true, true, false, false, false, false, false, false, false, false] rfl rfl (take_ofW HT_.out HW_.out (by kernel_rfl)) (fun _ _ _ h => h) (Or.inl ⟨by rfl, ?_⟩) hHeld ?_ ?_
                                    rotate_left
                                    · rintro w' ⟨s0, s1, s2⟩
                                      go_simp
                                      with_reducible rfl
                                    rotate_left
                                    · simp only [Act.put, List.setIfInBounds_toArray, List.set_cons_zero, List.set_cons_succ, i64_w, i32_w]
                                      rfl
                                    refine one_ (i := 14) (N := some 121) #[true, true, true, true, true, true, true, true, true, true, true, true, true, true, true, false, false, false, false, false, false, false] rfl rfl (one_of HT_.out (by kernel_rfl)) (by decide) (fun K hK => ?_)
                                    refine goes_ Tryd.func8 (by kernel_rfl) rfl #[.int .i64 (wrap64 (rd l0 x103_4)), .int .i64 (wrap64 (rd l1 x103_4)), .string (rdOf ByteArray.empty l2 x103_4)] (by rfl) rfl rfl (by (try simp only [List.map_toArray, List.map_cons, List.map_nil]); first | done | rfl | (simp only [List.length_drop, List.length_take]; rfl)) ?_
                                    with_reducible refine (impl_MtWith.calls (wrap64 (rd l0 x103_4)) (wrap64 (rd l1 x103_4)) (rdOf ByteArray.empty l2 x103_4) t217 t218 false _ A45.out).mono ?_
                                    rintro e w52 ⟨rfl, hb⟩
                                    refine ⟨_, rfl, ?_⟩
                                    have n0_ := Aside0.mk (Kd.R_below (by (with_reducible repeat (first | apply Kd.R_alloc | apply Kd.R_drewN | apply Kd.R_drew)); exact HO_13.out) hb)
                                    have n1_ := Aside0.mk (blk_below (g := gb204) (o := .cells #[.int .u8 a4_0, .int .u8 a4_1, .int .u32 a4_2, .slice A4_3 l4_3.length c4_3, .slice A4_4 l4_4.length c4_4] 28 (0, 0)) (by (with_reducible repeat (first | refine blk_drewN ?_ _ | refine blk_drew ?_ | refine blk_alloc ?_ _)); exact BK204.out) hb)
                                    have n2_ := Aside0.mk (below_step (by repeat (first | (with_reducible first | exact HB.out | apply below_alloc | apply pw_below_drewN | apply below_drew1 | refine below_set ?_ GE204.out) | exact HB.out)) hb)
                                    clear HO_13
                                    clear BK204
                                    clear HB
                                    have HO_13 := n0_
                                    have BK204 := n1_
                                    have HB := n2_
                                    clear n0_ n1_ n2_
                                    (try clear hb)
                                    (try clear hb2)
                                    (try clear hk)
                                    (try clear hi)
                                    refine hK.out _ _ ⟨((HB.out.cell (World.block_lt_of_cell? w _ hw214_0)).trans hw214_0), ((HB.out.cell (World.block_lt_of_cell? w _ hw215_0)).trans hw215_0), ((HB.out.cell (World.block_lt_of_cell? w _ hw216_0)).trans hw216_0)⟩ (fun hHeld => ?_)
                                    clear hK K
                                    refine norm_ (a' := ?_) ?_ ?_
                                    rotate_left
                                    · show Act.put _ (some 121) _ = _
                                      simp only [Act.put, List.setIfInBounds_toArray, List.set_cons_zero, List.set_cons_succ, i64_w, i32_w]
                                      rfl
                                    refine pure_ (i := 15) (N := some 106) (v := ?_) (a' := ?_) #[true, true, true, true, true, true, true, true, true, true, true, true, true, true, true, true, false, false, false, false, false, false] rfl rfl (any_of HT_.out (by kernel_rfl)) (fun _ _ _ h => h) (Or.inl ⟨by rfl, ?_⟩) ?_ ?_
                                    rotate_left
                                    · intro w'
                                      go_simp
                                      with_reducible rfl
                                    rotate_left
                                    · simp only [Act.put, List.setIfInBounds_toArray, List.set_cons_zero, List.set_cons_succ, i64_w, i32_w]
                                      rfl
                                    refine pure_ (i := 16) (N := some 122) (v := ?_) (a' := ?_) #[true, true, true, true, true, true, true, true, true, true, true, true, true, true, true, true, true, false, false, false, false, false] rfl rfl (any_of HT_.out (by kernel_rfl)) (fun _ _ _ h => h) (Or.inl ⟨by rfl, ?_⟩) ?_ ?_
                                    rotate_left
                                    · intro w'
                                      go_simp
                                      with_reducible rfl
                                    rotate_left
                                    · simp only [Act.put, List.setIfInBounds_toArray, List.set_cons_zero, List.set_cons_succ, i64_w, i32_w]
                                      rfl
                                    refine pure_ (i := 17) (N := some 123) (v := ?_) (a' := ?_) #[true, true, true, true, true, true, true, true, true, true, true, true, true, true, true, true, true, true, false, false, false, false] rfl rfl (any_of HT_.out (by kernel_rfl)) (fun _ _ _ h => h) (Or.inl ⟨by rfl, ?_⟩) ?_ ?_
                                    rotate_left
                                    · intro w'
                                      go_simp
                                      with_reducible rfl
                                    rotate_left
                                    · simp only [Act.put, List.setIfInBounds_toArray, List.set_cons_zero, List.set_cons_succ, i64_w, i32_w]
                                      rfl
                                    refine pure_ (i := 18) (N := some 124) (v := ?_) (a' := ?_) #[true, true, true, true, true, true, true, true, true, true, true, true, true, true, true, true, true, true, true, false, false, false] rfl rfl (any_of HT_.out (by kernel_rfl)) (fun _ _ _ h => h) (Or.inl ⟨by rfl, ?_⟩) ?_ ?_
                                    rotate_left
                                    · intro w'
                                      go_simp
                                      with_reducible rfl
                                    rotate_left
                                    · simp only [Act.put, List.setIfInBounds_toArray, List.set_cons_zero, List.set_cons_succ, i64_w, i32_w]
                                      rfl
                                    refine pure_ (i := 19) (N := some 15) (v := ?_) (a' := ?_) #[true, true, true, true, true, true, true, true, true, true, true, true, true, true, true, true, true, true, true, true, false, false] rfl rfl (any_of HT_.out (by kernel_rfl)) (fun _ _ _ h => h) (Or.inl ⟨by rfl, ?_⟩) ?_ ?_
                                    rotate_left
                                    · intro w'
                                      go_simp
                                      with_reducible rfl
                                    rotate_left
                                    · simp only [Act.put, List.setIfInBounds_toArray, List.set_cons_zero, List.set_cons_succ, i64_w, i32_w]
                                      rfl
                                    refine pure_ (i := 20) (N := some 16) (v := ?_) (a' := ?_) #[true, true, true, true, true, true, true, true, true, true, true, true, true, true, true, true, true, true, true, true, true, false] rfl rfl (any_of HT_.out (by kernel_rfl)) (fun _ _ _ h => h) (Or.inl ⟨by rfl, ?_⟩) ?_ ?_
                                    rotate_left
                                    · intro w'
                                      go_simp
                                      with_reducible rfl
                                    rotate_left
                                    · simp only [Act.put, List.setIfInBounds_toArray, List.set_cons_zero, List.set_cons_succ, i64_w, i32_w]
                                      rfl
                                    refine pure_ (i := 21) (N := some 17) (v := ?_) (a' := ?_) #[true, true, true, true, true, true, true, true, true, true, true, true, true, true, true, true, true, true, true, true, true, true] rfl rfl (any_of HT_.out (by kernel_rfl)) (fun _ _ _ h => h) (Or.inl ⟨by rfl, ?_⟩) ?_ ?_
                                    rotate_left
                                    · intro w'
                                      go_simp
                                      with_reducible rfl
                                    rotate_left
                                    · simp only [Act.put, List.setIfInBounds_toArray, List.set_cons_zero, List.set_cons_succ, i64_w, i32_w]
                                      rfl
                                    refine done_ (done_of HT_.out (by kernel_rfl)) ?_
                                    try go_wp2
                                    go_ret
                                    exact ⟨by first | rfl | (simp [errW_none, errW_some] <;> rfl) | (simp [*, errW_none, errW_some] <;> rfl), by repeat (first | (with_reducible first | exact HB.out | apply below_alloc | apply pw_below_drewN | apply below_drew1 | refine below_set ?_ GE204.out) | exact HB.out)⟩
                                · rw [if_neg c44] at H
                                  exact absurd H (by simp)
                              · rw [if_neg c43] at H
                                exact absurd H (by simp)
                            · rw [if_neg c42] at H
                              exact absurd H (by simp)
                          · rw [if_neg c41] at H
                            exact absurd H (by simp)
                        · rw [if_neg c40] at H
                          have c40b0 : decide (x103_4 < (l0.length : Int)) = false := decide_eq_false c40
                          clear c40
                          by_cases c53 : (l0.length : Int) = 0
                          · rw [if_pos c53] at H
                            exact absurd H (by simp)
                          · rw [if_neg c53] at H
                            have c53b0 : ((l0.length : Int) == 0) = false := beq_eq_false_iff_ne.mpr c53
                            have c53b1 : ((l0.length : Int) != 0) = true := bne_iff_ne.mpr c53
                            have c53b2 : ¬ (l0 = []) := fun h_ => c53 (by rw [h_]; rfl)
                            obtain ⟨y223, hy223⟩ : ∃ y_ : List (S32), y_ = (([] : List (S32))) := ⟨_, rfl⟩
                            replace H : (if 0 ≤ (Int.tmod (wrap64 (a3)) (l0.length : Int)) then (if (Int.tmod (wrap64 (a3)) (l0.length : Int)) ≤ (x13_4.length : Int) then ((some (x13_4.drop ((Int.tmod (wrap64 (a3)) (l0.length : Int)) : Int).toNat : List (S32))).bind fun y226 => (if y223.length + y226.length < 4398046511104 then ((some (y223 ++ y226 : List (S32))).bind fun y230 => ((some (x13_4.take ((Int.tmod (wrap64 (a3)) (l0.length : Int)) : Int).toNat : List (S32))).bind fun y233 => (if y230.length + y233.length < 4398046511104 then ((impl_MtRule.f k4 x13_4).bind fun t240 => ((spec_ReadRule.f k4 t240).bind fun bt241 => ((impl_MtRule.f k4 (y230 ++ y233)).bind fun t245 => ((spec_ReadRule.f k4 t245).bind fun bt246 => (if bt241.2 = true then (if bt246.2 = true then (if (bt241.1.length : Int) = (l0.length : Int) then (laws_FnMtRuleOrder.j4 k4 (l0.length : Int) (Int.tmod (wrap64 (a3)) (l0.length : Int)) bt241.1 bt246.1 ((bt246.1.length : Int) != (l0.length : Int)) a4_0 a4_1 a4_2 l4_3 l4_4) else (laws_FnMtRuleOrder.j4 k4 (l0.length : Int) (Int.tmod (wrap64 (a3)) (l0.length : Int)) bt241.1 bt246.1 true a4_0 a4_1 a4_2 l4_3 l4_4)) else (laws_FnMtRuleOrder.j4 k4 (l0.length : Int) (Int.tmod (wrap64 (a3)) (l0.length : Int)) bt241.1 bt246.1 true a4_0 a4_1 a4_2 l4_3 l4_4)) else (laws_FnMtRuleOrder.j4 k4 (l0.length : Int) (Int.tmod (wrap64 (a3)) (l0.length : Int)) bt241.1 bt246.1 true a4_0 a4_1 a4_2 l4_3 l4_4)))))) else (none)))) else (none))) else (none)) else (none)) = some r := by first | (rw [hy223]; with_reducible exact H) | (have H2_ := (Option.bind_some _ _).symm.trans H; rw [hy223]; with_reducible exact H2_) | (have H2_ := (Option.bind_some _ _).symm.trans H; with_reducible exact H2_) | with_reducible exact H | (rw [hy223]; exact H) | exact H
                            have Ny223 := Aside0.mk hy223
                            clear hy223
                            obtain ⟨ji54, hji54⟩ : ∃ j_ : Int, (Int.tmod (wrap64 (a3)) (l0.length : Int)) = j_ := ⟨_, rfl⟩
                            replace H : (if 0 ≤ (ji54) then (if (ji54) ≤ (x13_4.length : Int) then ((some (x13_4.drop ((ji54) : Int).toNat : List (S32))).bind fun y226 => (if y223.length + y226.length < 4398046511104 then ((some (y223 ++ y226 : List (S32))).bind fun y230 => ((some (x13_4.take ((ji54) : Int).toNat : List (S32))).bind fun y233 => (if y230.length + y233.length < 4398046511104 then ((impl_MtRule.f k4 x13_4).bind fun t240 => ((spec_ReadRule.f k4 t240).bind fun bt241 => ((impl_MtRule.f k4 (y230 ++ y233)).bind fun t245 => ((spec_ReadRule.f k4 t245).bind fun bt246 => (if bt241.2 = true then (if bt246.2 = true then (if (bt241.1.length : Int) = (l0.length : Int) then (laws_FnMtRuleOrder.j4 k4 (l0.length : Int) ji54 bt241.1 bt246.1 ((bt246.1.length : Int) != (l0.length : Int)) a4_0 a4_1 a4_2 l4_3 l4_4) else (laws_FnMtRuleOrder.j4 k4 (l0.length : Int) ji54 bt241.1 bt246.1 true a4_0 a4_1 a4_2 l4_3 l4_4)) else (laws_FnMtRuleOrder.j4 k4 (l0.length : Int) ji54 bt241.1 bt246.1 true a4_0 a4_1 a4_2 l4_3 l4_4)) else (laws_FnMtRuleOrder.j4 k4 (l0.length : Int) ji54 bt241.1 bt246.1 true a4_0 a4_1 a4_2 l4_3 l4_4)))))) else (none)))) else (none))) else (none)) else (none)) = some r := by first | (rw [hji54] at H; exact H) | (simp only [hji54] at H ⊢; exact H)
                            by_cases c55 : 0 ≤ (ji54)
                            · rw [if_pos c55] at H
                              have c55b0 := eq_true c55
                              have c55b1 : decide (0 ≤ (ji54)) = true := decide_eq_true c55
                              clear c55
                              by_cases c56 : (ji54) ≤ (x13_4.length : Int)
                              · rw [if_pos c56] at H
                                have c56b0 := eq_true c56
                                have c56b1 : decide ((ji54) ≤ (x13_4.length : Int)) = true := decide_eq_true c56
                                clear c56
                                obtain ⟨y226, hy226⟩ : ∃ y_ : List (S32), y_ = (x13_4.drop ((ji54) : Int).toNat) := ⟨_, rfl⟩
                                replace H : (if y223.length + y226.length < 4398046511104 then ((some (y223 ++ y226 : List (S32))).bind fun y230 => ((some (x13_4.take ((ji54) : Int).toNat : List (S32))).bind fun y233 => (if y230.length + y233.length < 4398046511104 then ((impl_MtRule.f k4 x13_4).bind fun t240 => ((spec_ReadRule.f k4 t240).bind fun bt241 => ((impl_MtRule.f k4 (y230 ++ y233)).bind fun t245 => ((spec_ReadRule.f k4 t245).bind fun bt246 => (if bt241.2 = true then (if bt246.2 = true then (if (bt241.1.length : Int) = (l0.length : Int) then (laws_FnMtRuleOrder.j4 k4 (l0.length : Int) ji54 bt241.1 bt246.1 ((bt246.1.length : Int) != (l0.length : Int)) a4_0 a4_1 a4_2 l4_3 l4_4) else (laws_FnMtRuleOrder.j4 k4 (l0.length : Int) ji54 bt241.1 bt246.1 true a4_0 a4_1 a4_2 l4_3 l4_4)) else (laws_FnMtRuleOrder.j4 k4 (l0.length : Int) ji54 bt241.1 bt246.1 true a4_0 a4_1 a4_2 l4_3 l4_4)) else (laws_FnMtRuleOrder.j4 k4 (l0.length : Int) ji54 bt241.1 bt246.1 true a4_0 a4_1 a4_2 l4_3 l4_4)))))) else (none)))) else (none)) = some r := by first | (rw [hy226]; with_reducible exact H) | (have H2_ := (Option.bind_some _ _).symm.trans H; rw [hy226]; with_reducible exact H2_) | (have H2_ := (Option.bind_some _ _).symm.trans H; with_reducible exact H2_) | with_reducible exact H | (rw [hy226]; exact H) | exact H
                                have Ny226 := Aside0.mk hy226
                                clear hy226
                                by_cases c57 : y223.length + y226.length < 4398046511104
                                · rw [if_pos c57] at H
                                  have LMc57 := Aside0.mk c57
                                  clear c57
                                  obtain ⟨y230, hy230⟩ : ∃ y_ : List (S32), y_ = (y223 ++ y226) := ⟨_, rfl⟩
                                  replace H : ((some (x13_4.take ((ji54) : Int).toNat : List (S32))).bind fun y233 => (if y230.length + y233.length < 4398046511104 then ((impl_MtRule.f k4 x13_4).bind fun t240 => ((spec_ReadRule.f k4 t240).bind fun bt241 => ((impl_MtRule.f k4 (y230 ++ y233)).bind fun t245 => ((spec_ReadRule.f k4 t245).bind fun bt246 => (if bt241.2 = true then (if bt246.2 = true then (if (bt241.1.length : Int) = (l0.length : Int) then (laws_FnMtRuleOrder.j4 k4 (l0.length : Int) ji54 bt241.1 bt246.1 ((bt246.1.length : Int) != (l0.length : Int)) a4_0 a4_1 a4_2 l4_3 l4_4) else (laws_FnMtRuleOrder.j4 k4 (l0.length : Int) ji54 bt241.1 bt246.1 true a4_0 a4_1 a4_2 l4_3 l4_4)) else (laws_FnMtRuleOrder.j4 k4 (l0.length : Int) ji54 bt241.1 bt246.1 true a4_0 a4_1 a4_2 l4_3 l4_4)) else (laws_FnMtRuleOrder.j4 k4 (l0.length : Int) ji54 bt241.1 bt246.1 true a4_0 a4_1 a4_2 l4_3 l4_4)))))) else (none))) = some r := by first | (rw [hy230]; with_reducible exact H) | (have H2_ := (Option.bind_some _ _).symm.trans H; rw [hy230]; with_reducible exact H2_) | (have H2_ := (Option.bind_some _ _).symm.trans H; with_reducible exact H2_) | with_reducible exact H | (rw [hy230]; exact H) | exact H
                                  have Ny230 := Aside0.mk hy230
                                  clear hy230
                                  have c58b0 := eq_true (of_decide_eq_true (by first | (with_reducible assumption) | assumption) : 0 ≤ (ji54))
                                  have c59b0 := eq_true (of_decide_eq_true (by first | (with_reducible assumption) | assumption) : (ji54) ≤ (x13_4.length : Int))
                                  obtain ⟨y233, hy233⟩ : ∃ y_ : List (S32), y_ = (x13_4.take ((ji54) : Int).toNat) := ⟨_, rfl⟩
                                  replace H : (if y230.length + y233.length < 4398046511104 then ((impl_MtRule.f k4 x13_4).bind fun t240 => ((spec_ReadRule.f k4 t240).bind fun bt241 => ((impl_MtRule.f k4 (y230 ++ y233)).bind fun t245 => ((spec_ReadRule.f k4 t245).bind fun bt246 => (if bt241.2 = true then (if bt246.2 = true then (if (bt241.1.length : Int) = (l0.length : Int) then (laws_FnMtRuleOrder.j4 k4 (l0.length : Int) ji54 bt241.1 bt246.1 ((bt246.1.length : Int) != (l0.length : Int)) a4_0 a4_1 a4_2 l4_3 l4_4) else (laws_FnMtRuleOrder.j4 k4 (l0.length : Int) ji54 bt241.1 bt246.1 true a4_0 a4_1 a4_2 l4_3 l4_4)) else (laws_FnMtRuleOrder.j4 k4 (l0.length : Int) ji54 bt241.1 bt246.1 true a4_0 a4_1 a4_2 l4_3 l4_4)) else (laws_FnMtRuleOrder.j4 k4 (l0.length : Int) ji54 bt241.1 bt246.1 true a4_0 a4_1 a4_2 l4_3 l4_4)))))) else (none)) = some r := by first | (rw [hy233]; with_reducible exact H) | (have H2_ := (Option.bind_some _ _).symm.trans H; rw [hy233]; with_reducible exact H2_) | (have H2_ := (Option.bind_some _ _).symm.trans H; with_reducible exact H2_) | with_reducible exact H | (rw [hy233]; exact H) | exact H
                                  have Ny233 := Aside0.mk hy233
                                  clear hy233
                                  by_cases c60 : y230.length + y233.length < 4398046511104
                                  · rw [if_pos c60] at H
                                    have LMc60 := Aside0.mk c60
                                    clear c60
                                    obtain ⟨y237, hy237⟩ : ∃ y_ : List (S32), y_ = (y230 ++ y233) := ⟨_, rfl⟩
                                    replace H : ((impl_MtRule.f k4 x13_4).bind fun t240 => ((spec_ReadRule.f k4 t240).bind fun bt241 => ((impl_MtRule.f k4 y237).bind fun t245 => ((spec_ReadRule.f k4 t245).bind fun bt246 => (if bt241.2 = true then (if bt246.2 = true then (if (bt241.1.length : Int) = (l0.length : Int) then (laws_FnMtRuleOrder.j4 k4 (l0.length : Int) ji54 bt241.1 bt246.1 ((bt246.1.length : Int) != (l0.length : Int)) a4_0 a4_1 a4_2 l4_3 l4_4) else (laws_FnMtRuleOrder.j4 k4 (l0.length : Int) ji54 bt241.1 bt246.1 true a4_0 a4_1 a4_2 l4_3 l4_4)) else (laws_FnMtRuleOrder.j4 k4 (l0.length : Int) ji54 bt241.1 bt246.1 true a4_0 a4_1 a4_2 l4_3 l4_4)) else (laws_FnMtRuleOrder.j4 k4 (l0.length : Int) ji54 bt241.1 bt246.1 true a4_0 a4_1 a4_2 l4_3 l4_4)))))) = some r := by first | (rw [hy237]; with_reducible exact H) | (have H2_ := (Option.bind_some _ _).symm.trans H; rw [hy237]; with_reducible exact H2_) | (have H2_ := (Option.bind_some _ _).symm.trans H; with_reducible exact H2_) | with_reducible exact H | (rw [hy237]; exact H) | exact H
                                    have Ny237 := Aside0.mk hy237
                                    clear hy237
                                    replace H := Option.bind_eq_some_iff.mp H
                                    obtain ⟨t240, A610, H⟩ := H
                                    replace H : ((spec_ReadRule.f k4 t240).bind fun bt241 => ((impl_MtRule.f k4 y237).bind fun t245 => ((spec_ReadRule.f k4 t245).bind fun bt246 => (if bt241.2 = true then (if bt246.2 = true then (if (bt241.1.length : Int) = (l0.length : Int) then (laws_FnMtRuleOrder.j4 k4 (l0.length : Int) ji54 bt241.1 bt246.1 ((bt246.1.length : Int) != (l0.length : Int)) a4_0 a4_1 a4_2 l4_3 l4_4) else (laws_FnMtRuleOrder.j4 k4 (l0.length : Int) ji54 bt241.1 bt246.1 true a4_0 a4_1 a4_2 l4_3 l4_4)) else (laws_FnMtRuleOrder.j4 k4 (l0.length : Int) ji54 bt241.1 bt246.1 true a4_0 a4_1 a4_2 l4_3 l4_4)) else (laws_FnMtRuleOrder.j4 k4 (l0.length : Int) ji54 bt241.1 bt246.1 true a4_0 a4_1 a4_2 l4_3 l4_4))))) = some r := H
                                    have A61 := Aside0.mk A610
                                    clear A610
                                    replace H := Option.bind_eq_some_iff.mp H
                                    obtain ⟨⟨t241, t242⟩, A620, H⟩ := H
                                    replace H : ((impl_MtRule.f k4 y237).bind fun t245 => ((spec_ReadRule.f k4 t245).bind fun bt246 => (if t242 = true then (if bt246.2 = true then (if (t241.length : Int) = (l0.length : Int) then (laws_FnMtRuleOrder.j4 k4 (l0.length : Int) ji54 t241 bt246.1 ((bt246.1.length : Int) != (l0.length : Int)) a4_0 a4_1 a4_2 l4_3 l4_4) else (laws_FnMtRuleOrder.j4 k4 (l0.length : Int) ji54 t241 bt246.1 true a4_0 a4_1 a4_2 l4_3 l4_4)) else (laws_FnMtRuleOrder.j4 k4 (l0.length : Int) ji54 t241 bt246.1 true a4_0 a4_1 a4_2 l4_3 l4_4)) else (laws_FnMtRuleOrder.j4 k4 (l0.length : Int) ji54 t241 bt246.1 true a4_0 a4_1 a4_2 l4_3 l4_4)))) = some r := H
                                    have A62 := Aside0.mk A620
                                    clear A620
                                    replace H := Option.bind_eq_some_iff.mp H
                                    obtain ⟨t245, A630, H⟩ := H
                                    replace H : ((spec_ReadRule.f k4 t245).bind fun bt246 => (if t242 = true then (if bt246.2 = true then (if (t241.length : Int) = (l0.length : Int) then (laws_FnMtRuleOrder.j4 k4 (l0.length : Int) ji54 t241 bt246.1 ((bt246.1.length : Int) != (l0.length : Int)) a4_0 a4_1 a4_2 l4_3 l4_4) else (laws_FnMtRuleOrder.j4 k4 (l0.length : Int) ji54 t241 bt246.1 true a4_0 a4_1 a4_2 l4_3 l4_4)) else (laws_FnMtRuleOrder.j4 k4 (l0.length : Int) ji54 t241 bt246.1 true a4_0 a4_1 a4_2 l4_3 l4_4)) else (laws_FnMtRuleOrder.j4 k4 (l0.length : Int) ji54 t241 bt246.1 true a4_0 a4_1 a4_2 l4_3 l4_4))) = some r := H
                                    have A63 := Aside0.mk A630
                                    clear A630
                                    replace H := Option.bind_eq_some_iff.mp H
                                    obtain ⟨⟨t246, t247⟩, A640, H⟩ := H
                                    replace H : (if t242 = true then (if t247 = true then (if (t241.length : Int) = (l0.length : Int) then (laws_FnMtRuleOrder.j4 k4 (l0.length : Int) ji54 t241 t246 ((t246.length : Int) != (l0.length : Int)) a4_0 a4_1 a4_2 l4_3 l4_4) else (laws_FnMtRuleOrder.j4 k4 (l0.length : Int) ji54 t241 t246 true a4_0 a4_1 a4_2 l4_3 l4_4)) else (laws_FnMtRuleOrder.j4 k4 (l0.length : Int) ji54 t241 t246 true a4_0 a4_1 a4_2 l4_3 l4_4)) else (laws_FnMtRuleOrder.j4 k4 (l0.length : Int) ji54 t241 t246 true a4_0 a4_1 a4_2 l4_3 l4_4)) = some r := H
                                    have A64 := Aside0.mk A640
                                    clear A640
                                    have HC65 := Aside0.mk H
                                    clear H
                                    try go_wp2
                                    have n0_ := Aside0.mk (Kd.R_drew HO_13.out)
                                    have n1_ := Aside0.mk (blk_drew BK204.out)
                                    have n2_ := Aside0.mk (below_drew1 HB.out)
                                    clear HO_13
                                    clear BK204
                                    clear HB
                                    have HO_13 := n0_
                                    have BK204 := n1_
                                    have HB := n2_
                                    clear n0_ n1_ n2_
                                    obtain ⟨Ao68, co68, eo68⟩ := Kd.R_slice HO_13.out
                                    (first | subst eo68 | (injection eo68 with f1_ f2_ f3_; have f4_ := f1_.symm; have f5_ := f3_.symm; clear f1_ f2_ f3_; subst f4_; subst f5_))
                                    have q67 : ((ji54) : Int) ≤ ((x13_4.length : Int) : Int) := of_decide_eq_true (by first | (with_reducible assumption) | assumption)
                                    obtain ⟨i067, hi067, _, hsz67, _⟩ := info_parts info32
                                    have hroom67 : x13_4.length ≤ co68 := (Kd.R_reads' HO_13.out).2.1
                                    have hC67 : Kd.C k32 _ Ao68 x13_4.length x13_4 := (Kd.R_reads' HO_13.out).2.2
                                    have q067 : (0 : Int) ≤ ((ji54) : Int) := of_decide_eq_true (by first | (with_reducible assumption) | assumption)
                                    have hcut67 := cut_from (P := Tryd.prog) 33 32 .i64 Tryd.underlying33 hi067 2 hsz67 Ao68 x13_4.length co68 (ji54) q067 q67
                                    have hr67 := Kd.C_drop (m := ((ji54) : Int).toNat) (c := co68) hC67 (by omega) hroom67
                                    obtain ⟨A67, hA67⟩ : ∃ A1, A1 = (if co68 = ((ji54) : Int).toNat then Ao68 else (Ao68 : Option Addr).map (·.add (((ji54) : Int).toNat * 2))) := ⟨_, rfl⟩
                                    obtain ⟨c67, hc67⟩ : ∃ c1, c1 = co68 - ((ji54) : Int).toNat := ⟨_, rfl⟩
                                    have hy67 : y226.length = x13_4.length - ((ji54) : Int).toNat := (by rw [Ny226.out, List.length_drop] <;> omega)
                                    rw [show (x13_4).drop ((ji54) : Int).toNat = y226 from Ny226.out.symm] at hr67
                                    replace hr67 : Kd.C k32 _ A67 y226.length y226 := (by rw [hA67]; exact hr67)
                                    rw [← hy67, ← hA67, ← hc67] at hcut67
                                    have HR229 := Aside0.mk hr67
                                    have HC229 := Aside0.mk (show y226.length ≤ c67 from by rw [hy67, hc67]; exact Nat.sub_le_sub_right hroom67 _)
                                    clear hr67 hC67 hroom67 hi067 hsz67 hc67
                                    have KY67 := Aside0.mk hy67
                                    have KA67 := Aside0.mk hA67
                                    clear hy67 hA67
                                    have KL67 := Aside0.mk (show ((ji54) : Int).toNat ≤ x13_4.length from by omega)
                                    replace q67 := eq_true q67
                                    have q69 : ((ji54) : Int) ≤ ((x13_4.length : Int) : Int) := of_decide_eq_true (by first | (with_reducible assumption) | assumption)
                                    obtain ⟨i069, hi069, _, hsz69, _⟩ := info_parts info32
                                    have hroom69 : x13_4.length ≤ co68 := (Kd.R_reads' HO_13.out).2.1
                                    have hC69 : Kd.C k32 _ Ao68 x13_4.length x13_4 := (Kd.R_reads' HO_13.out).2.2
                                    have hcut69 := cut_to (P := Tryd.prog) 33 32 .i64 Tryd.underlying33 hi069 Ao68 x13_4.length co68 (ji54) (of_decide_eq_true (by first | (with_reducible assumption) | assumption)) q69 hroom69
                                    have hr69 := Kd.C_take (m := ((ji54) : Int).toNat) hC69 (by omega)
                                    have hy69 : y233.length = ((ji54) : Int).toNat := (by rw [Ny233.out, List.length_take]; omega)
                                    rw [← Ny233.out] at hr69
                                    rw [← hy69] at hcut69
                                    have HR236 := Aside0.mk hr69
                                    have HC236 := Aside0.mk (show y233.length ≤ co68 from by omega)
                                    clear hr69 hC69 hroom69 hi069 hsz69
                                    have KY69 := Aside0.mk hy69
                                    clear hy69
                                    have KL69 := Aside0.mk (show ((ji54) : Int).toNat ≤ x13_4.length from by omega)
                                    replace q69 := eq_true q69
                                    refine start_ (n := 10) (S := fun w' => True) (ds := []) #[false, false, false, false, false, false, false, false, false, false] (by kernel_rfl) rfl rfl trivial (fun hHeld => ?_); refine with_tabW laws_FnMtRuleOrder.tab22 laws_FnMtRuleOrder.bits22 (fun HT_ HW_ => ?_)
                                    generalize wr.drew = w66 at HO_13 BK204 HB HR229 HR236 hHeld ⊢
                                    refine pure_ (i := 1) (N := some 139) (v := ?_) (a' := ?_) #[false, true, false, false, false, false, false, false, false, false] rfl rfl (any_of HT_.out (by kernel_rfl)) (fun _ _ _ h => h) (Or.inl ⟨by rfl, ?_⟩) ?_ ?_
                                    rotate_left
                                    · intro w'
                                      go_simp
                                      with_reducible rfl
                                    rotate_left
                                    · simp only [Act.put, List.setIfInBounds_toArray, List.set_cons_zero, List.set_cons_succ, i64_w, i32_w]
                                      rfl
                                    refine pure_ (i := 2) (N := some 140) (v := ?_) (a' := ?_) #[false, true, true, false, false, false, false, false, false, false] rfl rfl (any_of HT_.out (by kernel_rfl)) (fun _ _ _ h => h) (Or.inl ⟨by rfl, ?_⟩) ?_ ?_
                                    rotate_left
                                    · intro w'
                                      go_simp
                                      with_reducible rfl
                                    rotate_left
                                    · simp only [Act.put, List.setIfInBounds_toArray, List.set_cons_zero, List.set_cons_succ, i64_w, i32_w]
                                      rfl
                                    refine pure_ (i := 3) (N := some 141) (v := ?_) (a' := ?_) #[false, true, true, true, false, false, false, false, false, false] rfl rfl (any_of HT_.out (by kernel_rfl)) (fun _ _ _ h => h) (Or.inl ⟨by rfl, ?_⟩) ?_ ?_
                                    rotate_left
                                    · intro w'
                                      go_simp
                                      with_reducible rfl
                                    rotate_left
                                    · simp only [Act.put, List.setIfInBounds_toArray, List.set_cons_zero, List.set_cons_succ, i64_w, i32_w]
                                      rfl
                                    refine pure_ (i := 5) (N := some 143) (v := ?_) (a' := ?_) #[false, true, true, true, false, true, false, false, false, false] rfl rfl (any_of HT_.out (by kernel_rfl)) (fun _ _ _ h => h) (Or.inl ⟨by rfl, ?_⟩) ?_ ?_
                                    rotate_left
                                    · intro w'
                                      go_simp
                                      with_reducible rfl
                                    rotate_left
                                    · simp only [Act.put, List.setIfInBounds_toArray, List.set_cons_zero, List.set_cons_succ, i64_w, i32_w]
                                      rfl
                                    refine pure_ (i := 6) (N := some 144) (v := ?_) (a' := ?_) #[false, true, true, true, false, true, true, false, false, false] rfl rfl (any_of HT_.out (by kernel_rfl)) (fun _ _ _ h => h) (Or.inl ⟨by rfl, ?_⟩) ?_ ?_
                                    rotate_left
                                    · intro w'
                                      go_simp
                                      with_reducible rfl
                                    rotate_left
                                    · simp only [Act.put, List.setIfInBounds_toArray, List.set_cons_zero, List.set_cons_succ, i64_w, i32_w]
                                      rfl
                                    refine pure_ (i := 7) (N := some 145) (v := ?_) (a' := ?_) #[false, true, true, true, false, true, true, true, false, false] rfl rfl (any_of HT_.out (by kernel_rfl)) (fun _ _ _ h => h) (Or.inl ⟨by rfl, ?_⟩) ?_ ?_
                                    rotate_left
                                    · intro w'
                                      go_simp
                                      with_reducible rfl
                                    rotate_left
                                    · simp only [Act.put, List.setIfInBounds_toArray, List.set_cons_zero, List.set_cons_succ, i64_w, i32_w]
                                      rfl
                                    refine one_ (i := 0) (N := some 138) #[true, true, true, true, false, true, true, true, false, false] rfl rfl (one_of HT_.out (by kernel_rfl)) (by decide) (fun K hK => ?_)
                                    refine Kd.R_lit_step k32 _ 32 ?hg (N := 138) ?hd (xs := ([] : List (S32))) (inner := []) (ok := fun _ => True) (okp := fun _ => True) ?hr ?hp (fun _ hk => hk) trivial (Below.refl _ _) (Nat.le_refl _) (by simp) ?_; (case hd => rfl); (case hg => rfl); (case hr => first | (go_simp; done) | (go_simp; rfl)); (case hp => exact (Reps.none _ _))
                                    intro v224 w70 ho71 hb hg_ hnew_
                                    clear hg_ hnew_
                                    (first | rw [← Ny223.out] at ho71 | (simp only [Int.reduceToNat] at ho71; rw [← Ny223.out] at ho71))
                                    have n0_ := Aside0.mk (Kd.R_elder' (by (with_reducible repeat (first | apply Kd.R_alloc | apply Kd.R_drewN | apply Kd.R_drew)); exact HO_13.out) (Kd.R_base ho71) hb)
                                    have n1_ := Aside0.mk (Kd.R_lower (Kd.R_new' ho71 (Kd.R_lt (by (with_reducible repeat (first | apply Kd.R_alloc | apply Kd.R_drewN | apply Kd.R_drew)); exact HO_13.out))) (below_size (by repeat (first | (with_reducible first | exact HB.out | apply below_alloc | apply pw_below_drewN | apply below_drew1 | refine below_set ?_ GE204.out) | exact HB.out))))
                                    have n2_ := Aside0.mk (blk_below (g := gb204) (o := .cells #[.int .u8 a4_0, .int .u8 a4_1, .int .u32 a4_2, .slice A4_3 l4_3.length c4_3, .slice A4_4 l4_4.length c4_4] 28 (0, 0)) (by (with_reducible repeat (first | refine blk_drewN ?_ _ | refine blk_drew ?_ | refine blk_alloc ?_ _)); exact BK204.out) hb)
                                    have n3_ := Aside0.mk (Kd.C_below (by repeat (first | (with_reducible exact HR229.out) | (with_reducible refine Kd.C_alloc ?_ _) | (with_reducible refine Kd.C_drewN ?_ _) | (with_reducible refine Kd.C_drew ?_) | exact HR229.out)) hb)
                                    have n4_ := Aside0.mk (Kd.C_below (by repeat (first | (with_reducible exact HR236.out) | (with_reducible refine Kd.C_alloc ?_ _) | (with_reducible refine Kd.C_drewN ?_ _) | (with_reducible refine Kd.C_drew ?_) | exact HR236.out)) hb)
                                    have n5_ := Aside0.mk (below_step (by repeat (first | (with_reducible first | exact HB.out | apply below_alloc | apply pw_below_drewN | apply below_drew1 | refine below_set ?_ GE204.out) | exact HB.out)) hb)
                                    clear HO_13
                                    clear BK204
                                    clear HR229
                                    clear HR236
                                    clear HB
                                    have HO_13 := n0_
                                    have HO225 := n1_
                                    have BK204 := n2_
                                    have HR229 := n3_
                                    have HR236 := n4_
                                    have HB := n5_
                                    clear n0_ n1_ n2_ n3_ n4_ n5_
                                    clear hb ho71
                                    refine hK.out _ _ trivial (fun hHeld => ?_)
                                    clear hK K
                                    refine norm_ (a' := ?_) ?_ ?_
                                    rotate_left
                                    · show Act.put _ (some 138) _ = _
                                      simp only [Act.put, List.setIfInBounds_toArray, List.set_cons_zero, List.set_cons_succ, i64_w, i32_w]
                                      rfl
                                    refine one_ (i := 4) (N := some 142) #[true, true, true, true, true, true, true, true, false, false] rfl rfl (one_of HT_.out (by kernel_rfl)) (by decide) (fun K hK => ?_)
                                    refine Kd.R_append_rows_step k32 (w0 := w) w.heap.size (by rfl) (.tmp 138) (.tmp 141) 33 32 (.agg #[(.string ⟨#[]⟩), (.string ⟨#[]⟩)]) 32 rfl Tryd.underlying33 info32 rfl (by decide) (by omega) v224 y223 y226 _ _ _ (fun k_ => some k_ ≠ (.slice Ao68 x13_4.length co68 : Value).ownBlock) (fun _ => False) rfl rfl ?aO ?aR (fun _ _ h => h) (fun _ h => h.elim) ?aF ?aB ?aS ?aL ?_
                                    (case aR => repeat (first | exact (by repeat (first | (with_reducible exact HR229.out) | (with_reducible refine Kd.C_alloc ?_ _) | (with_reducible refine Kd.C_drewN ?_ _) | (with_reducible refine Kd.C_drew ?_) | exact HR229.out)) | (with_reducible refine Kd.C_alloc ?_ _) | (with_reducible refine Kd.C_drewN ?_ _) | (with_reducible refine Kd.C_drew ?_)))
                                    (case aB => exact (by repeat (first | (with_reducible first | exact HB.out | apply below_alloc | apply pw_below_drewN | apply below_drew1 | refine below_set ?_ GE204.out) | exact HB.out)))
                                    (case aF => exact (fun k_ hk => Kd.fresh' (Kd.R_lt (by (with_reducible repeat (first | apply Kd.R_alloc | apply Kd.R_drewN | apply Kd.R_drew)); exact HO_13.out)) k_ hk))
                                    (case aO => exact (by (with_reducible repeat (first | apply Kd.R_alloc | apply Kd.R_drewN | apply Kd.R_drew)); exact Kd.R_mono HO225.out (fun _ hk => hk.2)))
                                    (case aS => exact (below_size (by repeat (first | (with_reducible first | exact HB.out | apply below_alloc | apply pw_below_drewN | apply below_drew1 | refine below_set ?_ GE204.out) | exact HB.out))))
                                    (case aL => have := LMc57.out; omega)
                                    intro v231 w72 ho hb hg hat
                                    rw [← Ny230.out] at ho
                                    have n0_ := Aside0.mk (Kd.R_after (ok := (fun _ => True)) (by (with_reducible repeat (first | apply Kd.R_alloc | apply Kd.R_drewN | apply Kd.R_drew)); exact HO_13.out) hg hat)
                                    have n1_ := Aside0.mk (blk_grown (g := gb204) (o := .cells #[.int .u8 a4_0, .int .u8 a4_1, .int .u32 a4_2, .slice A4_3 l4_3.length c4_3, .slice A4_4 l4_4.length c4_4] 28 (0, 0)) (by (with_reducible repeat (first | refine blk_drewN ?_ _ | refine blk_drew ?_ | refine blk_alloc ?_ _)); exact BK204.out) hg (Kd.R_ne HO225.out BK204.out (by decide)))
                                    have n2_ := Aside0.mk (hb)
                                    have n3_ := Aside0.mk ((show Kd.C k32 w72 A67 y226.length y226 from by rw [Ny226.out, KA67.out]; exact Kd.C_drop (m := ((ji54) : Int).toNat) (c := co68) ((Kd.R_reads' (Kd.R_after (ok := (fun _ => True)) (by (with_reducible repeat (first | apply Kd.R_alloc | apply Kd.R_drewN | apply Kd.R_drew)); exact HO_13.out) hg hat)).2.2) KL67.out ((Kd.R_reads' (Kd.R_after (ok := (fun _ => True)) (by (with_reducible repeat (first | apply Kd.R_alloc | apply Kd.R_drewN | apply Kd.R_drew)); exact HO_13.out) hg hat)).2.1)))
                                    have n4_ := Aside0.mk ((show Kd.C k32 w72 Ao68 y233.length y233 from by rw [Ny233.out]; exact Kd.C_take (m := ((ji54) : Int).toNat) ((Kd.R_reads' (Kd.R_after (ok := (fun _ => True)) (by (with_reducible repeat (first | apply Kd.R_alloc | apply Kd.R_drewN | apply Kd.R_drew)); exact HO_13.out) hg hat)).2.2) KL69.out))
                                    have n5_ := Aside0.mk (ho)
                                    clear HO_13
                                    clear BK204
                                    clear HB
                                    clear HR229
                                    clear HR236
                                    clear HO225
                                    have HO_13 := n0_
                                    have BK204 := n1_
                                    have HB := n2_
                                    have HR229 := n3_
                                    have HR236 := n4_
                                    have HO232 := n5_
                                    clear n0_ n1_ n2_ n3_ n4_ n5_
                                    clear ho hb hg hat
                                    refine hK.out _ _ trivial (fun hHeld => ?_)
                                    clear hK K
                                    refine norm_ (a' := ?_) ?_ ?_
                                    rotate_left
                                    · show Act.put _ (some 142) _ = _
                                      simp only [Act.put, List.setIfInBounds_toArray, List.set_cons_zero, List.set_cons_succ, i64_w, i32_w]
                                      rfl
                                    refine one_ (i := 8) (N := some 146) #[true, true, true, true, true, true, true, true, true, false] rfl rfl (one_of HT_.out (by kernel_rfl)) (by decide) (fun K hK => ?_)
                                    refine Kd.R_append_rows_step k32 (w0 := w) w.heap.size (by rfl) (.tmp 142) (.tmp 145) 33 32 (.agg #[(.string ⟨#[]⟩), (.string ⟨#[]⟩)]) 32 rfl Tryd.underlying33 info32 rfl (by decide) (by omega) v231 y230 y233 _ _ _ (fun k_ => some k_ ≠ (.slice Ao68 x13_4.length co68 : Value).ownBlock) (fun _ => False) rfl rfl ?aO ?aR (fun _ _ h => h) (fun _ h => h.elim) ?aF ?aB ?aS ?aL ?_
                                    (case aR => repeat (first | exact (by repeat (first | (with_reducible exact HR236.out) | (with_reducible refine Kd.C_alloc ?_ _) | (with_reducible refine Kd.C_drewN ?_ _) | (with_reducible refine Kd.C_drew ?_) | exact HR236.out)) | (with_reducible refine Kd.C_alloc ?_ _) | (with_reducible refine Kd.C_drewN ?_ _) | (with_reducible refine Kd.C_drew ?_)))
                                    (case aB => exact (by repeat (first | (with_reducible first | exact HB.out | apply below_alloc | apply pw_below_drewN | apply below_drew1 | refine below_set ?_ GE204.out) | exact HB.out)))
                                    (case aF => exact (fun k_ hk => Kd.fresh' (Kd.R_lt (by (with_reducible repeat (first | apply Kd.R_alloc | apply Kd.R_drewN | apply Kd.R_drew)); exact HO_13.out)) k_ hk))
                                    (case aO => exact (by (with_reducible repeat (first | apply Kd.R_alloc | apply Kd.R_drewN | apply Kd.R_drew)); exact HO232.out))
                                    (case aS => exact (below_size (by repeat (first | (with_reducible first | exact HB.out | apply below_alloc | apply pw_below_drewN | apply below_drew1 | refine below_set ?_ GE204.out) | exact HB.out))))
                                    (case aL => have := LMc60.out; omega)
                                    intro v238 w73 ho hb hg hat
                                    rw [← Ny237.out] at ho
                                    have n0_ := Aside0.mk (Kd.R_after (ok := (fun _ => True)) (by (with_reducible repeat (first | apply Kd.R_alloc | apply Kd.R_drewN | apply Kd.R_drew)); exact HO_13.out) hg hat)
                                    have n1_ := Aside0.mk (blk_grown (g := gb204) (o := .cells #[.int .u8 a4_0, .int .u8 a4_1, .int .u32 a4_2, .slice A4_3 l4_3.length c4_3, .slice A4_4 l4_4.length c4_4] 28 (0, 0)) (by (with_reducible repeat (first | refine blk_drewN ?_ _ | refine blk_drew ?_ | refine blk_alloc ?_ _)); exact BK204.out) hg (Kd.R_ne HO232.out BK204.out (by decide)))
                                    have n2_ := Aside0.mk (hb)
                                    have n3_ := Aside0.mk ((show Kd.C k32 w73 A67 y226.length y226 from by rw [Ny226.out, KA67.out]; exact Kd.C_drop (m := ((ji54) : Int).toNat) (c := co68) ((Kd.R_reads' (Kd.R_after (ok := (fun _ => True)) (by (with_reducible repeat (first | apply Kd.R_alloc | apply Kd.R_drewN | apply Kd.R_drew)); exact HO_13.out) hg hat)).2.2) KL67.out ((Kd.R_reads' (Kd.R_after (ok := (fun _ => True)) (by (with_reducible repeat (first | apply Kd.R_alloc | apply Kd.R_drewN | apply Kd.R_drew)); exact HO_13.out) hg hat)).2.1)))
                                    have n4_ := Aside0.mk ((show Kd.C k32 w73 Ao68 y233.length y233 from by rw [Ny233.out]; exact Kd.C_take (m := ((ji54) : Int).toNat) ((Kd.R_reads' (Kd.R_after (ok := (fun _ => True)) (by (with_reducible repeat (first | apply Kd.R_alloc | apply Kd.R_drewN | apply Kd.R_drew)); exact HO_13.out) hg hat)).2.2) KL69.out))
                                    have n5_ := Aside0.mk (ho)
                                    clear HO_13
                                    clear BK204
                                    clear HB
                                    clear HR229
                                    clear HR236
                                    clear HO232
                                    have HO_13 := n0_
                                    have BK204 := n1_
                                    have HB := n2_
                                    have HR229 := n3_
                                    have HR236 := n4_
                                    have HO239 := n5_
                                    clear n0_ n1_ n2_ n3_ n4_ n5_
                                    clear ho hb hg hat
                                    refine hK.out _ _ trivial (fun hHeld => ?_)
                                    clear hK K
                                    refine norm_ (a' := ?_) ?_ ?_
                                    rotate_left
                                    · show Act.put _ (some 146) _ = _
                                      simp only [Act.put, List.setIfInBounds_toArray, List.set_cons_zero, List.set_cons_succ, i64_w, i32_w]
                                      rfl
                                    refine pure_ (i := 9) (N := some 19) (v := ?_) (a' := ?_) #[true, true, true, true, true, true, true, true, true, true] rfl rfl (any_of HT_.out (by kernel_rfl)) (fun _ _ _ h => h) (Or.inl ⟨by rfl, ?_⟩) ?_ ?_
                                    rotate_left
                                    · intro w'
                                      go_simp
                                      with_reducible rfl
                                    rotate_left
                                    · simp only [Act.put, List.setIfInBounds_toArray, List.set_cons_zero, List.set_cons_succ, i64_w, i32_w]
                                      rfl
                                    refine done_ (done_of HT_.out (by kernel_rfl)) ?_
                                    go_upto_region 25 with (first | ((with_reducible refine gate_callee (f := 10) rfl ?_); refine goesL_ (some 149) rfl rfl Tryd.func10 (by kernel_rfl) rfl #[.slice Ao68 x13_4.length co68] rfl (by (try simp only [List.map_toArray, List.map_cons, List.map_nil]); first | done | rfl | (simp only [List.length_drop, List.length_take]; rfl)) ?_; (with_reducible refine (impl_MtRule.calls k4 _ _ x13_4 t240 _ ?side1 ?side2 A61.out).mono ?_); (case side1 => repeat (first | exact (Kd.R_reads' HO_13.out).2.2 | (with_reducible refine Kd.C_alloc ?_ _) | (with_reducible refine Kd.C_drewN ?_ _) | (with_reducible refine Kd.C_drew ?_))); (case side2 => exact (Kd.R_reads' HO_13.out).2.1); rintro e w74 ⟨rfl, hb⟩; refine ⟨_, rfl, ?_⟩; have n0_ := Aside0.mk (Kd.R_below (by (with_reducible repeat (first | apply Kd.R_alloc | apply Kd.R_drewN | apply Kd.R_drew)); exact HO_13.out) hb); have n1_ := Aside0.mk (Kd.R_below (by (with_reducible repeat (first | apply Kd.R_alloc | apply Kd.R_drewN | apply Kd.R_drew)); exact HO239.out) hb); have n2_ := Aside0.mk (blk_below (g := gb204) (o := .cells #[.int .u8 a4_0, .int .u8 a4_1, .int .u32 a4_2, .slice A4_3 l4_3.length c4_3, .slice A4_4 l4_4.length c4_4] 28 (0, 0)) (by (with_reducible repeat (first | refine blk_drewN ?_ _ | refine blk_drew ?_ | refine blk_alloc ?_ _)); exact BK204.out) hb); have n3_ := Aside0.mk (Kd.C_below (by repeat (first | (with_reducible exact HR229.out) | (with_reducible refine Kd.C_alloc ?_ _) | (with_reducible refine Kd.C_drewN ?_ _) | (with_reducible refine Kd.C_drew ?_) | exact HR229.out)) hb); have n4_ := Aside0.mk (Kd.C_below (by repeat (first | (with_reducible exact HR236.out) | (with_reducible refine Kd.C_alloc ?_ _) | (with_reducible refine Kd.C_drewN ?_ _) | (with_reducible refine Kd.C_drew ?_) | exact HR236.out)) hb); have n5_ := Aside0.mk (below_step (by repeat (first | (with_reducible first | exact HB.out | apply below_alloc | apply pw_below_drewN | apply below_drew1 | refine below_set ?_ GE204.out) | exact HB.out)) hb); clear HO_13; clear HO239; clear BK204; clear HR229; clear HR236; clear HB; have HO_13 := n0_; have HO239 := n1_; have BK204 := n2_; have HR229 := n3_; have HR236 := n4_; have HB := n5_; clear n0_ n1_ n2_ n3_ n4_ n5_; (try clear hb); (try clear hb2); (try clear hk); (try clear hi)) | ((with_reducible refine gate_callee (f := 9) rfl ?_); refine goesL_ (some 150) rfl rfl Tryd.func9 (by kernel_rfl) rfl #[.string t240] rfl (by (try simp only [List.map_toArray, List.map_cons, List.map_nil]); first | done | rfl | (simp only [List.length_drop, List.length_take]; rfl)) ?_; (with_reducible refine (spec_ReadRule.calls k4 t240 t241 t242 _ A62.out).mono ?_); rintro e w75 ⟨v243, rfl, ho0, hb⟩; refine ⟨_, rfl, ?_⟩; have n0_ := Aside0.mk (Kd.R_below (by (with_reducible repeat (first | apply Kd.R_alloc | apply Kd.R_drewN | apply Kd.R_drew)); exact HO_13.out) hb); have n1_ := Aside0.mk (Kd.R_below (by (with_reducible repeat (first | apply Kd.R_alloc | apply Kd.R_drewN | apply Kd.R_drew)); exact HO239.out) hb); have n2_ := Aside0.mk (Kd.R_lower ho0 (below_size (by repeat (first | (with_reducible first | exact HB.out | apply below_alloc | apply pw_below_drewN | apply below_drew1 | refine below_set ?_ GE204.out) | exact HB.out)))); have n3_ := Aside0.mk (blk_below (g := gb204) (o := .cells #[.int .u8 a4_0, .int .u8 a4_1, .int .u32 a4_2, .slice A4_3 l4_3.length c4_3, .slice A4_4 l4_4.length c4_4] 28 (0, 0)) (by (with_reducible repeat (first | refine blk_drewN ?_ _ | refine blk_drew ?_ | refine blk_alloc ?_ _)); exact BK204.out) hb); have n4_ := Aside0.mk (Kd.C_below (by repeat (first | (with_reducible exact HR229.out) | (with_reducible refine Kd.C_alloc ?_ _) | (with_reducible refine Kd.C_drewN ?_ _) | (with_reducible refine Kd.C_drew ?_) | exact HR229.out)) hb); have n5_ := Aside0.mk (Kd.C_below (by repeat (first | (with_reducible exact HR236.out) | (with_reducible refine Kd.C_alloc ?_ _) | (with_reducible refine Kd.C_drewN ?_ _) | (with_reducible refine Kd.C_drew ?_) | exact HR236.out)) hb); have n6_ := Aside0.mk (below_step (by repeat (first | (with_reducible first | exact HB.out | apply below_alloc | apply pw_below_drewN | apply below_drew1 | refine below_set ?_ GE204.out) | exact HB.out)) hb); clear HO_13; clear HO239; clear BK204; clear HR229; clear HR236; clear HB; have HO_13 := n0_; have HO239 := n1_; have HO244 := n2_; have BK204 := n3_; have HR229 := n4_; have HR236 := n5_; have HB := n6_; clear n0_ n1_ n2_ n3_ n4_ n5_ n6_; (try clear hb); (try clear hb2); (try clear hk); (try clear hi); (try clear ho0); obtain ⟨Ao76, co76, eo76⟩ := Kd.R_slice HO239.out; subst eo76) | ((with_reducible refine gate_callee (f := 10) rfl ?_); refine goesL_ (some 155) rfl rfl Tryd.func10 (by kernel_rfl) rfl #[.slice Ao76 y237.length co76] rfl (by (try simp only [List.map_toArray, List.map_cons, List.map_nil]); first | done | rfl | (simp only [List.length_drop, List.length_take]; rfl)) ?_; (with_reducible refine (impl_MtRule.calls k4 _ _ y237 t245 _ ?side1 ?side2 A63.out).mono ?_); (case side1 => repeat (first | exact (Kd.R_reads' HO239.out).2.2 | (with_reducible refine Kd.C_alloc ?_ _) | (with_reducible refine Kd.C_drewN ?_ _) | (with_reducible refine Kd.C_drew ?_))); (case side2 => exact (Kd.R_reads' HO239.out).2.1); rintro e w77 ⟨rfl, hb⟩; refine ⟨_, rfl, ?_⟩; have n0_ := Aside0.mk (Kd.R_below (by (with_reducible repeat (first | apply Kd.R_alloc | apply Kd.R_drewN | apply Kd.R_drew)); exact HO_13.out) hb); have n1_ := Aside0.mk (Kd.R_below (by (with_reducible repeat (first | apply Kd.R_alloc | apply Kd.R_drewN | apply Kd.R_drew)); exact HO239.out) hb); have n2_ := Aside0.mk (Kd.R_below (by (with_reducible repeat (first | apply Kd.R_alloc | apply Kd.R_drewN | apply Kd.R_drew)); exact HO244.out) hb); have n3_ := Aside0.mk (blk_below (g := gb204) (o := .cells #[.int .u8 a4_0, .int .u8 a4_1, .int .u32 a4_2, .slice A4_3 l4_3.length c4_3, .slice A4_4 l4_4.length c4_4] 28 (0, 0)) (by (with_reducible repeat (first | refine blk_drewN ?_ _ | refine blk_drew ?_ | refine blk_alloc ?_ _)); exact BK204.out) hb); have n4_ := Aside0.mk (Kd.C_below (by repeat (first | (with_reducible exact HR229.out) | (with_reducible refine Kd.C_alloc ?_ _) | (with_reducible refine Kd.C_drewN ?_ _) | (with_reducible refine Kd.C_drew ?_) | exact HR229.out)) hb); have n5_ := Aside0.mk (Kd.C_below (by repeat (first | (with_reducible exact HR236.out) | (with_reducible refine Kd.C_alloc ?_ _) | (with_reducible refine Kd.C_drewN ?_ _) | (with_reducible refine Kd.C_drew ?_) | exact HR236.out)) hb); have n6_ := Aside0.mk (below_step (by repeat (first | (with_reducible first | exact HB.out | apply below_alloc | apply pw_below_drewN | apply below_drew1 | refine below_set ?_ GE204.out) | exact HB.out)) hb); clear HO_13; clear HO239; clear HO244; clear BK204; clear HR229; clear HR236; clear HB; have HO_13 := n0_; have HO239 := n1_; have HO244 := n2_; have BK204 := n3_; have HR229 := n4_; have HR236 := n5_; have HB := n6_; clear n0_ n1_ n2_ n3_ n4_ n5_ n6_; (try clear hb); (try clear hb2); (try clear hk); (try clear hi)) | ((with_reducible refine gate_callee (f := 9) rfl ?_); refine goesL_ (some 156) rfl rfl Tryd.func9 (by kernel_rfl) rfl #[.string t245] rfl (by (try simp only [List.map_toArray, List.map_cons, List.map_nil]); first | done | rfl | (simp only [List.length_drop, List.length_take]; rfl)) ?_; (with_reducible refine (spec_ReadRule.calls k4 t245 t246 t247 _ A64.out).mono ?_); rintro e w78 ⟨v248, rfl, ho0, hb⟩; refine ⟨_, rfl, ?_⟩; have n0_ := Aside0.mk (Kd.R_below (by (with_reducible repeat (first | apply Kd.R_alloc | apply Kd.R_drewN | apply Kd.R_drew)); exact HO_13.out) hb); have n1_ := Aside0.mk (Kd.R_below (by (with_reducible repeat (first | apply Kd.R_alloc | apply Kd.R_drewN | apply Kd.R_drew)); exact HO239.out) hb); have n2_ := Aside0.mk (Kd.R_elder' (by (with_reducible repeat (first | apply Kd.R_alloc | apply Kd.R_drewN | apply Kd.R_drew)); exact HO244.out) (Kd.R_base ho0) hb); have n3_ := Aside0.mk (Kd.R_lower (Kd.R_new' ho0 (Kd.R_lt (by (with_reducible repeat (first | apply Kd.R_alloc | apply Kd.R_drewN | apply Kd.R_drew)); exact HO244.out))) (below_size (by repeat (first | (with_reducible first | exact HB.out | apply below_alloc | apply pw_below_drewN | apply below_drew1 | refine below_set ?_ GE204.out) | exact HB.out)))); have n4_ := Aside0.mk (blk_below (g := gb204) (o := .cells #[.int .u8 a4_0, .int .u8 a4_1, .int .u32 a4_2, .slice A4_3 l4_3.length c4_3, .slice A4_4 l4_4.length c4_4] 28 (0, 0)) (by (with_reducible repeat (first | refine blk_drewN ?_ _ | refine blk_drew ?_ | refine blk_alloc ?_ _)); exact BK204.out) hb); have n5_ := Aside0.mk (Kd.C_below (by repeat (first | (with_reducible exact HR229.out) | (with_reducible refine Kd.C_alloc ?_ _) | (with_reducible refine Kd.C_drewN ?_ _) | (with_reducible refine Kd.C_drew ?_) | exact HR229.out)) hb); have n6_ := Aside0.mk (Kd.C_below (by repeat (first | (with_reducible exact HR236.out) | (with_reducible refine Kd.C_alloc ?_ _) | (with_reducible refine Kd.C_drewN ?_ _) | (with_reducible refine Kd.C_drew ?_) | exact HR236.out)) hb); have n7_ := Aside0.mk (below_step (by repeat (first | (with_reducible first | exact HB.out | apply below_alloc | apply pw_below_drewN | apply below_drew1 | refine below_set ?_ GE204.out) | exact HB.out)) hb); clear HO_13; clear HO239; clear HO244; clear BK204; clear HR229; clear HR236; clear HB; have HO_13 := n0_; have HO239 := n1_; have HO244 := n2_; have HO249 := n3_; have BK204 := n4_; have HR229 := n5_; have HR236 := n6_; have HB := n7_; clear n0_ n1_ n2_ n3_ n4_ n5_ n6_ n7_; (try clear hb); (try clear hb2); (try clear hk); (try clear hi); (try clear ho0)))
                                    (try simp only [Act.put, List.setIfInBounds_toArray, List.set_cons_zero, List.set_cons_succ])
                                    go_cut [176] (fun v176 wc => ∃ (kq : Nat) (x176_64 : Bool), v176 = .bool x176_64 ∧ Aside0 (laws_FnMtRuleOrder.j4 kq (l0.length : Int) ji54 t241 t246 x176_64 a4_0 a4_1 a4_2 l4_3 l4_4 = some r) ∧ Aside0 (kq ≤ k4) ∧ Aside0 (Kd.R k41 41 wc w.heap.size (fun k_ => some k_ ≠ (v248 : Value).ownBlock) v243 t241) ∧ Aside0 (Kd.R k41 41 wc w.heap.size (fun k_ => some k_ ≠ (v243 : Value).ownBlock) v248 t246) ∧ Aside0 (wc.heap[gb204]? = some (.cells #[.int .u8 a4_0, .int .u8 a4_1, .int .u32 a4_2, (.slice A4_3 l4_3.length c4_3), (.slice A4_4 l4_4.length c4_4)] 28 (0, 0))) ∧ Aside0 (Kd.C k32 wc none ([] : List S32).length ([] : List S32)) ∧ Aside0 (Kd.C k32 wc none ([] : List S32).length ([] : List S32)) ∧ Aside0 (Below w.heap.size w wc))
                                    case first => as_aux_lemma =>
                                      have H := HC65.out
                                      clear HC65
                                      by_cases c79 : t242 = true
                                      · subst c79
                                        have H1 : (if t247 = true then (if (t241.length : Int) = (l0.length : Int) then (laws_FnMtRuleOrder.j4 k4 (l0.length : Int) ji54 t241 t246 ((t246.length : Int) != (l0.length : Int)) a4_0 a4_1 a4_2 l4_3 l4_4) else (laws_FnMtRuleOrder.j4 k4 (l0.length : Int) ji54 t241 t246 true a4_0 a4_1 a4_2 l4_3 l4_4)) else (laws_FnMtRuleOrder.j4 k4 (l0.length : Int) ji54 t241 t246 true a4_0 a4_1 a4_2 l4_3 l4_4)) = some r := by rw [if_pos rfl] at H; exact H
                                        clear H
                                        have H := H1
                                        clear H1
                                        by_cases c80 : t247 = true
                                        · subst c80
                                          have H1 : (if (t241.length : Int) = (l0.length : Int) then (laws_FnMtRuleOrder.j4 k4 (l0.length : Int) ji54 t241 t246 ((t246.length : Int) != (l0.length : Int)) a4_0 a4_1 a4_2 l4_3 l4_4) else (laws_FnMtRuleOrder.j4 k4 (l0.length : Int) ji54 t241 t246 true a4_0 a4_1 a4_2 l4_3 l4_4)) = some r := by rw [if_pos rfl] at H; exact H
                                          clear H
                                          have H := H1
                                          clear H1
                                          by_cases c81 : (t241.length : Int) = (l0.length : Int)
                                          · rw [if_pos c81] at H
                                            have c81b0 : ((t241.length : Int) == (l0.length : Int)) = true := beq_iff_eq.mpr c81
                                            have c81b1 : ((t241.length : Int) != (l0.length : Int)) = false := bne_eq_false_iff_eq.mpr c81
                                            have c81b2 : (t241.length == l0.length) = true := by first | simpa using c81 | (simp at c81 ⊢; omega)
                                            clear c81
                                            (first | rw [c81b0] | (simp only [i64_w, i32_w]; rw [c81b0]) | skip)
                                            have H' := Aside0.mk H
                                            clear H
                                            obtain ⟨Ao82, co82, eo82⟩ := Kd.R_slice HO244.out
                                            subst eo82
                                            obtain ⟨Ao83, co83, eo83⟩ := Kd.R_slice HO249.out
                                            subst eo83
                                            go_wp2
                                            go_meet
                                            case rel => exact ⟨_, (((t246.length : Int) != (l0.length : Int))), (by first | rfl | (simp; done) | (simp [*]; done)), H', ⟨by have := HJ5.out; have := HJ15.out; have := HK3.out; have := HK4.out; first | omega | exact Nat.le_refl _⟩, ⟨by (with_reducible repeat (first | apply Kd.R_alloc | apply Kd.R_drewN | apply Kd.R_drew)); exact Kd.R_mono HO244.out (fun _ hk => hk.2)⟩, ⟨by (with_reducible repeat (first | apply Kd.R_alloc | apply Kd.R_drewN | apply Kd.R_drew)); exact Kd.R_mono HO249.out (fun _ hk => hk.2)⟩, ⟨by (with_reducible repeat (first | refine blk_drewN ?_ _ | refine blk_drew ?_ | refine blk_alloc ?_ _)); exact BK204.out⟩, ⟨Kd.C_nil _ _⟩, ⟨Kd.C_nil _ _⟩, ⟨by repeat (first | (with_reducible first | exact HB.out | apply below_alloc | apply pw_below_drewN | apply below_drew1 | refine below_set ?_ GE204.out) | exact HB.out)⟩⟩
                                          · rw [if_neg c81] at H
                                            have c81b0 : ((t241.length : Int) == (l0.length : Int)) = false := beq_eq_false_iff_ne.mpr c81
                                            have c81b1 : ((t241.length : Int) != (l0.length : Int)) = true := bne_iff_ne.mpr c81
                                            have c81b2 : (t241.length == l0.length) = false := by first | simpa using c81 | (simp at c81 ⊢; omega)
                                            (first | rw [c81b0] | (simp only [i64_w, i32_w]; rw [c81b0]) | skip)
                                            have H' := Aside0.mk H
                                            clear H
                                            obtain ⟨Ao84, co84, eo84⟩ := Kd.R_slice HO244.out
                                            subst eo84
                                            go_wp2
                                            go_meet
                                            case rel => exact ⟨_, (true), (by first | rfl | (simp; done) | (simp [*]; done)), H', ⟨by have := HJ5.out; have := HJ15.out; have := HK3.out; have := HK4.out; first | omega | exact Nat.le_refl _⟩, ⟨by (with_reducible repeat (first | apply Kd.R_alloc | apply Kd.R_drewN | apply Kd.R_drew)); exact Kd.R_mono HO244.out (fun _ hk => hk.2)⟩, ⟨by (with_reducible repeat (first | apply Kd.R_alloc | apply Kd.R_drewN | apply Kd.R_drew)); exact Kd.R_mono HO249.out (fun _ hk => hk.2)⟩, ⟨by (with_reducible repeat (first | refine blk_drewN ?_ _ | refine blk_drew ?_ | refine blk_alloc ?_ _)); exact BK204.out⟩, ⟨Kd.C_nil _ _⟩, ⟨Kd.C_nil _ _⟩, ⟨by repeat (first | (with_reducible first | exact HB.out | apply below_alloc | apply pw_below_drewN | apply below_drew1 | refine below_set ?_ GE204.out) | exact HB.out)⟩⟩
                                        · replace c80 := Bool.eq_false_iff.mpr c80
                                          subst c80
                                          have H1 : (laws_FnMtRuleOrder.j4 k4 (l0.length : Int) ji54 t241 t246 true a4_0 a4_1 a4_2 l4_3 l4_4) = some r := by rw [if_neg (show ¬ (false = true) by decide)] at H; exact H
                                          clear H
                                          have H := H1
                                          clear H1
                                          have H' := Aside0.mk H
                                          clear H
                                          go_wp2
                                          go_meet
                                          case rel => exact ⟨_, (true), (by first | rfl | (simp; done) | (simp [*]; done)), H', ⟨by have := HJ5.out; have := HJ15.out; have := HK3.out; have := HK4.out; first | omega | exact Nat.le_refl _⟩, ⟨by (with_reducible repeat (first | apply Kd.R_alloc | apply Kd.R_drewN | apply Kd.R_drew)); exact Kd.R_mono HO244.out (fun _ hk => hk.2)⟩, ⟨by (with_reducible repeat (first | apply Kd.R_alloc | apply Kd.R_drewN | apply Kd.R_drew)); exact Kd.R_mono HO249.out (fun _ hk => hk.2)⟩, ⟨by (with_reducible repeat (first | refine blk_drewN ?_ _ | refine blk_drew ?_ | refine blk_alloc ?_ _)); exact BK204.out⟩, ⟨Kd.C_nil _ _⟩, ⟨Kd.C_nil _ _⟩, ⟨by repeat (first | (with_reducible first | exact HB.out | apply below_alloc | apply pw_below_drewN | apply below_drew1 | refine below_set ?_ GE204.out) | exact HB.out)⟩⟩
                                      · replace c79 := Bool.eq_false_iff.mpr c79
                                        subst c79
                                        have H1 : (laws_FnMtRuleOrder.j4 k4 (l0.length : Int) ji54 t241 t246 true a4_0 a4_1 a4_2 l4_3 l4_4) = some r := by rw [if_neg (show ¬ (false = true) by decide)] at H; exact H
                                        clear H
                                        have H := H1
                                        clear H1
                                        have H' := Aside0.mk H
                                        clear H
                                        go_wp2
                                        go_meet
                                        case rel => exact ⟨_, (true), (by first | rfl | (simp; done) | (simp [*]; done)), H', ⟨by have := HJ5.out; have := HJ15.out; have := HK3.out; have := HK4.out; first | omega | exact Nat.le_refl _⟩, ⟨by (with_reducible repeat (first | apply Kd.R_alloc | apply Kd.R_drewN | apply Kd.R_drew)); exact Kd.R_mono HO244.out (fun _ hk => hk.2)⟩, ⟨by (with_reducible repeat (first | apply Kd.R_alloc | apply Kd.R_drewN | apply Kd.R_drew)); exact Kd.R_mono HO249.out (fun _ hk => hk.2)⟩, ⟨by (with_reducible repeat (first | refine blk_drewN ?_ _ | refine blk_drew ?_ | refine blk_alloc ?_ _)); exact BK204.out⟩, ⟨Kd.C_nil _ _⟩, ⟨Kd.C_nil _ _⟩, ⟨by repeat (first | (with_reducible first | exact HB.out | apply below_alloc | apply pw_below_drewN | apply below_drew1 | refine below_set ?_ GE204.out) | exact HB.out)⟩⟩
                                    case rest => as_aux_lemma =>
                                      clear HC65
                                      try clear c1
                                      try clear p2
                                      try clear q2
                                      try clear hx2
                                      try clear c4
                                      try clear c5
                                      try clear c6
                                      try clear p6
                                      try clear q6
                                      try clear c7
                                      try clear c8
                                      try clear c9
                                      try clear c10
                                      try clear p21
                                      try clear q21
                                      try clear hx21
                                      try clear c40
                                      try clear c40b0
                                      try clear c41
                                      try clear c42
                                      try clear c43
                                      try clear c44
                                      try clear c53
                                      try clear c53b0
                                      try clear c53b1
                                      try clear c53b2
                                      try clear c55
                                      try clear c55b0
                                      try clear c55b1
                                      try clear c56
                                      try clear c56b0
                                      try clear c56b1
                                      try clear c57
                                      try clear c58
                                      try clear c58b0
                                      try clear c59
                                      try clear c59b0
                                      try clear c60
                                      try clear p64
                                      try clear c67
                                      try clear q67
                                      try clear q69
                                      try clear c79
                                      try clear c80
                                      try clear c81
                                      try clear c81b0
                                      try clear c81b1
                                      try clear c81b2
                                      try clear hx214_0
                                      try clear hx215_0
                                      try clear hx216_0
                                      try clear p214
                                      try clear p215
                                      try clear p216
                                      try clear q067
                                      try clear q214
                                      try clear q215
                                      try clear q216
                                      try clear q67
                                      try clear q69
                                      obtain ⟨kq, x176_64, rfl, HA, HJ64, HO_20, HO_22, BK204, HR229, HR236, HB⟩ := hcut
                                      cases kq with
                                      | zero => exact absurd HA.out (by simp [laws_FnMtRuleOrder.j4])
                                      | succ kj64 =>
                                        have H := HA.out
                                        clear HA
                                        simp only [laws_FnMtRuleOrder.j4] at H
                                        by_cases c85 : x176_64 = true
                                        · subst c85
                                          have H1 : (some false) = some r := by rw [if_pos rfl] at H; exact H
                                          clear H
                                          have H := H1
                                          clear H1
                                          obtain rfl := Option.some.inj H
                                          go_wp2
                                          go_ret
                                          exact ⟨by first | rfl | (simp [errW_none, errW_some] <;> rfl) | (simp only [← hji54]; first | rfl | (simp [errW_none, errW_some] <;> rfl)) | (simp [*, errW_none, errW_some] <;> rfl), by repeat (first | (with_reducible first | exact HB.out | apply below_alloc | apply pw_below_drewN | apply below_drew1 | refine below_set ?_ GE204.out) | exact HB.out)⟩
                                        · replace c85 := Bool.eq_false_iff.mpr c85
                                          subst c85
                                          have H1 : (laws_FnMtRuleOrder.l2 kj64 (l0.length : Int) ji54 t241 t246 (t241.length : Int) 0 a4_0 a4_1 a4_2 l4_3 l4_4) = some r := by rw [if_neg (show ¬ (false = true) by decide)] at H; exact H
                                          clear H
                                          have H := H1
                                          clear H1
                                          have H' := Aside0.mk H
                                          clear H
                                          obtain ⟨Ao86, co86, eo86⟩ := Kd.R_slice HO_20.out
                                          subst eo86
                                          go_wp2
                                          go_loopg [179] kj64 (fun kq v179 w' => ∃ (x179_6 : Int), v179 = .int .i64 x179_6 ∧ Aside0 (laws_FnMtRuleOrder.l2 kq (l0.length : Int) ji54 t241 t246 (t241.length : Int) x179_6 a4_0 a4_1 a4_2 l4_3 l4_4 = some r) ∧ Aside0 (kq ≤ kj64) ∧ Aside0 (Kd.R k41 41 w' w.heap.size (fun k_ => some k_ ≠ (v248 : Value).ownBlock) (.slice Ao86 t241.length co86) t241) ∧ Aside0 (Kd.R k41 41 w' w.heap.size (fun k_ => some k_ ≠ ((.slice Ao86 t241.length co86) : Value).ownBlock) v248 t246) ∧ Aside0 (w'.heap[gb204]? = some (.cells #[.int .u8 a4_0, .int .u8 a4_1, .int .u32 a4_2, (.slice A4_3 l4_3.length c4_3), (.slice A4_4 l4_4.length c4_4)] 28 (0, 0))) ∧ Aside0 (Kd.C k32 w' none ([] : List S32).length ([] : List S32)) ∧ Aside0 (Kd.C k32 w' none ([] : List S32).length ([] : List S32)) ∧ Aside0 (Below w.heap.size w w'))
                                          case atStart => exact ⟨(0), (by first | rfl | (simp; done) | (simp [*]; done)), H', ⟨Nat.le_refl _⟩, ⟨by (with_reducible repeat (first | apply Kd.R_alloc | apply Kd.R_drewN | apply Kd.R_drew)); exact HO_20.out⟩, ⟨by (with_reducible repeat (first | apply Kd.R_alloc | apply Kd.R_drewN | apply Kd.R_drew)); exact HO_22.out⟩, ⟨by (with_reducible repeat (first | refine blk_drewN ?_ _ | refine blk_drew ?_ | refine blk_alloc ?_ _)); exact BK204.out⟩, ⟨Kd.C_nil _ _⟩, ⟨Kd.C_nil _ _⟩, ⟨by repeat (first | (with_reducible first | exact HB.out | apply below_alloc | apply pw_below_drewN | apply below_drew1 | refine below_set ?_ GE204.out) | exact HB.out)⟩⟩
                                          case round => as_aux_lemma =>
                                            clear H'
                                            try clear c1
                                            try clear p2
                                            try clear q2
                                            try clear hx2
                                            try clear c4
                                            try clear c5
                                            try clear c6
                                            try clear p6
                                            try clear q6
                                            try clear c7
                                            try clear c8
                                            try clear c9
                                            try clear c10
                                            try clear p21
                                            try clear q21
                                            try clear hx21
                                            try clear c40
                                            try clear c40b0
                                            try clear c41
                                            try clear c42
                                            try clear c43
                                            try clear c44
                                            try clear c53
                                            try clear c53b0
                                            try clear c53b1
                                            try clear c53b2
                                            try clear c55
                                            try clear c55b0
                                            try clear c55b1
                                            try clear c56
                                            try clear c56b0
                                            try clear c56b1
                                            try clear c57
                                            try clear c58
                                            try clear c58b0
                                            try clear c59
                                            try clear c59b0
                                            try clear c60
                                            try clear p64
                                            try clear c67
                                            try clear q67
                                            try clear q69
                                            try clear c79
                                            try clear c80
                                            try clear c81
                                            try clear c81b0
                                            try clear c81b1
                                            try clear c81b2
                                            try clear c85
                                            try clear hx214_0
                                            try clear hx215_0
                                            try clear hx216_0
                                            try clear p2
                                            try clear p21
                                            try clear p214
                                            try clear p215
                                            try clear p216
                                            try clear p6
                                            try clear p64
                                            try clear q067
                                            try clear q2
                                            try clear q21
                                            try clear q214
                                            try clear q215
                                            try clear q216
                                            try clear q6
                                            try clear q67
                                            try clear q69
                                            obtain ⟨x179_6, rfl, HA, HK6, HO_20, HO_22, BK204, HR229, HR236, HB⟩ := hrel
                                            cases gk with
                                            | zero => exact absurd HA.out (by simp [laws_FnMtRuleOrder.l2])
                                            | succ k6 =>
                                              have H := HA.out
                                              clear HA
                                              simp only [laws_FnMtRuleOrder.l2] at H
                                              by_cases c87 : x179_6 < (t241.length : Int)
                                              · rw [if_pos c87] at H
                                                have c87b0 : decide (x179_6 < (t241.length : Int)) = true := decide_eq_true c87
                                                clear c87
                                                by_cases c88 : (l0.length : Int) = 0
                                                · rw [if_pos c88] at H
                                                  exact absurd H (by simp)
                                                · rw [if_neg c88] at H
                                                  have c88b0 : ((l0.length : Int) == 0) = false := beq_eq_false_iff_ne.mpr c88
                                                  have c88b1 : ((l0.length : Int) != 0) = true := bne_iff_ne.mpr c88
                                                  have c88b2 : ¬ (l0 = []) := fun h_ => c88 (by rw [h_]; rfl)
                                                  obtain ⟨ji89, hji89⟩ : ∃ j_ : Int, (Int.tmod (wrap64 (x179_6 + ji54)) (l0.length : Int)) = j_ := ⟨_, rfl⟩
                                                  replace H : (if 0 ≤ (ji89) then (if (ji89) < (t241.length : Int) then (if 0 ≤ x179_6 then (if x179_6 < (t246.length : Int) then (if (!((((rd_T41 t241 (ji89)).f0).toList) == (((rd_T41 t246 x179_6).f0).toList)) || (!((((rd_T41 t241 (ji89)).f1).toList) == (((rd_T41 t246 x179_6).f1).toList)))) = true then (some false) else (laws_FnMtRuleOrder.l2 k6 (l0.length : Int) ji54 t241 t246 (t241.length : Int) (wrap64 (x179_6 + 1)) a4_0 a4_1 a4_2 l4_3 l4_4)) else (none)) else (none)) else (none)) else (none)) = some r := by first | (rw [hji89] at H; exact H) | (simp only [hji89] at H ⊢; exact H)
                                                  by_cases c90 : 0 ≤ (ji89)
                                                  · rw [if_pos c90] at H
                                                    have c90b0 : decide (0 ≤ (ji89)) = true := decide_eq_true c90
                                                    clear c90
                                                    by_cases c91 : (ji89) < (t241.length : Int)
                                                    · rw [if_pos c91] at H
                                                      have c91b0 : decide ((ji89) < (t241.length : Int)) = true := decide_eq_true c91
                                                      clear c91
                                                      by_cases c92 : 0 ≤ x179_6
                                                      · rw [if_pos c92] at H
                                                        have c92b0 : decide (0 ≤ x179_6) = true := decide_eq_true c92
                                                        clear c92
                                                        by_cases c93 : x179_6 < (t246.length : Int)
                                                        · rw [if_pos c93] at H
                                                          have c93b0 : decide (x179_6 < (t246.length : Int)) = true := decide_eq_true c93
                                                          clear c93
                                                          by_cases c94 : (!((((rd_T41 t241 (ji89)).f0).toList) == (((rd_T41 t246 x179_6).f0).toList)) || (!((((rd_T41 t241 (ji89)).f1).toList) == (((rd_T41 t246 x179_6).f1).toList)))) = true
                                                          · rw [if_pos c94] at H
                                                            have c94b0 : (!((((rd_T41 t241 (ji89)).f0).toList) == (((rd_T41 t246 x179_6).f0).toList)) || (!((((rd_T41 t241 (ji89)).f1).toList) == (((rd_T41 t246 x179_6).f1).toList)))) = true := c94
                                                            clear c94
                                                            obtain rfl := Option.some.inj H
                                                            try go_wp2
                                                            have n0_ := Aside0.mk (Kd.R_drew HO_20.out)
                                                            have n1_ := Aside0.mk (Kd.R_drew HO_22.out)
                                                            have n2_ := Aside0.mk (blk_drew BK204.out)
                                                            have n3_ := Aside0.mk (Kd.C_drew HR229.out)
                                                            have n4_ := Aside0.mk (Kd.C_drew HR236.out)
                                                            have n5_ := Aside0.mk (below_drew1 HB.out)
                                                            clear HO_20
                                                            clear HO_22
                                                            clear BK204
                                                            clear HR229
                                                            clear HR236
                                                            clear HB
                                                            have HO_20 := n0_
                                                            have HO_22 := n1_
                                                            have BK204 := n2_
                                                            have HR229 := n3_
                                                            have HR236 := n4_
                                                            have HB := n5_
                                                            clear n0_ n1_ n2_ n3_ n4_ n5_
                                                            have p250 : 0 ≤ ((ji89) : Int) := of_decide_eq_true (by first | (with_reducible assumption) | assumption)
                                                            have q250 : (ji89) < (t241.length : Int) := of_decide_eq_true (by first | (with_reducible assumption) | assumption)
                                                            obtain ⟨ad250, e250, hx250_0, hx250_1⟩ := at_T41 (Kd.R_reads' HO_20.out).2.2 (ji89) p250 q250
                                                            cases e250
                                                            replace p250 := eq_true p250
                                                            replace q250 := eq_true q250
                                                            obtain ⟨Ao96, co96, eo96⟩ := Kd.R_slice HO_22.out
                                                            (first | subst eo96 | (injection eo96 with f1_ f2_ f3_; have f4_ := f1_.symm; have f5_ := f3_.symm; clear f1_ f2_ f3_; subst f4_; subst f5_))
                                                            have p251 : 0 ≤ (x179_6 : Int) := of_decide_eq_true (by first | (with_reducible assumption) | assumption)
                                                            have q251 : x179_6 < (t246.length : Int) := of_decide_eq_true (by first | (with_reducible assumption) | assumption)
                                                            obtain ⟨ad251, e251, hx251_0, hx251_1⟩ := at_T41 (Kd.R_reads' HO_22.out).2.2 x179_6 p251 q251
                                                            cases e251
                                                            replace p251 := eq_true p251
                                                            replace q251 := eq_true q251
                                                            refine start_ (n := 13) (S := fun w' => w'.cell? (ad250.add (((ji89)).toNat * 2)) = some (.string ((rd_T41 t241 (ji89)).f0)) ∧ w'.cell? ⟨(ad250.add (((ji89)).toNat * 2)).block, (ad250.add (((ji89)).toNat * 2)).off + 1, none⟩ = some (.string ((rd_T41 t241 (ji89)).f1)) ∧ w'.cell? (ad251.add ((x179_6).toNat * 2)) = some (.string ((rd_T41 t246 x179_6).f0)) ∧ w'.cell? ⟨(ad251.add ((x179_6).toNat * 2)).block, (ad251.add ((x179_6).toNat * 2)).off + 1, none⟩ = some (.string ((rd_T41 t246 x179_6).f1))) (ds := []) #[false, false, false, false, false, false, false, false, false, false, false, false, false] (by kernel_rfl) rfl rfl ⟨hx250_0, hx250_1, hx251_0, hx251_1⟩ (fun hHeld => ?_); refine with_tabW laws_FnMtRuleOrder.tab30 laws_FnMtRuleOrder.bits30 (fun HT_ HW_ => ?_)
                                                            generalize wr.drew = w95 at HO_20 HO_22 BK204 HR229 HR236 HB hx250_0 hx250_1 hx251_0 hx251_1 hHeld ⊢
                                                            refine pure_ (i := 0) (N := some 182) (v := ?_) (a' := ?_) #[true, false, false, false, false, false, false, false, false, false, false, false, false] rfl rfl (any_of HT_.out (by kernel_rfl)) (fun _ _ _ h => h) (Or.inl ⟨by rfl, ?_⟩) ?_ ?_
                                                            rotate_left
                                                            · intro w'
                                                              go_simp
                                                              with_reducible rfl
                                                            rotate_left
                                                            · simp only [Act.put, List.setIfInBounds_toArray, List.set_cons_zero, List.set_cons_succ, i64_w, i32_w]
                                                              rfl
                                                            refine pure_ (i := 1) (N := some 183) (v := ?_) (a' := ?_) #[true, true, false, false, false, false, false, false, false, false, false, false, false] rfl rfl (any_of HT_.out (by kernel_rfl)) (fun _ _ _ h => h) (Or.inl ⟨by rfl, ?_⟩) ?_ ?_
                                                            rotate_left
                                                            · intro w'
                                                              go_simp
                                                              with_reducible rfl
                                                            rotate_left
                                                            · simp only [Act.put, List.setIfInBounds_toArray, List.set_cons_zero, List.set_cons_succ, i64_w, i32_w]
                                                              rfl
                                                            refine pure_ (i := 2) (N := some 184) (v := ?_) (a' := ?_) #[true, true, true, false, false, false, false, false, false, false, false, false, false] rfl rfl (any_of HT_.out (by kernel_rfl)) (fun _ _ _ h => h) (Or.inl ⟨by rfl, ?_⟩) ?_ ?_
                                                            rotate_left
                                                            · intro w'
                                                              go_simp
                                                              with_reducible rfl
                                                            rotate_left
                                                            · simp only [Act.put, List.setIfInBounds_toArray, List.set_cons_zero, List.set_cons_succ, i64_w, i32_w]
                                                              rfl
                                                            refine pure_ (i := 3) (N := some 185) (v := ?_) (a' := ?_) #[true, true, true, true, false, false, false, false, false, false, false, false, false] rfl rfl (any_of HT_.out (by kernel_rfl)) (fun _ _ _ h => h) (Or.inl ⟨by rfl, ?_⟩) ?_ ?_
                                                            rotate_left
                                                            · intro w'
                                                              go_simp
                                                              with_reducible rfl
                                                            rotate_left
                                                            · simp only [Act.put, List.setIfInBounds_toArray, List.set_cons_zero, List.set_cons_succ, i64_w, i32_w]
                                                              rfl
                                                            refine pure_ (i := 4) (N := some 186) (v := ?_) (a' := ?_) #[true, true, true, true, true, false, false, false, false, false, false, false, false] rfl rfl (any_of HT_.out (by kernel_rfl)) (fun _ _ _ h => h) (Or.inl ⟨by rfl, ?_⟩) ?_ ?_
                                                            rotate_left
                                                            · intro w'
                                                              go_simp
                                                              with_reducible rfl
                                                            rotate_left
                                                            · simp only [Act.put, List.setIfInBounds_toArray, List.set_cons_zero, List.set_cons_succ, i64_w, i32_w]
                                                              rfl
                                                            refine pure_ (i := 5) (N := some 187) (v := ?_) (a' := ?_) #[true, true, true, true, true, true, false, false, false, false, false, false, false] rfl rfl (any_of HT_.out (by kernel_rfl)) (fun _ _ _ h => h) (Or.inl ⟨by rfl, ?_⟩) ?_ ?_
                                                            rotate_left
                                                            · intro w'
                                                              go_simp
                                                              with_reducible rfl
                                                            rotate_left
                                                            · simp only [Act.put, List.setIfInBounds_toArray, List.set_cons_zero, List.set_cons_succ, i64_w, i32_w]
                                                              rfl
                                                            refine pure_ (i := 6) (N := some 188) (v := ?_) (a' := ?_) #[true, true, true, true, true, true, true, false, false, false, false, false, false] rfl rfl (any_of HT_.out (by kernel_rfl)) (fun _ _ _ h => h) (Or.inl ⟨by rfl, ?_⟩) ?_ ?_
                                                            rotate_left
                                                            · intro w'
                                                              go_simp
                                                              with_reducible rfl
                                                            rotate_left
                                                            · simp only [Act.put, List.setIfInBounds_toArray, List.set_cons_zero, List.set_cons_succ, i64_w, i32_w]
                                                              rfl
                                                            refine pure_ (i := 8) (N := some 190) (v := ?_) (a' := ?_) #[true, true, true, true, true, true, true, false, true, false, false, false, false] rfl rfl (any_of HT_.out (by kernel_rfl)) (fun _ _ _ h => h) (Or.inl ⟨by rfl, ?_⟩) ?_ ?_
                                                            rotate_left
                                                            · intro w'
                                                              go_simp
                                                              with_reducible rfl
                                                            rotate_left
                                                            · simp only [Act.put, List.setIfInBounds_toArray, List.set_cons_zero, List.set_cons_succ, i64_w, i32_w]
                                                              rfl
                                                            refine pure_ (i := 9) (N := some 191) (v := ?_) (a' := ?_) #[true, true, true, true, true, true, true, false, true, true, false, false, false] rfl rfl (any_of HT_.out (by kernel_rfl)) (fun _ _ _ h => h) (Or.inl ⟨by rfl, ?_⟩) ?_ ?_
                                                            rotate_left
                                                            · intro w'
                                                              go_simp
                                                              with_reducible rfl
                                                            rotate_left
                                                            · simp only [Act.put, List.setIfInBounds_toArray, List.set_cons_zero, List.set_cons_succ, i64_w, i32_w]
                                                              rfl
                                                            refine pure_ (i := 10) (N := some 192) (v := ?_) (a' := ?_) #[true, true, true, true, true, true, true, false, true, true, true, false, false] rfl rfl (any_of HT_.out (by kernel_rfl)) (fun _ _ _ h => h) (Or.inl ⟨by rfl, ?_⟩) ?_ ?_
                                                            rotate_left
                                                            · intro w'
                                                              go_simp
                                                              with_reducible rfl
                                                            rotate_left
                                                            · simp only [Act.put, List.setIfInBounds_toArray, List.set_cons_zero, List.set_cons_succ, i64_w, i32_w]
                                                              rfl
                                                            refine take_ (i := 7) (N := some 189) (v := ?_) (a' := ?_) #[true, true, true, true, true, true, true, true, true, true, true, false, false] rfl rfl (take_ofW HT_.out HW_.out (by kernel_rfl)) (fun _ _ _ h => h) (Or.inl ⟨by rfl, ?_⟩) hHeld ?_ ?_
                                                            rotate_left
                                                            · rintro w' ⟨s0, s1, s2, s3⟩
                                                              go_simp
                                                              with_reducible rfl
                                                            rotate_left
                                                            · simp only [Act.put, List.setIfInBounds_toArray, List.set_cons_zero, List.set_cons_succ, i64_w, i32_w]
                                                              rfl
                                                            refine take_ (i := 11) (N := some 193) (v := ?_) (a' := ?_) #[true, true, true, true, true, true, true, true, true, true, true, true, false] rfl rfl (take_ofW HT_.out HW_.out (by kernel_rfl)) (fun _ _ _ h => h) (Or.inl ⟨by rfl, ?_⟩) hHeld ?_ ?_
                                                            rotate_left
                                                            · rintro w' ⟨s0, s1, s2, s3⟩
                                                              go_simp
                                                              with_reducible rfl
                                                            rotate_left
                                                            · simp only [Act.put, List.setIfInBounds_toArray, List.set_cons_zero, List.set_cons_succ, i64_w, i32_w]
                                                              rfl
                                                            refine pure_ (i := 12) (N := some 194) (v := ?_) (a' := ?_) #[true, true, true, true, true, true, true, true, true, true, true, true, true] rfl rfl (any_of HT_.out (by kernel_rfl)) (fun _ _ _ h => h) (Or.inl ⟨by rfl, ?_⟩) ?_ ?_
                                                            rotate_left
                                                            · intro w'
                                                              go_simp
                                                              with_reducible rfl
                                                            rotate_left
                                                            · simp only [Act.put, List.setIfInBounds_toArray, List.set_cons_zero, List.set_cons_succ, i64_w, i32_w]
                                                              rfl
                                                            refine done_ (done_of HT_.out (by kernel_rfl)) ?_
                                                            try go_wp2
                                                            go_ret
                                                            exact ⟨by first | rfl | (simp [errW_none, errW_some] <;> rfl) | (simp only [← hji54, ← hji89]; first | rfl | (simp [errW_none, errW_some] <;> rfl)) | (simp [*, errW_none, errW_some] <;> rfl), by repeat (first | (with_reducible first | exact HB.out | apply below_alloc | apply pw_below_drewN | apply below_drew1 | refine below_set ?_ GE204.out) | exact HB.out)⟩
                                                          · rw [if_neg c94] at H
                                                            have c94b0 : (!((((rd_T41 t241 (ji89)).f0).toList) == (((rd_T41 t246 x179_6).f0).toList)) || (!((((rd_T41 t241 (ji89)).f1).toList) == (((rd_T41 t246 x179_6).f1).toList)))) = false := by simpa using c94
                                                            clear c94
                                                            have H' := Aside0.mk H
                                                            clear H
                                                            try go_wp2
                                                            have n0_ := Aside0.mk (Kd.R_drew HO_20.out)
                                                            have n1_ := Aside0.mk (Kd.R_drew HO_22.out)
                                                            have n2_ := Aside0.mk (blk_drew BK204.out)
                                                            have n3_ := Aside0.mk (Kd.C_drew HR229.out)
                                                            have n4_ := Aside0.mk (Kd.C_drew HR236.out)
                                                            have n5_ := Aside0.mk (below_drew1 HB.out)
                                                            clear HO_20
                                                            clear HO_22
                                                            clear BK204
                                                            clear HR229
                                                            clear HR236
                                                            clear HB
                                                            have HO_20 := n0_
                                                            have HO_22 := n1_
                                                            have BK204 := n2_
                                                            have HR229 := n3_
                                                            have HR236 := n4_
                                                            have HB := n5_
                                                            clear n0_ n1_ n2_ n3_ n4_ n5_
                                                            have p250 : 0 ≤ ((ji89) : Int) := of_decide_eq_true (by first | (with_reducible assumption) | assumption)
                                                            have q250 : (ji89) < (t241.length : Int) := of_decide_eq_true (by first | (with_reducible assumption) | assumption)
                                                            obtain ⟨ad250, e250, hx250_0, hx250_1⟩ := at_T41 (Kd.R_reads' HO_20.out).2.2 (ji89) p250 q250
                                                            cases e250
                                                            replace p250 := eq_true p250
                                                            replace q250 := eq_true q250
                                                            obtain ⟨Ao98, co98, eo98⟩ := Kd.R_slice HO_22.out
                                                            (first | subst eo98 | (injection eo98 with f1_ f2_ f3_; have f4_ := f1_.symm; have f5_ := f3_.symm; clear f1_ f2_ f3_; subst f4_; subst f5_))
                                                            have p251 : 0 ≤ (x179_6 : Int) := of_decide_eq_true (by first | (with_reducible assumption) | assumption)
                                                            have q251 : x179_6 < (t246.length : Int) := of_decide_eq_true (by first | (with_reducible assumption) | assumption)
                                                            obtain ⟨ad251, e251, hx251_0, hx251_1⟩ := at_T41 (Kd.R_reads' HO_22.out).2.2 x179_6 p251 q251
                                                            cases e251
                                                            replace p251 := eq_true p251
                                                            replace q251 := eq_true q251
                                                            refine start_ (n := 13) (S := fun w' => w'.cell? (ad250.add (((ji89)).toNat * 2)) = some (.string ((rd_T41 t241 (ji89)).f0)) ∧ w'.cell? ⟨(ad250.add (((ji89)).toNat * 2)).block, (ad250.add (((ji89)).toNat * 2)).off + 1, none⟩ = some (.string ((rd_T41 t241 (ji89)).f1)) ∧ w'.cell? (ad251.add ((x179_6).toNat * 2)) = some (.string ((rd_T41 t246 x179_6).f0)) ∧ w'.cell? ⟨(ad251.add ((x179_6).toNat * 2)).block, (ad251.add ((x179_6).toNat * 2)).off + 1, none⟩ = some (.string ((rd_T41 t246 x179_6).f1))) (ds := []) #[false, false, false, false, false, false, false, false, false, false, false, false, false] (by kernel_rfl) rfl rfl ⟨hx250_0, hx250_1, hx251_0, hx251_1⟩ (fun hHeld => ?_); refine with_tabW laws_FnMtRuleOrder.tab30 laws_FnMtRuleOrder.bits30 (fun HT_ HW_ => ?_)
                                                            generalize wr.drew = w97 at HO_20 HO_22 BK204 HR229 HR236 HB hx250_0 hx250_1 hx251_0 hx251_1 hHeld ⊢
                                                            refine pure_ (i := 0) (N := some 182) (v := ?_) (a' := ?_) #[true, false, false, false, false, false, false, false, false, false, false, false, false] rfl rfl (any_of HT_.out (by kernel_rfl)) (fun _ _ _ h => h) (Or.inl ⟨by rfl, ?_⟩) ?_ ?_
                                                            rotate_left
                                                            · intro w'
                                                              go_simp
                                                              with_reducible rfl
                                                            rotate_left
                                                            · simp only [Act.put, List.setIfInBounds_toArray, List.set_cons_zero, List.set_cons_succ, i64_w, i32_w]
                                                              rfl
                                                            refine pure_ (i := 1) (N := some 183) (v := ?_) (a' := ?_) #[true, true, false, false, false, false, false, false, false, false, false, false, false] rfl rfl (any_of HT_.out (by kernel_rfl)) (fun _ _ _ h => h) (Or.inl ⟨by rfl, ?_⟩) ?_ ?_
                                                            rotate_left
                                                            · intro w'
                                                              go_simp
                                                              with_reducible rfl
                                                            rotate_left
                                                            · simp only [Act.put, List.setIfInBounds_toArray, List.set_cons_zero, List.set_cons_succ, i64_w, i32_w]
                                                              rfl
                                                            refine pure_ (i := 2) (N := some 184) (v := ?_) (a' := ?_) #[true, true, true, false, false, false, false, false, false, false, false, false, false] rfl rfl (any_of HT_.out (by kernel_rfl)) (fun _ _ _ h => h) (Or.inl ⟨by rfl, ?_⟩) ?_ ?_
                                                            rotate_left
                                                            · intro w'
                                                              go_simp
                                                              with_reducible rfl
                                                            rotate_left
                                                            · simp only [Act.put, List.setIfInBounds_toArray, List.set_cons_zero, List.set_cons_succ, i64_w, i32_w]
                                                              rfl
                                                            refine pure_ (i := 3) (N := some 185) (v := ?_) (a' := ?_) #[true, true, true, true, false, false, false, false, false, false, false, false, false] rfl rfl (any_of HT_.out (by kernel_rfl)) (fun _ _ _ h => h) (Or.inl ⟨by rfl, ?_⟩) ?_ ?_
                                                            rotate_left
                                                            · intro w'
                                                              go_simp
                                                              with_reducible rfl
                                                            rotate_left
                                                            · simp only [Act.put, List.setIfInBounds_toArray, List.set_cons_zero, List.set_cons_succ, i64_w, i32_w]
                                                              rfl
                                                            refine pure_ (i := 4) (N := some 186) (v := ?_) (a' := ?_) #[true, true, true, true, true, false, false, false, false, false, false, false, false] rfl rfl (any_of HT_.out (by kernel_rfl)) (fun _ _ _ h => h) (Or.inl ⟨by rfl, ?_⟩) ?_ ?_
                                                            rotate_left
                                                            · intro w'
                                                              go_simp
                                                              with_reducible rfl
                                                            rotate_left
                                                            · simp only [Act.put, List.setIfInBounds_toArray, List.set_cons_zero, List.set_cons_succ, i64_w, i32_w]
                                                              rfl
                                                            refine pure_ (i := 5) (N := some 187) (v := ?_) (a' := ?_) #[true, true, true, true, true, true, false, false, false, false, false, false, false] rfl rfl (any_of HT_.out (by kernel_rfl)) (fun _ _ _ h => h) (Or.inl ⟨by rfl, ?_⟩) ?_ ?_
                                                            rotate_left
                                                            · intro w'
                                                              go_simp
                                                              with_reducible rfl
                                                            rotate_left
                                                            · simp only [Act.put, List.setIfInBounds_toArray, List.set_cons_zero, List.set_cons_succ, i64_w, i32_w]
                                                              rfl
                                                            refine pure_ (i := 6) (N := some 188) (v := ?_) (a' := ?_) #[true, true, true, true, true, true, true, false, false, false, false, false, false] rfl rfl (any_of HT_.out (by kernel_rfl)) (fun _ _ _ h => h) (Or.inl ⟨by rfl, ?_⟩) ?_ ?_
                                                            rotate_left
                                                            · intro w'
                                                              go_simp
                                                              with_reducible rfl
                                                            rotate_left
                                                            · simp only [Act.put, List.setIfInBounds_toArray, List.set_cons_zero, List.set_cons_succ, i64_w, i32_w]
                                                              rfl
                                                            refine pure_ (i := 8) (N := some 190) (v := ?_) (a' := ?_) #[true, true, true, true, true, true, true, false, true, false, false, false, false] rfl rfl (any_of HT_.out (by kernel_rfl)) (fun _ _ _ h => h) (Or.inl ⟨by rfl, ?_⟩) ?_ ?_
                                                            rotate_left
                                                            · intro w'
                                                              go_simp
                                                              with_reducible rfl
                                                            rotate_left
                                                            · simp only [Act.put, List.setIfInBounds_toArray, List.set_cons_zero, List.set_cons_succ, i64_w, i32_w]
                                                              rfl
                                                            refine pure_ (i := 9) (N := some 191) (v := ?_) (a' := ?_) #[true, true, true, true, true, true, true, false, true, true, false, false, false] rfl rfl (any_of HT_.out (by kernel_rfl)) (fun _ _ _ h => h) (Or.inl ⟨by rfl, ?_⟩) ?_ ?_
                                                            rotate_left
                                                            · intro w'
                                                              go_simp
                                                              with_reducible rfl
                                                            rotate_left
                                                            · simp only [Act.put, List.setIfInBounds_toArray, List.set_cons_zero, List.set_cons_succ, i64_w, i32_w]
                                                              rfl
                                                            refine pure_ (i := 10) (N := some 192) (v := ?_) (a' := ?_) #[true, true, true, true, true, true, true, false, true, true, true, false, false] rfl rfl (any_of HT_.out (by kernel_rfl)) (fun _ _ _ h => h) (Or.inl ⟨by rfl, ?_⟩) ?_ ?_
                                                            rotate_left
                                                            · intro w'
                                                              go_simp
                                                              with_reducible rfl
                                                            rotate_left
                                                            · simp only [Act.put, List.setIfInBounds_toArray, List.set_cons_zero, List.set_cons_succ, i64_w, i32_w]
                                                              rfl
                                                            refine take_ (i := 7) (N := some 189) (v := ?_) (a' := ?_) #[true, true, true, true, true, true, true, true, true, true, true, false, false] rfl rfl (take_ofW HT_.out HW_.out (by kernel_rfl)) (fun _ _ _ h => h) (Or.inl ⟨by rfl, ?_⟩) hHeld ?_ ?_
                                                            rotate_left
                                                            · rintro w' ⟨s0, s1, s2, s3⟩
                                                              go_simp
                                                              with_reducible rfl
                                                            rotate_left
                                                            · simp only [Act.put, List.setIfInBounds_toArray, List.set_cons_zero, List.set_cons_succ, i64_w, i32_w]
                                                              rfl
                                                            refine take_ (i := 11) (N := some 193) (v := ?_) (a' := ?_) #[true, true, true, true, true, true, true, true, true, true, true, true, false] rfl rfl (take_ofW HT_.out HW_.out (by kernel_rfl)) (fun _ _ _ h => h) (Or.inl ⟨by rfl, ?_⟩) hHeld ?_ ?_
                                                            rotate_left
                                                            · rintro w' ⟨s0, s1, s2, s3⟩
                                                              go_simp
                                                              with_reducible rfl
                                                            rotate_left
                                                            · simp only [Act.put, List.setIfInBounds_toArray, List.set_cons_zero, List.set_cons_succ, i64_w, i32_w]
                                                              rfl
                                                            refine pure_ (i := 12) (N := some 194) (v := ?_) (a' := ?_) #[true, true, true, true, true, true, true, true, true, true, true, true, true] rfl rfl (any_of HT_.out (by kernel_rfl)) (fun _ _ _ h => h) (Or.inl ⟨by rfl, ?_⟩) ?_ ?_
                                                            rotate_left
                                                            · intro w'
                                                              go_simp
                                                              with_reducible rfl
                                                            rotate_left
                                                            · simp only [Act.put, List.setIfInBounds_toArray, List.set_cons_zero, List.set_cons_succ, i64_w, i32_w]
                                                              rfl
                                                            refine done_ (done_of HT_.out (by kernel_rfl)) ?_
                                                            try go_wp2
                                                            go_roundg k6
                                                            case measure => have := HJ5.out; have := HJ15.out; have := HK3.out; have := HK4.out; have := HJ64.out; have := HK6.out; omega
                                                            case rel => exact ⟨(wrap64 (x179_6 + 1)), (by first | rfl | (simp; done) | (simp [*]; done)), H', ⟨by have := HJ5.out; have := HJ15.out; have := HK3.out; have := HK4.out; have := HJ64.out; have := HK6.out; omega⟩, ⟨by (with_reducible repeat (first | apply Kd.R_alloc | apply Kd.R_drewN | apply Kd.R_drew)); exact HO_20.out⟩, ⟨by (with_reducible repeat (first | apply Kd.R_alloc | apply Kd.R_drewN | apply Kd.R_drew)); exact HO_22.out⟩, ⟨by (with_reducible repeat (first | refine blk_drewN ?_ _ | refine blk_drew ?_ | refine blk_alloc ?_ _)); exact BK204.out⟩, ⟨Kd.C_nil _ _⟩, ⟨Kd.C_nil _ _⟩, ⟨by repeat (first | (with_reducible first | exact HB.out | apply below_alloc | apply pw_below_drewN | apply below_drew1 | refine below_set ?_ GE204.out) | exact HB.out)⟩⟩
                                                        · rw [if_neg c93] at H
                                                          exact absurd H (by simp)
                                                      · rw [if_neg c92] at H
                                                        exact absurd H (by simp)
                                                    · rw [if_neg c91] at H
                                                      exact absurd H (by simp)
                                                  · rw [if_neg c90] at H
                                                    exact absurd H (by simp)
                                              · rw [if_neg c87] at H
                                                have c87b0 : decide (x179_6 < (t241.length : Int)) = false := decide_eq_false c87
                                                clear c87
                                                replace H := Option.bind_eq_some_iff.mp H
                                                obtain ⟨⟨t252, t253⟩, A990, H⟩ := H
                                                replace H : ((spec_FitsAll.f k6 a4_0 a4_1 a4_2 l4_3 l4_4 t246).bind fun bt254 => (if t253 = true then (if bt254.2 = true then (some (t252 == bt254.1)) else (some false)) else (some false))) = some r := H
                                                have A99 := Aside0.mk A990
                                                clear A990
                                                replace H := Option.bind_eq_some_iff.mp H
                                                obtain ⟨⟨t254, t255⟩, A1000, H⟩ := H
                                                replace H : (if t253 = true then (if t255 = true then (some (t252 == t254)) else (some false)) else (some false)) = some r := H
                                                have A100 := Aside0.mk A1000
                                                clear A1000
                                                by_cases c101 : t253 = true
                                                · subst c101
                                                  have H1 : (if t255 = true then (some (t252 == t254)) else (some false)) = some r := by rw [if_pos rfl] at H; exact H
                                                  clear H
                                                  have H := H1
                                                  clear H1
                                                  by_cases c102 : t255 = true
                                                  · subst c102
                                                    have H1 : (some (t252 == t254)) = some r := by rw [if_pos rfl] at H; exact H
                                                    clear H
                                                    have H := H1
                                                    clear H1
                                                    obtain rfl := Option.some.inj H
                                                    have hcz103_0 : wr.cell? ⟨gb204, 0, none⟩ = some (.int .u8 a4_0) := (blk_cell BK204.out 0).trans rfl
                                                    have hcz103_1 : wr.cell? ⟨gb204, 1, none⟩ = some (.int .u8 a4_1) := (blk_cell BK204.out 1).trans rfl
                                                    have hcz103_2 : wr.cell? ⟨gb204, 2, none⟩ = some (.int .u32 a4_2) := (blk_cell BK204.out 2).trans rfl
                                                    have hcz103_3 : wr.cell? ⟨gb204, 3, none⟩ = some (.slice A4_3 l4_3.length c4_3) := (blk_cell BK204.out 3).trans rfl
                                                    have hcz103_4 : wr.cell? ⟨gb204, 4, none⟩ = some (.slice A4_4 l4_4.length c4_4) := (blk_cell BK204.out 4).trans rfl
                                                    have hfz103_0 := blk_frozen BK204.out 0
                                                    have hfz103_1 := blk_frozen BK204.out 1
                                                    have hfz103_2 := blk_frozen BK204.out 2
                                                    have hfz103_3 := blk_frozen BK204.out 3
                                                    have hfz103_4 := blk_frozen BK204.out 4
                                                    go_wp2_with (first | ((with_reducible refine gate_callee (f := 11) rfl ?_); refine goesL_ (some 199) rfl rfl Tryd.func11 (by kernel_rfl) rfl #[.agg #[.int .u8 a4_0, .int .u8 a4_1, .int .u32 a4_2, .slice A4_3 l4_3.length c4_3, .slice A4_4 l4_4.length c4_4], .slice Ao86 t241.length co86] rfl (by (try simp only [List.map_toArray, List.map_cons, List.map_nil]); first | done | rfl | (simp only [List.length_drop, List.length_take]; rfl)) ?_; (with_reducible refine (spec_FitsAll.calls k6 a4_0 a4_1 a4_2 _ _ l4_3 _ _ l4_4 _ _ t241 t252 true _ ?side1 ?side2 ?side3 ?side4 ?side5 ?side6 A99.out).mono ?_); (case side1 => repeat (first | exact (Kd.C_below HR4_3.out HB.out) | (with_reducible refine Kd.C_alloc ?_ _) | (with_reducible refine Kd.C_drewN ?_ _) | (with_reducible refine Kd.C_drew ?_))); (case side2 => exact HC4_3.out); (case side3 => repeat (first | exact (Kd.C_below HR4_4.out HB.out) | (with_reducible refine Kd.C_alloc ?_ _) | (with_reducible refine Kd.C_drewN ?_ _) | (with_reducible refine Kd.C_drew ?_))); (case side4 => exact HC4_4.out); (case side5 => repeat (first | exact (Kd.R_reads' HO_20.out).2.2 | (with_reducible refine Kd.C_alloc ?_ _) | (with_reducible refine Kd.C_drewN ?_ _) | (with_reducible refine Kd.C_drew ?_))); (case side6 => exact (Kd.R_reads' HO_20.out).2.1); rintro e w104 ⟨rfl, hb⟩; refine ⟨_, rfl, ?_⟩; have n0_ := Aside0.mk (Kd.R_below (by (with_reducible repeat (first | apply Kd.R_alloc | apply Kd.R_drewN | apply Kd.R_drew)); exact HO_20.out) hb); have n1_ := Aside0.mk (Kd.R_below (by (with_reducible repeat (first | apply Kd.R_alloc | apply Kd.R_drewN | apply Kd.R_drew)); exact HO_22.out) hb); have n2_ := Aside0.mk (blk_below (g := gb204) (o := .cells #[.int .u8 a4_0, .int .u8 a4_1, .int .u32 a4_2, .slice A4_3 l4_3.length c4_3, .slice A4_4 l4_4.length c4_4] 28 (0, 0)) (by (with_reducible repeat (first | refine blk_drewN ?_ _ | refine blk_drew ?_ | refine blk_alloc ?_ _)); exact BK204.out) hb); have n3_ := Aside0.mk (Kd.C_below (by repeat (first | (with_reducible exact HR229.out) | (with_reducible refine Kd.C_alloc ?_ _) | (with_reducible refine Kd.C_drewN ?_ _) | (with_reducible refine Kd.C_drew ?_) | exact HR229.out)) hb); have n4_ := Aside0.mk (Kd.C_below (by repeat (first | (with_reducible exact HR236.out) | (with_reducible refine Kd.C_alloc ?_ _) | (with_reducible refine Kd.C_drewN ?_ _) | (with_reducible refine Kd.C_drew ?_) | exact HR236.out)) hb); have n5_ := Aside0.mk (below_step (by repeat (first | (with_reducible first | exact HB.out | apply below_alloc | apply pw_below_drewN | apply below_drew1 | refine below_set ?_ GE204.out) | exact HB.out)) hb); clear HO_20; clear HO_22; clear BK204; clear HR229; clear HR236; clear HB; have HO_20 := n0_; have HO_22 := n1_; have BK204 := n2_; have HR229 := n3_; have HR236 := n4_; have HB := n5_; clear n0_ n1_ n2_ n3_ n4_ n5_; (try clear hb); (try clear hb2); (try clear hk); (try clear hi); have hcz105_0 : w104.cell? ⟨gb204, 0, none⟩ = some (.int .u8 a4_0) := (blk_cell BK204.out 0).trans rfl; have hcz105_1 : w104.cell? ⟨gb204, 1, none⟩ = some (.int .u8 a4_1) := (blk_cell BK204.out 1).trans rfl; have hcz105_2 : w104.cell? ⟨gb204, 2, none⟩ = some (.int .u32 a4_2) := (blk_cell BK204.out 2).trans rfl; have hcz105_3 : w104.cell? ⟨gb204, 3, none⟩ = some (.slice A4_3 l4_3.length c4_3) := (blk_cell BK204.out 3).trans rfl; have hcz105_4 : w104.cell? ⟨gb204, 4, none⟩ = some (.slice A4_4 l4_4.length c4_4) := (blk_cell BK204.out 4).trans rfl; have hfz105_0 := blk_frozen BK204.out 0; have hfz105_1 := blk_frozen BK204.out 1; have hfz105_2 := blk_frozen BK204.out 2; have hfz105_3 := blk_frozen BK204.out 3; have hfz105_4 := blk_frozen BK204.out 4; obtain ⟨Ao106, co106, eo106⟩ := Kd.R_slice HO_22.out; subst eo106) | ((with_reducible refine gate_callee (f := 11) rfl ?_); refine goesL_ (some 205) rfl rfl Tryd.func11 (by kernel_rfl) rfl #[.agg #[.int .u8 a4_0, .int .u8 a4_1, .int .u32 a4_2, .slice A4_3 l4_3.length c4_3, .slice A4_4 l4_4.length c4_4], .slice Ao106 t246.length co106] rfl (by (try simp only [List.map_toArray, List.map_cons, List.map_nil]); first | done | rfl | (simp only [List.length_drop, List.length_take]; rfl)) ?_; (with_reducible refine (spec_FitsAll.calls k6 a4_0 a4_1 a4_2 _ _ l4_3 _ _ l4_4 _ _ t246 t254 true _ ?side1 ?side2 ?side3 ?side4 ?side5 ?side6 A100.out).mono ?_); (case side1 => repeat (first | exact (Kd.C_below HR4_3.out HB.out) | (with_reducible refine Kd.C_alloc ?_ _) | (with_reducible refine Kd.C_drewN ?_ _) | (with_reducible refine Kd.C_drew ?_))); (case side2 => exact HC4_3.out); (case side3 => repeat (first | exact (Kd.C_below HR4_4.out HB.out) | (with_reducible refine Kd.C_alloc ?_ _) | (with_reducible refine Kd.C_drewN ?_ _) | (with_reducible refine Kd.C_drew ?_))); (case side4 => exact HC4_4.out); (case side5 => repeat (first | exact (Kd.R_reads' HO_22.out).2.2 | (with_reducible refine Kd.C_alloc ?_ _) | (with_reducible refine Kd.C_drewN ?_ _) | (with_reducible refine Kd.C_drew ?_))); (case side6 => exact (Kd.R_reads' HO_22.out).2.1); rintro e w107 ⟨rfl, hb⟩; refine ⟨_, rfl, ?_⟩; have n0_ := Aside0.mk (Kd.R_below (by (with_reducible repeat (first | apply Kd.R_alloc | apply Kd.R_drewN | apply Kd.R_drew)); exact HO_20.out) hb); have n1_ := Aside0.mk (Kd.R_below (by (with_reducible repeat (first | apply Kd.R_alloc | apply Kd.R_drewN | apply Kd.R_drew)); exact HO_22.out) hb); have n2_ := Aside0.mk (blk_below (g := gb204) (o := .cells #[.int .u8 a4_0, .int .u8 a4_1, .int .u32 a4_2, .slice A4_3 l4_3.length c4_3, .slice A4_4 l4_4.length c4_4] 28 (0, 0)) (by (with_reducible repeat (first | refine blk_drewN ?_ _ | refine blk_drew ?_ | refine blk_alloc ?_ _)); exact BK204.out) hb); have n3_ := Aside0.mk (Kd.C_below (by repeat (first | (with_reducible exact HR229.out) | (with_reducible refine Kd.C_alloc ?_ _) | (with_reducible refine Kd.C_drewN ?_ _) | (with_reducible refine Kd.C_drew ?_) | exact HR229.out)) hb); have n4_ := Aside0.mk (Kd.C_below (by repeat (first | (with_reducible exact HR236.out) | (with_reducible refine Kd.C_alloc ?_ _) | (with_reducible refine Kd.C_drewN ?_ _) | (with_reducible refine Kd.C_drew ?_) | exact HR236.out)) hb); have n5_ := Aside0.mk (below_step (by repeat (first | (with_reducible first | exact HB.out | apply below_alloc | apply pw_below_drewN | apply below_drew1 | refine below_set ?_ GE204.out) | exact HB.out)) hb); clear HO_20; clear HO_22; clear BK204; clear HR229; clear HR236; clear HB; have HO_20 := n0_; have HO_22 := n1_; have BK204 := n2_; have HR229 := n3_; have HR236 := n4_; have HB := n5_; clear n0_ n1_ n2_ n3_ n4_ n5_; (try clear hb); (try clear hb2); (try clear hk); (try clear hi)))
                                                    go_ret
                                                    exact ⟨by first | rfl | (simp [errW_none, errW_some] <;> rfl) | (simp only [← hji54]; first | rfl | (simp [errW_none, errW_some] <;> rfl)) | (simp [*, errW_none, errW_some] <;> rfl), by repeat (first | (with_reducible first | exact HB.out | apply below_alloc | apply pw_below_drewN | apply below_drew1 | refine below_set ?_ GE204.out) | exact HB.out)⟩
                                                  · replace c102 := Bool.eq_false_iff.mpr c102
                                                    subst c102
                                                    have H1 : (some false) = some r := by rw [if_neg (show ¬ (false = true) by decide)] at H; exact H
                                                    clear H
                                                    have H := H1
                                                    clear H1
                                                    obtain rfl := Option.some.inj H
                                                    have hcz108_0 : wr.cell? ⟨gb204, 0, none⟩ = some (.int .u8 a4_0) := (blk_cell BK204.out 0).trans rfl
                                                    have hcz108_1 : wr.cell? ⟨gb204, 1, none⟩ = some (.int .u8 a4_1) := (blk_cell BK204.out 1).trans rfl
                                                    have hcz108_2 : wr.cell? ⟨gb204, 2, none⟩ = some (.int .u32 a4_2) := (blk_cell BK204.out 2).trans rfl
                                                    have hcz108_3 : wr.cell? ⟨gb204, 3, none⟩ = some (.slice A4_3 l4_3.length c4_3) := (blk_cell BK204.out 3).trans rfl
                                                    have hcz108_4 : wr.cell? ⟨gb204, 4, none⟩ = some (.slice A4_4 l4_4.length c4_4) := (blk_cell BK204.out 4).trans rfl
                                                    have hfz108_0 := blk_frozen BK204.out 0
                                                    have hfz108_1 := blk_frozen BK204.out 1
                                                    have hfz108_2 := blk_frozen BK204.out 2
                                                    have hfz108_3 := blk_frozen BK204.out 3
                                                    have hfz108_4 := blk_frozen BK204.out 4
                                                    go_wp2_with (first | ((with_reducible refine gate_callee (f := 11) rfl ?_); refine goesL_ (some 199) rfl rfl Tryd.func11 (by kernel_rfl) rfl #[.agg #[.int .u8 a4_0, .int .u8 a4_1, .int .u32 a4_2, .slice A4_3 l4_3.length c4_3, .slice A4_4 l4_4.length c4_4], .slice Ao86 t241.length co86] rfl (by (try simp only [List.map_toArray, List.map_cons, List.map_nil]); first | done | rfl | (simp only [List.length_drop, List.length_take]; rfl)) ?_; (with_reducible refine (spec_FitsAll.calls k6 a4_0 a4_1 a4_2 _ _ l4_3 _ _ l4_4 _ _ t241 t252 true _ ?side1 ?side2 ?side3 ?side4 ?side5 ?side6 A99.out).mono ?_); (case side1 => repeat (first | exact (Kd.C_below HR4_3.out HB.out) | (with_reducible refine Kd.C_alloc ?_ _) | (with_reducible refine Kd.C_drewN ?_ _) | (with_reducible refine Kd.C_drew ?_))); (case side2 => exact HC4_3.out); (case side3 => repeat (first | exact (Kd.C_below HR4_4.out HB.out) | (with_reducible refine Kd.C_alloc ?_ _) | (with_reducible refine Kd.C_drewN ?_ _) | (with_reducible refine Kd.C_drew ?_))); (case side4 => exact HC4_4.out); (case side5 => repeat (first | exact (Kd.R_reads' HO_20.out).2.2 | (with_reducible refine Kd.C_alloc ?_ _) | (with_reducible refine Kd.C_drewN ?_ _) | (with_reducible refine Kd.C_drew ?_))); (case side6 => exact (Kd.R_reads' HO_20.out).2.1); rintro e w109 ⟨rfl, hb⟩; refine ⟨_, rfl, ?_⟩; have n0_ := Aside0.mk (Kd.R_below (by (with_reducible repeat (first | apply Kd.R_alloc | apply Kd.R_drewN | apply Kd.R_drew)); exact HO_20.out) hb); have n1_ := Aside0.mk (Kd.R_below (by (with_reducible repeat (first | apply Kd.R_alloc | apply Kd.R_drewN | apply Kd.R_drew)); exact HO_22.out) hb); have n2_ := Aside0.mk (blk_below (g := gb204) (o := .cells #[.int .u8 a4_0, .int .u8 a4_1, .int .u32 a4_2, .slice A4_3 l4_3.length c4_3, .slice A4_4 l4_4.length c4_4] 28 (0, 0)) (by (with_reducible repeat (first | refine blk_drewN ?_ _ | refine blk_drew ?_ | refine blk_alloc ?_ _)); exact BK204.out) hb); have n3_ := Aside0.mk (Kd.C_below (by repeat (first | (with_reducible exact HR229.out) | (with_reducible refine Kd.C_alloc ?_ _) | (with_reducible refine Kd.C_drewN ?_ _) | (with_reducible refine Kd.C_drew ?_) | exact HR229.out)) hb); have n4_ := Aside0.mk (Kd.C_below (by repeat (first | (with_reducible exact HR236.out) | (with_reducible refine Kd.C_alloc ?_ _) | (with_reducible refine Kd.C_drewN ?_ _) | (with_reducible refine Kd.C_drew ?_) | exact HR236.out)) hb); have n5_ := Aside0.mk (below_step (by repeat (first | (with_reducible first | exact HB.out | apply below_alloc | apply pw_below_drewN | apply below_drew1 | refine below_set ?_ GE204.out) | exact HB.out)) hb); clear HO_20; clear HO_22; clear BK204; clear HR229; clear HR236; clear HB; have HO_20 := n0_; have HO_22 := n1_; have BK204 := n2_; have HR229 := n3_; have HR236 := n4_; have HB := n5_; clear n0_ n1_ n2_ n3_ n4_ n5_; (try clear hb); (try clear hb2); (try clear hk); (try clear hi); have hcz110_0 : w109.cell? ⟨gb204, 0, none⟩ = some (.int .u8 a4_0) := (blk_cell BK204.out 0).trans rfl; have hcz110_1 : w109.cell? ⟨gb204, 1, none⟩ = some (.int .u8 a4_1) := (blk_cell BK204.out 1).trans rfl; have hcz110_2 : w109.cell? ⟨gb204, 2, none⟩ = some (.int .u32 a4_2) := (blk_cell BK204.out 2).trans rfl; have hcz110_3 : w109.cell? ⟨gb204, 3, none⟩ = some (.slice A4_3 l4_3.length c4_3) := (blk_cell BK204.out 3).trans rfl; have hcz110_4 : w109.cell? ⟨gb204, 4, none⟩ = some (.slice A4_4 l4_4.length c4_4) := (blk_cell BK204.out 4).trans rfl; have hfz110_0 := blk_frozen BK204.out 0; have hfz110_1 := blk_frozen BK204.out 1; have hfz110_2 := blk_frozen BK204.out 2; have hfz110_3 := blk_frozen BK204.out 3; have hfz110_4 := blk_frozen BK204.out 4; obtain ⟨Ao111, co111, eo111⟩ := Kd.R_slice HO_22.out; subst eo111) | ((with_reducible refine gate_callee (f := 11) rfl ?_); refine goesL_ (some 205) rfl rfl Tryd.func11 (by kernel_rfl) rfl #[.agg #[.int .u8 a4_0, .int .u8 a4_1, .int .u32 a4_2, .slice A4_3 l4_3.length c4_3, .slice A4_4 l4_4.length c4_4], .slice Ao111 t246.length co111] rfl (by (try simp only [List.map_toArray, List.map_cons, List.map_nil]); first | done | rfl | (simp only [List.length_drop, List.length_take]; rfl)) ?_; (with_reducible refine (spec_FitsAll.calls k6 a4_0 a4_1 a4_2 _ _ l4_3 _ _ l4_4 _ _ t246 t254 false _ ?side1 ?side2 ?side3 ?side4 ?side5 ?side6 A100.out).mono ?_); (case side1 => repeat (first | exact (Kd.C_below HR4_3.out HB.out) | (with_reducible refine Kd.C_alloc ?_ _) | (with_reducible refine Kd.C_drewN ?_ _) | (with_reducible refine Kd.C_drew ?_))); (case side2 => exact HC4_3.out); (case side3 => repeat (first | exact (Kd.C_below HR4_4.out HB.out) | (with_reducible refine Kd.C_alloc ?_ _) | (with_reducible refine Kd.C_drewN ?_ _) | (with_reducible refine Kd.C_drew ?_))); (case side4 => exact HC4_4.out); (case side5 => repeat (first | exact (Kd.R_reads' HO_22.out).2.2 | (with_reducible refine Kd.C_alloc ?_ _) | (with_reducible refine Kd.C_drewN ?_ _) | (with_reducible refine Kd.C_drew ?_))); (case side6 => exact (Kd.R_reads' HO_22.out).2.1); rintro e w112 ⟨rfl, hb⟩; refine ⟨_, rfl, ?_⟩; have n0_ := Aside0.mk (Kd.R_below (by (with_reducible repeat (first | apply Kd.R_alloc | apply Kd.R_drewN | apply Kd.R_drew)); exact HO_20.out) hb); have n1_ := Aside0.mk (Kd.R_below (by (with_reducible repeat (first | apply Kd.R_alloc | apply Kd.R_drewN | apply Kd.R_drew)); exact HO_22.out) hb); have n2_ := Aside0.mk (blk_below (g := gb204) (o := .cells #[.int .u8 a4_0, .int .u8 a4_1, .int .u32 a4_2, .slice A4_3 l4_3.length c4_3, .slice A4_4 l4_4.length c4_4] 28 (0, 0)) (by (with_reducible repeat (first | refine blk_drewN ?_ _ | refine blk_drew ?_ | refine blk_alloc ?_ _)); exact BK204.out) hb); have n3_ := Aside0.mk (Kd.C_below (by repeat (first | (with_reducible exact HR229.out) | (with_reducible refine Kd.C_alloc ?_ _) | (with_reducible refine Kd.C_drewN ?_ _) | (with_reducible refine Kd.C_drew ?_) | exact HR229.out)) hb); have n4_ := Aside0.mk (Kd.C_below (by repeat (first | (with_reducible exact HR236.out) | (with_reducible refine Kd.C_alloc ?_ _) | (with_reducible refine Kd.C_drewN ?_ _) | (with_reducible refine Kd.C_drew ?_) | exact HR236.out)) hb); have n5_ := Aside0.mk (below_step (by repeat (first | (with_reducible first | exact HB.out | apply below_alloc | apply pw_below_drewN | apply below_drew1 | refine below_set ?_ GE204.out) | exact HB.out)) hb); clear HO_20; clear HO_22; clear BK204; clear HR229; clear HR236; clear HB; have HO_20 := n0_; have HO_22 := n1_; have BK204 := n2_; have HR229 := n3_; have HR236 := n4_; have HB := n5_; clear n0_ n1_ n2_ n3_ n4_ n5_; (try clear hb); (try clear hb2); (try clear hk); (try clear hi)))
                                                    go_ret
                                                    exact ⟨by first | rfl | (simp [errW_none, errW_some] <;> rfl) | (simp only [← hji54]; first | rfl | (simp [errW_none, errW_some] <;> rfl)) | (simp [*, errW_none, errW_some] <;> rfl), by repeat (first | (with_reducible first | exact HB.out | apply below_alloc | apply pw_below_drewN | apply below_drew1 | refine below_set ?_ GE204.out) | exact HB.out)⟩
                                                · replace c101 := Bool.eq_false_iff.mpr c101
                                                  subst c101
                                                  have H1 : (some false) = some r := by rw [if_neg (show ¬ (false = true) by decide)] at H; exact H
                                                  clear H
                                                  have H := H1
                                                  clear H1
                                                  obtain rfl := Option.some.inj H
                                                  have hcz113_0 : wr.cell? ⟨gb204, 0, none⟩ = some (.int .u8 a4_0) := (blk_cell BK204.out 0).trans rfl
                                                  have hcz113_1 : wr.cell? ⟨gb204, 1, none⟩ = some (.int .u8 a4_1) := (blk_cell BK204.out 1).trans rfl
                                                  have hcz113_2 : wr.cell? ⟨gb204, 2, none⟩ = some (.int .u32 a4_2) := (blk_cell BK204.out 2).trans rfl
                                                  have hcz113_3 : wr.cell? ⟨gb204, 3, none⟩ = some (.slice A4_3 l4_3.length c4_3) := (blk_cell BK204.out 3).trans rfl
                                                  have hcz113_4 : wr.cell? ⟨gb204, 4, none⟩ = some (.slice A4_4 l4_4.length c4_4) := (blk_cell BK204.out 4).trans rfl
                                                  have hfz113_0 := blk_frozen BK204.out 0
                                                  have hfz113_1 := blk_frozen BK204.out 1
                                                  have hfz113_2 := blk_frozen BK204.out 2
                                                  have hfz113_3 := blk_frozen BK204.out 3
                                                  have hfz113_4 := blk_frozen BK204.out 4
                                                  go_wp2_with (first | ((with_reducible refine gate_callee (f := 11) rfl ?_); refine goesL_ (some 199) rfl rfl Tryd.func11 (by kernel_rfl) rfl #[.agg #[.int .u8 a4_0, .int .u8 a4_1, .int .u32 a4_2, .slice A4_3 l4_3.length c4_3, .slice A4_4 l4_4.length c4_4], .slice Ao86 t241.length co86] rfl (by (try simp only [List.map_toArray, List.map_cons, List.map_nil]); first | done | rfl | (simp only [List.length_drop, List.length_take]; rfl)) ?_; (with_reducible refine (spec_FitsAll.calls k6 a4_0 a4_1 a4_2 _ _ l4_3 _ _ l4_4 _ _ t241 t252 false _ ?side1 ?side2 ?side3 ?side4 ?side5 ?side6 A99.out).mono ?_); (case side1 => repeat (first | exact (Kd.C_below HR4_3.out HB.out) | (with_reducible refine Kd.C_alloc ?_ _) | (with_reducible refine Kd.C_drewN ?_ _) | (with_reducible refine Kd.C_drew ?_))); (case side2 => exact HC4_3.out); (case side3 => repeat (first | exact (Kd.C_below HR4_4.out HB.out) | (with_reducible refine Kd.C_alloc ?_ _) | (with_reducible refine Kd.C_drewN ?_ _) | (with_reducible refine Kd.C_drew ?_))); (case side4 => exact HC4_4.out); (case side5 => repeat (first | exact (Kd.R_reads' HO_20.out).2.2 | (with_reducible refine Kd.C_alloc ?_ _) | (with_reducible refine Kd.C_drewN ?_ _) | (with_reducible refine Kd.C_drew ?_))); (case side6 => exact (Kd.R_reads' HO_20.out).2.1); rintro e w114 ⟨rfl, hb⟩; refine ⟨_, rfl, ?_⟩; have n0_ := Aside0.mk (Kd.R_below (by (with_reducible repeat (first | apply Kd.R_alloc | apply Kd.R_drewN | apply Kd.R_drew)); exact HO_20.out) hb); have n1_ := Aside0.mk (Kd.R_below (by (with_reducible repeat (first | apply Kd.R_alloc | apply Kd.R_drewN | apply Kd.R_drew)); exact HO_22.out) hb); have n2_ := Aside0.mk (blk_below (g := gb204) (o := .cells #[.int .u8 a4_0, .int .u8 a4_1, .int .u32 a4_2, .slice A4_3 l4_3.length c4_3, .slice A4_4 l4_4.length c4_4] 28 (0, 0)) (by (with_reducible repeat (first | refine blk_drewN ?_ _ | refine blk_drew ?_ | refine blk_alloc ?_ _)); exact BK204.out) hb); have n3_ := Aside0.mk (Kd.C_below (by repeat (first | (with_reducible exact HR229.out) | (with_reducible refine Kd.C_alloc ?_ _) | (with_reducible refine Kd.C_drewN ?_ _) | (with_reducible refine Kd.C_drew ?_) | exact HR229.out)) hb); have n4_ := Aside0.mk (Kd.C_below (by repeat (first | (with_reducible exact HR236.out) | (with_reducible refine Kd.C_alloc ?_ _) | (with_reducible refine Kd.C_drewN ?_ _) | (with_reducible refine Kd.C_drew ?_) | exact HR236.out)) hb); have n5_ := Aside0.mk (below_step (by repeat (first | (with_reducible first | exact HB.out | apply below_alloc | apply pw_below_drewN | apply below_drew1 | refine below_set ?_ GE204.out) | exact HB.out)) hb); clear HO_20; clear HO_22; clear BK204; clear HR229; clear HR236; clear HB; have HO_20 := n0_; have HO_22 := n1_; have BK204 := n2_; have HR229 := n3_; have HR236 := n4_; have HB := n5_; clear n0_ n1_ n2_ n3_ n4_ n5_; (try clear hb); (try clear hb2); (try clear hk); (try clear hi); have hcz115_0 : w114.cell? ⟨gb204, 0, none⟩ = some (.int .u8 a4_0) := (blk_cell BK204.out 0).trans rfl; have hcz115_1 : w114.cell? ⟨gb204, 1, none⟩ = some (.int .u8 a4_1) := (blk_cell BK204.out 1).trans rfl; have hcz115_2 : w114.cell? ⟨gb204, 2, none⟩ = some (.int .u32 a4_2) := (blk_cell BK204.out 2).trans rfl; have hcz115_3 : w114.cell? ⟨gb204, 3, none⟩ = some (.slice A4_3 l4_3.length c4_3) := (blk_cell BK204.out 3).trans rfl; have hcz115_4 : w114.cell? ⟨gb204, 4, none⟩ = some (.slice A4_4 l4_4.length c4_4) := (blk_cell BK204.out 4).trans rfl; have hfz115_0 := blk_frozen BK204.out 0; have hfz115_1 := blk_frozen BK204.out 1; have hfz115_2 := blk_frozen BK204.out 2; have hfz115_3 := blk_frozen BK204.out 3; have hfz115_4 := blk_frozen BK204.out 4; obtain ⟨Ao116, co116, eo116⟩ := Kd.R_slice HO_22.out; subst eo116) | ((with_reducible refine gate_callee (f := 11) rfl ?_); refine goesL_ (some 205) rfl rfl Tryd.func11 (by kernel_rfl) rfl #[.agg #[.int .u8 a4_0, .int .u8 a4_1, .int .u32 a4_2, .slice A4_3 l4_3.length c4_3, .slice A4_4 l4_4.length c4_4], .slice Ao116 t246.length co116] rfl (by (try simp only [List.map_toArray, List.map_cons, List.map_nil]); first | done | rfl | (simp only [List.length_drop, List.length_take]; rfl)) ?_; (with_reducible refine (spec_FitsAll.calls k6 a4_0 a4_1 a4_2 _ _ l4_3 _ _ l4_4 _ _ t246 t254 t255 _ ?side1 ?side2 ?side3 ?side4 ?side5 ?side6 A100.out).mono ?_); (case side1 => repeat (first | exact (Kd.C_below HR4_3.out HB.out) | (with_reducible refine Kd.C_alloc ?_ _) | (with_reducible refine Kd.C_drewN ?_ _) | (with_reducible refine Kd.C_drew ?_))); (case side2 => exact HC4_3.out); (case side3 => repeat (first | exact (Kd.C_below HR4_4.out HB.out) | (with_reducible refine Kd.C_alloc ?_ _) | (with_reducible refine Kd.C_drewN ?_ _) | (with_reducible refine Kd.C_drew ?_))); (case side4 => exact HC4_4.out); (case side5 => repeat (first | exact (Kd.R_reads' HO_22.out).2.2 | (with_reducible refine Kd.C_alloc ?_ _) | (with_reducible refine Kd.C_drewN ?_ _) | (with_reducible refine Kd.C_drew ?_))); (case side6 => exact (Kd.R_reads' HO_22.out).2.1); rintro e w117 ⟨rfl, hb⟩; refine ⟨_, rfl, ?_⟩; have n0_ := Aside0.mk (Kd.R_below (by (with_reducible repeat (first | apply Kd.R_alloc | apply Kd.R_drewN | apply Kd.R_drew)); exact HO_20.out) hb); have n1_ := Aside0.mk (Kd.R_below (by (with_reducible repeat (first | apply Kd.R_alloc | apply Kd.R_drewN | apply Kd.R_drew)); exact HO_22.out) hb); have n2_ := Aside0.mk (blk_below (g := gb204) (o := .cells #[.int .u8 a4_0, .int .u8 a4_1, .int .u32 a4_2, .slice A4_3 l4_3.length c4_3, .slice A4_4 l4_4.length c4_4] 28 (0, 0)) (by (with_reducible repeat (first | refine blk_drewN ?_ _ | refine blk_drew ?_ | refine blk_alloc ?_ _)); exact BK204.out) hb); have n3_ := Aside0.mk (Kd.C_below (by repeat (first | (with_reducible exact HR229.out) | (with_reducible refine Kd.C_alloc ?_ _) | (with_reducible refine Kd.C_drewN ?_ _) | (with_reducible refine Kd.C_drew ?_) | exact HR229.out)) hb); have n4_ := Aside0.mk (Kd.C_below (by repeat (first | (with_reducible exact HR236.out) | (with_reducible refine Kd.C_alloc ?_ _) | (with_reducible refine Kd.C_drewN ?_ _) | (with_reducible refine Kd.C_drew ?_) | exact HR236.out)) hb); have n5_ := Aside0.mk (below_step (by repeat (first | (with_reducible first | exact HB.out | apply below_alloc | apply pw_below_drewN | apply below_drew1 | refine below_set ?_ GE204.out) | exact HB.out)) hb); clear HO_20; clear HO_22; clear BK204; clear HR229; clear HR236; clear HB; have HO_20 := n0_; have HO_22 := n1_; have BK204 := n2_; have HR229 := n3_; have HR236 := n4_; have HB := n5_; clear n0_ n1_ n2_ n3_ n4_ n5_; (try clear hb); (try clear hb2); (try clear hk); (try clear hi)))
                                                  go_ret
                                                  exact ⟨by first | rfl | (simp [errW_none, errW_some] <;> rfl) | (simp only [← hji54]; first | rfl | (simp [errW_none, errW_some] <;> rfl)) | (simp [*, errW_none, errW_some] <;> rfl), by repeat (first | (with_reducible first | exact HB.out | apply below_alloc | apply pw_below_drewN | apply below_drew1 | refine below_set ?_ GE204.out) | exact HB.out)⟩
                                  · rw [if_neg c60] at H
                                    exact absurd H (by simp)
                                · rw [if_neg c57] at H
                                  exact absurd H (by simp)
                              · rw [if_neg c56] at H
                                exact absurd H (by simp)
                            · rw [if_neg c55] at H
                              exact absurd H (by simp)

end Go.Proofs.YtoldgnmgjpjapaaDoor.Q
