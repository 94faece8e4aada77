-- Written by a program of this session out of the translation; Lean checks it.
import Derived.Test.YtogikhohkbcccaaGreatDoorF2
import Derived.WalkMore
namespace Go.Proofs.YtogikhohkbcccaaGreatDoor.F
open Go.RowKit Go.Proofs.YtogikhohkbcccaaGreatDoorW.PrintWords Go.Proofs.YtogikhohkbcccaaGreatDoorW.PrintLast Go.Proofs.YtogikhohkbcccaaGreatDoorW.PrintMore
attribute [local go_sem] max2_int min2_int max_two min_two max_three min_three max_four min_four   -- for this text's walks alone
set_option linter.unusedVariables false
set_option linter.unusedSimpArgs false

mutual
def strconv_readFloat.j0 : Nat → ByteArray → Int → Int → Bool → Bool → Bool → Int → Bool → Bool → Option (Int × Int × Bool × Bool × Bool × Int × Bool)
  | 0, _, _, _, _, _, _, _, _, _ => none
  | k + 1, x0, x2, x3, x4, x5, x6, x7, x8, x9 => if (wrap64 (x7 + 2)) < (x0.size : Int) then (if 0 ≤ x7 then (if x7 < (x0.size : Int) then (if (bt x0 x7) = 48 then (if 0 ≤ (wrap64 (x7 + 1)) then (if (wrap64 (x7 + 1)) < (x0.size : Int) then ((strconv_lower.f (bt x0 (wrap64 (x7 + 1)))).bind fun t109 => (strconv_readFloat.j1 k x0 x2 x3 x4 x5 x6 x7 x8 x9 10 19 101 (t109 == 120))) else (none)) else (none)) else (strconv_readFloat.j1 k x0 x2 x3 x4 x5 x6 x7 x8 x9 10 19 101 false)) else (none)) else (none)) else (strconv_readFloat.j1 k x0 x2 x3 x4 x5 x6 x7 x8 x9 10 19 101 false)
def strconv_readFloat.j1 : Nat → ByteArray → Int → Int → Bool → Bool → Bool → Int → Bool → Bool → Int → Int → Int → Bool → Option (Int × Int × Bool × Bool × Bool × Int × Bool)
  | 0, _, _, _, _, _, _, _, _, _, _, _, _, _ => none
  | k + 1, x0, x2, x3, x4, x5, x6, x7, x8, x9, x10, x11, x12, x54 => if x54 = true then (strconv_readFloat.j2 k x0 x2 x3 x4 x5 true (wrap64 (x7 + 2)) x8 x9 16 16 112) else (strconv_readFloat.j2 k x0 x2 x3 x4 x5 x6 x7 x8 x9 x10 x11 x12)
def strconv_readFloat.j2 : Nat → ByteArray → Int → Int → Bool → Bool → Bool → Int → Bool → Bool → Int → Int → Int → Option (Int × Int × Bool × Bool × Bool × Int × Bool)
  | 0, _, _, _, _, _, _, _, _, _, _, _, _ => none
  | k + 1, x0, x2, x3, x4, x5, x6, x7, x8, x9, x10, x11, x12 => strconv_readFloat.l0 k x0 x2 x3 x4 x5 x6 x7 x8 x9 x10 x11 x12 false false 0 0 0
def strconv_readFloat.j7 : Nat → ByteArray → Int → Int → Bool → Bool → Bool → Int → Bool → Bool → Int → Int → Bool → Bool → Int → Int → Int → Option (Int × Int × Bool × Bool × Bool × Int × Bool)
  | 0, _, _, _, _, _, _, _, _, _, _, _, _, _, _, _, _ => none
  | k + 1, x0, x2, x3, x4, x5, x6, x7, x8, x9, x10, x12, x13, x14, x15, x16, x17 => if x14 = true then (if x13 = true then (strconv_readFloat.j8 k x0 x2 x3 x4 x5 x6 x7 x8 x9 x10 x12 x16 x17) else (strconv_readFloat.j8 k x0 x2 x3 x4 x5 x6 x7 x8 x9 x10 x12 x16 x15)) else (some (x2, x3, x4, x5, x6, x7, x8))
def strconv_readFloat.j8 : Nat → ByteArray → Int → Int → Bool → Bool → Bool → Int → Bool → Bool → Int → Int → Int → Int → Option (Int × Int × Bool × Bool × Bool × Int × Bool)
  | 0, _, _, _, _, _, _, _, _, _, _, _, _, _ => none
  | k + 1, x0, x2, x3, x4, x5, x6, x7, x8, x9, x10, x12, x16, x17 => if x10 = 16 then (strconv_readFloat.j9 k x0 x2 x3 x4 x5 x6 x7 x8 x9 x10 x12 (wrap64 (x16 * 4)) (wrap64 (x17 * 4))) else (strconv_readFloat.j9 k x0 x2 x3 x4 x5 x6 x7 x8 x9 x10 x12 x16 x17)
def strconv_readFloat.j9 : Nat → ByteArray → Int → Int → Bool → Bool → Bool → Int → Bool → Bool → Int → Int → Int → Int → Option (Int × Int × Bool × Bool × Bool × Int × Bool)
  | 0, _, _, _, _, _, _, _, _, _, _, _, _, _ => none
  | k + 1, x0, x2, x3, x4, x5, x6, x7, x8, x9, x10, x12, x16, x17 => if x7 < (x0.size : Int) then (if 0 ≤ x7 then ((strconv_lower.f (bt x0 x7)).bind fun t113 => (strconv_readFloat.j10 k x0 x2 x3 x4 x5 x6 x7 x8 x9 x10 x16 x17 (t113 == x12))) else (none)) else (strconv_readFloat.j10 k x0 x2 x3 x4 x5 x6 x7 x8 x9 x10 x16 x17 false)
def strconv_readFloat.j10 : Nat → ByteArray → Int → Int → Bool → Bool → Bool → Int → Bool → Bool → Int → Int → Int → Bool → Option (Int × Int × Bool × Bool × Bool × Int × Bool)
  | 0, _, _, _, _, _, _, _, _, _, _, _, _, _ => none
  | k + 1, x0, x2, x3, x4, x5, x6, x7, x8, x9, x10, x16, x17, x161 => if x161 = true then (if (wrap64 (x7 + 1)) ≥ (x0.size : Int) then (some (x2, x3, x4, x5, x6, wrap64 (x7 + 1), x8)) else (if 0 ≤ (wrap64 (x7 + 1)) then (if (wrap64 (x7 + 1)) < (x0.size : Int) then (if (bt x0 (wrap64 (x7 + 1))) = 43 then (strconv_readFloat.j11 k x0 x2 x3 x4 x5 x6 (wrap64 ((wrap64 (x7 + 1)) + 1)) x8 x9 x16 x17 1) else (if (bt x0 (wrap64 (x7 + 1))) = 45 then (strconv_readFloat.j11 k x0 x2 x3 x4 x5 x6 (wrap64 ((wrap64 (x7 + 1)) + 1)) x8 x9 x16 x17 (-1)) else (strconv_readFloat.j11 k x0 x2 x3 x4 x5 x6 (wrap64 (x7 + 1)) x8 x9 x16 x17 1))) else (none)) else (none))) else (if x10 = 16 then (some (x2, x3, x4, x5, x6, x7, x8)) else (strconv_readFloat.j15 k x0 x2 x3 x4 x5 x6 x7 x8 x9 x16 x17))
def strconv_readFloat.j15 : Nat → ByteArray → Int → Int → Bool → Bool → Bool → Int → Bool → Bool → Int → Int → Option (Int × Int × Bool × Bool × Bool × Int × Bool)
  | 0, _, _, _, _, _, _, _, _, _, _, _ => none
  | k + 1, x0, x2, x3, x4, x5, x6, x7, x8, x9, x16, x17 => if x2 = 0 then (if x9 = true then (if 0 ≤ x7 then (if x7 ≤ (x0.size : Int) then ((strconv_underscoreOK.f k (x0.extract 0 (x7 : Int).toNat)).bind fun t114 => (if t114 = true then (some (x2, x3, x4, x5, x6, x7, true)) else (some (x2, x3, x4, x5, x6, x7, x8)))) else (none)) else (none)) else (some (x2, x3, x4, x5, x6, x7, true))) else (if x9 = true then (if 0 ≤ x7 then (if x7 ≤ (x0.size : Int) then ((strconv_underscoreOK.f k (x0.extract 0 (x7 : Int).toNat)).bind fun t115 => (if t115 = true then (some (x2, wrap64 (x17 - x16), x4, x5, x6, x7, true)) else (some (x2, wrap64 (x17 - x16), x4, x5, x6, x7, x8)))) else (none)) else (none)) else (some (x2, wrap64 (x17 - x16), x4, x5, x6, x7, true)))
def strconv_readFloat.j11 : Nat → ByteArray → Int → Int → Bool → Bool → Bool → Int → Bool → Bool → Int → Int → Int → Option (Int × Int × Bool × Bool × Bool × Int × Bool)
  | 0, _, _, _, _, _, _, _, _, _, _, _, _ => none
  | k + 1, x0, x2, x3, x4, x5, x6, x7, x8, x9, x16, x17, x19 => if x7 ≥ (x0.size : Int) then (strconv_readFloat.j12 k x0 x2 x3 x4 x5 x6 x7 x8 x9 x16 x17 x19 true) else (if 0 ≤ x7 then (if x7 < (x0.size : Int) then (if (bt x0 x7) < 48 then (strconv_readFloat.j12 k x0 x2 x3 x4 x5 x6 x7 x8 x9 x16 x17 x19 true) else (strconv_readFloat.j12 k x0 x2 x3 x4 x5 x6 x7 x8 x9 x16 x17 x19 (decide ((bt x0 x7) > 57)))) else (none)) else (none))
def strconv_readFloat.j12 : Nat → ByteArray → Int → Int → Bool → Bool → Bool → Int → Bool → Bool → Int → Int → Int → Bool → Option (Int × Int × Bool × Bool × Bool × Int × Bool)
  | 0, _, _, _, _, _, _, _, _, _, _, _, _, _ => none
  | k + 1, x0, x2, x3, x4, x5, x6, x7, x8, x9, x16, x17, x19, x194 => if x194 = true then (some (x2, x3, x4, x5, x6, x7, x8)) else (strconv_readFloat.l1 k x0 x2 x3 x4 x5 x6 x7 x8 x9 x16 x17 x19 0)
def strconv_readFloat.l1 : Nat → ByteArray → Int → Int → Bool → Bool → Bool → Int → Bool → Bool → Int → Int → Int → Int → Option (Int × Int × Bool × Bool × Bool × Int × Bool)
  | 0, _, _, _, _, _, _, _, _, _, _, _, _, _ => none
  | k + 1, x0, x2, x3, x4, x5, x6, x7, x8, x9, x16, x17, x19, x20 => if x7 < (x0.size : Int) then (if 0 ≤ x7 then (if 48 ≤ (bt x0 x7) then (if (bt x0 x7) ≤ 57 then (strconv_readFloat.j14 k x0 x2 x3 x4 x5 x6 x7 x8 x9 x16 x17 x19 x20 true) else (strconv_readFloat.j14 k x0 x2 x3 x4 x5 x6 x7 x8 x9 x16 x17 x19 x20 ((bt x0 x7) == 95))) else (strconv_readFloat.j14 k x0 x2 x3 x4 x5 x6 x7 x8 x9 x16 x17 x19 x20 ((bt x0 x7) == 95))) else (none)) else (strconv_readFloat.j14 k x0 x2 x3 x4 x5 x6 x7 x8 x9 x16 x17 x19 x20 false)
def strconv_readFloat.j14 : Nat → ByteArray → Int → Int → Bool → Bool → Bool → Int → Bool → Bool → Int → Int → Int → Int → Bool → Option (Int × Int × Bool × Bool × Bool × Int × Bool)
  | 0, _, _, _, _, _, _, _, _, _, _, _, _, _, _ => none
  | k + 1, x0, x2, x3, x4, x5, x6, x7, x8, x9, x16, x17, x19, x20, x216 => if x216 = true then (if 0 ≤ x7 then (if x7 < (x0.size : Int) then (if (bt x0 x7) = 95 then (strconv_readFloat.l1 k x0 x2 x3 x4 x5 x6 (wrap64 (x7 + 1)) x8 true x16 x17 x19 x20) else (if x20 < 10000 then (strconv_readFloat.l1 k x0 x2 x3 x4 x5 x6 (wrap64 (x7 + 1)) x8 x9 x16 x17 x19 (wrap64 ((wrap64 ((wrap64 (x20 * 10)) + (wrap64 (bt x0 x7)))) - 48))) else (strconv_readFloat.l1 k x0 x2 x3 x4 x5 x6 (wrap64 (x7 + 1)) x8 x9 x16 x17 x19 x20))) else (none)) else (none)) else (strconv_readFloat.j15 k x0 x2 x3 x4 x5 x6 x7 x8 x9 x16 (wrap64 (x17 + (wrap64 (x20 * x19)))))
def strconv_readFloat.l0 : Nat → ByteArray → Int → Int → Bool → Bool → Bool → Int → Bool → Bool → Int → Int → Int → Bool → Bool → Int → Int → Int → Option (Int × Int × Bool × Bool × Bool × Int × Bool)
  | 0, _, _, _, _, _, _, _, _, _, _, _, _, _, _, _, _, _ => none
  | k + 1, x0, x2, x3, x4, x5, x6, x7, x8, x9, x10, x11, x12, x13, x14, x15, x16, x17 => if x7 < (x0.size : Int) then (if 0 ≤ x7 then (if (true == ((bt x0 x7) == 95)) = true then (strconv_readFloat.l0 k x0 x2 x3 x4 x5 x6 (wrap64 (x7 + 1)) x8 true x10 x11 x12 x13 x14 x15 x16 x17) else (if (true == ((bt x0 x7) == 46)) = true then (if x13 = true then (strconv_readFloat.j7 k x0 x2 x3 x4 x5 x6 x7 x8 x9 x10 x12 x13 x14 x15 x16 x17) else (strconv_readFloat.l0 k x0 x2 x3 x4 x5 x6 (wrap64 (x7 + 1)) x8 x9 x10 x11 x12 true x14 x15 x16 x15)) else (if 48 ≤ (bt x0 x7) then (strconv_readFloat.j4 k x0 x2 x3 x4 x5 x6 x7 x8 x9 x10 x11 x12 x13 x14 x15 x16 x17 (bt x0 x7) (true == (decide ((bt x0 x7) ≤ 57)))) else (strconv_readFloat.j4 k x0 x2 x3 x4 x5 x6 x7 x8 x9 x10 x11 x12 x13 x14 x15 x16 x17 (bt x0 x7) (true == false))))) else (none)) else (strconv_readFloat.j7 k x0 x2 x3 x4 x5 x6 x7 x8 x9 x10 x12 x13 x14 x15 x16 x17)
def strconv_readFloat.j4 : Nat → ByteArray → Int → Int → Bool → Bool → Bool → Int → Bool → Bool → Int → Int → Int → Bool → Bool → Int → Int → Int → Int → Bool → Option (Int × Int × Bool × Bool × Bool × Int × Bool)
  | 0, _, _, _, _, _, _, _, _, _, _, _, _, _, _, _, _, _, _, _ => none
  | k + 1, x0, x2, x3, x4, x5, x6, x7, x8, x9, x10, x11, x12, x13, x14, x15, x16, x17, x18, x76 => if x76 = true then (if x18 = 48 then (strconv_readFloat.j5 k x0 x2 x3 x4 x5 x6 x7 x8 x9 x10 x11 x12 x13 true x15 x16 x17 x18 (x15 == 0)) else (strconv_readFloat.j5 k x0 x2 x3 x4 x5 x6 x7 x8 x9 x10 x11 x12 x13 true x15 x16 x17 x18 false)) else (if x10 = 16 then ((strconv_lower.f x18).bind fun t110 => (if 97 ≤ t110 then ((strconv_lower.f x18).bind fun t111 => (strconv_readFloat.j6 k x0 x2 x3 x4 x5 x6 x7 x8 x9 x10 x11 x12 x13 x14 x15 x16 x17 x18 (true == (decide (t111 ≤ 102))))) else (strconv_readFloat.j6 k x0 x2 x3 x4 x5 x6 x7 x8 x9 x10 x11 x12 x13 x14 x15 x16 x17 x18 (true == false)))) else (strconv_readFloat.j6 k x0 x2 x3 x4 x5 x6 x7 x8 x9 x10 x11 x12 x13 x14 x15 x16 x17 x18 (true == false)))
def strconv_readFloat.j5 : Nat → ByteArray → Int → Int → Bool → Bool → Bool → Int → Bool → Bool → Int → Int → Int → Bool → Bool → Int → Int → Int → Int → Bool → Option (Int × Int × Bool × Bool × Bool × Int × Bool)
  | 0, _, _, _, _, _, _, _, _, _, _, _, _, _, _, _, _, _, _, _ => none
  | k + 1, x0, x2, x3, x4, x5, x6, x7, x8, x9, x10, x11, x12, x13, x14, x15, x16, x17, x18, x89 => if x89 = true then (strconv_readFloat.l0 k x0 x2 x3 x4 x5 x6 (wrap64 (x7 + 1)) x8 x9 x10 x11 x12 x13 x14 x15 x16 (wrap64 (x17 - 1))) else (if x16 < x11 then (strconv_readFloat.l0 k x0 (IntKind.u64.wrap ((IntKind.u64.wrap (x2 * x10)) + ((x18 - 48) % 256))) x3 x4 x5 x6 (wrap64 (x7 + 1)) x8 x9 x10 x11 x12 x13 x14 (wrap64 (x15 + 1)) (wrap64 (x16 + 1)) x17) else (if x18 = 48 then (strconv_readFloat.l0 k x0 x2 x3 x4 x5 x6 (wrap64 (x7 + 1)) x8 x9 x10 x11 x12 x13 x14 (wrap64 (x15 + 1)) x16 x17) else (strconv_readFloat.l0 k x0 x2 x3 x4 true x6 (wrap64 (x7 + 1)) x8 x9 x10 x11 x12 x13 x14 (wrap64 (x15 + 1)) x16 x17)))
def strconv_readFloat.j6 : Nat → ByteArray → Int → Int → Bool → Bool → Bool → Int → Bool → Bool → Int → Int → Int → Bool → Bool → Int → Int → Int → Int → Bool → Option (Int × Int × Bool × Bool × Bool × Int × Bool)
  | 0, _, _, _, _, _, _, _, _, _, _, _, _, _, _, _, _, _, _, _ => none
  | k + 1, x0, x2, x3, x4, x5, x6, x7, x8, x9, x10, x11, x12, x13, x14, x15, x16, x17, x18, x109 => if x109 = true then (if x16 < x11 then ((strconv_lower.f x18).bind fun t112 => (strconv_readFloat.l0 k x0 (IntKind.u64.wrap ((IntKind.u64.wrap (x2 * 16)) + ((((t112 - 97) % 256) + 10) % 256))) x3 x4 x5 x6 (wrap64 (x7 + 1)) x8 x9 x10 x11 x12 x13 true (wrap64 (x15 + 1)) (wrap64 (x16 + 1)) x17)) else (strconv_readFloat.l0 k x0 x2 x3 x4 true x6 (wrap64 (x7 + 1)) x8 x9 x10 x11 x12 x13 true (wrap64 (x15 + 1)) x16 x17)) else (strconv_readFloat.j7 k x0 x2 x3 x4 x5 x6 x7 x8 x9 x10 x12 x13 x14 x15 x16 x17)
end
def strconv_readFloat.f (k : Nat) (a0 : ByteArray) : Option (Int × Int × Bool × Bool × Bool × Int × Bool) := if 0 ≥ (a0.size : Int) then (some (0, 0, false, false, false, 0, false)) else (if 0 < (a0.size : Int) then (if (bt a0 0) = 43 then (strconv_readFloat.j0 k a0 0 0 false false false (0 + 1) false false) else (if (bt a0 0) = 45 then (strconv_readFloat.j0 k a0 0 0 true false false (0 + 1) false false) else (strconv_readFloat.j0 k a0 0 0 false false false 0 false false))) else (none))
theorem strconv_readFloat.mono_l : ∀ k, (∀ y0 y1 y2 y3 y4 y5 y6 y7 y8, LeO (strconv_readFloat.j0 k y0 y1 y2 y3 y4 y5 y6 y7 y8) (strconv_readFloat.j0 (k + 1) y0 y1 y2 y3 y4 y5 y6 y7 y8)) ∧ (∀ y0 y1 y2 y3 y4 y5 y6 y7 y8 y9 y10 y11 y12, LeO (strconv_readFloat.j1 k y0 y1 y2 y3 y4 y5 y6 y7 y8 y9 y10 y11 y12) (strconv_readFloat.j1 (k + 1) y0 y1 y2 y3 y4 y5 y6 y7 y8 y9 y10 y11 y12)) ∧ (∀ y0 y1 y2 y3 y4 y5 y6 y7 y8 y9 y10 y11, LeO (strconv_readFloat.j2 k y0 y1 y2 y3 y4 y5 y6 y7 y8 y9 y10 y11) (strconv_readFloat.j2 (k + 1) y0 y1 y2 y3 y4 y5 y6 y7 y8 y9 y10 y11)) ∧ (∀ y0 y1 y2 y3 y4 y5 y6 y7 y8 y9 y10 y11 y12 y13 y14 y15, LeO (strconv_readFloat.j7 k y0 y1 y2 y3 y4 y5 y6 y7 y8 y9 y10 y11 y12 y13 y14 y15) (strconv_readFloat.j7 (k + 1) y0 y1 y2 y3 y4 y5 y6 y7 y8 y9 y10 y11 y12 y13 y14 y15)) ∧ (∀ y0 y1 y2 y3 y4 y5 y6 y7 y8 y9 y10 y11 y12, LeO (strconv_readFloat.j8 k y0 y1 y2 y3 y4 y5 y6 y7 y8 y9 y10 y11 y12) (strconv_readFloat.j8 (k + 1) y0 y1 y2 y3 y4 y5 y6 y7 y8 y9 y10 y11 y12)) ∧ (∀ y0 y1 y2 y3 y4 y5 y6 y7 y8 y9 y10 y11 y12, LeO (strconv_readFloat.j9 k y0 y1 y2 y3 y4 y5 y6 y7 y8 y9 y10 y11 y12) (strconv_readFloat.j9 (k + 1) y0 y1 y2 y3 y4 y5 y6 y7 y8 y9 y10 y11 y12)) ∧ (∀ y0 y1 y2 y3 y4 y5 y6 y7 y8 y9 y10 y11 y12, LeO (strconv_readFloat.j10 k y0 y1 y2 y3 y4 y5 y6 y7 y8 y9 y10 y11 y12) (strconv_readFloat.j10 (k + 1) y0 y1 y2 y3 y4 y5 y6 y7 y8 y9 y10 y11 y12)) ∧ (∀ y0 y1 y2 y3 y4 y5 y6 y7 y8 y9 y10, LeO (strconv_readFloat.j15 k y0 y1 y2 y3 y4 y5 y6 y7 y8 y9 y10) (strconv_readFloat.j15 (k + 1) y0 y1 y2 y3 y4 y5 y6 y7 y8 y9 y10)) ∧ (∀ y0 y1 y2 y3 y4 y5 y6 y7 y8 y9 y10 y11, LeO (strconv_readFloat.j11 k y0 y1 y2 y3 y4 y5 y6 y7 y8 y9 y10 y11) (strconv_readFloat.j11 (k + 1) y0 y1 y2 y3 y4 y5 y6 y7 y8 y9 y10 y11)) ∧ (∀ y0 y1 y2 y3 y4 y5 y6 y7 y8 y9 y10 y11 y12, LeO (strconv_readFloat.j12 k y0 y1 y2 y3 y4 y5 y6 y7 y8 y9 y10 y11 y12) (strconv_readFloat.j12 (k + 1) y0 y1 y2 y3 y4 y5 y6 y7 y8 y9 y10 y11 y12)) ∧ (∀ y0 y1 y2 y3 y4 y5 y6 y7 y8 y9 y10 y11 y12, LeO (strconv_readFloat.l1 k y0 y1 y2 y3 y4 y5 y6 y7 y8 y9 y10 y11 y12) (strconv_readFloat.l1 (k + 1) y0 y1 y2 y3 y4 y5 y6 y7 y8 y9 y10 y11 y12)) ∧ (∀ y0 y1 y2 y3 y4 y5 y6 y7 y8 y9 y10 y11 y12 y13, LeO (strconv_readFloat.j14 k y0 y1 y2 y3 y4 y5 y6 y7 y8 y9 y10 y11 y12 y13) (strconv_readFloat.j14 (k + 1) y0 y1 y2 y3 y4 y5 y6 y7 y8 y9 y10 y11 y12 y13)) ∧ (∀ y0 y1 y2 y3 y4 y5 y6 y7 y8 y9 y10 y11 y12 y13 y14 y15 y16, LeO (strconv_readFloat.l0 k y0 y1 y2 y3 y4 y5 y6 y7 y8 y9 y10 y11 y12 y13 y14 y15 y16) (strconv_readFloat.l0 (k + 1) y0 y1 y2 y3 y4 y5 y6 y7 y8 y9 y10 y11 y12 y13 y14 y15 y16)) ∧ (∀ y0 y1 y2 y3 y4 y5 y6 y7 y8 y9 y10 y11 y12 y13 y14 y15 y16 y17 y18, LeO (strconv_readFloat.j4 k y0 y1 y2 y3 y4 y5 y6 y7 y8 y9 y10 y11 y12 y13 y14 y15 y16 y17 y18) (strconv_readFloat.j4 (k + 1) y0 y1 y2 y3 y4 y5 y6 y7 y8 y9 y10 y11 y12 y13 y14 y15 y16 y17 y18)) ∧ (∀ y0 y1 y2 y3 y4 y5 y6 y7 y8 y9 y10 y11 y12 y13 y14 y15 y16 y17 y18, LeO (strconv_readFloat.j5 k y0 y1 y2 y3 y4 y5 y6 y7 y8 y9 y10 y11 y12 y13 y14 y15 y16 y17 y18) (strconv_readFloat.j5 (k + 1) y0 y1 y2 y3 y4 y5 y6 y7 y8 y9 y10 y11 y12 y13 y14 y15 y16 y17 y18)) ∧ (∀ y0 y1 y2 y3 y4 y5 y6 y7 y8 y9 y10 y11 y12 y13 y14 y15 y16 y17 y18, LeO (strconv_readFloat.j6 k y0 y1 y2 y3 y4 y5 y6 y7 y8 y9 y10 y11 y12 y13 y14 y15 y16 y17 y18) (strconv_readFloat.j6 (k + 1) y0 y1 y2 y3 y4 y5 y6 y7 y8 y9 y10 y11 y12 y13 y14 y15 y16 y17 y18))
  | 0 => ⟨fun _ _ _ _ _ _ _ _ _ r h => by simp [strconv_readFloat.j0] at h, fun _ _ _ _ _ _ _ _ _ _ _ _ _ r h => by simp [strconv_readFloat.j1] at h, fun _ _ _ _ _ _ _ _ _ _ _ _ r h => by simp [strconv_readFloat.j2] at h, fun _ _ _ _ _ _ _ _ _ _ _ _ _ _ _ _ r h => by simp [strconv_readFloat.j7] at h, fun _ _ _ _ _ _ _ _ _ _ _ _ _ r h => by simp [strconv_readFloat.j8] at h, fun _ _ _ _ _ _ _ _ _ _ _ _ _ r h => by simp [strconv_readFloat.j9] at h, fun _ _ _ _ _ _ _ _ _ _ _ _ _ r h => by simp [strconv_readFloat.j10] at h, fun _ _ _ _ _ _ _ _ _ _ _ r h => by simp [strconv_readFloat.j15] at h, fun _ _ _ _ _ _ _ _ _ _ _ _ r h => by simp [strconv_readFloat.j11] at h, fun _ _ _ _ _ _ _ _ _ _ _ _ _ r h => by simp [strconv_readFloat.j12] at h, fun _ _ _ _ _ _ _ _ _ _ _ _ _ r h => by simp [strconv_readFloat.l1] at h, fun _ _ _ _ _ _ _ _ _ _ _ _ _ _ r h => by simp [strconv_readFloat.j14] at h, fun _ _ _ _ _ _ _ _ _ _ _ _ _ _ _ _ _ r h => by simp [strconv_readFloat.l0] at h, fun _ _ _ _ _ _ _ _ _ _ _ _ _ _ _ _ _ _ _ r h => by simp [strconv_readFloat.j4] at h, fun _ _ _ _ _ _ _ _ _ _ _ _ _ _ _ _ _ _ _ r h => by simp [strconv_readFloat.j5] at h, fun _ _ _ _ _ _ _ _ _ _ _ _ _ _ _ _ _ _ _ r h => by simp [strconv_readFloat.j6] at h⟩
  | k + 1 => by
    obtain ⟨ih0, ih1, ih2, ih3, ih4, ih5, ih6, ih7, ih8, ih9, ih10, ih11, ih12, ih13, ih14, ih15⟩ := strconv_readFloat.mono_l k
    refine ⟨?_, ?_, ?_, ?_, ?_, ?_, ?_, ?_, ?_, ?_, ?_, ?_, ?_, ?_, ?_, ?_⟩
    · intro y0 y1 y2 y3 y4 y5 y6 y7 y8
      unfold strconv_readFloat.j0
      repeat' first
      | (with_reducible exact ih0 _ _ _ _ _ _ _ _ _)
      | (with_reducible exact ih1 _ _ _ _ _ _ _ _ _ _ _ _ _)
      | (with_reducible exact ih2 _ _ _ _ _ _ _ _ _ _ _ _)
      | (with_reducible exact ih3 _ _ _ _ _ _ _ _ _ _ _ _ _ _ _ _)
      | (with_reducible exact ih4 _ _ _ _ _ _ _ _ _ _ _ _ _)
      | (with_reducible exact ih5 _ _ _ _ _ _ _ _ _ _ _ _ _)
      | (with_reducible exact ih6 _ _ _ _ _ _ _ _ _ _ _ _ _)
      | (with_reducible exact ih7 _ _ _ _ _ _ _ _ _ _ _)
      | (with_reducible exact ih8 _ _ _ _ _ _ _ _ _ _ _ _)
      | (with_reducible exact ih9 _ _ _ _ _ _ _ _ _ _ _ _ _)
      | (with_reducible exact ih10 _ _ _ _ _ _ _ _ _ _ _ _ _)
      | (with_reducible exact ih11 _ _ _ _ _ _ _ _ _ _ _ _ _ _)
      | (with_reducible exact ih12 _ _ _ _ _ _ _ _ _ _ _ _ _ _ _ _ _)
      | (with_reducible exact ih13 _ _ _ _ _ _ _ _ _ _ _ _ _ _ _ _ _ _ _)
      | (with_reducible exact ih14 _ _ _ _ _ _ _ _ _ _ _ _ _ _ _ _ _ _ _)
      | (with_reducible exact ih15 _ _ _ _ _ _ _ _ _ _ _ _ _ _ _ _ _ _ _)
      | (with_reducible exact strconv_underscoreOK.mono _ _)
      | (with_reducible exact LeO.refl _)
      | (with_reducible exact LeO.none _)
      | (with_reducible refine LeO.ite ?_ ?_)
      | (with_reducible refine LeO.bind ?_ (fun _ => ?_))
      | exact ih0 _ _ _ _ _ _ _ _ _
      | exact ih1 _ _ _ _ _ _ _ _ _ _ _ _ _
      | exact ih2 _ _ _ _ _ _ _ _ _ _ _ _
      | exact ih3 _ _ _ _ _ _ _ _ _ _ _ _ _ _ _ _
      | exact ih4 _ _ _ _ _ _ _ _ _ _ _ _ _
      | exact ih5 _ _ _ _ _ _ _ _ _ _ _ _ _
      | exact ih6 _ _ _ _ _ _ _ _ _ _ _ _ _
      | exact ih7 _ _ _ _ _ _ _ _ _ _ _
      | exact ih8 _ _ _ _ _ _ _ _ _ _ _ _
      | exact ih9 _ _ _ _ _ _ _ _ _ _ _ _ _
      | exact ih10 _ _ _ _ _ _ _ _ _ _ _ _ _
      | exact ih11 _ _ _ _ _ _ _ _ _ _ _ _ _ _
      | exact ih12 _ _ _ _ _ _ _ _ _ _ _ _ _ _ _ _ _
      | exact ih13 _ _ _ _ _ _ _ _ _ _ _ _ _ _ _ _ _ _ _
      | exact ih14 _ _ _ _ _ _ _ _ _ _ _ _ _ _ _ _ _ _ _
      | exact ih15 _ _ _ _ _ _ _ _ _ _ _ _ _ _ _ _ _ _ _
      | exact strconv_underscoreOK.mono _ _
      | exact LeO.none _
      | refine LeO.ite ?_ ?_
      | refine LeO.bind ?_ (fun _ => ?_)
    · intro y0 y1 y2 y3 y4 y5 y6 y7 y8 y9 y10 y11 y12
      unfold strconv_readFloat.j1
      repeat' first
      | (with_reducible exact ih0 _ _ _ _ _ _ _ _ _)
      | (with_reducible exact ih1 _ _ _ _ _ _ _ _ _ _ _ _ _)
      | (with_reducible exact ih2 _ _ _ _ _ _ _ _ _ _ _ _)
      | (with_reducible exact ih3 _ _ _ _ _ _ _ _ _ _ _ _ _ _ _ _)
      | (with_reducible exact ih4 _ _ _ _ _ _ _ _ _ _ _ _ _)
      | (with_reducible exact ih5 _ _ _ _ _ _ _ _ _ _ _ _ _)
      | (with_reducible exact ih6 _ _ _ _ _ _ _ _ _ _ _ _ _)
      | (with_reducible exact ih7 _ _ _ _ _ _ _ _ _ _ _)
      | (with_reducible exact ih8 _ _ _ _ _ _ _ _ _ _ _ _)
      | (with_reducible exact ih9 _ _ _ _ _ _ _ _ _ _ _ _ _)
      | (with_reducible exact ih10 _ _ _ _ _ _ _ _ _ _ _ _ _)
      | (with_reducible exact ih11 _ _ _ _ _ _ _ _ _ _ _ _ _ _)
      | (with_reducible exact ih12 _ _ _ _ _ _ _ _ _ _ _ _ _ _ _ _ _)
      | (with_reducible exact ih13 _ _ _ _ _ _ _ _ _ _ _ _ _ _ _ _ _ _ _)
      | (with_reducible exact ih14 _ _ _ _ _ _ _ _ _ _ _ _ _ _ _ _ _ _ _)
      | (with_reducible exact ih15 _ _ _ _ _ _ _ _ _ _ _ _ _ _ _ _ _ _ _)
      | (with_reducible exact strconv_underscoreOK.mono _ _)
      | (with_reducible exact LeO.refl _)
      | (with_reducible exact LeO.none _)
      | (with_reducible refine LeO.ite ?_ ?_)
      | (with_reducible refine LeO.bind ?_ (fun _ => ?_))
      | exact ih0 _ _ _ _ _ _ _ _ _
      | exact ih1 _ _ _ _ _ _ _ _ _ _ _ _ _
      | exact ih2 _ _ _ _ _ _ _ _ _ _ _ _
      | exact ih3 _ _ _ _ _ _ _ _ _ _ _ _ _ _ _ _
      | exact ih4 _ _ _ _ _ _ _ _ _ _ _ _ _
      | exact ih5 _ _ _ _ _ _ _ _ _ _ _ _ _
      | exact ih6 _ _ _ _ _ _ _ _ _ _ _ _ _
      | exact ih7 _ _ _ _ _ _ _ _ _ _ _
      | exact ih8 _ _ _ _ _ _ _ _ _ _ _ _
      | exact ih9 _ _ _ _ _ _ _ _ _ _ _ _ _
      | exact ih10 _ _ _ _ _ _ _ _ _ _ _ _ _
      | exact ih11 _ _ _ _ _ _ _ _ _ _ _ _ _ _
      | exact ih12 _ _ _ _ _ _ _ _ _ _ _ _ _ _ _ _ _
      | exact ih13 _ _ _ _ _ _ _ _ _ _ _ _ _ _ _ _ _ _ _
      | exact ih14 _ _ _ _ _ _ _ _ _ _ _ _ _ _ _ _ _ _ _
      | exact ih15 _ _ _ _ _ _ _ _ _ _ _ _ _ _ _ _ _ _ _
      | exact strconv_underscoreOK.mono _ _
      | exact LeO.none _
      | refine LeO.ite ?_ ?_
      | refine LeO.bind ?_ (fun _ => ?_)
    · intro y0 y1 y2 y3 y4 y5 y6 y7 y8 y9 y10 y11
      unfold strconv_readFloat.j2
      repeat' first
      | (with_reducible exact ih0 _ _ _ _ _ _ _ _ _)
      | (with_reducible exact ih1 _ _ _ _ _ _ _ _ _ _ _ _ _)
      | (with_reducible exact ih2 _ _ _ _ _ _ _ _ _ _ _ _)
      | (with_reducible exact ih3 _ _ _ _ _ _ _ _ _ _ _ _ _ _ _ _)
      | (with_reducible exact ih4 _ _ _ _ _ _ _ _ _ _ _ _ _)
      | (with_reducible exact ih5 _ _ _ _ _ _ _ _ _ _ _ _ _)
      | (with_reducible exact ih6 _ _ _ _ _ _ _ _ _ _ _ _ _)
      | (with_reducible exact ih7 _ _ _ _ _ _ _ _ _ _ _)
      | (with_reducible exact ih8 _ _ _ _ _ _ _ _ _ _ _ _)
      | (with_reducible exact ih9 _ _ _ _ _ _ _ _ _ _ _ _ _)
      | (with_reducible exact ih10 _ _ _ _ _ _ _ _ _ _ _ _ _)
      | (with_reducible exact ih11 _ _ _ _ _ _ _ _ _ _ _ _ _ _)
      | (with_reducible exact ih12 _ _ _ _ _ _ _ _ _ _ _ _ _ _ _ _ _)
      | (with_reducible exact ih13 _ _ _ _ _ _ _ _ _ _ _ _ _ _ _ _ _ _ _)
      | (with_reducible exact ih14 _ _ _ _ _ _ _ _ _ _ _ _ _ _ _ _ _ _ _)
      | (with_reducible exact ih15 _ _ _ _ _ _ _ _ _ _ _ _ _ _ _ _ _ _ _)
      | (with_reducible exact strconv_underscoreOK.mono _ _)
      | (with_reducible exact LeO.refl _)
      | (with_reducible exact LeO.none _)
      | (with_reducible refine LeO.ite ?_ ?_)
      | (with_reducible refine LeO.bind ?_ (fun _ => ?_))
      | exact ih0 _ _ _ _ _ _ _ _ _
      | exact ih1 _ _ _ _ _ _ _ _ _ _ _ _ _
      | exact ih2 _ _ _ _ _ _ _ _ _ _ _ _
      | exact ih3 _ _ _ _ _ _ _ _ _ _ _ _ _ _ _ _
      | exact ih4 _ _ _ _ _ _ _ _ _ _ _ _ _
      | exact ih5 _ _ _ _ _ _ _ _ _ _ _ _ _
      | exact ih6 _ _ _ _ _ _ _ _ _ _ _ _ _
      | exact ih7 _ _ _ _ _ _ _ _ _ _ _
      | exact ih8 _ _ _ _ _ _ _ _ _ _ _ _
      | exact ih9 _ _ _ _ _ _ _ _ _ _ _ _ _
      | exact ih10 _ _ _ _ _ _ _ _ _ _ _ _ _
      | exact ih11 _ _ _ _ _ _ _ _ _ _ _ _ _ _
      | exact ih12 _ _ _ _ _ _ _ _ _ _ _ _ _ _ _ _ _
      | exact ih13 _ _ _ _ _ _ _ _ _ _ _ _ _ _ _ _ _ _ _
      | exact ih14 _ _ _ _ _ _ _ _ _ _ _ _ _ _ _ _ _ _ _
      | exact ih15 _ _ _ _ _ _ _ _ _ _ _ _ _ _ _ _ _ _ _
      | exact strconv_underscoreOK.mono _ _
      | exact LeO.none _
      | refine LeO.ite ?_ ?_
      | refine LeO.bind ?_ (fun _ => ?_)
    · intro y0 y1 y2 y3 y4 y5 y6 y7 y8 y9 y10 y11 y12 y13 y14 y15
      unfold strconv_readFloat.j7
      repeat' first
      | (with_reducible exact ih0 _ _ _ _ _ _ _ _ _)
      | (with_reducible exact ih1 _ _ _ _ _ _ _ _ _ _ _ _ _)
      | (with_reducible exact ih2 _ _ _ _ _ _ _ _ _ _ _ _)
      | (with_reducible exact ih3 _ _ _ _ _ _ _ _ _ _ _ _ _ _ _ _)
      | (with_reducible exact ih4 _ _ _ _ _ _ _ _ _ _ _ _ _)
      | (with_reducible exact ih5 _ _ _ _ _ _ _ _ _ _ _ _ _)
      | (with_reducible exact ih6 _ _ _ _ _ _ _ _ _ _ _ _ _)
      | (with_reducible exact ih7 _ _ _ _ _ _ _ _ _ _ _)
      | (with_reducible exact ih8 _ _ _ _ _ _ _ _ _ _ _ _)
      | (with_reducible exact ih9 _ _ _ _ _ _ _ _ _ _ _ _ _)
      | (with_reducible exact ih10 _ _ _ _ _ _ _ _ _ _ _ _ _)
      | (with_reducible exact ih11 _ _ _ _ _ _ _ _ _ _ _ _ _ _)
      | (with_reducible exact ih12 _ _ _ _ _ _ _ _ _ _ _ _ _ _ _ _ _)
      | (with_reducible exact ih13 _ _ _ _ _ _ _ _ _ _ _ _ _ _ _ _ _ _ _)
      | (with_reducible exact ih14 _ _ _ _ _ _ _ _ _ _ _ _ _ _ _ _ _ _ _)
      | (with_reducible exact ih15 _ _ _ _ _ _ _ _ _ _ _ _ _ _ _ _ _ _ _)
      | (with_reducible exact strconv_underscoreOK.mono _ _)
      | (with_reducible exact LeO.refl _)
      | (with_reducible exact LeO.none _)
      | (with_reducible refine LeO.ite ?_ ?_)
      | (with_reducible refine LeO.bind ?_ (fun _ => ?_))
      | exact ih0 _ _ _ _ _ _ _ _ _
      | exact ih1 _ _ _ _ _ _ _ _ _ _ _ _ _
      | exact ih2 _ _ _ _ _ _ _ _ _ _ _ _
      | exact ih3 _ _ _ _ _ _ _ _ _ _ _ _ _ _ _ _
      | exact ih4 _ _ _ _ _ _ _ _ _ _ _ _ _
      | exact ih5 _ _ _ _ _ _ _ _ _ _ _ _ _
      | exact ih6 _ _ _ _ _ _ _ _ _ _ _ _ _
      | exact ih7 _ _ _ _ _ _ _ _ _ _ _
      | exact ih8 _ _ _ _ _ _ _ _ _ _ _ _
      | exact ih9 _ _ _ _ _ _ _ _ _ _ _ _ _
      | exact ih10 _ _ _ _ _ _ _ _ _ _ _ _ _
      | exact ih11 _ _ _ _ _ _ _ _ _ _ _ _ _ _
      | exact ih12 _ _ _ _ _ _ _ _ _ _ _ _ _ _ _ _ _
      | exact ih13 _ _ _ _ _ _ _ _ _ _ _ _ _ _ _ _ _ _ _
      | exact ih14 _ _ _ _ _ _ _ _ _ _ _ _ _ _ _ _ _ _ _
      | exact ih15 _ _ _ _ _ _ _ _ _ _ _ _ _ _ _ _ _ _ _
      | exact strconv_underscoreOK.mono _ _
      | exact LeO.none _
      | refine LeO.ite ?_ ?_
      | refine LeO.bind ?_ (fun _ => ?_)
    · intro y0 y1 y2 y3 y4 y5 y6 y7 y8 y9 y10 y11 y12
      unfold strconv_readFloat.j8
      repeat' first
      | (with_reducible exact ih0 _ _ _ _ _ _ _ _ _)
      | (with_reducible exact ih1 _ _ _ _ _ _ _ _ _ _ _ _ _)
      | (with_reducible exact ih2 _ _ _ _ _ _ _ _ _ _ _ _)
      | (with_reducible exact ih3 _ _ _ _ _ _ _ _ _ _ _ _ _ _ _ _)
      | (with_reducible exact ih4 _ _ _ _ _ _ _ _ _ _ _ _ _)
      | (with_reducible exact ih5 _ _ _ _ _ _ _ _ _ _ _ _ _)
      | (with_reducible exact ih6 _ _ _ _ _ _ _ _ _ _ _ _ _)
      | (with_reducible exact ih7 _ _ _ _ _ _ _ _ _ _ _)
      | (with_reducible exact ih8 _ _ _ _ _ _ _ _ _ _ _ _)
      | (with_reducible exact ih9 _ _ _ _ _ _ _ _ _ _ _ _ _)
      | (with_reducible exact ih10 _ _ _ _ _ _ _ _ _ _ _ _ _)
      | (with_reducible exact ih11 _ _ _ _ _ _ _ _ _ _ _ _ _ _)
      | (with_reducible exact ih12 _ _ _ _ _ _ _ _ _ _ _ _ _ _ _ _ _)
      | (with_reducible exact ih13 _ _ _ _ _ _ _ _ _ _ _ _ _ _ _ _ _ _ _)
      | (with_reducible exact ih14 _ _ _ _ _ _ _ _ _ _ _ _ _ _ _ _ _ _ _)
      | (with_reducible exact ih15 _ _ _ _ _ _ _ _ _ _ _ _ _ _ _ _ _ _ _)
      | (with_reducible exact strconv_underscoreOK.mono _ _)
      | (with_reducible exact LeO.refl _)
      | (with_reducible exact LeO.none _)
      | (with_reducible refine LeO.ite ?_ ?_)
      | (with_reducible refine LeO.bind ?_ (fun _ => ?_))
      | exact ih0 _ _ _ _ _ _ _ _ _
      | exact ih1 _ _ _ _ _ _ _ _ _ _ _ _ _
      | exact ih2 _ _ _ _ _ _ _ _ _ _ _ _
      | exact ih3 _ _ _ _ _ _ _ _ _ _ _ _ _ _ _ _
      | exact ih4 _ _ _ _ _ _ _ _ _ _ _ _ _
      | exact ih5 _ _ _ _ _ _ _ _ _ _ _ _ _
      | exact ih6 _ _ _ _ _ _ _ _ _ _ _ _ _
      | exact ih7 _ _ _ _ _ _ _ _ _ _ _
      | exact ih8 _ _ _ _ _ _ _ _ _ _ _ _
      | exact ih9 _ _ _ _ _ _ _ _ _ _ _ _ _
      | exact ih10 _ _ _ _ _ _ _ _ _ _ _ _ _
      | exact ih11 _ _ _ _ _ _ _ _ _ _ _ _ _ _
      | exact ih12 _ _ _ _ _ _ _ _ _ _ _ _ _ _ _ _ _
      | exact ih13 _ _ _ _ _ _ _ _ _ _ _ _ _ _ _ _ _ _ _
      | exact ih14 _ _ _ _ _ _ _ _ _ _ _ _ _ _ _ _ _ _ _
      | exact ih15 _ _ _ _ _ _ _ _ _ _ _ _ _ _ _ _ _ _ _
      | exact strconv_underscoreOK.mono _ _
      | exact LeO.none _
      | refine LeO.ite ?_ ?_
      | refine LeO.bind ?_ (fun _ => ?_)
    · intro y0 y1 y2 y3 y4 y5 y6 y7 y8 y9 y10 y11 y12
      unfold strconv_readFloat.j9
      repeat' first
      | (with_reducible exact ih0 _ _ _ _ _ _ _ _ _)
      | (with_reducible exact ih1 _ _ _ _ _ _ _ _ _ _ _ _ _)
      | (with_reducible exact ih2 _ _ _ _ _ _ _ _ _ _ _ _)
      | (with_reducible exact ih3 _ _ _ _ _ _ _ _ _ _ _ _ _ _ _ _)
      | (with_reducible exact ih4 _ _ _ _ _ _ _ _ _ _ _ _ _)
      | (with_reducible exact ih5 _ _ _ _ _ _ _ _ _ _ _ _ _)
      | (with_reducible exact ih6 _ _ _ _ _ _ _ _ _ _ _ _ _)
      | (with_reducible exact ih7 _ _ _ _ _ _ _ _ _ _ _)
      | (with_reducible exact ih8 _ _ _ _ _ _ _ _ _ _ _ _)
      | (with_reducible exact ih9 _ _ _ _ _ _ _ _ _ _ _ _ _)
      | (with_reducible exact ih10 _ _ _ _ _ _ _ _ _ _ _ _ _)
      | (with_reducible exact ih11 _ _ _ _ _ _ _ _ _ _ _ _ _ _)
      | (with_reducible exact ih12 _ _ _ _ _ _ _ _ _ _ _ _ _ _ _ _ _)
      | (with_reducible exact ih13 _ _ _ _ _ _ _ _ _ _ _ _ _ _ _ _ _ _ _)
      | (with_reducible exact ih14 _ _ _ _ _ _ _ _ _ _ _ _ _ _ _ _ _ _ _)
      | (with_reducible exact ih15 _ _ _ _ _ _ _ _ _ _ _ _ _ _ _ _ _ _ _)
      | (with_reducible exact strconv_underscoreOK.mono _ _)
      | (with_reducible exact LeO.refl _)
      | (with_reducible exact LeO.none _)
      | (with_reducible refine LeO.ite ?_ ?_)
      | (with_reducible refine LeO.bind ?_ (fun _ => ?_))
      | exact ih0 _ _ _ _ _ _ _ _ _
      | exact ih1 _ _ _ _ _ _ _ _ _ _ _ _ _
      | exact ih2 _ _ _ _ _ _ _ _ _ _ _ _
      | exact ih3 _ _ _ _ _ _ _ _ _ _ _ _ _ _ _ _
      | exact ih4 _ _ _ _ _ _ _ _ _ _ _ _ _
      | exact ih5 _ _ _ _ _ _ _ _ _ _ _ _ _
      | exact ih6 _ _ _ _ _ _ _ _ _ _ _ _ _
      | exact ih7 _ _ _ _ _ _ _ _ _ _ _
      | exact ih8 _ _ _ _ _ _ _ _ _ _ _ _
      | exact ih9 _ _ _ _ _ _ _ _ _ _ _ _ _
      | exact ih10 _ _ _ _ _ _ _ _ _ _ _ _ _
      | exact ih11 _ _ _ _ _ _ _ _ _ _ _ _ _ _
      | exact ih12 _ _ _ _ _ _ _ _ _ _ _ _ _ _ _ _ _
      | exact ih13 _ _ _ _ _ _ _ _ _ _ _ _ _ _ _ _ _ _ _
      | exact ih14 _ _ _ _ _ _ _ _ _ _ _ _ _ _ _ _ _ _ _
      | exact ih15 _ _ _ _ _ _ _ _ _ _ _ _ _ _ _ _ _ _ _
      | exact strconv_underscoreOK.mono _ _
      | exact LeO.none _
      | refine LeO.ite ?_ ?_
      | refine LeO.bind ?_ (fun _ => ?_)
    · intro y0 y1 y2 y3 y4 y5 y6 y7 y8 y9 y10 y11 y12
      unfold strconv_readFloat.j10
      repeat' first
      | (with_reducible exact ih0 _ _ _ _ _ _ _ _ _)
      | (with_reducible exact ih1 _ _ _ _ _ _ _ _ _ _ _ _ _)
      | (with_reducible exact ih2 _ _ _ _ _ _ _ _ _ _ _ _)
      | (with_reducible exact ih3 _ _ _ _ _ _ _ _ _ _ _ _ _ _ _ _)
      | (with_reducible exact ih4 _ _ _ _ _ _ _ _ _ _ _ _ _)
      | (with_reducible exact ih5 _ _ _ _ _ _ _ _ _ _ _ _ _)
      | (with_reducible exact ih6 _ _ _ _ _ _ _ _ _ _ _ _ _)
      | (with_reducible exact ih7 _ _ _ _ _ _ _ _ _ _ _)
      | (with_reducible exact ih8 _ _ _ _ _ _ _ _ _ _ _ _)
      | (with_reducible exact ih9 _ _ _ _ _ _ _ _ _ _ _ _ _)
      | (with_reducible exact ih10 _ _ _ _ _ _ _ _ _ _ _ _ _)
      | (with_reducible exact ih11 _ _ _ _ _ _ _ _ _ _ _ _ _ _)
      | (with_reducible exact ih12 _ _ _ _ _ _ _ _ _ _ _ _ _ _ _ _ _)
      | (with_reducible exact ih13 _ _ _ _ _ _ _ _ _ _ _ _ _ _ _ _ _ _ _)
      | (with_reducible exact ih14 _ _ _ _ _ _ _ _ _ _ _ _ _ _ _ _ _ _ _)
      | (with_reducible exact ih15 _ _ _ _ _ _ _ _ _ _ _ _ _ _ _ _ _ _ _)
      | (with_reducible exact strconv_underscoreOK.mono _ _)
      | (with_reducible exact LeO.refl _)
      | (with_reducible exact LeO.none _)
      | (with_reducible refine LeO.ite ?_ ?_)
      | (with_reducible refine LeO.bind ?_ (fun _ => ?_))
      | exact ih0 _ _ _ _ _ _ _ _ _
      | exact ih1 _ _ _ _ _ _ _ _ _ _ _ _ _
      | exact ih2 _ _ _ _ _ _ _ _ _ _ _ _
      | exact ih3 _ _ _ _ _ _ _ _ _ _ _ _ _ _ _ _
      | exact ih4 _ _ _ _ _ _ _ _ _ _ _ _ _
      | exact ih5 _ _ _ _ _ _ _ _ _ _ _ _ _
      | exact ih6 _ _ _ _ _ _ _ _ _ _ _ _ _
      | exact ih7 _ _ _ _ _ _ _ _ _ _ _
      | exact ih8 _ _ _ _ _ _ _ _ _ _ _ _
      | exact ih9 _ _ _ _ _ _ _ _ _ _ _ _ _
      | exact ih10 _ _ _ _ _ _ _ _ _ _ _ _ _
      | exact ih11 _ _ _ _ _ _ _ _ _ _ _ _ _ _
      | exact ih12 _ _ _ _ _ _ _ _ _ _ _ _ _ _ _ _ _
      | exact ih13 _ _ _ _ _ _ _ _ _ _ _ _ _ _ _ _ _ _ _
      | exact ih14 _ _ _ _ _ _ _ _ _ _ _ _ _ _ _ _ _ _ _
      | exact ih15 _ _ _ _ _ _ _ _ _ _ _ _ _ _ _ _ _ _ _
      | exact strconv_underscoreOK.mono _ _
      | exact LeO.none _
      | refine LeO.ite ?_ ?_
      | refine LeO.bind ?_ (fun _ => ?_)
    · intro y0 y1 y2 y3 y4 y5 y6 y7 y8 y9 y10
      unfold strconv_readFloat.j15
      repeat' first
      | (with_reducible exact ih0 _ _ _ _ _ _ _ _ _)
      | (with_reducible exact ih1 _ _ _ _ _ _ _ _ _ _ _ _ _)
      | (with_reducible exact ih2 _ _ _ _ _ _ _ _ _ _ _ _)
      | (with_reducible exact ih3 _ _ _ _ _ _ _ _ _ _ _ _ _ _ _ _)
      | (with_reducible exact ih4 _ _ _ _ _ _ _ _ _ _ _ _ _)
      | (with_reducible exact ih5 _ _ _ _ _ _ _ _ _ _ _ _ _)
      | (with_reducible exact ih6 _ _ _ _ _ _ _ _ _ _ _ _ _)
      | (with_reducible exact ih7 _ _ _ _ _ _ _ _ _ _ _)
      | (with_reducible exact ih8 _ _ _ _ _ _ _ _ _ _ _ _)
      | (with_reducible exact ih9 _ _ _ _ _ _ _ _ _ _ _ _ _)
      | (with_reducible exact ih10 _ _ _ _ _ _ _ _ _ _ _ _ _)
      | (with_reducible exact ih11 _ _ _ _ _ _ _ _ _ _ _ _ _ _)
      | (with_reducible exact ih12 _ _ _ _ _ _ _ _ _ _ _ _ _ _ _ _ _)
      | (with_reducible exact ih13 _ _ _ _ _ _ _ _ _ _ _ _ _ _ _ _ _ _ _)
      | (with_reducible exact ih14 _ _ _ _ _ _ _ _ _ _ _ _ _ _ _ _ _ _ _)
      | (with_reducible exact ih15 _ _ _ _ _ _ _ _ _ _ _ _ _ _ _ _ _ _ _)
      | (with_reducible exact strconv_underscoreOK.mono _ _)
      | (with_reducible exact LeO.refl _)
      | (with_reducible exact LeO.none _)
      | (with_reducible refine LeO.ite ?_ ?_)
      | (with_reducible refine LeO.bind ?_ (fun _ => ?_))
      | exact ih0 _ _ _ _ _ _ _ _ _
      | exact ih1 _ _ _ _ _ _ _ _ _ _ _ _ _
      | exact ih2 _ _ _ _ _ _ _ _ _ _ _ _
      | exact ih3 _ _ _ _ _ _ _ _ _ _ _ _ _ _ _ _
      | exact ih4 _ _ _ _ _ _ _ _ _ _ _ _ _
      | exact ih5 _ _ _ _ _ _ _ _ _ _ _ _ _
      | exact ih6 _ _ _ _ _ _ _ _ _ _ _ _ _
      | exact ih7 _ _ _ _ _ _ _ _ _ _ _
      | exact ih8 _ _ _ _ _ _ _ _ _ _ _ _
      | exact ih9 _ _ _ _ _ _ _ _ _ _ _ _ _
      | exact ih10 _ _ _ _ _ _ _ _ _ _ _ _ _
      | exact ih11 _ _ _ _ _ _ _ _ _ _ _ _ _ _
      | exact ih12 _ _ _ _ _ _ _ _ _ _ _ _ _ _ _ _ _
      | exact ih13 _ _ _ _ _ _ _ _ _ _ _ _ _ _ _ _ _ _ _
      | exact ih14 _ _ _ _ _ _ _ _ _ _ _ _ _ _ _ _ _ _ _
      | exact ih15 _ _ _ _ _ _ _ _ _ _ _ _ _ _ _ _ _ _ _
      | exact strconv_underscoreOK.mono _ _
      | exact LeO.none _
      | refine LeO.ite ?_ ?_
      | refine LeO.bind ?_ (fun _ => ?_)
    · intro y0 y1 y2 y3 y4 y5 y6 y7 y8 y9 y10 y11
      unfold strconv_readFloat.j11
      repeat' first
      | (with_reducible exact ih0 _ _ _ _ _ _ _ _ _)
      | (with_reducible exact ih1 _ _ _ _ _ _ _ _ _ _ _ _ _)
      | (with_reducible exact ih2 _ _ _ _ _ _ _ _ _ _ _ _)
      | (with_reducible exact ih3 _ _ _ _ _ _ _ _ _ _ _ _ _ _ _ _)
      | (with_reducible exact ih4 _ _ _ _ _ _ _ _ _ _ _ _ _)
      | (with_reducible exact ih5 _ _ _ _ _ _ _ _ _ _ _ _ _)
      | (with_reducible exact ih6 _ _ _ _ _ _ _ _ _ _ _ _ _)
      | (with_reducible exact ih7 _ _ _ _ _ _ _ _ _ _ _)
      | (with_reducible exact ih8 _ _ _ _ _ _ _ _ _ _ _ _)
      | (with_reducible exact ih9 _ _ _ _ _ _ _ _ _ _ _ _ _)
      | (with_reducible exact ih10 _ _ _ _ _ _ _ _ _ _ _ _ _)
      | (with_reducible exact ih11 _ _ _ _ _ _ _ _ _ _ _ _ _ _)
      | (with_reducible exact ih12 _ _ _ _ _ _ _ _ _ _ _ _ _ _ _ _ _)
      | (with_reducible exact ih13 _ _ _ _ _ _ _ _ _ _ _ _ _ _ _ _ _ _ _)
      | (with_reducible exact ih14 _ _ _ _ _ _ _ _ _ _ _ _ _ _ _ _ _ _ _)
      | (with_reducible exact ih15 _ _ _ _ _ _ _ _ _ _ _ _ _ _ _ _ _ _ _)
      | (with_reducible exact strconv_underscoreOK.mono _ _)
      | (with_reducible exact LeO.refl _)
      | (with_reducible exact LeO.none _)
      | (with_reducible refine LeO.ite ?_ ?_)
      | (with_reducible refine LeO.bind ?_ (fun _ => ?_))
      | exact ih0 _ _ _ _ _ _ _ _ _
      | exact ih1 _ _ _ _ _ _ _ _ _ _ _ _ _
      | exact ih2 _ _ _ _ _ _ _ _ _ _ _ _
      | exact ih3 _ _ _ _ _ _ _ _ _ _ _ _ _ _ _ _
      | exact ih4 _ _ _ _ _ _ _ _ _ _ _ _ _
      | exact ih5 _ _ _ _ _ _ _ _ _ _ _ _ _
      | exact ih6 _ _ _ _ _ _ _ _ _ _ _ _ _
      | exact ih7 _ _ _ _ _ _ _ _ _ _ _
      | exact ih8 _ _ _ _ _ _ _ _ _ _ _ _
      | exact ih9 _ _ _ _ _ _ _ _ _ _ _ _ _
      | exact ih10 _ _ _ _ _ _ _ _ _ _ _ _ _
      | exact ih11 _ _ _ _ _ _ _ _ _ _ _ _ _ _
      | exact ih12 _ _ _ _ _ _ _ _ _ _ _ _ _ _ _ _ _
      | exact ih13 _ _ _ _ _ _ _ _ _ _ _ _ _ _ _ _ _ _ _
      | exact ih14 _ _ _ _ _ _ _ _ _ _ _ _ _ _ _ _ _ _ _
      | exact ih15 _ _ _ _ _ _ _ _ _ _ _ _ _ _ _ _ _ _ _
      | exact strconv_underscoreOK.mono _ _
      | exact LeO.none _
      | refine LeO.ite ?_ ?_
      | refine LeO.bind ?_ (fun _ => ?_)
    · intro y0 y1 y2 y3 y4 y5 y6 y7 y8 y9 y10 y11 y12
      unfold strconv_readFloat.j12
      repeat' first
      | (with_reducible exact ih0 _ _ _ _ _ _ _ _ _)
      | (with_reducible exact ih1 _ _ _ _ _ _ _ _ _ _ _ _ _)
      | (with_reducible exact ih2 _ _ _ _ _ _ _ _ _ _ _ _)
      | (with_reducible exact ih3 _ _ _ _ _ _ _ _ _ _ _ _ _ _ _ _)
      | (with_reducible exact ih4 _ _ _ _ _ _ _ _ _ _ _ _ _)
      | (with_reducible exact ih5 _ _ _ _ _ _ _ _ _ _ _ _ _)
      | (with_reducible exact ih6 _ _ _ _ _ _ _ _ _ _ _ _ _)
      | (with_reducible exact ih7 _ _ _ _ _ _ _ _ _ _ _)
      | (with_reducible exact ih8 _ _ _ _ _ _ _ _ _ _ _ _)
      | (with_reducible exact ih9 _ _ _ _ _ _ _ _ _ _ _ _ _)
      | (with_reducible exact ih10 _ _ _ _ _ _ _ _ _ _ _ _ _)
      | (with_reducible exact ih11 _ _ _ _ _ _ _ _ _ _ _ _ _ _)
      | (with_reducible exact ih12 _ _ _ _ _ _ _ _ _ _ _ _ _ _ _ _ _)
      | (with_reducible exact ih13 _ _ _ _ _ _ _ _ _ _ _ _ _ _ _ _ _ _ _)
      | (with_reducible exact ih14 _ _ _ _ _ _ _ _ _ _ _ _ _ _ _ _ _ _ _)
      | (with_reducible exact ih15 _ _ _ _ _ _ _ _ _ _ _ _ _ _ _ _ _ _ _)
      | (with_reducible exact strconv_underscoreOK.mono _ _)
      | (with_reducible exact LeO.refl _)
      | (with_reducible exact LeO.none _)
      | (with_reducible refine LeO.ite ?_ ?_)
      | (with_reducible refine LeO.bind ?_ (fun _ => ?_))
      | exact ih0 _ _ _ _ _ _ _ _ _
      | exact ih1 _ _ _ _ _ _ _ _ _ _ _ _ _
      | exact ih2 _ _ _ _ _ _ _ _ _ _ _ _
      | exact ih3 _ _ _ _ _ _ _ _ _ _ _ _ _ _ _ _
      | exact ih4 _ _ _ _ _ _ _ _ _ _ _ _ _
      | exact ih5 _ _ _ _ _ _ _ _ _ _ _ _ _
      | exact ih6 _ _ _ _ _ _ _ _ _ _ _ _ _
      | exact ih7 _ _ _ _ _ _ _ _ _ _ _
      | exact ih8 _ _ _ _ _ _ _ _ _ _ _ _
      | exact ih9 _ _ _ _ _ _ _ _ _ _ _ _ _
      | exact ih10 _ _ _ _ _ _ _ _ _ _ _ _ _
      | exact ih11 _ _ _ _ _ _ _ _ _ _ _ _ _ _
      | exact ih12 _ _ _ _ _ _ _ _ _ _ _ _ _ _ _ _ _
      | exact ih13 _ _ _ _ _ _ _ _ _ _ _ _ _ _ _ _ _ _ _
      | exact ih14 _ _ _ _ _ _ _ _ _ _ _ _ _ _ _ _ _ _ _
      | exact ih15 _ _ _ _ _ _ _ _ _ _ _ _ _ _ _ _ _ _ _
      | exact strconv_underscoreOK.mono _ _
      | exact LeO.none _
      | refine LeO.ite ?_ ?_
      | refine LeO.bind ?_ (fun _ => ?_)
    · intro y0 y1 y2 y3 y4 y5 y6 y7 y8 y9 y10 y11 y12
      unfold strconv_readFloat.l1
      repeat' first
      | (with_reducible exact ih0 _ _ _ _ _ _ _ _ _)
      | (with_reducible exact ih1 _ _ _ _ _ _ _ _ _ _ _ _ _)
      | (with_reducible exact ih2 _ _ _ _ _ _ _ _ _ _ _ _)
      | (with_reducible exact ih3 _ _ _ _ _ _ _ _ _ _ _ _ _ _ _ _)
      | (with_reducible exact ih4 _ _ _ _ _ _ _ _ _ _ _ _ _)
      | (with_reducible exact ih5 _ _ _ _ _ _ _ _ _ _ _ _ _)
      | (with_reducible exact ih6 _ _ _ _ _ _ _ _ _ _ _ _ _)
      | (with_reducible exact ih7 _ _ _ _ _ _ _ _ _ _ _)
      | (with_reducible exact ih8 _ _ _ _ _ _ _ _ _ _ _ _)
      | (with_reducible exact ih9 _ _ _ _ _ _ _ _ _ _ _ _ _)
      | (with_reducible exact ih10 _ _ _ _ _ _ _ _ _ _ _ _ _)
      | (with_reducible exact ih11 _ _ _ _ _ _ _ _ _ _ _ _ _ _)
      | (with_reducible exact ih12 _ _ _ _ _ _ _ _ _ _ _ _ _ _ _ _ _)
      | (with_reducible exact ih13 _ _ _ _ _ _ _ _ _ _ _ _ _ _ _ _ _ _ _)
      | (with_reducible exact ih14 _ _ _ _ _ _ _ _ _ _ _ _ _ _ _ _ _ _ _)
      | (with_reducible exact ih15 _ _ _ _ _ _ _ _ _ _ _ _ _ _ _ _ _ _ _)
      | (with_reducible exact strconv_underscoreOK.mono _ _)
      | (with_reducible exact LeO.refl _)
      | (with_reducible exact LeO.none _)
      | (with_reducible refine LeO.ite ?_ ?_)
      | (with_reducible refine LeO.bind ?_ (fun _ => ?_))
      | exact ih0 _ _ _ _ _ _ _ _ _
      | exact ih1 _ _ _ _ _ _ _ _ _ _ _ _ _
      | exact ih2 _ _ _ _ _ _ _ _ _ _ _ _
      | exact ih3 _ _ _ _ _ _ _ _ _ _ _ _ _ _ _ _
      | exact ih4 _ _ _ _ _ _ _ _ _ _ _ _ _
      | exact ih5 _ _ _ _ _ _ _ _ _ _ _ _ _
      | exact ih6 _ _ _ _ _ _ _ _ _ _ _ _ _
      | exact ih7 _ _ _ _ _ _ _ _ _ _ _
      | exact ih8 _ _ _ _ _ _ _ _ _ _ _ _
      | exact ih9 _ _ _ _ _ _ _ _ _ _ _ _ _
      | exact ih10 _ _ _ _ _ _ _ _ _ _ _ _ _
      | exact ih11 _ _ _ _ _ _ _ _ _ _ _ _ _ _
      | exact ih12 _ _ _ _ _ _ _ _ _ _ _ _ _ _ _ _ _
      | exact ih13 _ _ _ _ _ _ _ _ _ _ _ _ _ _ _ _ _ _ _
      | exact ih14 _ _ _ _ _ _ _ _ _ _ _ _ _ _ _ _ _ _ _
      | exact ih15 _ _ _ _ _ _ _ _ _ _ _ _ _ _ _ _ _ _ _
      | exact strconv_underscoreOK.mono _ _
      | exact LeO.none _
      | refine LeO.ite ?_ ?_
      | refine LeO.bind ?_ (fun _ => ?_)
    · intro y0 y1 y2 y3 y4 y5 y6 y7 y8 y9 y10 y11 y12 y13
      unfold strconv_readFloat.j14
      repeat' first
      | (with_reducible exact ih0 _ _ _ _ _ _ _ _ _)
      | (with_reducible exact ih1 _ _ _ _ _ _ _ _ _ _ _ _ _)
      | (with_reducible exact ih2 _ _ _ _ _ _ _ _ _ _ _ _)
      | (with_reducible exact ih3 _ _ _ _ _ _ _ _ _ _ _ _ _ _ _ _)
      | (with_reducible exact ih4 _ _ _ _ _ _ _ _ _ _ _ _ _)
      | (with_reducible exact ih5 _ _ _ _ _ _ _ _ _ _ _ _ _)
      | (with_reducible exact ih6 _ _ _ _ _ _ _ _ _ _ _ _ _)
      | (with_reducible exact ih7 _ _ _ _ _ _ _ _ _ _ _)
      | (with_reducible exact ih8 _ _ _ _ _ _ _ _ _ _ _ _)
      | (with_reducible exact ih9 _ _ _ _ _ _ _ _ _ _ _ _ _)
      | (with_reducible exact ih10 _ _ _ _ _ _ _ _ _ _ _ _ _)
      | (with_reducible exact ih11 _ _ _ _ _ _ _ _ _ _ _ _ _ _)
      | (with_reducible exact ih12 _ _ _ _ _ _ _ _ _ _ _ _ _ _ _ _ _)
      | (with_reducible exact ih13 _ _ _ _ _ _ _ _ _ _ _ _ _ _ _ _ _ _ _)
      | (with_reducible exact ih14 _ _ _ _ _ _ _ _ _ _ _ _ _ _ _ _ _ _ _)
      | (with_reducible exact ih15 _ _ _ _ _ _ _ _ _ _ _ _ _ _ _ _ _ _ _)
      | (with_reducible exact strconv_underscoreOK.mono _ _)
      | (with_reducible exact LeO.refl _)
      | (with_reducible exact LeO.none _)
      | (with_reducible refine LeO.ite ?_ ?_)
      | (with_reducible refine LeO.bind ?_ (fun _ => ?_))
      | exact ih0 _ _ _ _ _ _ _ _ _
      | exact ih1 _ _ _ _ _ _ _ _ _ _ _ _ _
      | exact ih2 _ _ _ _ _ _ _ _ _ _ _ _
      | exact ih3 _ _ _ _ _ _ _ _ _ _ _ _ _ _ _ _
      | exact ih4 _ _ _ _ _ _ _ _ _ _ _ _ _
      | exact ih5 _ _ _ _ _ _ _ _ _ _ _ _ _
      | exact ih6 _ _ _ _ _ _ _ _ _ _ _ _ _
      | exact ih7 _ _ _ _ _ _ _ _ _ _ _
      | exact ih8 _ _ _ _ _ _ _ _ _ _ _ _
      | exact ih9 _ _ _ _ _ _ _ _ _ _ _ _ _
      | exact ih10 _ _ _ _ _ _ _ _ _ _ _ _ _
      | exact ih11 _ _ _ _ _ _ _ _ _ _ _ _ _ _
      | exact ih12 _ _ _ _ _ _ _ _ _ _ _ _ _ _ _ _ _
      | exact ih13 _ _ _ _ _ _ _ _ _ _ _ _ _ _ _ _ _ _ _
      | exact ih14 _ _ _ _ _ _ _ _ _ _ _ _ _ _ _ _ _ _ _
      | exact ih15 _ _ _ _ _ _ _ _ _ _ _ _ _ _ _ _ _ _ _
      | exact strconv_underscoreOK.mono _ _
      | exact LeO.none _
      | refine LeO.ite ?_ ?_
      | refine LeO.bind ?_ (fun _ => ?_)
    · intro y0 y1 y2 y3 y4 y5 y6 y7 y8 y9 y10 y11 y12 y13 y14 y15 y16
      unfold strconv_readFloat.l0
      repeat' first
      | (with_reducible exact ih0 _ _ _ _ _ _ _ _ _)
      | (with_reducible exact ih1 _ _ _ _ _ _ _ _ _ _ _ _ _)
      | (with_reducible exact ih2 _ _ _ _ _ _ _ _ _ _ _ _)
      | (with_reducible exact ih3 _ _ _ _ _ _ _ _ _ _ _ _ _ _ _ _)
      | (with_reducible exact ih4 _ _ _ _ _ _ _ _ _ _ _ _ _)
      | (with_reducible exact ih5 _ _ _ _ _ _ _ _ _ _ _ _ _)
      | (with_reducible exact ih6 _ _ _ _ _ _ _ _ _ _ _ _ _)
      | (with_reducible exact ih7 _ _ _ _ _ _ _ _ _ _ _)
      | (with_reducible exact ih8 _ _ _ _ _ _ _ _ _ _ _ _)
      | (with_reducible exact ih9 _ _ _ _ _ _ _ _ _ _ _ _ _)
      | (with_reducible exact ih10 _ _ _ _ _ _ _ _ _ _ _ _ _)
      | (with_reducible exact ih11 _ _ _ _ _ _ _ _ _ _ _ _ _ _)
      | (with_reducible exact ih12 _ _ _ _ _ _ _ _ _ _ _ _ _ _ _ _ _)
      | (with_reducible exact ih13 _ _ _ _ _ _ _ _ _ _ _ _ _ _ _ _ _ _ _)
      | (with_reducible exact ih14 _ _ _ _ _ _ _ _ _ _ _ _ _ _ _ _ _ _ _)
      | (with_reducible exact ih15 _ _ _ _ _ _ _ _ _ _ _ _ _ _ _ _ _ _ _)
      | (with_reducible exact strconv_underscoreOK.mono _ _)
      | (with_reducible exact LeO.refl _)
      | (with_reducible exact LeO.none _)
      | (with_reducible refine LeO.ite ?_ ?_)
      | (with_reducible refine LeO.bind ?_ (fun _ => ?_))
      | exact ih0 _ _ _ _ _ _ _ _ _
      | exact ih1 _ _ _ _ _ _ _ _ _ _ _ _ _
      | exact ih2 _ _ _ _ _ _ _ _ _ _ _ _
      | exact ih3 _ _ _ _ _ _ _ _ _ _ _ _ _ _ _ _
      | exact ih4 _ _ _ _ _ _ _ _ _ _ _ _ _
      | exact ih5 _ _ _ _ _ _ _ _ _ _ _ _ _
      | exact ih6 _ _ _ _ _ _ _ _ _ _ _ _ _
      | exact ih7 _ _ _ _ _ _ _ _ _ _ _
      | exact ih8 _ _ _ _ _ _ _ _ _ _ _ _
      | exact ih9 _ _ _ _ _ _ _ _ _ _ _ _ _
      | exact ih10 _ _ _ _ _ _ _ _ _ _ _ _ _
      | exact ih11 _ _ _ _ _ _ _ _ _ _ _ _ _ _
      | exact ih12 _ _ _ _ _ _ _ _ _ _ _ _ _ _ _ _ _
      | exact ih13 _ _ _ _ _ _ _ _ _ _ _ _ _ _ _ _ _ _ _
      | exact ih14 _ _ _ _ _ _ _ _ _ _ _ _ _ _ _ _ _ _ _
      | exact ih15 _ _ _ _ _ _ _ _ _ _ _ _ _ _ _ _ _ _ _
      | exact strconv_underscoreOK.mono _ _
      | exact LeO.none _
      | refine LeO.ite ?_ ?_
      | refine LeO.bind ?_ (fun _ => ?_)
    · intro y0 y1 y2 y3 y4 y5 y6 y7 y8 y9 y10 y11 y12 y13 y14 y15 y16 y17 y18
      unfold strconv_readFloat.j4
      repeat' first
      | (with_reducible exact ih0 _ _ _ _ _ _ _ _ _)
      | (with_reducible exact ih1 _ _ _ _ _ _ _ _ _ _ _ _ _)
      | (with_reducible exact ih2 _ _ _ _ _ _ _ _ _ _ _ _)
      | (with_reducible exact ih3 _ _ _ _ _ _ _ _ _ _ _ _ _ _ _ _)
      | (with_reducible exact ih4 _ _ _ _ _ _ _ _ _ _ _ _ _)
      | (with_reducible exact ih5 _ _ _ _ _ _ _ _ _ _ _ _ _)
      | (with_reducible exact ih6 _ _ _ _ _ _ _ _ _ _ _ _ _)
      | (with_reducible exact ih7 _ _ _ _ _ _ _ _ _ _ _)
      | (with_reducible exact ih8 _ _ _ _ _ _ _ _ _ _ _ _)
      | (with_reducible exact ih9 _ _ _ _ _ _ _ _ _ _ _ _ _)
      | (with_reducible exact ih10 _ _ _ _ _ _ _ _ _ _ _ _ _)
      | (with_reducible exact ih11 _ _ _ _ _ _ _ _ _ _ _ _ _ _)
      | (with_reducible exact ih12 _ _ _ _ _ _ _ _ _ _ _ _ _ _ _ _ _)
      | (with_reducible exact ih13 _ _ _ _ _ _ _ _ _ _ _ _ _ _ _ _ _ _ _)
      | (with_reducible exact ih14 _ _ _ _ _ _ _ _ _ _ _ _ _ _ _ _ _ _ _)
      | (with_reducible exact ih15 _ _ _ _ _ _ _ _ _ _ _ _ _ _ _ _ _ _ _)
      | (with_reducible exact strconv_underscoreOK.mono _ _)
      | (with_reducible exact LeO.refl _)
      | (with_reducible exact LeO.none _)
      | (with_reducible refine LeO.ite ?_ ?_)
      | (with_reducible refine LeO.bind ?_ (fun _ => ?_))
      | exact ih0 _ _ _ _ _ _ _ _ _
      | exact ih1 _ _ _ _ _ _ _ _ _ _ _ _ _
      | exact ih2 _ _ _ _ _ _ _ _ _ _ _ _
      | exact ih3 _ _ _ _ _ _ _ _ _ _ _ _ _ _ _ _
      | exact ih4 _ _ _ _ _ _ _ _ _ _ _ _ _
      | exact ih5 _ _ _ _ _ _ _ _ _ _ _ _ _
      | exact ih6 _ _ _ _ _ _ _ _ _ _ _ _ _
      | exact ih7 _ _ _ _ _ _ _ _ _ _ _
      | exact ih8 _ _ _ _ _ _ _ _ _ _ _ _
      | exact ih9 _ _ _ _ _ _ _ _ _ _ _ _ _
      | exact ih10 _ _ _ _ _ _ _ _ _ _ _ _ _
      | exact ih11 _ _ _ _ _ _ _ _ _ _ _ _ _ _
      | exact ih12 _ _ _ _ _ _ _ _ _ _ _ _ _ _ _ _ _
      | exact ih13 _ _ _ _ _ _ _ _ _ _ _ _ _ _ _ _ _ _ _
      | exact ih14 _ _ _ _ _ _ _ _ _ _ _ _ _ _ _ _ _ _ _
      | exact ih15 _ _ _ _ _ _ _ _ _ _ _ _ _ _ _ _ _ _ _
      | exact strconv_underscoreOK.mono _ _
      | exact LeO.none _
      | refine LeO.ite ?_ ?_
      | refine LeO.bind ?_ (fun _ => ?_)
    · intro y0 y1 y2 y3 y4 y5 y6 y7 y8 y9 y10 y11 y12 y13 y14 y15 y16 y17 y18
      unfold strconv_readFloat.j5
      repeat' first
      | (with_reducible exact ih0 _ _ _ _ _ _ _ _ _)
      | (with_reducible exact ih1 _ _ _ _ _ _ _ _ _ _ _ _ _)
      | (with_reducible exact ih2 _ _ _ _ _ _ _ _ _ _ _ _)
      | (with_reducible exact ih3 _ _ _ _ _ _ _ _ _ _ _ _ _ _ _ _)
      | (with_reducible exact ih4 _ _ _ _ _ _ _ _ _ _ _ _ _)
      | (with_reducible exact ih5 _ _ _ _ _ _ _ _ _ _ _ _ _)
      | (with_reducible exact ih6 _ _ _ _ _ _ _ _ _ _ _ _ _)
      | (with_reducible exact ih7 _ _ _ _ _ _ _ _ _ _ _)
      | (with_reducible exact ih8 _ _ _ _ _ _ _ _ _ _ _ _)
      | (with_reducible exact ih9 _ _ _ _ _ _ _ _ _ _ _ _ _)
      | (with_reducible exact ih10 _ _ _ _ _ _ _ _ _ _ _ _ _)
      | (with_reducible exact ih11 _ _ _ _ _ _ _ _ _ _ _ _ _ _)
      | (with_reducible exact ih12 _ _ _ _ _ _ _ _ _ _ _ _ _ _ _ _ _)
      | (with_reducible exact ih13 _ _ _ _ _ _ _ _ _ _ _ _ _ _ _ _ _ _ _)
      | (with_reducible exact ih14 _ _ _ _ _ _ _ _ _ _ _ _ _ _ _ _ _ _ _)
      | (with_reducible exact ih15 _ _ _ _ _ _ _ _ _ _ _ _ _ _ _ _ _ _ _)
      | (with_reducible exact strconv_underscoreOK.mono _ _)
      | (with_reducible exact LeO.refl _)
      | (with_reducible exact LeO.none _)
      | (with_reducible refine LeO.ite ?_ ?_)
      | (with_reducible refine LeO.bind ?_ (fun _ => ?_))
      | exact ih0 _ _ _ _ _ _ _ _ _
      | exact ih1 _ _ _ _ _ _ _ _ _ _ _ _ _
      | exact ih2 _ _ _ _ _ _ _ _ _ _ _ _
      | exact ih3 _ _ _ _ _ _ _ _ _ _ _ _ _ _ _ _
      | exact ih4 _ _ _ _ _ _ _ _ _ _ _ _ _
      | exact ih5 _ _ _ _ _ _ _ _ _ _ _ _ _
      | exact ih6 _ _ _ _ _ _ _ _ _ _ _ _ _
      | exact ih7 _ _ _ _ _ _ _ _ _ _ _
      | exact ih8 _ _ _ _ _ _ _ _ _ _ _ _
      | exact ih9 _ _ _ _ _ _ _ _ _ _ _ _ _
      | exact ih10 _ _ _ _ _ _ _ _ _ _ _ _ _
      | exact ih11 _ _ _ _ _ _ _ _ _ _ _ _ _ _
      | exact ih12 _ _ _ _ _ _ _ _ _ _ _ _ _ _ _ _ _
      | exact ih13 _ _ _ _ _ _ _ _ _ _ _ _ _ _ _ _ _ _ _
      | exact ih14 _ _ _ _ _ _ _ _ _ _ _ _ _ _ _ _ _ _ _
      | exact ih15 _ _ _ _ _ _ _ _ _ _ _ _ _ _ _ _ _ _ _
      | exact strconv_underscoreOK.mono _ _
      | exact LeO.none _
      | refine LeO.ite ?_ ?_
      | refine LeO.bind ?_ (fun _ => ?_)
    · intro y0 y1 y2 y3 y4 y5 y6 y7 y8 y9 y10 y11 y12 y13 y14 y15 y16 y17 y18
      unfold strconv_readFloat.j6
      repeat' first
      | (with_reducible exact ih0 _ _ _ _ _ _ _ _ _)
      | (with_reducible exact ih1 _ _ _ _ _ _ _ _ _ _ _ _ _)
      | (with_reducible exact ih2 _ _ _ _ _ _ _ _ _ _ _ _)
      | (with_reducible exact ih3 _ _ _ _ _ _ _ _ _ _ _ _ _ _ _ _)
      | (with_reducible exact ih4 _ _ _ _ _ _ _ _ _ _ _ _ _)
      | (with_reducible exact ih5 _ _ _ _ _ _ _ _ _ _ _ _ _)
      | (with_reducible exact ih6 _ _ _ _ _ _ _ _ _ _ _ _ _)
      | (with_reducible exact ih7 _ _ _ _ _ _ _ _ _ _ _)
      | (with_reducible exact ih8 _ _ _ _ _ _ _ _ _ _ _ _)
      | (with_reducible exact ih9 _ _ _ _ _ _ _ _ _ _ _ _ _)
      | (with_reducible exact ih10 _ _ _ _ _ _ _ _ _ _ _ _ _)
      | (with_reducible exact ih11 _ _ _ _ _ _ _ _ _ _ _ _ _ _)
      | (with_reducible exact ih12 _ _ _ _ _ _ _ _ _ _ _ _ _ _ _ _ _)
      | (with_reducible exact ih13 _ _ _ _ _ _ _ _ _ _ _ _ _ _ _ _ _ _ _)
      | (with_reducible exact ih14 _ _ _ _ _ _ _ _ _ _ _ _ _ _ _ _ _ _ _)
      | (with_reducible exact ih15 _ _ _ _ _ _ _ _ _ _ _ _ _ _ _ _ _ _ _)
      | (with_reducible exact strconv_underscoreOK.mono _ _)
      | (with_reducible exact LeO.refl _)
      | (with_reducible exact LeO.none _)
      | (with_reducible refine LeO.ite ?_ ?_)
      | (with_reducible refine LeO.bind ?_ (fun _ => ?_))
      | exact ih0 _ _ _ _ _ _ _ _ _
      | exact ih1 _ _ _ _ _ _ _ _ _ _ _ _ _
      | exact ih2 _ _ _ _ _ _ _ _ _ _ _ _
      | exact ih3 _ _ _ _ _ _ _ _ _ _ _ _ _ _ _ _
      | exact ih4 _ _ _ _ _ _ _ _ _ _ _ _ _
      | exact ih5 _ _ _ _ _ _ _ _ _ _ _ _ _
      | exact ih6 _ _ _ _ _ _ _ _ _ _ _ _ _
      | exact ih7 _ _ _ _ _ _ _ _ _ _ _
      | exact ih8 _ _ _ _ _ _ _ _ _ _ _ _
      | exact ih9 _ _ _ _ _ _ _ _ _ _ _ _ _
      | exact ih10 _ _ _ _ _ _ _ _ _ _ _ _ _
      | exact ih11 _ _ _ _ _ _ _ _ _ _ _ _ _ _
      | exact ih12 _ _ _ _ _ _ _ _ _ _ _ _ _ _ _ _ _
      | exact ih13 _ _ _ _ _ _ _ _ _ _ _ _ _ _ _ _ _ _ _
      | exact ih14 _ _ _ _ _ _ _ _ _ _ _ _ _ _ _ _ _ _ _
      | exact ih15 _ _ _ _ _ _ _ _ _ _ _ _ _ _ _ _ _ _ _
      | exact strconv_underscoreOK.mono _ _
      | exact LeO.none _
      | refine LeO.ite ?_ ?_
      | refine LeO.bind ?_ (fun _ => ?_)
theorem strconv_readFloat.mono : ∀ a0 k, LeO (strconv_readFloat.f k a0) (strconv_readFloat.f (k + 1) a0) := by
  intro a0 k
  obtain ⟨ih0, ih1, ih2, ih3, ih4, ih5, ih6, ih7, ih8, ih9, ih10, ih11, ih12, ih13, ih14, ih15⟩ := strconv_readFloat.mono_l k
  unfold strconv_readFloat.f
  repeat' first
      | (with_reducible exact ih0 _ _ _ _ _ _ _ _ _)
      | (with_reducible exact ih1 _ _ _ _ _ _ _ _ _ _ _ _ _)
      | (with_reducible exact ih2 _ _ _ _ _ _ _ _ _ _ _ _)
      | (with_reducible exact ih3 _ _ _ _ _ _ _ _ _ _ _ _ _ _ _ _)
      | (with_reducible exact ih4 _ _ _ _ _ _ _ _ _ _ _ _ _)
      | (with_reducible exact ih5 _ _ _ _ _ _ _ _ _ _ _ _ _)
      | (with_reducible exact ih6 _ _ _ _ _ _ _ _ _ _ _ _ _)
      | (with_reducible exact ih7 _ _ _ _ _ _ _ _ _ _ _)
      | (with_reducible exact ih8 _ _ _ _ _ _ _ _ _ _ _ _)
      | (with_reducible exact ih9 _ _ _ _ _ _ _ _ _ _ _ _ _)
      | (with_reducible exact ih10 _ _ _ _ _ _ _ _ _ _ _ _ _)
      | (with_reducible exact ih11 _ _ _ _ _ _ _ _ _ _ _ _ _ _)
      | (with_reducible exact ih12 _ _ _ _ _ _ _ _ _ _ _ _ _ _ _ _ _)
      | (with_reducible exact ih13 _ _ _ _ _ _ _ _ _ _ _ _ _ _ _ _ _ _ _)
      | (with_reducible exact ih14 _ _ _ _ _ _ _ _ _ _ _ _ _ _ _ _ _ _ _)
      | (with_reducible exact ih15 _ _ _ _ _ _ _ _ _ _ _ _ _ _ _ _ _ _ _)
      | (with_reducible exact strconv_underscoreOK.mono _ _)
      | (with_reducible exact LeO.refl _)
      | (with_reducible exact LeO.none _)
      | (with_reducible refine LeO.ite ?_ ?_)
      | (with_reducible refine LeO.bind ?_ (fun _ => ?_))
      | exact ih0 _ _ _ _ _ _ _ _ _
      | exact ih1 _ _ _ _ _ _ _ _ _ _ _ _ _
      | exact ih2 _ _ _ _ _ _ _ _ _ _ _ _
      | exact ih3 _ _ _ _ _ _ _ _ _ _ _ _ _ _ _ _
      | exact ih4 _ _ _ _ _ _ _ _ _ _ _ _ _
      | exact ih5 _ _ _ _ _ _ _ _ _ _ _ _ _
      | exact ih6 _ _ _ _ _ _ _ _ _ _ _ _ _
      | exact ih7 _ _ _ _ _ _ _ _ _ _ _
      | exact ih8 _ _ _ _ _ _ _ _ _ _ _ _
      | exact ih9 _ _ _ _ _ _ _ _ _ _ _ _ _
      | exact ih10 _ _ _ _ _ _ _ _ _ _ _ _ _
      | exact ih11 _ _ _ _ _ _ _ _ _ _ _ _ _ _
      | exact ih12 _ _ _ _ _ _ _ _ _ _ _ _ _ _ _ _ _
      | exact ih13 _ _ _ _ _ _ _ _ _ _ _ _ _ _ _ _ _ _ _
      | exact ih14 _ _ _ _ _ _ _ _ _ _ _ _ _ _ _ _ _ _ _
      | exact ih15 _ _ _ _ _ _ _ _ _ _ _ _ _ _ _ _ _ _ _
      | exact strconv_underscoreOK.mono _ _
      | exact LeO.none _
      | refine LeO.ite ?_ ?_
      | refine LeO.bind ?_ (fun _ => ?_)
set_option maxHeartbeats 8000000 in
set_option maxRecDepth 100000 in
theorem strconv_readFloat.calls (k : Nat) (a0 : ByteArray) (r1 : Int) (r2 : Int) (r3 : Bool) (r4 : Bool) (r5 : Bool) (r6 : Int) (r7 : Bool) (w : World) (h : strconv_readFloat.f k a0 = some (r1, r2, r3, r4, r5, r6, r7)) :
    Calls Tryz.prog 43 #[.string a0] w fun e w' => e = .returned (.tuple #[.int .u64 r1, .int .i64 r2, .bool r3, .bool r4, .bool r5, .int .i64 r6, .bool r7]) ∧ Drawn0 w w' := by
  have H : (if 0 ≥ (a0.size : Int) then (some (0, 0, false, false, false, 0, false)) else (if 0 < (a0.size : Int) then (if (bt a0 0) = 43 then (strconv_readFloat.j0 k a0 0 0 false false false (0 + 1) false false) else (if (bt a0 0) = 45 then (strconv_readFloat.j0 k a0 0 0 true false false (0 + 1) false false) else (strconv_readFloat.j0 k a0 0 0 false false false 0 false false))) else (none))) = some (r1, r2, r3, r4, r5, r6, r7) := h
  clear h
  by_cases c2 : 0 ≥ (a0.size : Int)
  · rw [if_pos c2] at H
    have c2b0 : decide ((a0.size : Int) ≤ 0) = true := decide_eq_true c2
    have c2b1 : decide (a0.size ≤ 0) = true := decide_eq_true (by omega)
    have c2e : (a0 = ByteArray.empty) = True := eq_true (by have : a0.size = 0 := (by omega); simpa using this)
    clear c2
    simp only [Option.some.injEq, Prod.mk.injEq] at H
    obtain ⟨rfl, rfl, rfl, rfl, rfl, rfl, rfl⟩ := H
    go_enter Tryz.func43, Tryz.ntmps43
    go_wp2
    go_step3
    go_wp2
    try rw [Exit.noGoto_ret]
    refine bodyPost_ret (results_list (rs := [.tmp 2, .tmp 3, .tmp 4, .tmp 5, .tmp 6, .tmp 7, .tmp 8]) rfl (by simp) (.tmp (.tmp (.tmp (.tmp (.tmp (.tmp (.tmp .nil)))))))) rfl ?_
    exact ⟨by first | rfl | (simp; done) | (simp [*]; done), by repeat (first | exact Drawn0.refl _ | apply Drawn0.step)⟩
  · rw [if_neg c2] at H
    have c2b0 : decide ((a0.size : Int) ≤ 0) = false := decide_eq_false c2
    have c2b1 : decide (a0.size ≤ 0) = false := decide_eq_false (by omega)
    have c2e : (a0 = ByteArray.empty) = False := eq_false (fun e => c2 (by rw [e]; decide))
    clear c2
    by_cases c3 : 0 < (a0.size : Int)
    · rw [if_pos c3] at H
      have c3b0 : decide (0 < (a0.size : Int)) = true := decide_eq_true c3
      have c3b1 : decide (0 < a0.size) = true := decide_eq_true (by omega)
      clear c3
      have HC5 := Aside0.mk H
      clear H
      have p4 : 0 ≤ (0 : Int) := (by omega)
      have q4 : 0 < a0.size := (by have : (0 : Int) < (a0.size : Int) := of_decide_eq_true (by first | (with_reducible assumption) | assumption); omega)
      have hx4 : ∀ h : 0 < a0.size, ((a0[0]'h).toNat : Int) = bt a0 0 := bt_at a0 0
      clear p4
      have qi4 : (0 < (a0.size : Int)) = True := eq_true (of_decide_eq_true (by first | (with_reducible assumption) | assumption))
      replace q4 := eq_true q4
      go_enter Tryz.func43, Tryz.ntmps43
      go_wp2
      go_step3
      go_upto_block 0 with (fail)
      go_cut [4, 7] (fun v4 v7 wc => ∃ (kq : Nat) (x4_4 : Bool) (x7_4 : Int), v4 = .bool x4_4 ∧ v7 = .int .i64 x7_4 ∧ Aside0 (strconv_readFloat.j0 kq a0 0 0 x4_4 false false x7_4 false false = some (r1, r2, r3, r4, r5, r6, r7)) ∧ Aside0 (kq ≤ k) ∧ Drawn0 w wc)
      case first => as_aux_lemma =>
        have H := HC5.out
        clear HC5
        by_cases c6 : (bt a0 0) = 43
        · rw [if_pos c6] at H
          have c6b0 : ((bt a0 0) == 43) = true := beq_iff_eq.mpr c6
          have c6b1 : ((bt a0 0) != 43) = false := bne_eq_false_iff_eq.mpr c6
          clear c6
          (first | rw [c6b0] | (simp only [i64_w, i32_w]; rw [c6b0]) | skip)
          have H' := Aside0.mk H
          clear H
          go_wp2
          go_meet
          case rel => exact ⟨_, (false), (0 + 1), (by first | rfl | (simp; done) | (simp [*]; done)), (by first | rfl | (simp; done) | (simp [*]; done)), H', ⟨by first | omega | exact Nat.le_refl _⟩, by repeat (first | exact Drawn0.refl _ | apply Drawn0.step)⟩
        · rw [if_neg c6] at H
          have c6b0 : ((bt a0 0) == 43) = false := beq_eq_false_iff_ne.mpr c6
          have c6b1 : ((bt a0 0) != 43) = true := bne_iff_ne.mpr c6
          (first | rw [c6b0] | (simp only [i64_w, i32_w]; rw [c6b0]) | skip)
          by_cases c7 : (bt a0 0) = 45
          · rw [if_pos c7] at H
            have c7b0 : ((bt a0 0) == 45) = true := beq_iff_eq.mpr c7
            have c7b1 : ((bt a0 0) != 45) = false := bne_eq_false_iff_eq.mpr c7
            clear c7
            have H' := Aside0.mk H
            clear H
            go_wp2
            go_meet
            case rel => exact ⟨_, (true), (0 + 1), (by first | rfl | (simp; done) | (simp [*]; done)), (by first | rfl | (simp; done) | (simp [*]; done)), H', ⟨by first | omega | exact Nat.le_refl _⟩, by repeat (first | exact Drawn0.refl _ | apply Drawn0.step)⟩
          · rw [if_neg c7] at H
            have c7b0 : ((bt a0 0) == 45) = false := beq_eq_false_iff_ne.mpr c7
            have c7b1 : ((bt a0 0) != 45) = true := bne_iff_ne.mpr c7
            have H' := Aside0.mk H
            clear H
            go_wp2
            go_meet
            case rel => exact ⟨_, (false), (0), (by first | rfl | (simp; done) | (simp [*]; done)), (by first | rfl | (simp; done) | (simp [*]; done)), H', ⟨by first | omega | exact Nat.le_refl _⟩, by repeat (first | exact Drawn0.refl _ | apply Drawn0.step)⟩
      case rest => as_aux_lemma =>
        clear HC5
        try clear c2
        try clear c2b0
        try clear c2b1
        try clear p2
        try clear c3
        try clear c3b0
        try clear c3b1
        try clear c4
        try clear p4
        try clear q4
        try clear hx4
        try clear qi4
        try clear c6
        try clear c6b0
        try clear c6b1
        try clear c7
        try clear c7b0
        try clear c7b1
        try clear p4
        try clear q4
        obtain ⟨kq, x4_4, x7_4, rfl, rfl, HA, HJ4, ⟨mc4, rfl⟩⟩ := hcut
        cases kq with
        | zero => exact absurd HA.out (by simp [strconv_readFloat.j0])
        | succ kj4 =>
          have H := HA.out
          clear HA
          simp only [strconv_readFloat.j0] at H
          have HC8 := Aside0.mk H
          clear H
          go_upto_region 12 with (fail)
          go_cut [54] (fun v54 wc => ∃ (kq : Nat) (x54_7 : Bool), v54 = .bool x54_7 ∧ Aside0 (strconv_readFloat.j1 kq a0 0 0 x4_4 false false x7_4 false false 10 19 101 x54_7 = some (r1, r2, r3, r4, r5, r6, r7)) ∧ Aside0 (kq ≤ kj4) ∧ Drawn0 w wc)
          case first => as_aux_lemma =>
            have H := HC8.out
            clear HC8
            by_cases c9 : (wrap64 (x7_4 + 2)) < (a0.size : Int)
            · rw [if_pos c9] at H
              have c9b0 : decide ((wrap64 (x7_4 + 2)) < (a0.size : Int)) = true := decide_eq_true c9
              clear c9
              (first | rw [c9b0] | (simp only [i64_w, i32_w]; rw [c9b0]) | skip)
              by_cases c10 : 0 ≤ x7_4
              · rw [if_pos c10] at H
                have c10b0 : decide (0 ≤ x7_4) = true := decide_eq_true c10
                clear c10
                by_cases c11 : x7_4 < (a0.size : Int)
                · rw [if_pos c11] at H
                  have c11b0 : decide (x7_4 < (a0.size : Int)) = true := decide_eq_true c11
                  clear c11
                  by_cases c13 : (bt a0 x7_4) = 48
                  · rw [if_pos c13] at H
                    have c13b0 : ((bt a0 x7_4) == 48) = true := beq_iff_eq.mpr c13
                    have c13b1 : ((bt a0 x7_4) != 48) = false := bne_eq_false_iff_eq.mpr c13
                    clear c13
                    obtain ⟨ji14, hji14⟩ : ∃ j_ : Int, (wrap64 (x7_4 + 1)) = j_ := ⟨_, rfl⟩
                    replace H : (if 0 ≤ (ji14) then (if (ji14) < (a0.size : Int) then ((strconv_lower.f (bt a0 (ji14))).bind fun t109 => (strconv_readFloat.j1 kj4 a0 0 0 x4_4 false false x7_4 false false 10 19 101 (t109 == 120))) else (none)) else (none)) = some (r1, r2, r3, r4, r5, r6, r7) := by first | (rw [hji14] at H; exact H) | (simp only [hji14] at H ⊢; exact H)
                    have hji14w : (IntKind.i64.wrap (x7_4 + 1)) = ji14 := (i64_w _).trans hji14
                    by_cases c15 : 0 ≤ (ji14)
                    · rw [if_pos c15] at H
                      have c15b0 : decide (0 ≤ (ji14)) = true := decide_eq_true c15
                      clear c15
                      by_cases c16 : (ji14) < (a0.size : Int)
                      · rw [if_pos c16] at H
                        have c16b0 : decide ((ji14) < (a0.size : Int)) = true := decide_eq_true c16
                        clear c16
                        replace H := Option.bind_eq_some_iff.mp H
                        obtain ⟨t109, A180, H⟩ := H
                        replace H : (strconv_readFloat.j1 kj4 a0 0 0 x4_4 false false x7_4 false false 10 19 101 (t109 == 120)) = some (r1, r2, r3, r4, r5, r6, r7) := H
                        have A18 := Aside0.mk A180
                        clear A180
                        have H' := Aside0.mk H
                        clear H
                        have p12 : 0 ≤ (x7_4 : Int) := of_decide_eq_true (by first | (with_reducible assumption) | assumption)
                        have q12 : x7_4 < (a0.size : Int) := of_decide_eq_true (by first | (with_reducible assumption) | assumption)
                        have hx12 := bt_at a0 x7_4
                        replace p12 := eq_true p12
                        replace q12 := eq_true q12
                        have p17 : 0 ≤ ((ji14) : Int) := of_decide_eq_true (by first | (with_reducible assumption) | assumption)
                        have q17 : (ji14) < (a0.size : Int) := of_decide_eq_true (by first | (with_reducible assumption) | assumption)
                        have hx17 := bt_at a0 (ji14)
                        replace p17 := eq_true p17
                        replace q17 := eq_true q17
                        go_wp2_with (first | (go_at_call 27; (with_reducible refine (strconv_lower.calls (bt a0 (ji14)) t109 _ A18.out).mono ?_); rintro e w' ⟨rfl, ⟨nd, rfl⟩⟩))
                        go_meet
                        case rel => exact ⟨_, ((t109 == 120)), (by first | rfl | (simp; done) | (simp [*]; done)), H', ⟨by have := HJ4.out; first | omega | exact Nat.le_refl _⟩, by repeat (first | exact Drawn0.refl _ | apply Drawn0.step)⟩
                      · rw [if_neg c16] at H
                        exact absurd H (by simp)
                    · rw [if_neg c15] at H
                      exact absurd H (by simp)
                  · rw [if_neg c13] at H
                    have c13b0 : ((bt a0 x7_4) == 48) = false := beq_eq_false_iff_ne.mpr c13
                    have c13b1 : ((bt a0 x7_4) != 48) = true := bne_iff_ne.mpr c13
                    have H' := Aside0.mk H
                    clear H
                    have p12 : 0 ≤ (x7_4 : Int) := of_decide_eq_true (by first | (with_reducible assumption) | assumption)
                    have q12 : x7_4 < (a0.size : Int) := of_decide_eq_true (by first | (with_reducible assumption) | assumption)
                    have hx12 := bt_at a0 x7_4
                    replace p12 := eq_true p12
                    replace q12 := eq_true q12
                    go_wp2
                    go_meet
                    case rel => exact ⟨_, (false), (by first | rfl | (simp; done) | (simp [*]; done)), H', ⟨by have := HJ4.out; first | omega | exact Nat.le_refl _⟩, by repeat (first | exact Drawn0.refl _ | apply Drawn0.step)⟩
                · rw [if_neg c11] at H
                  exact absurd H (by simp)
              · rw [if_neg c10] at H
                exact absurd H (by simp)
            · rw [if_neg c9] at H
              have c9b0 : decide ((wrap64 (x7_4 + 2)) < (a0.size : Int)) = false := decide_eq_false c9
              clear c9
              (first | rw [c9b0] | (simp only [i64_w, i32_w]; rw [c9b0]) | skip)
              have H' := Aside0.mk H
              clear H
              go_wp2
              go_meet
              case rel => exact ⟨_, (false), (by first | rfl | (simp; done) | (simp [*]; done)), H', ⟨by have := HJ4.out; first | omega | exact Nat.le_refl _⟩, by repeat (first | exact Drawn0.refl _ | apply Drawn0.step)⟩
          case rest => as_aux_lemma =>
            clear HC8
            try clear c1
            try clear p1
            try clear q1
            try clear hx1
            try clear c2
            try clear c2b0
            try clear c2b1
            try clear p2
            try clear c3
            try clear c3b0
            try clear c3b1
            try clear c4
            try clear p4
            try clear q4
            try clear hx4
            try clear qi4
            try clear c6
            try clear c6b0
            try clear c6b1
            try clear p6
            try clear c7
            try clear c7b0
            try clear c7b1
            try clear c9
            try clear c9b0
            try clear c10
            try clear c10b0
            try clear c11
            try clear c11b0
            try clear p12
            try clear q12
            try clear hx12
            try clear c13
            try clear c13b0
            try clear c13b1
            try clear c15
            try clear c15b0
            try clear c16
            try clear c16b0
            try clear p17
            try clear q17
            try clear hx17
            try clear p12
            try clear p17
            try clear p2
            try clear p4
            try clear q12
            try clear q17
            try clear q4
            obtain ⟨kq, x54_7, rfl, HA, HJ7, ⟨mc7, rfl⟩⟩ := hcut
            cases kq with
            | zero => exact absurd HA.out (by simp [strconv_readFloat.j1])
            | succ kj7 =>
              have H := HA.out
              clear HA
              simp only [strconv_readFloat.j1] at H
              have HC19 := Aside0.mk H
              clear H
              go_upto_if 54 with (fail)
              go_cut [6, 7, 10, 11, 12] (fun v6 v7 v10 v11 v12 wc => ∃ (kq : Nat) (x6_18 : Bool) (x7_18 : Int) (x10_18 : Int) (x11_18 : Int) (x12_18 : Int), v6 = .bool x6_18 ∧ v7 = .int .i64 x7_18 ∧ v10 = .int .u64 x10_18 ∧ v11 = .int .i64 x11_18 ∧ v12 = .int .u8 x12_18 ∧ Aside0 (strconv_readFloat.j2 kq a0 0 0 x4_4 false x6_18 x7_18 false false x10_18 x11_18 x12_18 = some (r1, r2, r3, r4, r5, r6, r7)) ∧ Aside0 (kq ≤ kj7) ∧ Drawn0 w wc)
              case first => as_aux_lemma =>
                have H := HC19.out
                clear HC19
                by_cases c20 : x54_7 = true
                · subst c20
                  have H1 : (strconv_readFloat.j2 kj7 a0 0 0 x4_4 false true (wrap64 (x7_4 + 2)) false false 16 16 112) = some (r1, r2, r3, r4, r5, r6, r7) := by rw [if_pos rfl] at H; exact H
                  clear H
                  have H := H1
                  clear H1
                  have H' := Aside0.mk H
                  clear H
                  go_wp2
                  go_meet
                  case rel => exact ⟨_, (true), (wrap64 (x7_4 + 2)), (16), (16), (112), (by first | rfl | (simp; done) | (simp [*]; done)), (by first | rfl | (simp; done) | (simp [*]; done)), (by first | rfl | (simp; done) | (simp [*]; done)), (by first | rfl | (simp; done) | (simp [*]; done)), (by first | rfl | (simp; done) | (simp [*]; done)), H', ⟨by have := HJ4.out; have := HJ7.out; first | omega | exact Nat.le_refl _⟩, by repeat (first | exact Drawn0.refl _ | apply Drawn0.step)⟩
                · replace c20 := Bool.eq_false_iff.mpr c20
                  subst c20
                  have H1 : (strconv_readFloat.j2 kj7 a0 0 0 x4_4 false false x7_4 false false 10 19 101) = some (r1, r2, r3, r4, r5, r6, r7) := by rw [if_neg (show ¬ (false = true) by decide)] at H; exact H
                  clear H
                  have H := H1
                  clear H1
                  have H' := Aside0.mk H
                  clear H
                  go_wp2
                  go_meet
                  case rel => exact ⟨_, (false), (x7_4), (10), (19), (101), (by first | rfl | (simp; done) | (simp [*]; done)), (by first | rfl | (simp; done) | (simp [*]; done)), (by first | rfl | (simp; done) | (simp [*]; done)), (by first | rfl | (simp; done) | (simp [*]; done)), (by first | rfl | (simp; done) | (simp [*]; done)), H', ⟨by have := HJ4.out; have := HJ7.out; first | omega | exact Nat.le_refl _⟩, by repeat (first | exact Drawn0.refl _ | apply Drawn0.step)⟩
              case rest => as_aux_lemma =>
                clear HC19
                try clear c1
                try clear p1
                try clear q1
                try clear hx1
                try clear c2
                try clear c2b0
                try clear c2b1
                try clear p2
                try clear c3
                try clear c3b0
                try clear c3b1
                try clear c4
                try clear p4
                try clear q4
                try clear hx4
                try clear qi4
                try clear c6
                try clear c6b0
                try clear c6b1
                try clear p6
                try clear c7
                try clear c7b0
                try clear c7b1
                try clear c9
                try clear c9b0
                try clear c10
                try clear c10b0
                try clear c11
                try clear c11b0
                try clear p12
                try clear q12
                try clear hx12
                try clear c13
                try clear c13b0
                try clear c13b1
                try clear c15
                try clear c15b0
                try clear c16
                try clear c16b0
                try clear p17
                try clear q17
                try clear hx17
                try clear c20
                try clear p1
                try clear p12
                try clear p17
                try clear p2
                try clear p4
                try clear p6
                try clear q1
                try clear q12
                try clear q17
                try clear q4
                obtain ⟨kq, x6_18, x7_18, x10_18, x11_18, x12_18, rfl, rfl, rfl, rfl, rfl, HA, HJ18, ⟨mc18, rfl⟩⟩ := hcut
                cases kq with
                | zero => exact absurd HA.out (by simp [strconv_readFloat.j2])
                | succ kj18 =>
                  have H := HA.out
                  clear HA
                  simp only [strconv_readFloat.j2] at H
                  have HC21 := Aside0.mk H
                  clear H
                  go_wp2
                  go_step3
                  go_upto_block 1 with (fail)
                  go_cut [2, 5, 7, 9, 13, 14, 15, 16, 17] (fun v2 v5 v7 v9 v13 v14 v15 v16 v17 wc => ∃ (kq : Nat) (x2_20 : Int) (x5_20 : Bool) (x7_20 : Int) (x9_20 : Bool) (x13_20 : Bool) (x14_20 : Bool) (x15_20 : Int) (x16_20 : Int) (x17_20 : Int), v2 = .int .u64 x2_20 ∧ v5 = .bool x5_20 ∧ v7 = .int .i64 x7_20 ∧ v9 = .bool x9_20 ∧ v13 = .bool x13_20 ∧ v14 = .bool x14_20 ∧ v15 = .int .i64 x15_20 ∧ v16 = .int .i64 x16_20 ∧ v17 = .int .i64 x17_20 ∧ Aside0 (strconv_readFloat.j7 kq a0 x2_20 0 x4_4 x5_20 x6_18 x7_20 false x9_20 x10_18 x12_18 x13_20 x14_20 x15_20 x16_20 x17_20 = some (r1, r2, r3, r4, r5, r6, r7)) ∧ Aside0 (kq ≤ kj18) ∧ Drawn0 w wc)
                  case first => as_aux_lemma =>
                    have H := HC21.out
                    clear HC21
                    have H' := Aside0.mk H
                    clear H
                    go_wp2
                    go_loopg [2, 5, 7, 9, 13, 14, 15, 16, 17] kj18 (fun kq v2 v5 v7 v9 v13 v14 v15 v16 v17 w' => ∃ (x2_4 : Int) (x5_4 : Bool) (x7_4 : Int) (x9_4 : Bool) (x13_4 : Bool) (x14_4 : Bool) (x15_4 : Int) (x16_4 : Int) (x17_4 : Int), v2 = .int .u64 x2_4 ∧ v5 = .bool x5_4 ∧ v7 = .int .i64 x7_4 ∧ v9 = .bool x9_4 ∧ v13 = .bool x13_4 ∧ v14 = .bool x14_4 ∧ v15 = .int .i64 x15_4 ∧ v16 = .int .i64 x16_4 ∧ v17 = .int .i64 x17_4 ∧ Aside0 (strconv_readFloat.l0 kq a0 x2_4 0 x4_4 x5_4 x6_18 x7_4 false x9_4 x10_18 x11_18 x12_18 x13_4 x14_4 x15_4 x16_4 x17_4 = some (r1, r2, r3, r4, r5, r6, r7)) ∧ Aside0 (kq ≤ kj18) ∧ Drawn0 w w')
                    case atStart => exact ⟨(0), (false), (x7_18), (false), (false), (false), (0), (0), (0), (by first | rfl | (simp; done) | (simp [*]; done)), (by first | rfl | (simp; done) | (simp [*]; done)), (by first | rfl | (simp; done) | (simp [*]; done)), (by first | rfl | (simp; done) | (simp [*]; done)), (by first | rfl | (simp; done) | (simp [*]; done)), (by first | rfl | (simp; done) | (simp [*]; done)), (by first | rfl | (simp; done) | (simp [*]; done)), (by first | rfl | (simp; done) | (simp [*]; done)), (by first | rfl | (simp; done) | (simp [*]; done)), H', ⟨Nat.le_refl _⟩, by repeat (first | exact Drawn0.refl _ | apply Drawn0.step)⟩
                    case round =>
                      clear H'
                      try clear c1
                      try clear p1
                      try clear q1
                      try clear hx1
                      try clear c2
                      try clear c2b0
                      try clear c2b1
                      try clear p2
                      try clear c3
                      try clear c3b0
                      try clear c3b1
                      try clear c4
                      try clear p4
                      try clear q4
                      try clear hx4
                      try clear qi4
                      try clear c6
                      try clear c6b0
                      try clear c6b1
                      try clear p6
                      try clear c7
                      try clear c7b0
                      try clear c7b1
                      try clear c9
                      try clear c9b0
                      try clear c10
                      try clear c10b0
                      try clear c11
                      try clear c11b0
                      try clear p12
                      try clear q12
                      try clear hx12
                      try clear c13
                      try clear c13b0
                      try clear c13b1
                      try clear c15
                      try clear c15b0
                      try clear c16
                      try clear c16b0
                      try clear p17
                      try clear q17
                      try clear hx17
                      try clear c18
                      try clear c20
                      try clear p1
                      try clear p12
                      try clear p17
                      try clear p2
                      try clear p4
                      try clear p6
                      try clear q1
                      try clear q12
                      try clear q17
                      try clear q4
                      obtain ⟨x2_4, x5_4, x7_4, x9_4, x13_4, x14_4, x15_4, x16_4, x17_4, rfl, rfl, rfl, rfl, rfl, rfl, rfl, rfl, rfl, HA, HK4, ⟨m4, rfl⟩⟩ := hrel
                      cases gk with
                      | zero => exact absurd HA.out (by simp [strconv_readFloat.l0])
                      | succ k4 =>
                        have H := HA.out
                        clear HA
                        simp only [strconv_readFloat.l0] at H
                        by_cases c22 : x7_4 < (a0.size : Int)
                        · rw [if_pos c22] at H
                          have c22b0 : decide (x7_4 < (a0.size : Int)) = true := decide_eq_true c22
                          clear c22
                          (first | rw [c22b0] | (simp only [i64_w, i32_w]; rw [c22b0]) | skip)
                          by_cases c23 : 0 ≤ x7_4
                          · rw [if_pos c23] at H
                            have c23b0 : decide (0 ≤ x7_4) = true := decide_eq_true c23
                            clear c23
                            by_cases c25 : (true == ((bt a0 x7_4) == 95)) = true
                            · rw [if_pos c25] at H
                              have c25b0 : (true == ((bt a0 x7_4) == 95)) = true := c25
                              (try (have c25b1 : decide (true = ((bt a0 x7_4) == 95)) = true := by simpa using c25))
                              (try (have c25b2 : (true == ((bt a0 x7_4) == 95)) = true := by simpa using c25))
                              clear c25
                              have H' := Aside0.mk H
                              clear H
                              have p24 : 0 ≤ (x7_4 : Int) := of_decide_eq_true (by first | (with_reducible assumption) | assumption)
                              have q24 : x7_4 < (a0.size : Int) := of_decide_eq_true (by first | (with_reducible assumption) | assumption)
                              have hx24 := bt_at a0 x7_4
                              replace p24 := eq_true p24
                              replace q24 := eq_true q24
                              go_wp2
                              go_roundg k4
                              case measure => have := HJ4.out; have := HJ7.out; have := HJ18.out; have := HK4.out; omega
                              case rel => exact ⟨(x2_4), (x5_4), (wrap64 (x7_4 + 1)), (true), (x13_4), (x14_4), (x15_4), (x16_4), (x17_4), (by first | rfl | (simp; done) | (simp [*]; done)), (by first | rfl | (simp; done) | (simp [*]; done)), (by first | rfl | (simp; done) | (simp [*]; done)), (by first | rfl | (simp; done) | (simp [*]; done)), (by first | rfl | (simp; done) | (simp [*]; done)), (by first | rfl | (simp; done) | (simp [*]; done)), (by first | rfl | (simp; done) | (simp [*]; done)), (by first | rfl | (simp; done) | (simp [*]; done)), (by first | rfl | (simp; done) | (simp [*]; done)), H', ⟨by have := HJ4.out; have := HJ7.out; have := HJ18.out; have := HK4.out; omega⟩, by repeat (first | exact Drawn0.refl _ | apply Drawn0.step)⟩
                            · rw [if_neg c25] at H
                              have c25b0 : (true == ((bt a0 x7_4) == 95)) = false := by simpa using c25
                              (try (have c25b1 : decide (true = ((bt a0 x7_4) == 95)) = false := by simpa using c25))
                              (try (have c25b2 : (true == ((bt a0 x7_4) == 95)) = false := by simpa using c25))
                              (try (have c25b3 : ¬ (true = ((bt a0 x7_4) == 95)) := by simpa using c25))
                              clear c25
                              by_cases c26 : (true == ((bt a0 x7_4) == 46)) = true
                              · rw [if_pos c26] at H
                                have c26b0 : (true == ((bt a0 x7_4) == 46)) = true := c26
                                (try (have c26b1 : decide (true = ((bt a0 x7_4) == 46)) = true := by simpa using c26))
                                (try (have c26b2 : (true == ((bt a0 x7_4) == 46)) = true := by simpa using c26))
                                clear c26
                                by_cases c27 : x13_4 = true
                                · subst c27
                                  have H1 : (strconv_readFloat.j7 k4 a0 x2_4 0 x4_4 x5_4 x6_18 x7_4 false x9_4 x10_18 x12_18 true x14_4 x15_4 x16_4 x17_4) = some (r1, r2, r3, r4, r5, r6, r7) := by rw [if_pos rfl] at H; exact H
                                  clear H
                                  have H := H1
                                  clear H1
                                  have H' := Aside0.mk H
                                  clear H
                                  have p24 : 0 ≤ (x7_4 : Int) := of_decide_eq_true (by first | (with_reducible assumption) | assumption)
                                  have q24 : x7_4 < (a0.size : Int) := of_decide_eq_true (by first | (with_reducible assumption) | assumption)
                                  have hx24 := bt_at a0 x7_4
                                  replace p24 := eq_true p24
                                  replace q24 := eq_true q24
                                  go_wp2
                                  go_meet
                                  case rel => exact ⟨_, (x2_4), (x5_4), (x7_4), (x9_4), (true), (x14_4), (x15_4), (x16_4), (x17_4), (by first | rfl | (simp; done) | (simp [*]; done)), (by first | rfl | (simp; done) | (simp [*]; done)), (by first | rfl | (simp; done) | (simp [*]; done)), (by first | rfl | (simp; done) | (simp [*]; done)), (by first | rfl | (simp; done) | (simp [*]; done)), (by first | rfl | (simp; done) | (simp [*]; done)), (by first | rfl | (simp; done) | (simp [*]; done)), (by first | rfl | (simp; done) | (simp [*]; done)), (by first | rfl | (simp; done) | (simp [*]; done)), H', ⟨by have := HJ4.out; have := HJ7.out; have := HJ18.out; have := HK4.out; first | omega | exact Nat.le_refl _⟩, by repeat (first | exact Drawn0.refl _ | apply Drawn0.step)⟩
                                · replace c27 := Bool.eq_false_iff.mpr c27
                                  subst c27
                                  have H1 : (strconv_readFloat.l0 k4 a0 x2_4 0 x4_4 x5_4 x6_18 (wrap64 (x7_4 + 1)) false x9_4 x10_18 x11_18 x12_18 true x14_4 x15_4 x16_4 x15_4) = some (r1, r2, r3, r4, r5, r6, r7) := by rw [if_neg (show ¬ (false = true) by decide)] at H; exact H
                                  clear H
                                  have H := H1
                                  clear H1
                                  have H' := Aside0.mk H
                                  clear H
                                  have p24 : 0 ≤ (x7_4 : Int) := of_decide_eq_true (by first | (with_reducible assumption) | assumption)
                                  have q24 : x7_4 < (a0.size : Int) := of_decide_eq_true (by first | (with_reducible assumption) | assumption)
                                  have hx24 := bt_at a0 x7_4
                                  replace p24 := eq_true p24
                                  replace q24 := eq_true q24
                                  go_wp2
                                  go_roundg k4
                                  case measure => have := HJ4.out; have := HJ7.out; have := HJ18.out; have := HK4.out; omega
                                  case rel => exact ⟨(x2_4), (x5_4), (wrap64 (x7_4 + 1)), (x9_4), (true), (x14_4), (x15_4), (x16_4), (x15_4), (by first | rfl | (simp; done) | (simp [*]; done)), (by first | rfl | (simp; done) | (simp [*]; done)), (by first | rfl | (simp; done) | (simp [*]; done)), (by first | rfl | (simp; done) | (simp [*]; done)), (by first | rfl | (simp; done) | (simp [*]; done)), (by first | rfl | (simp; done) | (simp [*]; done)), (by first | rfl | (simp; done) | (simp [*]; done)), (by first | rfl | (simp; done) | (simp [*]; done)), (by first | rfl | (simp; done) | (simp [*]; done)), H', ⟨by have := HJ4.out; have := HJ7.out; have := HJ18.out; have := HK4.out; omega⟩, by repeat (first | exact Drawn0.refl _ | apply Drawn0.step)⟩
                              · rw [if_neg c26] at H
                                have c26b0 : (true == ((bt a0 x7_4) == 46)) = false := by simpa using c26
                                (try (have c26b1 : decide (true = ((bt a0 x7_4) == 46)) = false := by simpa using c26))
                                (try (have c26b2 : (true == ((bt a0 x7_4) == 46)) = false := by simpa using c26))
                                (try (have c26b3 : ¬ (true = ((bt a0 x7_4) == 46)) := by simpa using c26))
                                clear c26
                                have HC28 := Aside0.mk H
                                clear H
                                have p24 : 0 ≤ (x7_4 : Int) := of_decide_eq_true (by first | (with_reducible assumption) | assumption)
                                have q24 : x7_4 < (a0.size : Int) := of_decide_eq_true (by first | (with_reducible assumption) | assumption)
                                have hx24 := bt_at a0 x7_4
                                replace p24 := eq_true p24
                                replace q24 := eq_true q24
                                go_upto_region 32 with (fail)
                                go_cut [76] (fun v76 wc => ∃ (kq : Nat) (x76_27 : Bool), v76 = .bool x76_27 ∧ Aside0 (strconv_readFloat.j4 kq a0 x2_4 0 x4_4 x5_4 x6_18 x7_4 false x9_4 x10_18 x11_18 x12_18 x13_4 x14_4 x15_4 x16_4 x17_4 (bt a0 x7_4) x76_27 = some (r1, r2, r3, r4, r5, r6, r7)) ∧ Aside0 (kq ≤ k4) ∧ Drawn0 w wc)
                                case first => as_aux_lemma =>
                                  have H := HC28.out
                                  clear HC28
                                  by_cases c29 : 48 ≤ (bt a0 x7_4)
                                  · rw [if_pos c29] at H
                                    have c29b0 : decide (48 ≤ (bt a0 x7_4)) = true := decide_eq_true c29
                                    clear c29
                                    (first | rw [c29b0] | (simp only [i64_w, i32_w]; rw [c29b0]) | skip)
                                    have H' := Aside0.mk H
                                    clear H
                                    go_wp2
                                    go_meet
                                    case rel => exact ⟨_, ((true == (decide ((bt a0 x7_4) ≤ 57)))), (by first | rfl | (simp; done) | (simp [*]; done)), H', ⟨by have := HJ4.out; have := HJ7.out; have := HJ18.out; have := HK4.out; first | omega | exact Nat.le_refl _⟩, by repeat (first | exact Drawn0.refl _ | apply Drawn0.step)⟩
                                  · rw [if_neg c29] at H
                                    have c29b0 : decide (48 ≤ (bt a0 x7_4)) = false := decide_eq_false c29
                                    clear c29
                                    (first | rw [c29b0] | (simp only [i64_w, i32_w]; rw [c29b0]) | skip)
                                    have H' := Aside0.mk H
                                    clear H
                                    go_wp2
                                    go_meet
                                    case rel => exact ⟨_, ((true == false)), (by first | rfl | (simp; done) | (simp [*]; done)), H', ⟨by have := HJ4.out; have := HJ7.out; have := HJ18.out; have := HK4.out; first | omega | exact Nat.le_refl _⟩, by repeat (first | exact Drawn0.refl _ | apply Drawn0.step)⟩
                                case rest => as_aux_lemma =>
                                  clear HC28
                                  try clear c1
                                  try clear p1
                                  try clear q1
                                  try clear hx1
                                  try clear c2
                                  try clear c2b0
                                  try clear c2b1
                                  try clear p2
                                  try clear q2
                                  try clear hx2
                                  try clear c3
                                  try clear c3b0
                                  try clear c3b1
                                  try clear c4
                                  try clear p4
                                  try clear q4
                                  try clear hx4
                                  try clear qi4
                                  try clear c6
                                  try clear c6b0
                                  try clear c6b1
                                  try clear p6
                                  try clear c7
                                  try clear c7b0
                                  try clear c7b1
                                  try clear c9
                                  try clear c9b0
                                  try clear c10
                                  try clear c10b0
                                  try clear c11
                                  try clear c11b0
                                  try clear p12
                                  try clear q12
                                  try clear hx12
                                  try clear c13
                                  try clear c13b0
                                  try clear c13b1
                                  try clear c15
                                  try clear c15b0
                                  try clear c16
                                  try clear c16b0
                                  try clear p17
                                  try clear q17
                                  try clear hx17
                                  try clear c18
                                  try clear c20
                                  try clear c22
                                  try clear c22b0
                                  try clear c23
                                  try clear c23b0
                                  try clear p24
                                  try clear q24
                                  try clear hx24
                                  try clear c25
                                  try clear c25b0
                                  try clear c25b1
                                  try clear c25b2
                                  try clear c26
                                  try clear c26b0
                                  try clear c26b1
                                  try clear c26b2
                                  try clear c27
                                  try clear c29
                                  try clear c29b0
                                  try clear p1
                                  try clear p12
                                  try clear p17
                                  try clear p2
                                  try clear p24
                                  try clear p4
                                  try clear p6
                                  try clear q1
                                  try clear q12
                                  try clear q17
                                  try clear q24
                                  try clear q4
                                  obtain ⟨kq, x76_27, rfl, HA, HJ27, ⟨mc27, rfl⟩⟩ := hcut
                                  cases kq with
                                  | zero => exact absurd HA.out (by simp [strconv_readFloat.j4])
                                  | succ kj27 =>
                                    have H := HA.out
                                    clear HA
                                    simp only [strconv_readFloat.j4] at H
                                    by_cases c30 : x76_27 = true
                                    · subst c30
                                      have H1 : (if (bt a0 x7_4) = 48 then (strconv_readFloat.j5 kj27 a0 x2_4 0 x4_4 x5_4 x6_18 x7_4 false x9_4 x10_18 x11_18 x12_18 x13_4 true x15_4 x16_4 x17_4 (bt a0 x7_4) (x15_4 == 0)) else (strconv_readFloat.j5 kj27 a0 x2_4 0 x4_4 x5_4 x6_18 x7_4 false x9_4 x10_18 x11_18 x12_18 x13_4 true x15_4 x16_4 x17_4 (bt a0 x7_4) false)) = some (r1, r2, r3, r4, r5, r6, r7) := by rw [if_pos rfl] at H; exact H
                                      clear H
                                      have H := H1
                                      clear H1
                                      have HC31 := Aside0.mk H
                                      clear H
                                      go_upto_region 34 with (fail)
                                      go_cut [89] (fun v89 wc => ∃ (kq : Nat) (x89_30 : Bool), v89 = .bool x89_30 ∧ Aside0 (strconv_readFloat.j5 kq a0 x2_4 0 x4_4 x5_4 x6_18 x7_4 false x9_4 x10_18 x11_18 x12_18 x13_4 true x15_4 x16_4 x17_4 (bt a0 x7_4) x89_30 = some (r1, r2, r3, r4, r5, r6, r7)) ∧ Aside0 (kq ≤ kj27) ∧ Drawn0 w wc)
                                      case first => as_aux_lemma =>
                                        have H := HC31.out
                                        clear HC31
                                        by_cases c32 : (bt a0 x7_4) = 48
                                        · rw [if_pos c32] at H
                                          have c32b0 : ((bt a0 x7_4) == 48) = true := beq_iff_eq.mpr c32
                                          have c32b1 : ((bt a0 x7_4) != 48) = false := bne_eq_false_iff_eq.mpr c32
                                          clear c32
                                          (first | rw [c32b0] | (simp only [i64_w, i32_w]; rw [c32b0]) | skip)
                                          have H' := Aside0.mk H
                                          clear H
                                          go_wp2
                                          go_meet
                                          case rel => exact ⟨_, ((x15_4 == 0)), (by first | rfl | (simp; done) | (simp [*]; done)), H', ⟨by have := HJ4.out; have := HJ7.out; have := HJ18.out; have := HK4.out; have := HJ27.out; first | omega | exact Nat.le_refl _⟩, by repeat (first | exact Drawn0.refl _ | apply Drawn0.step)⟩
                                        · rw [if_neg c32] at H
                                          have c32b0 : ((bt a0 x7_4) == 48) = false := beq_eq_false_iff_ne.mpr c32
                                          have c32b1 : ((bt a0 x7_4) != 48) = true := bne_iff_ne.mpr c32
                                          (first | rw [c32b0] | (simp only [i64_w, i32_w]; rw [c32b0]) | skip)
                                          have H' := Aside0.mk H
                                          clear H
                                          go_wp2
                                          go_meet
                                          case rel => exact ⟨_, (false), (by first | rfl | (simp; done) | (simp [*]; done)), H', ⟨by have := HJ4.out; have := HJ7.out; have := HJ18.out; have := HK4.out; have := HJ27.out; first | omega | exact Nat.le_refl _⟩, by repeat (first | exact Drawn0.refl _ | apply Drawn0.step)⟩
                                      case rest => as_aux_lemma =>
                                        clear HC31
                                        try clear c1
                                        try clear p1
                                        try clear q1
                                        try clear hx1
                                        try clear c2
                                        try clear c2b0
                                        try clear c2b1
                                        try clear p2
                                        try clear q2
                                        try clear hx2
                                        try clear c3
                                        try clear c3b0
                                        try clear c3b1
                                        try clear c4
                                        try clear p4
                                        try clear q4
                                        try clear hx4
                                        try clear qi4
                                        try clear c6
                                        try clear c6b0
                                        try clear c6b1
                                        try clear p6
                                        try clear c7
                                        try clear c7b0
                                        try clear c7b1
                                        try clear c9
                                        try clear c9b0
                                        try clear c10
                                        try clear c10b0
                                        try clear c11
                                        try clear c11b0
                                        try clear p12
                                        try clear q12
                                        try clear hx12
                                        try clear c13
                                        try clear c13b0
                                        try clear c13b1
                                        try clear c15
                                        try clear c15b0
                                        try clear c16
                                        try clear c16b0
                                        try clear p17
                                        try clear q17
                                        try clear hx17
                                        try clear c18
                                        try clear c20
                                        try clear c22
                                        try clear c22b0
                                        try clear c23
                                        try clear c23b0
                                        try clear p24
                                        try clear q24
                                        try clear hx24
                                        try clear c25
                                        try clear c25b0
                                        try clear c25b1
                                        try clear c25b2
                                        try clear c26
                                        try clear c26b0
                                        try clear c26b1
                                        try clear c26b2
                                        try clear c27
                                        try clear c29
                                        try clear c29b0
                                        try clear c30
                                        try clear c32
                                        try clear c32b0
                                        try clear c32b1
                                        try clear p1
                                        try clear p12
                                        try clear p17
                                        try clear p2
                                        try clear p24
                                        try clear p4
                                        try clear p6
                                        try clear q1
                                        try clear q12
                                        try clear q17
                                        try clear q2
                                        try clear q24
                                        try clear q4
                                        obtain ⟨kq, x89_30, rfl, HA, HJ30, ⟨mc30, rfl⟩⟩ := hcut
                                        cases kq with
                                        | zero => exact absurd HA.out (by simp [strconv_readFloat.j5])
                                        | succ kj30 =>
                                          have H := HA.out
                                          clear HA
                                          simp only [strconv_readFloat.j5] at H
                                          by_cases c33 : x89_30 = true
                                          · subst c33
                                            have H1 : (strconv_readFloat.l0 kj30 a0 x2_4 0 x4_4 x5_4 x6_18 (wrap64 (x7_4 + 1)) false x9_4 x10_18 x11_18 x12_18 x13_4 true x15_4 x16_4 (wrap64 (x17_4 - 1))) = some (r1, r2, r3, r4, r5, r6, r7) := by rw [if_pos rfl] at H; exact H
                                            clear H
                                            have H := H1
                                            clear H1
                                            have H' := Aside0.mk H
                                            clear H
                                            go_wp2
                                            go_roundg kj30
                                            case measure => have := HJ4.out; have := HJ7.out; have := HJ18.out; have := HK4.out; have := HJ27.out; have := HJ30.out; omega
                                            case rel => exact ⟨(x2_4), (x5_4), (wrap64 (x7_4 + 1)), (x9_4), (x13_4), (true), (x15_4), (x16_4), (wrap64 (x17_4 - 1)), (by first | rfl | (simp; done) | (simp [*]; done)), (by first | rfl | (simp; done) | (simp [*]; done)), (by first | rfl | (simp; done) | (simp [*]; done)), (by first | rfl | (simp; done) | (simp [*]; done)), (by first | rfl | (simp; done) | (simp [*]; done)), (by first | rfl | (simp; done) | (simp [*]; done)), (by first | rfl | (simp; done) | (simp [*]; done)), (by first | rfl | (simp; done) | (simp [*]; done)), (by first | rfl | (simp; done) | (simp [*]; done)), H', ⟨by have := HJ4.out; have := HJ7.out; have := HJ18.out; have := HK4.out; have := HJ27.out; have := HJ30.out; omega⟩, by repeat (first | exact Drawn0.refl _ | apply Drawn0.step)⟩
                                          · replace c33 := Bool.eq_false_iff.mpr c33
                                            subst c33
                                            have H1 : (if x16_4 < x11_18 then (strconv_readFloat.l0 kj30 a0 (IntKind.u64.wrap ((IntKind.u64.wrap (x2_4 * x10_18)) + (((bt a0 x7_4) - 48) % 256))) 0 x4_4 x5_4 x6_18 (wrap64 (x7_4 + 1)) false x9_4 x10_18 x11_18 x12_18 x13_4 true (wrap64 (x15_4 + 1)) (wrap64 (x16_4 + 1)) x17_4) else (if (bt a0 x7_4) = 48 then (strconv_readFloat.l0 kj30 a0 x2_4 0 x4_4 x5_4 x6_18 (wrap64 (x7_4 + 1)) false x9_4 x10_18 x11_18 x12_18 x13_4 true (wrap64 (x15_4 + 1)) x16_4 x17_4) else (strconv_readFloat.l0 kj30 a0 x2_4 0 x4_4 true x6_18 (wrap64 (x7_4 + 1)) false x9_4 x10_18 x11_18 x12_18 x13_4 true (wrap64 (x15_4 + 1)) x16_4 x17_4))) = some (r1, r2, r3, r4, r5, r6, r7) := by rw [if_neg (show ¬ (false = true) by decide)] at H; exact H
                                            clear H
                                            have H := H1
                                            clear H1
                                            by_cases c34 : x16_4 < x11_18
                                            · rw [if_pos c34] at H
                                              have c34b0 : decide (x16_4 < x11_18) = true := decide_eq_true c34
                                              clear c34
                                              have H' := Aside0.mk H
                                              clear H
                                              go_wp2
                                              go_roundg kj30
                                              case measure => have := HJ4.out; have := HJ7.out; have := HJ18.out; have := HK4.out; have := HJ27.out; have := HJ30.out; omega
                                              case rel => exact ⟨(IntKind.u64.wrap ((IntKind.u64.wrap (x2_4 * x10_18)) + (((bt a0 x7_4) - 48) % 256))), (x5_4), (wrap64 (x7_4 + 1)), (x9_4), (x13_4), (true), (wrap64 (x15_4 + 1)), (wrap64 (x16_4 + 1)), (x17_4), (by first | rfl | (simp; done) | (simp [*]; done)), (by first | rfl | (simp; done) | (simp [*]; done)), (by first | rfl | (simp; done) | (simp [*]; done)), (by first | rfl | (simp; done) | (simp [*]; done)), (by first | rfl | (simp; done) | (simp [*]; done)), (by first | rfl | (simp; done) | (simp [*]; done)), (by first | rfl | (simp; done) | (simp [*]; done)), (by first | rfl | (simp; done) | (simp [*]; done)), (by first | rfl | (simp; done) | (simp [*]; done)), H', ⟨by have := HJ4.out; have := HJ7.out; have := HJ18.out; have := HK4.out; have := HJ27.out; have := HJ30.out; omega⟩, by repeat (first | exact Drawn0.refl _ | apply Drawn0.step)⟩
                                            · rw [if_neg c34] at H
                                              have c34b0 : decide (x16_4 < x11_18) = false := decide_eq_false c34
                                              clear c34
                                              by_cases c35 : (bt a0 x7_4) = 48
                                              · rw [if_pos c35] at H
                                                have c35b0 : ((bt a0 x7_4) == 48) = true := beq_iff_eq.mpr c35
                                                have c35b1 : ((bt a0 x7_4) != 48) = false := bne_eq_false_iff_eq.mpr c35
                                                clear c35
                                                have H' := Aside0.mk H
                                                clear H
                                                go_wp2
                                                go_roundg kj30
                                                case measure => have := HJ4.out; have := HJ7.out; have := HJ18.out; have := HK4.out; have := HJ27.out; have := HJ30.out; omega
                                                case rel => exact ⟨(x2_4), (x5_4), (wrap64 (x7_4 + 1)), (x9_4), (x13_4), (true), (wrap64 (x15_4 + 1)), (x16_4), (x17_4), (by first | rfl | (simp; done) | (simp [*]; done)), (by first | rfl | (simp; done) | (simp [*]; done)), (by first | rfl | (simp; done) | (simp [*]; done)), (by first | rfl | (simp; done) | (simp [*]; done)), (by first | rfl | (simp; done) | (simp [*]; done)), (by first | rfl | (simp; done) | (simp [*]; done)), (by first | rfl | (simp; done) | (simp [*]; done)), (by first | rfl | (simp; done) | (simp [*]; done)), (by first | rfl | (simp; done) | (simp [*]; done)), H', ⟨by have := HJ4.out; have := HJ7.out; have := HJ18.out; have := HK4.out; have := HJ27.out; have := HJ30.out; omega⟩, by repeat (first | exact Drawn0.refl _ | apply Drawn0.step)⟩
                                              · rw [if_neg c35] at H
                                                have c35b0 : ((bt a0 x7_4) == 48) = false := beq_eq_false_iff_ne.mpr c35
                                                have c35b1 : ((bt a0 x7_4) != 48) = true := bne_iff_ne.mpr c35
                                                have H' := Aside0.mk H
                                                clear H
                                                go_wp2
                                                go_roundg kj30
                                                case measure => have := HJ4.out; have := HJ7.out; have := HJ18.out; have := HK4.out; have := HJ27.out; have := HJ30.out; omega
                                                case rel => exact ⟨(x2_4), (true), (wrap64 (x7_4 + 1)), (x9_4), (x13_4), (true), (wrap64 (x15_4 + 1)), (x16_4), (x17_4), (by first | rfl | (simp; done) | (simp [*]; done)), (by first | rfl | (simp; done) | (simp [*]; done)), (by first | rfl | (simp; done) | (simp [*]; done)), (by first | rfl | (simp; done) | (simp [*]; done)), (by first | rfl | (simp; done) | (simp [*]; done)), (by first | rfl | (simp; done) | (simp [*]; done)), (by first | rfl | (simp; done) | (simp [*]; done)), (by first | rfl | (simp; done) | (simp [*]; done)), (by first | rfl | (simp; done) | (simp [*]; done)), H', ⟨by have := HJ4.out; have := HJ7.out; have := HJ18.out; have := HK4.out; have := HJ27.out; have := HJ30.out; omega⟩, by repeat (first | exact Drawn0.refl _ | apply Drawn0.step)⟩
                                    · replace c30 := Bool.eq_false_iff.mpr c30
                                      subst c30
                                      have H1 : (if x10_18 = 16 then ((strconv_lower.f (bt a0 x7_4)).bind fun t110 => (if 97 ≤ t110 then ((strconv_lower.f (bt a0 x7_4)).bind fun t111 => (strconv_readFloat.j6 kj27 a0 x2_4 0 x4_4 x5_4 x6_18 x7_4 false x9_4 x10_18 x11_18 x12_18 x13_4 x14_4 x15_4 x16_4 x17_4 (bt a0 x7_4) (true == (decide (t111 ≤ 102))))) else (strconv_readFloat.j6 kj27 a0 x2_4 0 x4_4 x5_4 x6_18 x7_4 false x9_4 x10_18 x11_18 x12_18 x13_4 x14_4 x15_4 x16_4 x17_4 (bt a0 x7_4) (true == false)))) else (strconv_readFloat.j6 kj27 a0 x2_4 0 x4_4 x5_4 x6_18 x7_4 false x9_4 x10_18 x11_18 x12_18 x13_4 x14_4 x15_4 x16_4 x17_4 (bt a0 x7_4) (true == false))) = some (r1, r2, r3, r4, r5, r6, r7) := by rw [if_neg (show ¬ (false = true) by decide)] at H; exact H
                                      clear H
                                      have H := H1
                                      clear H1
                                      have HC36 := Aside0.mk H
                                      clear H
                                      go_upto_region 43 with (fail)
                                      go_cut [109] (fun v109 wc => ∃ (kq : Nat) (x109_35 : Bool), v109 = .bool x109_35 ∧ Aside0 (strconv_readFloat.j6 kq a0 x2_4 0 x4_4 x5_4 x6_18 x7_4 false x9_4 x10_18 x11_18 x12_18 x13_4 x14_4 x15_4 x16_4 x17_4 (bt a0 x7_4) x109_35 = some (r1, r2, r3, r4, r5, r6, r7)) ∧ Aside0 (kq ≤ kj27) ∧ Drawn0 w wc)
                                      case first => as_aux_lemma =>
                                        have H := HC36.out
                                        clear HC36
                                        by_cases c37 : x10_18 = 16
                                        · rw [if_pos c37] at H
                                          have c37b0 : (x10_18 == 16) = true := beq_iff_eq.mpr c37
                                          have c37b1 : (x10_18 != 16) = false := bne_eq_false_iff_eq.mpr c37
                                          clear c37
                                          (first | rw [c37b0] | (simp only [i64_w, i32_w]; rw [c37b0]) | skip)
                                          replace H := Option.bind_eq_some_iff.mp H
                                          obtain ⟨t110, A380, H⟩ := H
                                          replace H : (if 97 ≤ t110 then ((strconv_lower.f (bt a0 x7_4)).bind fun t111 => (strconv_readFloat.j6 kj27 a0 x2_4 0 x4_4 x5_4 x6_18 x7_4 false x9_4 x10_18 x11_18 x12_18 x13_4 x14_4 x15_4 x16_4 x17_4 (bt a0 x7_4) (true == (decide (t111 ≤ 102))))) else (strconv_readFloat.j6 kj27 a0 x2_4 0 x4_4 x5_4 x6_18 x7_4 false x9_4 x10_18 x11_18 x12_18 x13_4 x14_4 x15_4 x16_4 x17_4 (bt a0 x7_4) (true == false))) = some (r1, r2, r3, r4, r5, r6, r7) := H
                                          have A38 := Aside0.mk A380
                                          clear A380
                                          by_cases c39 : 97 ≤ t110
                                          · rw [if_pos c39] at H
                                            have c39b0 : decide (97 ≤ t110) = true := decide_eq_true c39
                                            clear c39
                                            replace H := Option.bind_eq_some_iff.mp H
                                            obtain ⟨t111, A400, H⟩ := H
                                            obtain rfl : t110 = t111 := Option.some.inj (A38.out.symm.trans A400)
                                            replace H : (strconv_readFloat.j6 kj27 a0 x2_4 0 x4_4 x5_4 x6_18 x7_4 false x9_4 x10_18 x11_18 x12_18 x13_4 x14_4 x15_4 x16_4 x17_4 (bt a0 x7_4) (true == (decide (t110 ≤ 102)))) = some (r1, r2, r3, r4, r5, r6, r7) := H
                                            have A40 := Aside0.mk A400
                                            clear A400
                                            have H' := Aside0.mk H
                                            clear H
                                            go_wp2_with (first | (go_at_call 27; (with_reducible refine (strconv_lower.calls (bt a0 x7_4) t110 _ A38.out).mono ?_); rintro e w' ⟨rfl, ⟨nd, rfl⟩⟩) | (go_at_call 27; (with_reducible refine (strconv_lower.calls (bt a0 x7_4) t110 _ A40.out).mono ?_); rintro e w' ⟨rfl, ⟨nd, rfl⟩⟩))
                                            go_meet
                                            case rel => exact ⟨_, ((true == (decide (t110 ≤ 102)))), (by first | rfl | (simp; done) | (simp [*]; done)), H', ⟨by have := HJ4.out; have := HJ7.out; have := HJ18.out; have := HK4.out; have := HJ27.out; first | omega | exact Nat.le_refl _⟩, by repeat (first | exact Drawn0.refl _ | apply Drawn0.step)⟩
                                          · rw [if_neg c39] at H
                                            have c39b0 : decide (97 ≤ t110) = false := decide_eq_false c39
                                            clear c39
                                            have H' := Aside0.mk H
                                            clear H
                                            go_wp2_with (first | (go_at_call 27; (with_reducible refine (strconv_lower.calls (bt a0 x7_4) t110 _ A38.out).mono ?_); rintro e w' ⟨rfl, ⟨nd, rfl⟩⟩))
                                            go_meet
                                            case rel => exact ⟨_, ((true == false)), (by first | rfl | (simp; done) | (simp [*]; done)), H', ⟨by have := HJ4.out; have := HJ7.out; have := HJ18.out; have := HK4.out; have := HJ27.out; first | omega | exact Nat.le_refl _⟩, by repeat (first | exact Drawn0.refl _ | apply Drawn0.step)⟩
                                        · rw [if_neg c37] at H
                                          have c37b0 : (x10_18 == 16) = false := beq_eq_false_iff_ne.mpr c37
                                          have c37b1 : (x10_18 != 16) = true := bne_iff_ne.mpr c37
                                          (first | rw [c37b0] | (simp only [i64_w, i32_w]; rw [c37b0]) | skip)
                                          have H' := Aside0.mk H
                                          clear H
                                          go_wp2
                                          go_meet
                                          case rel => exact ⟨_, ((true == false)), (by first | rfl | (simp; done) | (simp [*]; done)), H', ⟨by have := HJ4.out; have := HJ7.out; have := HJ18.out; have := HK4.out; have := HJ27.out; first | omega | exact Nat.le_refl _⟩, by repeat (first | exact Drawn0.refl _ | apply Drawn0.step)⟩
                                      case rest => as_aux_lemma =>
                                        clear HC36
                                        try clear c1
                                        try clear p1
                                        try clear q1
                                        try clear hx1
                                        try clear c2
                                        try clear c2b0
                                        try clear c2b1
                                        try clear p2
                                        try clear q2
                                        try clear hx2
                                        try clear c3
                                        try clear c3b0
                                        try clear c3b1
                                        try clear c4
                                        try clear p4
                                        try clear q4
                                        try clear hx4
                                        try clear qi4
                                        try clear c6
                                        try clear c6b0
                                        try clear c6b1
                                        try clear p6
                                        try clear c7
                                        try clear c7b0
                                        try clear c7b1
                                        try clear c9
                                        try clear c9b0
                                        try clear c10
                                        try clear c10b0
                                        try clear c11
                                        try clear c11b0
                                        try clear p12
                                        try clear q12
                                        try clear hx12
                                        try clear c13
                                        try clear c13b0
                                        try clear c13b1
                                        try clear c15
                                        try clear c15b0
                                        try clear c16
                                        try clear c16b0
                                        try clear p17
                                        try clear q17
                                        try clear hx17
                                        try clear c18
                                        try clear c20
                                        try clear c22
                                        try clear c22b0
                                        try clear c23
                                        try clear c23b0
                                        try clear p24
                                        try clear q24
                                        try clear hx24
                                        try clear c25
                                        try clear c25b0
                                        try clear c25b1
                                        try clear c25b2
                                        try clear c26
                                        try clear c26b0
                                        try clear c26b1
                                        try clear c26b2
                                        try clear c27
                                        try clear c29
                                        try clear c29b0
                                        try clear c30
                                        try clear c32
                                        try clear c32b0
                                        try clear c32b1
                                        try clear c33
                                        try clear c34
                                        try clear c34b0
                                        try clear c35
                                        try clear c35b0
                                        try clear c35b1
                                        try clear c37
                                        try clear c37b0
                                        try clear c37b1
                                        try clear c39
                                        try clear c39b0
                                        try clear p1
                                        try clear p12
                                        try clear p17
                                        try clear p2
                                        try clear p24
                                        try clear p4
                                        try clear p6
                                        try clear q1
                                        try clear q12
                                        try clear q17
                                        try clear q2
                                        try clear q24
                                        try clear q4
                                        obtain ⟨kq, x109_35, rfl, HA, HJ35, ⟨mc35, rfl⟩⟩ := hcut
                                        cases kq with
                                        | zero => exact absurd HA.out (by simp [strconv_readFloat.j6])
                                        | succ kj35 =>
                                          have H := HA.out
                                          clear HA
                                          simp only [strconv_readFloat.j6] at H
                                          by_cases c41 : x109_35 = true
                                          · subst c41
                                            have H1 : (if x16_4 < x11_18 then ((strconv_lower.f (bt a0 x7_4)).bind fun t112 => (strconv_readFloat.l0 kj35 a0 (IntKind.u64.wrap ((IntKind.u64.wrap (x2_4 * 16)) + ((((t112 - 97) % 256) + 10) % 256))) 0 x4_4 x5_4 x6_18 (wrap64 (x7_4 + 1)) false x9_4 x10_18 x11_18 x12_18 x13_4 true (wrap64 (x15_4 + 1)) (wrap64 (x16_4 + 1)) x17_4)) else (strconv_readFloat.l0 kj35 a0 x2_4 0 x4_4 true x6_18 (wrap64 (x7_4 + 1)) false x9_4 x10_18 x11_18 x12_18 x13_4 true (wrap64 (x15_4 + 1)) x16_4 x17_4)) = some (r1, r2, r3, r4, r5, r6, r7) := by rw [if_pos rfl] at H; exact H
                                            clear H
                                            have H := H1
                                            clear H1
                                            by_cases c42 : x16_4 < x11_18
                                            · rw [if_pos c42] at H
                                              have c42b0 : decide (x16_4 < x11_18) = true := decide_eq_true c42
                                              clear c42
                                              replace H := Option.bind_eq_some_iff.mp H
                                              obtain ⟨t112, A430, H⟩ := H
                                              replace H : (strconv_readFloat.l0 kj35 a0 (IntKind.u64.wrap ((IntKind.u64.wrap (x2_4 * 16)) + ((((t112 - 97) % 256) + 10) % 256))) 0 x4_4 x5_4 x6_18 (wrap64 (x7_4 + 1)) false x9_4 x10_18 x11_18 x12_18 x13_4 true (wrap64 (x15_4 + 1)) (wrap64 (x16_4 + 1)) x17_4) = some (r1, r2, r3, r4, r5, r6, r7) := H
                                              have A43 := Aside0.mk A430
                                              clear A430
                                              have H' := Aside0.mk H
                                              clear H
                                              go_wp2_with (first | ((with_reducible refine gate_callee (f := 27) rfl ?_); refine goesL_ (some 132) rfl rfl Tryz.func27 (by kernel_rfl) rfl #[.int .u8 (bt a0 x7_4)] rfl (by (try simp only [List.map_toArray, List.map_cons, List.map_nil]); first | done | rfl | (simp only [List.length_drop, List.length_take]; rfl)) ?_; (with_reducible refine (strconv_lower.calls (bt a0 x7_4) t112 _ A43.out).mono ?_); rintro e w' ⟨rfl, ⟨nd, rfl⟩⟩; refine ⟨_, rfl, ?_⟩))
                                              go_roundg kj35
                                              case measure => have := HJ4.out; have := HJ7.out; have := HJ18.out; have := HK4.out; have := HJ27.out; have := HJ35.out; omega
                                              case rel => exact ⟨(IntKind.u64.wrap ((IntKind.u64.wrap (x2_4 * 16)) + ((((t112 - 97) % 256) + 10) % 256))), (x5_4), (wrap64 (x7_4 + 1)), (x9_4), (x13_4), (true), (wrap64 (x15_4 + 1)), (wrap64 (x16_4 + 1)), (x17_4), (by first | rfl | (simp; done) | (simp [*]; done)), (by first | rfl | (simp; done) | (simp [*]; done)), (by first | rfl | (simp; done) | (simp [*]; done)), (by first | rfl | (simp; done) | (simp [*]; done)), (by first | rfl | (simp; done) | (simp [*]; done)), (by first | rfl | (simp; done) | (simp [*]; done)), (by first | rfl | (simp; done) | (simp [*]; done)), (by first | rfl | (simp; done) | (simp [*]; done)), (by first | rfl | (simp; done) | (simp [*]; done)), H', ⟨by have := HJ4.out; have := HJ7.out; have := HJ18.out; have := HK4.out; have := HJ27.out; have := HJ35.out; omega⟩, by repeat (first | exact Drawn0.refl _ | apply Drawn0.step)⟩
                                            · rw [if_neg c42] at H
                                              have c42b0 : decide (x16_4 < x11_18) = false := decide_eq_false c42
                                              clear c42
                                              have H' := Aside0.mk H
                                              clear H
                                              go_wp2
                                              go_roundg kj35
                                              case measure => have := HJ4.out; have := HJ7.out; have := HJ18.out; have := HK4.out; have := HJ27.out; have := HJ35.out; omega
                                              case rel => exact ⟨(x2_4), (true), (wrap64 (x7_4 + 1)), (x9_4), (x13_4), (true), (wrap64 (x15_4 + 1)), (x16_4), (x17_4), (by first | rfl | (simp; done) | (simp [*]; done)), (by first | rfl | (simp; done) | (simp [*]; done)), (by first | rfl | (simp; done) | (simp [*]; done)), (by first | rfl | (simp; done) | (simp [*]; done)), (by first | rfl | (simp; done) | (simp [*]; done)), (by first | rfl | (simp; done) | (simp [*]; done)), (by first | rfl | (simp; done) | (simp [*]; done)), (by first | rfl | (simp; done) | (simp [*]; done)), (by first | rfl | (simp; done) | (simp [*]; done)), H', ⟨by have := HJ4.out; have := HJ7.out; have := HJ18.out; have := HK4.out; have := HJ27.out; have := HJ35.out; omega⟩, by repeat (first | exact Drawn0.refl _ | apply Drawn0.step)⟩
                                          · replace c41 := Bool.eq_false_iff.mpr c41
                                            subst c41
                                            have H1 : (strconv_readFloat.j7 kj35 a0 x2_4 0 x4_4 x5_4 x6_18 x7_4 false x9_4 x10_18 x12_18 x13_4 x14_4 x15_4 x16_4 x17_4) = some (r1, r2, r3, r4, r5, r6, r7) := by rw [if_neg (show ¬ (false = true) by decide)] at H; exact H
                                            clear H
                                            have H := H1
                                            clear H1
                                            have H' := Aside0.mk H
                                            clear H
                                            go_wp2
                                            go_meet
                                            case rel => exact ⟨_, (x2_4), (x5_4), (x7_4), (x9_4), (x13_4), (x14_4), (x15_4), (x16_4), (x17_4), (by first | rfl | (simp; done) | (simp [*]; done)), (by first | rfl | (simp; done) | (simp [*]; done)), (by first | rfl | (simp; done) | (simp [*]; done)), (by first | rfl | (simp; done) | (simp [*]; done)), (by first | rfl | (simp; done) | (simp [*]; done)), (by first | rfl | (simp; done) | (simp [*]; done)), (by first | rfl | (simp; done) | (simp [*]; done)), (by first | rfl | (simp; done) | (simp [*]; done)), (by first | rfl | (simp; done) | (simp [*]; done)), H', ⟨by have := HJ4.out; have := HJ7.out; have := HJ18.out; have := HK4.out; have := HJ27.out; have := HJ35.out; first | omega | exact Nat.le_refl _⟩, by repeat (first | exact Drawn0.refl _ | apply Drawn0.step)⟩
                          · rw [if_neg c23] at H
                            exact absurd H (by simp)
                        · rw [if_neg c22] at H
                          have c22b0 : decide (x7_4 < (a0.size : Int)) = false := decide_eq_false c22
                          clear c22
                          (first | rw [c22b0] | (simp only [i64_w, i32_w]; rw [c22b0]) | skip)
                          have H' := Aside0.mk H
                          clear H
                          go_wp2
                          go_meet
                          case rel => exact ⟨_, (x2_4), (x5_4), (x7_4), (x9_4), (x13_4), (x14_4), (x15_4), (x16_4), (x17_4), (by first | rfl | (simp; done) | (simp [*]; done)), (by first | rfl | (simp; done) | (simp [*]; done)), (by first | rfl | (simp; done) | (simp [*]; done)), (by first | rfl | (simp; done) | (simp [*]; done)), (by first | rfl | (simp; done) | (simp [*]; done)), (by first | rfl | (simp; done) | (simp [*]; done)), (by first | rfl | (simp; done) | (simp [*]; done)), (by first | rfl | (simp; done) | (simp [*]; done)), (by first | rfl | (simp; done) | (simp [*]; done)), H', ⟨by have := HJ4.out; have := HJ7.out; have := HJ18.out; have := HK4.out; first | omega | exact Nat.le_refl _⟩, by repeat (first | exact Drawn0.refl _ | apply Drawn0.step)⟩
                  case rest => as_aux_lemma =>
                    clear HC21
                    try clear c1
                    try clear p1
                    try clear q1
                    try clear hx1
                    try clear c2
                    try clear c2b0
                    try clear c2b1
                    try clear p2
                    try clear q2
                    try clear hx2
                    try clear c3
                    try clear c3b0
                    try clear c3b1
                    try clear c4
                    try clear p4
                    try clear q4
                    try clear hx4
                    try clear qi4
                    try clear c6
                    try clear c6b0
                    try clear c6b1
                    try clear p6
                    try clear c7
                    try clear c7b0
                    try clear c7b1
                    try clear c9
                    try clear c9b0
                    try clear c10
                    try clear c10b0
                    try clear c11
                    try clear c11b0
                    try clear p12
                    try clear q12
                    try clear hx12
                    try clear c13
                    try clear c13b0
                    try clear c13b1
                    try clear c15
                    try clear c15b0
                    try clear c16
                    try clear c16b0
                    try clear p17
                    try clear q17
                    try clear hx17
                    try clear c18
                    try clear c20
                    try clear c22
                    try clear c22b0
                    try clear c23
                    try clear c23b0
                    try clear p24
                    try clear q24
                    try clear hx24
                    try clear c25
                    try clear c25b0
                    try clear c25b1
                    try clear c25b2
                    try clear c26
                    try clear c26b0
                    try clear c26b1
                    try clear c26b2
                    try clear c27
                    try clear c29
                    try clear c29b0
                    try clear c30
                    try clear c32
                    try clear c32b0
                    try clear c32b1
                    try clear c33
                    try clear c34
                    try clear c34b0
                    try clear c35
                    try clear c35b0
                    try clear c35b1
                    try clear c37
                    try clear c37b0
                    try clear c37b1
                    try clear c39
                    try clear c39b0
                    try clear c41
                    try clear c42
                    try clear c42b0
                    try clear p1
                    try clear p12
                    try clear p17
                    try clear p2
                    try clear p24
                    try clear p4
                    try clear p6
                    try clear q1
                    try clear q12
                    try clear q17
                    try clear q2
                    try clear q24
                    try clear q4
                    obtain ⟨kq, x2_20, x5_20, x7_20, x9_20, x13_20, x14_20, x15_20, x16_20, x17_20, rfl, rfl, rfl, rfl, rfl, rfl, rfl, rfl, rfl, HA, HJ20, ⟨mc20, rfl⟩⟩ := hcut
                    cases kq with
                    | zero => exact absurd HA.out (by simp [strconv_readFloat.j7])
                    | succ kj20 =>
                      have H := HA.out
                      clear HA
                      simp only [strconv_readFloat.j7] at H
                      by_cases c44 : x14_20 = true
                      · subst c44
                        have H1 : (if x13_20 = true then (strconv_readFloat.j8 kj20 a0 x2_20 0 x4_4 x5_20 x6_18 x7_20 false x9_20 x10_18 x12_18 x16_20 x17_20) else (strconv_readFloat.j8 kj20 a0 x2_20 0 x4_4 x5_20 x6_18 x7_20 false x9_20 x10_18 x12_18 x16_20 x15_20)) = some (r1, r2, r3, r4, r5, r6, r7) := by rw [if_pos rfl] at H; exact H
                        clear H
                        have H := H1
                        clear H1
                        have HC45 := Aside0.mk H
                        clear H
                        go_upto_if 142 with (fail)
                        go_cut [17] (fun v17 wc => ∃ (kq : Nat) (x17_44 : Int), v17 = .int .i64 x17_44 ∧ Aside0 (strconv_readFloat.j8 kq a0 x2_20 0 x4_4 x5_20 x6_18 x7_20 false x9_20 x10_18 x12_18 x16_20 x17_44 = some (r1, r2, r3, r4, r5, r6, r7)) ∧ Aside0 (kq ≤ kj20) ∧ Drawn0 w wc)
                        case first => as_aux_lemma =>
                          have H := HC45.out
                          clear HC45
                          by_cases c46 : x13_20 = true
                          · subst c46
                            have H1 : (strconv_readFloat.j8 kj20 a0 x2_20 0 x4_4 x5_20 x6_18 x7_20 false x9_20 x10_18 x12_18 x16_20 x17_20) = some (r1, r2, r3, r4, r5, r6, r7) := by rw [if_pos rfl] at H; exact H
                            clear H
                            have H := H1
                            clear H1
                            have H' := Aside0.mk H
                            clear H
                            go_wp2
                            go_meet
                            case rel => exact ⟨_, (x17_20), (by first | rfl | (simp; done) | (simp [*]; done)), H', ⟨by have := HJ4.out; have := HJ7.out; have := HJ18.out; have := HJ20.out; first | omega | exact Nat.le_refl _⟩, by repeat (first | exact Drawn0.refl _ | apply Drawn0.step)⟩
                          · replace c46 := Bool.eq_false_iff.mpr c46
                            subst c46
                            have H1 : (strconv_readFloat.j8 kj20 a0 x2_20 0 x4_4 x5_20 x6_18 x7_20 false x9_20 x10_18 x12_18 x16_20 x15_20) = some (r1, r2, r3, r4, r5, r6, r7) := by rw [if_neg (show ¬ (false = true) by decide)] at H; exact H
                            clear H
                            have H := H1
                            clear H1
                            have H' := Aside0.mk H
                            clear H
                            go_wp2
                            go_meet
                            case rel => exact ⟨_, (x15_20), (by first | rfl | (simp; done) | (simp [*]; done)), H', ⟨by have := HJ4.out; have := HJ7.out; have := HJ18.out; have := HJ20.out; first | omega | exact Nat.le_refl _⟩, by repeat (first | exact Drawn0.refl _ | apply Drawn0.step)⟩
                        case rest => as_aux_lemma =>
                          clear HC45
                          try clear c1
                          try clear p1
                          try clear q1
                          try clear hx1
                          try clear c2
                          try clear c2b0
                          try clear c2b1
                          try clear p2
                          try clear q2
                          try clear hx2
                          try clear c3
                          try clear c3b0
                          try clear c3b1
                          try clear c4
                          try clear p4
                          try clear q4
                          try clear hx4
                          try clear qi4
                          try clear c6
                          try clear c6b0
                          try clear c6b1
                          try clear p6
                          try clear c7
                          try clear c7b0
                          try clear c7b1
                          try clear c9
                          try clear c9b0
                          try clear c10
                          try clear c10b0
                          try clear c11
                          try clear c11b0
                          try clear p12
                          try clear q12
                          try clear hx12
                          try clear c13
                          try clear c13b0
                          try clear c13b1
                          try clear c15
                          try clear c15b0
                          try clear c16
                          try clear c16b0
                          try clear p17
                          try clear q17
                          try clear hx17
                          try clear c18
                          try clear c20
                          try clear c22
                          try clear c22b0
                          try clear c23
                          try clear c23b0
                          try clear p24
                          try clear q24
                          try clear hx24
                          try clear c25
                          try clear c25b0
                          try clear c25b1
                          try clear c25b2
                          try clear c26
                          try clear c26b0
                          try clear c26b1
                          try clear c26b2
                          try clear c27
                          try clear c29
                          try clear c29b0
                          try clear c30
                          try clear c32
                          try clear c32b0
                          try clear c32b1
                          try clear c33
                          try clear c34
                          try clear c34b0
                          try clear c35
                          try clear c35b0
                          try clear c35b1
                          try clear c37
                          try clear c37b0
                          try clear c37b1
                          try clear c39
                          try clear c39b0
                          try clear c41
                          try clear c42
                          try clear c42b0
                          try clear c44
                          try clear c46
                          try clear p1
                          try clear p12
                          try clear p17
                          try clear p2
                          try clear p24
                          try clear p4
                          try clear p6
                          try clear q1
                          try clear q12
                          try clear q17
                          try clear q2
                          try clear q24
                          try clear q4
                          obtain ⟨kq, x17_44, rfl, HA, HJ44, ⟨mc44, rfl⟩⟩ := hcut
                          cases kq with
                          | zero => exact absurd HA.out (by simp [strconv_readFloat.j8])
                          | succ kj44 =>
                            have H := HA.out
                            clear HA
                            simp only [strconv_readFloat.j8] at H
                            have HC47 := Aside0.mk H
                            clear H
                            go_upto_if 145 with (fail)
                            go_cut [16, 17] (fun v16 v17 wc => ∃ (kq : Nat) (x16_46 : Int) (x17_46 : Int), v16 = .int .i64 x16_46 ∧ v17 = .int .i64 x17_46 ∧ Aside0 (strconv_readFloat.j9 kq a0 x2_20 0 x4_4 x5_20 x6_18 x7_20 false x9_20 x10_18 x12_18 x16_46 x17_46 = some (r1, r2, r3, r4, r5, r6, r7)) ∧ Aside0 (kq ≤ kj44) ∧ Drawn0 w wc)
                            case first => as_aux_lemma =>
                              have H := HC47.out
                              clear HC47
                              by_cases c48 : x10_18 = 16
                              · rw [if_pos c48] at H
                                have c48b0 : (x10_18 == 16) = true := beq_iff_eq.mpr c48
                                have c48b1 : (x10_18 != 16) = false := bne_eq_false_iff_eq.mpr c48
                                clear c48
                                (first | rw [c48b0] | (simp only [i64_w, i32_w]; rw [c48b0]) | skip)
                                have H' := Aside0.mk H
                                clear H
                                go_wp2
                                go_meet
                                case rel => exact ⟨_, (wrap64 (x16_20 * 4)), (wrap64 (x17_44 * 4)), (by first | rfl | (simp; done) | (simp [*]; done)), (by first | rfl | (simp; done) | (simp [*]; done)), H', ⟨by have := HJ4.out; have := HJ7.out; have := HJ18.out; have := HJ20.out; have := HJ44.out; first | omega | exact Nat.le_refl _⟩, by repeat (first | exact Drawn0.refl _ | apply Drawn0.step)⟩
                              · rw [if_neg c48] at H
                                have c48b0 : (x10_18 == 16) = false := beq_eq_false_iff_ne.mpr c48
                                have c48b1 : (x10_18 != 16) = true := bne_iff_ne.mpr c48
                                (first | rw [c48b0] | (simp only [i64_w, i32_w]; rw [c48b0]) | skip)
                                have H' := Aside0.mk H
                                clear H
                                go_wp2
                                go_meet
                                case rel => exact ⟨_, (x16_20), (x17_44), (by first | rfl | (simp; done) | (simp [*]; done)), (by first | rfl | (simp; done) | (simp [*]; done)), H', ⟨by have := HJ4.out; have := HJ7.out; have := HJ18.out; have := HJ20.out; have := HJ44.out; first | omega | exact Nat.le_refl _⟩, by repeat (first | exact Drawn0.refl _ | apply Drawn0.step)⟩
                            case rest => as_aux_lemma =>
                              clear HC47
                              try clear c1
                              try clear p1
                              try clear q1
                              try clear hx1
                              try clear c2
                              try clear c2b0
                              try clear c2b1
                              try clear p2
                              try clear q2
                              try clear hx2
                              try clear c3
                              try clear c3b0
                              try clear c3b1
                              try clear c4
                              try clear p4
                              try clear q4
                              try clear hx4
                              try clear qi4
                              try clear c6
                              try clear c6b0
                              try clear c6b1
                              try clear p6
                              try clear c7
                              try clear c7b0
                              try clear c7b1
                              try clear c9
                              try clear c9b0
                              try clear c10
                              try clear c10b0
                              try clear c11
                              try clear c11b0
                              try clear p12
                              try clear q12
                              try clear hx12
                              try clear c13
                              try clear c13b0
                              try clear c13b1
                              try clear c15
                              try clear c15b0
                              try clear c16
                              try clear c16b0
                              try clear p17
                              try clear q17
                              try clear hx17
                              try clear c18
                              try clear c20
                              try clear c22
                              try clear c22b0
                              try clear c23
                              try clear c23b0
                              try clear p24
                              try clear q24
                              try clear hx24
                              try clear c25
                              try clear c25b0
                              try clear c25b1
                              try clear c25b2
                              try clear c26
                              try clear c26b0
                              try clear c26b1
                              try clear c26b2
                              try clear c27
                              try clear c29
                              try clear c29b0
                              try clear c30
                              try clear c32
                              try clear c32b0
                              try clear c32b1
                              try clear c33
                              try clear c34
                              try clear c34b0
                              try clear c35
                              try clear c35b0
                              try clear c35b1
                              try clear c37
                              try clear c37b0
                              try clear c37b1
                              try clear c39
                              try clear c39b0
                              try clear c41
                              try clear c42
                              try clear c42b0
                              try clear c44
                              try clear c46
                              try clear c48
                              try clear c48b0
                              try clear c48b1
                              try clear p1
                              try clear p12
                              try clear p17
                              try clear p2
                              try clear p24
                              try clear p4
                              try clear p6
                              try clear q1
                              try clear q12
                              try clear q17
                              try clear q2
                              try clear q24
                              try clear q4
                              obtain ⟨kq, x16_46, x17_46, rfl, rfl, HA, HJ46, ⟨mc46, rfl⟩⟩ := hcut
                              cases kq with
                              | zero => exact absurd HA.out (by simp [strconv_readFloat.j9])
                              | succ kj46 =>
                                have H := HA.out
                                clear HA
                                simp only [strconv_readFloat.j9] at H
                                have HC49 := Aside0.mk H
                                clear H
                                go_upto_region 57 with (fail)
                                go_cut [161] (fun v161 wc => ∃ (kq : Nat) (x161_48 : Bool), v161 = .bool x161_48 ∧ Aside0 (strconv_readFloat.j10 kq a0 x2_20 0 x4_4 x5_20 x6_18 x7_20 false x9_20 x10_18 x16_46 x17_46 x161_48 = some (r1, r2, r3, r4, r5, r6, r7)) ∧ Aside0 (kq ≤ kj46) ∧ Drawn0 w wc)
                                case first => as_aux_lemma =>
                                  have H := HC49.out
                                  clear HC49
                                  by_cases c50 : x7_20 < (a0.size : Int)
                                  · rw [if_pos c50] at H
                                    have c50b0 : decide (x7_20 < (a0.size : Int)) = true := decide_eq_true c50
                                    clear c50
                                    (first | rw [c50b0] | (simp only [i64_w, i32_w]; rw [c50b0]) | skip)
                                    by_cases c51 : 0 ≤ x7_20
                                    · rw [if_pos c51] at H
                                      have c51b0 : decide (0 ≤ x7_20) = true := decide_eq_true c51
                                      clear c51
                                      replace H := Option.bind_eq_some_iff.mp H
                                      obtain ⟨t113, A530, H⟩ := H
                                      replace H : (strconv_readFloat.j10 kj46 a0 x2_20 0 x4_4 x5_20 x6_18 x7_20 false x9_20 x10_18 x16_46 x17_46 (t113 == x12_18)) = some (r1, r2, r3, r4, r5, r6, r7) := H
                                      have A53 := Aside0.mk A530
                                      clear A530
                                      have H' := Aside0.mk H
                                      clear H
                                      have p52 : 0 ≤ (x7_20 : Int) := of_decide_eq_true (by first | (with_reducible assumption) | assumption)
                                      have q52 : x7_20 < (a0.size : Int) := of_decide_eq_true (by first | (with_reducible assumption) | assumption)
                                      have hx52 := bt_at a0 x7_20
                                      replace p52 := eq_true p52
                                      replace q52 := eq_true q52
                                      go_wp2_with (first | (go_at_call 27; (with_reducible refine (strconv_lower.calls (bt a0 x7_20) t113 _ A53.out).mono ?_); rintro e w' ⟨rfl, ⟨nd, rfl⟩⟩))
                                      go_meet
                                      case rel => exact ⟨_, ((t113 == x12_18)), (by first | rfl | (simp; done) | (simp [*]; done)), H', ⟨by have := HJ4.out; have := HJ7.out; have := HJ18.out; have := HJ20.out; have := HJ44.out; have := HJ46.out; first | omega | exact Nat.le_refl _⟩, by repeat (first | exact Drawn0.refl _ | apply Drawn0.step)⟩
                                    · rw [if_neg c51] at H
                                      exact absurd H (by simp)
                                  · rw [if_neg c50] at H
                                    have c50b0 : decide (x7_20 < (a0.size : Int)) = false := decide_eq_false c50
                                    clear c50
                                    (first | rw [c50b0] | (simp only [i64_w, i32_w]; rw [c50b0]) | skip)
                                    have H' := Aside0.mk H
                                    clear H
                                    go_wp2
                                    go_meet
                                    case rel => exact ⟨_, (false), (by first | rfl | (simp; done) | (simp [*]; done)), H', ⟨by have := HJ4.out; have := HJ7.out; have := HJ18.out; have := HJ20.out; have := HJ44.out; have := HJ46.out; first | omega | exact Nat.le_refl _⟩, by repeat (first | exact Drawn0.refl _ | apply Drawn0.step)⟩
                                case rest => as_aux_lemma =>
                                  clear HC49
                                  try clear c1
                                  try clear p1
                                  try clear q1
                                  try clear hx1
                                  try clear c2
                                  try clear c2b0
                                  try clear c2b1
                                  try clear p2
                                  try clear q2
                                  try clear hx2
                                  try clear c3
                                  try clear c3b0
                                  try clear c3b1
                                  try clear c4
                                  try clear p4
                                  try clear q4
                                  try clear hx4
                                  try clear qi4
                                  try clear c5
                                  try clear p5
                                  try clear q5
                                  try clear hx5
                                  try clear c6
                                  try clear c6b0
                                  try clear c6b1
                                  try clear p6
                                  try clear c7
                                  try clear c7b0
                                  try clear c7b1
                                  try clear c9
                                  try clear c9b0
                                  try clear c10
                                  try clear c10b0
                                  try clear c11
                                  try clear c11b0
                                  try clear p12
                                  try clear q12
                                  try clear hx12
                                  try clear c13
                                  try clear c13b0
                                  try clear c13b1
                                  try clear c15
                                  try clear c15b0
                                  try clear c16
                                  try clear c16b0
                                  try clear p17
                                  try clear q17
                                  try clear hx17
                                  try clear c18
                                  try clear c20
                                  try clear c22
                                  try clear c22b0
                                  try clear c23
                                  try clear c23b0
                                  try clear p24
                                  try clear q24
                                  try clear hx24
                                  try clear c25
                                  try clear c25b0
                                  try clear c25b1
                                  try clear c25b2
                                  try clear c26
                                  try clear c26b0
                                  try clear c26b1
                                  try clear c26b2
                                  try clear c27
                                  try clear c29
                                  try clear c29b0
                                  try clear c30
                                  try clear c32
                                  try clear c32b0
                                  try clear c32b1
                                  try clear c33
                                  try clear c34
                                  try clear c34b0
                                  try clear c35
                                  try clear c35b0
                                  try clear c35b1
                                  try clear c37
                                  try clear c37b0
                                  try clear c37b1
                                  try clear c39
                                  try clear c39b0
                                  try clear c41
                                  try clear c42
                                  try clear c42b0
                                  try clear c44
                                  try clear c46
                                  try clear c48
                                  try clear c48b0
                                  try clear c48b1
                                  try clear c50
                                  try clear c50b0
                                  try clear c51
                                  try clear c51b0
                                  try clear p52
                                  try clear q52
                                  try clear hx52
                                  try clear p1
                                  try clear p12
                                  try clear p17
                                  try clear p2
                                  try clear p24
                                  try clear p4
                                  try clear p52
                                  try clear p6
                                  try clear q1
                                  try clear q12
                                  try clear q17
                                  try clear q2
                                  try clear q24
                                  try clear q4
                                  try clear q52
                                  obtain ⟨kq, x161_48, rfl, HA, HJ48, ⟨mc48, rfl⟩⟩ := hcut
                                  cases kq with
                                  | zero => exact absurd HA.out (by simp [strconv_readFloat.j10])
                                  | succ kj48 =>
                                    have H := HA.out
                                    clear HA
                                    simp only [strconv_readFloat.j10] at H
                                    have HC54 := Aside0.mk H
                                    clear H
                                    go_upto_if 161 with (fail)
                                    go_cut [7, 9, 17] (fun v7 v9 v17 wc => ∃ (kq : Nat) (x7_53 : Int) (x9_53 : Bool) (x17_53 : Int), v7 = .int .i64 x7_53 ∧ v9 = .bool x9_53 ∧ v17 = .int .i64 x17_53 ∧ Aside0 (strconv_readFloat.j15 kq a0 x2_20 0 x4_4 x5_20 x6_18 x7_53 false x9_53 x16_46 x17_53 = some (r1, r2, r3, r4, r5, r6, r7)) ∧ Aside0 (kq ≤ kj48) ∧ Drawn0 w wc)
                                    case first => as_aux_lemma =>
                                      have H := HC54.out
                                      clear HC54
                                      by_cases c55 : x161_48 = true
                                      · subst c55
                                        have H1 : (if (wrap64 (x7_20 + 1)) ≥ (a0.size : Int) then (some (x2_20, 0, x4_4, x5_20, x6_18, wrap64 (x7_20 + 1), false)) else (if 0 ≤ (wrap64 (x7_20 + 1)) then (if (wrap64 (x7_20 + 1)) < (a0.size : Int) then (if (bt a0 (wrap64 (x7_20 + 1))) = 43 then (strconv_readFloat.j11 kj48 a0 x2_20 0 x4_4 x5_20 x6_18 (wrap64 ((wrap64 (x7_20 + 1)) + 1)) false x9_20 x16_46 x17_46 1) else (if (bt a0 (wrap64 (x7_20 + 1))) = 45 then (strconv_readFloat.j11 kj48 a0 x2_20 0 x4_4 x5_20 x6_18 (wrap64 ((wrap64 (x7_20 + 1)) + 1)) false x9_20 x16_46 x17_46 (-1)) else (strconv_readFloat.j11 kj48 a0 x2_20 0 x4_4 x5_20 x6_18 (wrap64 (x7_20 + 1)) false x9_20 x16_46 x17_46 1))) else (none)) else (none))) = some (r1, r2, r3, r4, r5, r6, r7) := by rw [if_pos rfl] at H; exact H
                                        clear H
                                        have H := H1
                                        clear H1
                                        by_cases c56 : (wrap64 (x7_20 + 1)) ≥ (a0.size : Int)
                                        · rw [if_pos c56] at H
                                          have c56b0 : decide ((a0.size : Int) ≤ (wrap64 (x7_20 + 1))) = true := decide_eq_true c56
                                          clear c56
                                          (first | rw [c56b0] | (simp only [i64_w, i32_w]; rw [c56b0]) | skip)
                                          simp only [Option.some.injEq, Prod.mk.injEq] at H
                                          obtain ⟨rfl, rfl, rfl, rfl, rfl, rfl, rfl⟩ := H
                                          go_wp2
                                          try rw [Exit.noGoto_ret]
                                          refine bodyPost_ret (results_list (rs := [.tmp 2, .tmp 3, .tmp 4, .tmp 5, .tmp 6, .tmp 7, .tmp 8]) rfl (by simp) (.tmp (.tmp (.tmp (.tmp (.tmp (.tmp (.tmp .nil)))))))) rfl ?_
                                          exact ⟨by first | rfl | (simp; done) | (simp [*]; done), by repeat (first | exact Drawn0.refl _ | apply Drawn0.step)⟩
                                        · rw [if_neg c56] at H
                                          have c56b0 : decide ((a0.size : Int) ≤ (wrap64 (x7_20 + 1))) = false := decide_eq_false c56
                                          clear c56
                                          (first | rw [c56b0] | (simp only [i64_w, i32_w]; rw [c56b0]) | skip)
                                          obtain ⟨ji57, hji57⟩ : ∃ j_ : Int, (wrap64 (x7_20 + 1)) = j_ := ⟨_, rfl⟩
                                          replace H : (if 0 ≤ (ji57) then (if (ji57) < (a0.size : Int) then (if (bt a0 (ji57)) = 43 then (strconv_readFloat.j11 kj48 a0 x2_20 0 x4_4 x5_20 x6_18 (wrap64 ((ji57) + 1)) false x9_20 x16_46 x17_46 1) else (if (bt a0 (ji57)) = 45 then (strconv_readFloat.j11 kj48 a0 x2_20 0 x4_4 x5_20 x6_18 (wrap64 ((ji57) + 1)) false x9_20 x16_46 x17_46 (-1)) else (strconv_readFloat.j11 kj48 a0 x2_20 0 x4_4 x5_20 x6_18 ji57 false x9_20 x16_46 x17_46 1))) else (none)) else (none)) = some (r1, r2, r3, r4, r5, r6, r7) := by first | (rw [hji57] at H; exact H) | (simp only [hji57] at H ⊢; exact H)
                                          (try rw [hji57] at c56b0)
                                          have hji57w : (IntKind.i64.wrap (x7_20 + 1)) = ji57 := (i64_w _).trans hji57
                                          by_cases c58 : 0 ≤ (ji57)
                                          · rw [if_pos c58] at H
                                            have c58b0 : decide (0 ≤ (ji57)) = true := decide_eq_true c58
                                            clear c58
                                            by_cases c59 : (ji57) < (a0.size : Int)
                                            · rw [if_pos c59] at H
                                              have c59b0 : decide ((ji57) < (a0.size : Int)) = true := decide_eq_true c59
                                              clear c59
                                              have HC61 := Aside0.mk H
                                              clear H
                                              have p60 : 0 ≤ ((ji57) : Int) := of_decide_eq_true (by first | (with_reducible assumption) | assumption)
                                              have q60 : (ji57) < (a0.size : Int) := of_decide_eq_true (by first | (with_reducible assumption) | assumption)
                                              have hx60 := bt_at a0 (ji57)
                                              replace p60 := eq_true p60
                                              replace q60 := eq_true q60
                                              go_upto_block 4 with (fail)
                                              go_cut [7, 19] (fun v7 v19 wc => ∃ (kq : Nat) (x7_60 : Int) (x19_60 : Int), v7 = .int .i64 x7_60 ∧ v19 = .int .i64 x19_60 ∧ Aside0 (strconv_readFloat.j11 kq a0 x2_20 0 x4_4 x5_20 x6_18 x7_60 false x9_20 x16_46 x17_46 x19_60 = some (r1, r2, r3, r4, r5, r6, r7)) ∧ Aside0 (kq ≤ kj48) ∧ Drawn0 w wc)
                                              case first => as_aux_lemma =>
                                                have H := HC61.out
                                                clear HC61
                                                by_cases c62 : (bt a0 (ji57)) = 43
                                                · rw [if_pos c62] at H
                                                  have c62b0 : ((bt a0 (ji57)) == 43) = true := beq_iff_eq.mpr c62
                                                  have c62b1 : ((bt a0 (ji57)) != 43) = false := bne_eq_false_iff_eq.mpr c62
                                                  clear c62
                                                  (first | rw [c62b0] | (simp only [i64_w, i32_w]; rw [c62b0]) | skip)
                                                  have H' := Aside0.mk H
                                                  clear H
                                                  go_wp2
                                                  go_meet
                                                  case rel => exact ⟨_, (wrap64 ((ji57) + 1)), (1), (by first | rfl | (simp; done) | (simp only [← hji57] <;> (first | rfl | simp)) | (simp [*]; done)), (by first | rfl | (simp; done) | (simp [*]; done)), H', ⟨by have := HJ4.out; have := HJ7.out; have := HJ18.out; have := HJ20.out; have := HJ44.out; have := HJ46.out; have := HJ48.out; first | omega | exact Nat.le_refl _⟩, by repeat (first | exact Drawn0.refl _ | apply Drawn0.step)⟩
                                                · rw [if_neg c62] at H
                                                  have c62b0 : ((bt a0 (ji57)) == 43) = false := beq_eq_false_iff_ne.mpr c62
                                                  have c62b1 : ((bt a0 (ji57)) != 43) = true := bne_iff_ne.mpr c62
                                                  (first | rw [c62b0] | (simp only [i64_w, i32_w]; rw [c62b0]) | skip)
                                                  by_cases c63 : (bt a0 (ji57)) = 45
                                                  · rw [if_pos c63] at H
                                                    have c63b0 : ((bt a0 (ji57)) == 45) = true := beq_iff_eq.mpr c63
                                                    have c63b1 : ((bt a0 (ji57)) != 45) = false := bne_eq_false_iff_eq.mpr c63
                                                    clear c63
                                                    have H' := Aside0.mk H
                                                    clear H
                                                    go_wp2
                                                    go_meet
                                                    case rel => exact ⟨_, (wrap64 ((ji57) + 1)), ((-1)), (by first | rfl | (simp; done) | (simp only [← hji57] <;> (first | rfl | simp)) | (simp [*]; done)), (by first | rfl | (simp; done) | (simp [*]; done)), H', ⟨by have := HJ4.out; have := HJ7.out; have := HJ18.out; have := HJ20.out; have := HJ44.out; have := HJ46.out; have := HJ48.out; first | omega | exact Nat.le_refl _⟩, by repeat (first | exact Drawn0.refl _ | apply Drawn0.step)⟩
                                                  · rw [if_neg c63] at H
                                                    have c63b0 : ((bt a0 (ji57)) == 45) = false := beq_eq_false_iff_ne.mpr c63
                                                    have c63b1 : ((bt a0 (ji57)) != 45) = true := bne_iff_ne.mpr c63
                                                    have H' := Aside0.mk H
                                                    clear H
                                                    go_wp2
                                                    go_meet
                                                    case rel => exact ⟨_, (ji57), (1), (by first | rfl | (simp; done) | (simp only [← hji57] <;> (first | rfl | simp)) | (simp [*]; done)), (by first | rfl | (simp; done) | (simp [*]; done)), H', ⟨by have := HJ4.out; have := HJ7.out; have := HJ18.out; have := HJ20.out; have := HJ44.out; have := HJ46.out; have := HJ48.out; first | omega | exact Nat.le_refl _⟩, by repeat (first | exact Drawn0.refl _ | apply Drawn0.step)⟩
                                              case rest => as_aux_lemma =>
                                                clear HC61
                                                try clear c1
                                                try clear p1
                                                try clear q1
                                                try clear hx1
                                                try clear c2
                                                try clear c2b0
                                                try clear c2b1
                                                try clear p2
                                                try clear q2
                                                try clear hx2
                                                try clear c3
                                                try clear c3b0
                                                try clear c3b1
                                                try clear c4
                                                try clear p4
                                                try clear q4
                                                try clear hx4
                                                try clear qi4
                                                try clear c5
                                                try clear p5
                                                try clear q5
                                                try clear hx5
                                                try clear c6
                                                try clear c6b0
                                                try clear c6b1
                                                try clear p6
                                                try clear q6
                                                try clear hx6
                                                try clear c7
                                                try clear c7b0
                                                try clear c7b1
                                                try clear c9
                                                try clear c9b0
                                                try clear c10
                                                try clear c10b0
                                                try clear c11
                                                try clear c11b0
                                                try clear p12
                                                try clear q12
                                                try clear hx12
                                                try clear c13
                                                try clear c13b0
                                                try clear c13b1
                                                try clear c15
                                                try clear c15b0
                                                try clear c16
                                                try clear c16b0
                                                try clear p17
                                                try clear q17
                                                try clear hx17
                                                try clear c18
                                                try clear c20
                                                try clear c22
                                                try clear c22b0
                                                try clear c23
                                                try clear c23b0
                                                try clear p24
                                                try clear q24
                                                try clear hx24
                                                try clear c25
                                                try clear c25b0
                                                try clear c25b1
                                                try clear c25b2
                                                try clear c26
                                                try clear c26b0
                                                try clear c26b1
                                                try clear c26b2
                                                try clear c27
                                                try clear c29
                                                try clear c29b0
                                                try clear c30
                                                try clear c32
                                                try clear c32b0
                                                try clear c32b1
                                                try clear c33
                                                try clear c34
                                                try clear c34b0
                                                try clear c35
                                                try clear c35b0
                                                try clear c35b1
                                                try clear c37
                                                try clear c37b0
                                                try clear c37b1
                                                try clear c39
                                                try clear c39b0
                                                try clear c41
                                                try clear c42
                                                try clear c42b0
                                                try clear c44
                                                try clear c46
                                                try clear c48
                                                try clear c48b0
                                                try clear c48b1
                                                try clear c50
                                                try clear c50b0
                                                try clear c51
                                                try clear c51b0
                                                try clear p52
                                                try clear q52
                                                try clear hx52
                                                try clear c55
                                                try clear c56
                                                try clear c56b0
                                                try clear c58
                                                try clear c58b0
                                                try clear c59
                                                try clear c59b0
                                                try clear p60
                                                try clear q60
                                                try clear hx60
                                                try clear c62
                                                try clear c62b0
                                                try clear c62b1
                                                try clear c63
                                                try clear c63b0
                                                try clear c63b1
                                                try clear p1
                                                try clear p12
                                                try clear p17
                                                try clear p2
                                                try clear p24
                                                try clear p4
                                                try clear p5
                                                try clear p52
                                                try clear p6
                                                try clear p60
                                                try clear q1
                                                try clear q12
                                                try clear q17
                                                try clear q2
                                                try clear q24
                                                try clear q4
                                                try clear q5
                                                try clear q52
                                                try clear q60
                                                obtain ⟨kq, x7_60, x19_60, rfl, rfl, HA, HJ60, ⟨mc60, rfl⟩⟩ := hcut
                                                cases kq with
                                                | zero => exact absurd HA.out (by simp [strconv_readFloat.j11])
                                                | succ kj60 =>
                                                  have H := HA.out
                                                  clear HA
                                                  simp only [strconv_readFloat.j11] at H
                                                  have HC64 := Aside0.mk H
                                                  clear H
                                                  go_upto_region 67 with (fail)
                                                  go_cut [194] (fun v194 wc => ∃ (kq : Nat) (x194_63 : Bool), v194 = .bool x194_63 ∧ Aside0 (strconv_readFloat.j12 kq a0 x2_20 0 x4_4 x5_20 x6_18 x7_60 false x9_20 x16_46 x17_46 x19_60 x194_63 = some (r1, r2, r3, r4, r5, r6, r7)) ∧ Aside0 (kq ≤ kj60) ∧ Drawn0 w wc)
                                                  case first => as_aux_lemma =>
                                                    have H := HC64.out
                                                    clear HC64
                                                    by_cases c65 : x7_60 ≥ (a0.size : Int)
                                                    · rw [if_pos c65] at H
                                                      have c65b0 : decide ((a0.size : Int) ≤ x7_60) = true := decide_eq_true c65
                                                      clear c65
                                                      (first | rw [c65b0] | (simp only [i64_w, i32_w]; rw [c65b0]) | skip)
                                                      have H' := Aside0.mk H
                                                      clear H
                                                      go_wp2
                                                      go_meet
                                                      case rel => exact ⟨_, (true), (by first | rfl | (simp; done) | (simp [*]; done)), H', ⟨by have := HJ4.out; have := HJ7.out; have := HJ18.out; have := HJ20.out; have := HJ44.out; have := HJ46.out; have := HJ48.out; have := HJ60.out; first | omega | exact Nat.le_refl _⟩, by repeat (first | exact Drawn0.refl _ | apply Drawn0.step)⟩
                                                    · rw [if_neg c65] at H
                                                      have c65b0 : decide ((a0.size : Int) ≤ x7_60) = false := decide_eq_false c65
                                                      clear c65
                                                      (first | rw [c65b0] | (simp only [i64_w, i32_w]; rw [c65b0]) | skip)
                                                      by_cases c66 : 0 ≤ x7_60
                                                      · rw [if_pos c66] at H
                                                        have c66b0 : decide (0 ≤ x7_60) = true := decide_eq_true c66
                                                        clear c66
                                                        by_cases c67 : x7_60 < (a0.size : Int)
                                                        · rw [if_pos c67] at H
                                                          have c67b0 : decide (x7_60 < (a0.size : Int)) = true := decide_eq_true c67
                                                          clear c67
                                                          by_cases c69 : (bt a0 x7_60) < 48
                                                          · rw [if_pos c69] at H
                                                            have c69b0 : decide ((bt a0 x7_60) < 48) = true := decide_eq_true c69
                                                            clear c69
                                                            have H' := Aside0.mk H
                                                            clear H
                                                            have p68 : 0 ≤ (x7_60 : Int) := of_decide_eq_true (by first | (with_reducible assumption) | assumption)
                                                            have q68 : x7_60 < (a0.size : Int) := of_decide_eq_true (by first | (with_reducible assumption) | assumption)
                                                            have hx68 := bt_at a0 x7_60
                                                            replace p68 := eq_true p68
                                                            replace q68 := eq_true q68
                                                            go_wp2
                                                            go_meet
                                                            case rel => exact ⟨_, (true), (by first | rfl | (simp; done) | (simp [*]; done)), H', ⟨by have := HJ4.out; have := HJ7.out; have := HJ18.out; have := HJ20.out; have := HJ44.out; have := HJ46.out; have := HJ48.out; have := HJ60.out; first | omega | exact Nat.le_refl _⟩, by repeat (first | exact Drawn0.refl _ | apply Drawn0.step)⟩
                                                          · rw [if_neg c69] at H
                                                            have c69b0 : decide ((bt a0 x7_60) < 48) = false := decide_eq_false c69
                                                            clear c69
                                                            have H' := Aside0.mk H
                                                            clear H
                                                            have p68 : 0 ≤ (x7_60 : Int) := of_decide_eq_true (by first | (with_reducible assumption) | assumption)
                                                            have q68 : x7_60 < (a0.size : Int) := of_decide_eq_true (by first | (with_reducible assumption) | assumption)
                                                            have hx68 := bt_at a0 x7_60
                                                            replace p68 := eq_true p68
                                                            replace q68 := eq_true q68
                                                            have p70 : 0 ≤ (x7_60 : Int) := of_decide_eq_true (by first | (with_reducible assumption) | assumption)
                                                            have q70 : x7_60 < (a0.size : Int) := of_decide_eq_true (by first | (with_reducible assumption) | assumption)
                                                            have hx70 := bt_at a0 x7_60
                                                            replace p70 := eq_true p70
                                                            replace q70 := eq_true q70
                                                            go_wp2
                                                            go_meet
                                                            case rel => exact ⟨_, (decide ((bt a0 x7_60) > 57)), (by first | rfl | (simp; done) | (simp [*]; done)), H', ⟨by have := HJ4.out; have := HJ7.out; have := HJ18.out; have := HJ20.out; have := HJ44.out; have := HJ46.out; have := HJ48.out; have := HJ60.out; first | omega | exact Nat.le_refl _⟩, by repeat (first | exact Drawn0.refl _ | apply Drawn0.step)⟩
                                                        · rw [if_neg c67] at H
                                                          exact absurd H (by simp)
                                                      · rw [if_neg c66] at H
                                                        exact absurd H (by simp)
                                                  case rest => as_aux_lemma =>
                                                    clear HC64
                                                    try clear c1
                                                    try clear p1
                                                    try clear q1
                                                    try clear hx1
                                                    try clear c2
                                                    try clear c2b0
                                                    try clear c2b1
                                                    try clear p2
                                                    try clear q2
                                                    try clear hx2
                                                    try clear c3
                                                    try clear c3b0
                                                    try clear c3b1
                                                    try clear c4
                                                    try clear p4
                                                    try clear q4
                                                    try clear hx4
                                                    try clear qi4
                                                    try clear c5
                                                    try clear p5
                                                    try clear q5
                                                    try clear hx5
                                                    try clear c6
                                                    try clear c6b0
                                                    try clear c6b1
                                                    try clear p6
                                                    try clear q6
                                                    try clear hx6
                                                    try clear c7
                                                    try clear c7b0
                                                    try clear c7b1
                                                    try clear p7
                                                    try clear q7
                                                    try clear hx7
                                                    try clear c9
                                                    try clear c9b0
                                                    try clear c10
                                                    try clear c10b0
                                                    try clear c11
                                                    try clear c11b0
                                                    try clear p12
                                                    try clear q12
                                                    try clear hx12
                                                    try clear c13
                                                    try clear c13b0
                                                    try clear c13b1
                                                    try clear c15
                                                    try clear c15b0
                                                    try clear c16
                                                    try clear c16b0
                                                    try clear p17
                                                    try clear q17
                                                    try clear hx17
                                                    try clear c18
                                                    try clear c20
                                                    try clear c22
                                                    try clear c22b0
                                                    try clear c23
                                                    try clear c23b0
                                                    try clear p24
                                                    try clear q24
                                                    try clear hx24
                                                    try clear c25
                                                    try clear c25b0
                                                    try clear c25b1
                                                    try clear c25b2
                                                    try clear c26
                                                    try clear c26b0
                                                    try clear c26b1
                                                    try clear c26b2
                                                    try clear c27
                                                    try clear c29
                                                    try clear c29b0
                                                    try clear c30
                                                    try clear c32
                                                    try clear c32b0
                                                    try clear c32b1
                                                    try clear c33
                                                    try clear c34
                                                    try clear c34b0
                                                    try clear c35
                                                    try clear c35b0
                                                    try clear c35b1
                                                    try clear c37
                                                    try clear c37b0
                                                    try clear c37b1
                                                    try clear c39
                                                    try clear c39b0
                                                    try clear c41
                                                    try clear c42
                                                    try clear c42b0
                                                    try clear c44
                                                    try clear c46
                                                    try clear c48
                                                    try clear c48b0
                                                    try clear c48b1
                                                    try clear c50
                                                    try clear c50b0
                                                    try clear c51
                                                    try clear c51b0
                                                    try clear p52
                                                    try clear q52
                                                    try clear hx52
                                                    try clear c55
                                                    try clear c56
                                                    try clear c56b0
                                                    try clear c58
                                                    try clear c58b0
                                                    try clear c59
                                                    try clear c59b0
                                                    try clear c60
                                                    try clear p60
                                                    try clear q60
                                                    try clear hx60
                                                    try clear c62
                                                    try clear c62b0
                                                    try clear c62b1
                                                    try clear c63
                                                    try clear c63b0
                                                    try clear c63b1
                                                    try clear p64
                                                    try clear c65
                                                    try clear c65b0
                                                    try clear c66
                                                    try clear c66b0
                                                    try clear c67
                                                    try clear c67b0
                                                    try clear p68
                                                    try clear q68
                                                    try clear hx68
                                                    try clear c69
                                                    try clear c69b0
                                                    try clear p70
                                                    try clear q70
                                                    try clear hx70
                                                    try clear p1
                                                    try clear p12
                                                    try clear p17
                                                    try clear p2
                                                    try clear p24
                                                    try clear p4
                                                    try clear p5
                                                    try clear p52
                                                    try clear p6
                                                    try clear p60
                                                    try clear p68
                                                    try clear p70
                                                    try clear q1
                                                    try clear q12
                                                    try clear q17
                                                    try clear q2
                                                    try clear q24
                                                    try clear q4
                                                    try clear q5
                                                    try clear q52
                                                    try clear q6
                                                    try clear q60
                                                    try clear q68
                                                    try clear q70
                                                    obtain ⟨kq, x194_63, rfl, HA, HJ63, ⟨mc63, rfl⟩⟩ := hcut
                                                    cases kq with
                                                    | zero => exact absurd HA.out (by simp [strconv_readFloat.j12])
                                                    | succ kj63 =>
                                                      have H := HA.out
                                                      clear HA
                                                      simp only [strconv_readFloat.j12] at H
                                                      by_cases c71 : x194_63 = true
                                                      · subst c71
                                                        have H1 : (some (x2_20, 0, x4_4, x5_20, x6_18, x7_60, false)) = some (r1, r2, r3, r4, r5, r6, r7) := by rw [if_pos rfl] at H; exact H
                                                        clear H
                                                        have H := H1
                                                        clear H1
                                                        simp only [Option.some.injEq, Prod.mk.injEq] at H
                                                        obtain ⟨rfl, rfl, rfl, rfl, rfl, rfl, rfl⟩ := H
                                                        go_wp2
                                                        try rw [Exit.noGoto_ret]
                                                        refine bodyPost_ret (results_list (rs := [.tmp 2, .tmp 3, .tmp 4, .tmp 5, .tmp 6, .tmp 7, .tmp 8]) rfl (by simp) (.tmp (.tmp (.tmp (.tmp (.tmp (.tmp (.tmp .nil)))))))) rfl ?_
                                                        exact ⟨by first | rfl | (simp; done) | (simp only [← hji57] <;> (first | rfl | simp)) | (simp [*]; done), by repeat (first | exact Drawn0.refl _ | apply Drawn0.step)⟩
                                                      · replace c71 := Bool.eq_false_iff.mpr c71
                                                        subst c71
                                                        have H1 : (strconv_readFloat.l1 kj63 a0 x2_20 0 x4_4 x5_20 x6_18 x7_60 false x9_20 x16_46 x17_46 x19_60 0) = some (r1, r2, r3, r4, r5, r6, r7) := by rw [if_neg (show ¬ (false = true) by decide)] at H; exact H
                                                        clear H
                                                        have H := H1
                                                        clear H1
                                                        have H' := Aside0.mk H
                                                        clear H
                                                        go_wp2
                                                        go_loopg [7, 9, 20] kj63 (fun kq v7 v9 v20 w' => ∃ (x7_10 : Int) (x9_10 : Bool) (x20_10 : Int), v7 = .int .i64 x7_10 ∧ v9 = .bool x9_10 ∧ v20 = .int .i64 x20_10 ∧ Aside0 (strconv_readFloat.l1 kq a0 x2_20 0 x4_4 x5_20 x6_18 x7_10 false x9_10 x16_46 x17_46 x19_60 x20_10 = some (r1, r2, r3, r4, r5, r6, r7)) ∧ Aside0 (kq ≤ kj63) ∧ Drawn0 w w')
                                                        case atStart => exact ⟨(x7_60), (x9_20), (0), (by first | rfl | (simp; done) | (simp [*]; done)), (by first | rfl | (simp; done) | (simp [*]; done)), (by first | rfl | (simp; done) | (simp [*]; done)), H', ⟨Nat.le_refl _⟩, by repeat (first | exact Drawn0.refl _ | apply Drawn0.step)⟩
                                                        case round =>
                                                          clear H'
                                                          try clear c1
                                                          try clear p1
                                                          try clear q1
                                                          try clear hx1
                                                          try clear c2
                                                          try clear c2b0
                                                          try clear c2b1
                                                          try clear p2
                                                          try clear q2
                                                          try clear hx2
                                                          try clear c3
                                                          try clear c3b0
                                                          try clear c3b1
                                                          try clear c4
                                                          try clear p4
                                                          try clear q4
                                                          try clear hx4
                                                          try clear qi4
                                                          try clear c5
                                                          try clear p5
                                                          try clear q5
                                                          try clear hx5
                                                          try clear c6
                                                          try clear c6b0
                                                          try clear c6b1
                                                          try clear p6
                                                          try clear q6
                                                          try clear hx6
                                                          try clear c7
                                                          try clear c7b0
                                                          try clear c7b1
                                                          try clear p7
                                                          try clear q7
                                                          try clear hx7
                                                          try clear c9
                                                          try clear c9b0
                                                          try clear c10
                                                          try clear c10b0
                                                          try clear c11
                                                          try clear c11b0
                                                          try clear p12
                                                          try clear q12
                                                          try clear hx12
                                                          try clear c13
                                                          try clear c13b0
                                                          try clear c13b1
                                                          try clear c15
                                                          try clear c15b0
                                                          try clear c16
                                                          try clear c16b0
                                                          try clear p17
                                                          try clear q17
                                                          try clear hx17
                                                          try clear c18
                                                          try clear c20
                                                          try clear c22
                                                          try clear c22b0
                                                          try clear c23
                                                          try clear c23b0
                                                          try clear p24
                                                          try clear q24
                                                          try clear hx24
                                                          try clear c25
                                                          try clear c25b0
                                                          try clear c25b1
                                                          try clear c25b2
                                                          try clear c26
                                                          try clear c26b0
                                                          try clear c26b1
                                                          try clear c26b2
                                                          try clear c27
                                                          try clear c29
                                                          try clear c29b0
                                                          try clear c30
                                                          try clear c32
                                                          try clear c32b0
                                                          try clear c32b1
                                                          try clear c33
                                                          try clear c34
                                                          try clear c34b0
                                                          try clear c35
                                                          try clear c35b0
                                                          try clear c35b1
                                                          try clear c37
                                                          try clear c37b0
                                                          try clear c37b1
                                                          try clear c39
                                                          try clear c39b0
                                                          try clear c41
                                                          try clear c42
                                                          try clear c42b0
                                                          try clear c44
                                                          try clear c46
                                                          try clear c48
                                                          try clear c48b0
                                                          try clear c48b1
                                                          try clear c50
                                                          try clear c50b0
                                                          try clear c51
                                                          try clear c51b0
                                                          try clear p52
                                                          try clear q52
                                                          try clear hx52
                                                          try clear c55
                                                          try clear c56
                                                          try clear c56b0
                                                          try clear c58
                                                          try clear c58b0
                                                          try clear c59
                                                          try clear c59b0
                                                          try clear c60
                                                          try clear p60
                                                          try clear q60
                                                          try clear hx60
                                                          try clear c62
                                                          try clear c62b0
                                                          try clear c62b1
                                                          try clear c63
                                                          try clear c63b0
                                                          try clear c63b1
                                                          try clear p64
                                                          try clear c65
                                                          try clear c65b0
                                                          try clear c66
                                                          try clear c66b0
                                                          try clear c67
                                                          try clear c67b0
                                                          try clear p68
                                                          try clear q68
                                                          try clear hx68
                                                          try clear c69
                                                          try clear c69b0
                                                          try clear p70
                                                          try clear q70
                                                          try clear hx70
                                                          try clear c71
                                                          try clear p1
                                                          try clear p12
                                                          try clear p17
                                                          try clear p2
                                                          try clear p24
                                                          try clear p4
                                                          try clear p5
                                                          try clear p52
                                                          try clear p6
                                                          try clear p60
                                                          try clear p64
                                                          try clear p68
                                                          try clear p7
                                                          try clear p70
                                                          try clear q1
                                                          try clear q12
                                                          try clear q17
                                                          try clear q2
                                                          try clear q24
                                                          try clear q4
                                                          try clear q5
                                                          try clear q52
                                                          try clear q6
                                                          try clear q60
                                                          try clear q68
                                                          try clear q7
                                                          try clear q70
                                                          obtain ⟨x7_10, x9_10, x20_10, rfl, rfl, rfl, HA, HK10, ⟨m10, rfl⟩⟩ := hrel
                                                          cases gk with
                                                          | zero => exact absurd HA.out (by simp [strconv_readFloat.l1])
                                                          | succ k10 =>
                                                            have H := HA.out
                                                            clear HA
                                                            simp only [strconv_readFloat.l1] at H
                                                            have HC72 := Aside0.mk H
                                                            clear H
                                                            go_upto_region 69 with (fail)
                                                            go_cut [216] (fun v216 wc => ∃ (kq : Nat) (x216_71 : Bool), v216 = .bool x216_71 ∧ Aside0 (strconv_readFloat.j14 kq a0 x2_20 0 x4_4 x5_20 x6_18 x7_10 false x9_10 x16_46 x17_46 x19_60 x20_10 x216_71 = some (r1, r2, r3, r4, r5, r6, r7)) ∧ Aside0 (kq ≤ k10) ∧ Drawn0 w wc)
                                                            case first => as_aux_lemma =>
                                                              have H := HC72.out
                                                              clear HC72
                                                              by_cases c73 : x7_10 < (a0.size : Int)
                                                              · rw [if_pos c73] at H
                                                                have c73b0 : decide (x7_10 < (a0.size : Int)) = true := decide_eq_true c73
                                                                clear c73
                                                                (first | rw [c73b0] | (simp only [i64_w, i32_w]; rw [c73b0]) | skip)
                                                                by_cases c74 : 0 ≤ x7_10
                                                                · rw [if_pos c74] at H
                                                                  have c74b0 : decide (0 ≤ x7_10) = true := decide_eq_true c74
                                                                  clear c74
                                                                  by_cases c76 : 48 ≤ (bt a0 x7_10)
                                                                  · rw [if_pos c76] at H
                                                                    have c76b0 : decide (48 ≤ (bt a0 x7_10)) = true := decide_eq_true c76
                                                                    clear c76
                                                                    by_cases c78 : (bt a0 x7_10) ≤ 57
                                                                    · rw [if_pos c78] at H
                                                                      have c78b0 : decide ((bt a0 x7_10) ≤ 57) = true := decide_eq_true c78
                                                                      clear c78
                                                                      have H' := Aside0.mk H
                                                                      clear H
                                                                      have p75 : 0 ≤ (x7_10 : Int) := of_decide_eq_true (by first | (with_reducible assumption) | assumption)
                                                                      have q75 : x7_10 < (a0.size : Int) := of_decide_eq_true (by first | (with_reducible assumption) | assumption)
                                                                      have hx75 := bt_at a0 x7_10
                                                                      replace p75 := eq_true p75
                                                                      replace q75 := eq_true q75
                                                                      have p77 : 0 ≤ (x7_10 : Int) := of_decide_eq_true (by first | (with_reducible assumption) | assumption)
                                                                      have q77 : x7_10 < (a0.size : Int) := of_decide_eq_true (by first | (with_reducible assumption) | assumption)
                                                                      have hx77 := bt_at a0 x7_10
                                                                      replace p77 := eq_true p77
                                                                      replace q77 := eq_true q77
                                                                      go_wp2
                                                                      go_meet
                                                                      case rel => exact ⟨_, (true), (by first | rfl | (simp; done) | (simp [*]; done)), H', ⟨by have := HJ4.out; have := HJ7.out; have := HJ18.out; have := HJ20.out; have := HJ44.out; have := HJ46.out; have := HJ48.out; have := HJ60.out; have := HJ63.out; have := HK10.out; first | omega | exact Nat.le_refl _⟩, by repeat (first | exact Drawn0.refl _ | apply Drawn0.step)⟩
                                                                    · rw [if_neg c78] at H
                                                                      have c78b0 : decide ((bt a0 x7_10) ≤ 57) = false := decide_eq_false c78
                                                                      clear c78
                                                                      have H' := Aside0.mk H
                                                                      clear H
                                                                      have p75 : 0 ≤ (x7_10 : Int) := of_decide_eq_true (by first | (with_reducible assumption) | assumption)
                                                                      have q75 : x7_10 < (a0.size : Int) := of_decide_eq_true (by first | (with_reducible assumption) | assumption)
                                                                      have hx75 := bt_at a0 x7_10
                                                                      replace p75 := eq_true p75
                                                                      replace q75 := eq_true q75
                                                                      have p77 : 0 ≤ (x7_10 : Int) := of_decide_eq_true (by first | (with_reducible assumption) | assumption)
                                                                      have q77 : x7_10 < (a0.size : Int) := of_decide_eq_true (by first | (with_reducible assumption) | assumption)
                                                                      have hx77 := bt_at a0 x7_10
                                                                      replace p77 := eq_true p77
                                                                      replace q77 := eq_true q77
                                                                      have p79 : 0 ≤ (x7_10 : Int) := of_decide_eq_true (by first | (with_reducible assumption) | assumption)
                                                                      have q79 : x7_10 < (a0.size : Int) := of_decide_eq_true (by first | (with_reducible assumption) | assumption)
                                                                      have hx79 := bt_at a0 x7_10
                                                                      replace p79 := eq_true p79
                                                                      replace q79 := eq_true q79
                                                                      go_wp2
                                                                      go_meet
                                                                      case rel => exact ⟨_, (((bt a0 x7_10) == 95)), (by first | rfl | (simp; done) | (simp [*]; done)), H', ⟨by have := HJ4.out; have := HJ7.out; have := HJ18.out; have := HJ20.out; have := HJ44.out; have := HJ46.out; have := HJ48.out; have := HJ60.out; have := HJ63.out; have := HK10.out; first | omega | exact Nat.le_refl _⟩, by repeat (first | exact Drawn0.refl _ | apply Drawn0.step)⟩
                                                                  · rw [if_neg c76] at H
                                                                    have c76b0 : decide (48 ≤ (bt a0 x7_10)) = false := decide_eq_false c76
                                                                    clear c76
                                                                    have H' := Aside0.mk H
                                                                    clear H
                                                                    have p75 : 0 ≤ (x7_10 : Int) := of_decide_eq_true (by first | (with_reducible assumption) | assumption)
                                                                    have q75 : x7_10 < (a0.size : Int) := of_decide_eq_true (by first | (with_reducible assumption) | assumption)
                                                                    have hx75 := bt_at a0 x7_10
                                                                    replace p75 := eq_true p75
                                                                    replace q75 := eq_true q75
                                                                    have p80 : 0 ≤ (x7_10 : Int) := of_decide_eq_true (by first | (with_reducible assumption) | assumption)
                                                                    have q80 : x7_10 < (a0.size : Int) := of_decide_eq_true (by first | (with_reducible assumption) | assumption)
                                                                    have hx80 := bt_at a0 x7_10
                                                                    replace p80 := eq_true p80
                                                                    replace q80 := eq_true q80
                                                                    go_wp2
                                                                    go_meet
                                                                    case rel => exact ⟨_, (((bt a0 x7_10) == 95)), (by first | rfl | (simp; done) | (simp [*]; done)), H', ⟨by have := HJ4.out; have := HJ7.out; have := HJ18.out; have := HJ20.out; have := HJ44.out; have := HJ46.out; have := HJ48.out; have := HJ60.out; have := HJ63.out; have := HK10.out; first | omega | exact Nat.le_refl _⟩, by repeat (first | exact Drawn0.refl _ | apply Drawn0.step)⟩
                                                                · rw [if_neg c74] at H
                                                                  exact absurd H (by simp)
                                                              · rw [if_neg c73] at H
                                                                have c73b0 : decide (x7_10 < (a0.size : Int)) = false := decide_eq_false c73
                                                                clear c73
                                                                (first | rw [c73b0] | (simp only [i64_w, i32_w]; rw [c73b0]) | skip)
                                                                have H' := Aside0.mk H
                                                                clear H
                                                                go_wp2
                                                                go_meet
                                                                case rel => exact ⟨_, (false), (by first | rfl | (simp; done) | (simp [*]; done)), H', ⟨by have := HJ4.out; have := HJ7.out; have := HJ18.out; have := HJ20.out; have := HJ44.out; have := HJ46.out; have := HJ48.out; have := HJ60.out; have := HJ63.out; have := HK10.out; first | omega | exact Nat.le_refl _⟩, by repeat (first | exact Drawn0.refl _ | apply Drawn0.step)⟩
                                                            case rest => as_aux_lemma =>
                                                              clear HC72
                                                              try clear c1
                                                              try clear p1
                                                              try clear q1
                                                              try clear hx1
                                                              try clear c2
                                                              try clear c2b0
                                                              try clear c2b1
                                                              try clear p2
                                                              try clear q2
                                                              try clear hx2
                                                              try clear c3
                                                              try clear c3b0
                                                              try clear c3b1
                                                              try clear c4
                                                              try clear p4
                                                              try clear q4
                                                              try clear hx4
                                                              try clear qi4
                                                              try clear c5
                                                              try clear p5
                                                              try clear q5
                                                              try clear hx5
                                                              try clear c6
                                                              try clear c6b0
                                                              try clear c6b1
                                                              try clear p6
                                                              try clear q6
                                                              try clear hx6
                                                              try clear c7
                                                              try clear c7b0
                                                              try clear c7b1
                                                              try clear p7
                                                              try clear q7
                                                              try clear hx7
                                                              try clear p8
                                                              try clear q8
                                                              try clear hx8
                                                              try clear c9
                                                              try clear c9b0
                                                              try clear c10
                                                              try clear c10b0
                                                              try clear c11
                                                              try clear c11b0
                                                              try clear p12
                                                              try clear q12
                                                              try clear hx12
                                                              try clear c13
                                                              try clear c13b0
                                                              try clear c13b1
                                                              try clear c15
                                                              try clear c15b0
                                                              try clear c16
                                                              try clear c16b0
                                                              try clear p17
                                                              try clear q17
                                                              try clear hx17
                                                              try clear c18
                                                              try clear c20
                                                              try clear c22
                                                              try clear c22b0
                                                              try clear c23
                                                              try clear c23b0
                                                              try clear p24
                                                              try clear q24
                                                              try clear hx24
                                                              try clear c25
                                                              try clear c25b0
                                                              try clear c25b1
                                                              try clear c25b2
                                                              try clear c26
                                                              try clear c26b0
                                                              try clear c26b1
                                                              try clear c26b2
                                                              try clear c27
                                                              try clear c29
                                                              try clear c29b0
                                                              try clear c30
                                                              try clear c32
                                                              try clear c32b0
                                                              try clear c32b1
                                                              try clear c33
                                                              try clear c34
                                                              try clear c34b0
                                                              try clear c35
                                                              try clear c35b0
                                                              try clear c35b1
                                                              try clear c37
                                                              try clear c37b0
                                                              try clear c37b1
                                                              try clear c39
                                                              try clear c39b0
                                                              try clear c41
                                                              try clear c42
                                                              try clear c42b0
                                                              try clear c44
                                                              try clear c46
                                                              try clear c48
                                                              try clear c48b0
                                                              try clear c48b1
                                                              try clear c50
                                                              try clear c50b0
                                                              try clear c51
                                                              try clear c51b0
                                                              try clear p52
                                                              try clear q52
                                                              try clear hx52
                                                              try clear c55
                                                              try clear c56
                                                              try clear c56b0
                                                              try clear c58
                                                              try clear c58b0
                                                              try clear c59
                                                              try clear c59b0
                                                              try clear c60
                                                              try clear p60
                                                              try clear q60
                                                              try clear hx60
                                                              try clear c62
                                                              try clear c62b0
                                                              try clear c62b1
                                                              try clear c63
                                                              try clear c63b0
                                                              try clear c63b1
                                                              try clear p64
                                                              try clear c65
                                                              try clear c65b0
                                                              try clear c66
                                                              try clear c66b0
                                                              try clear c67
                                                              try clear c67b0
                                                              try clear p68
                                                              try clear q68
                                                              try clear hx68
                                                              try clear c69
                                                              try clear c69b0
                                                              try clear p70
                                                              try clear q70
                                                              try clear hx70
                                                              try clear c71
                                                              try clear c73
                                                              try clear c73b0
                                                              try clear c74
                                                              try clear c74b0
                                                              try clear p75
                                                              try clear q75
                                                              try clear hx75
                                                              try clear c76
                                                              try clear c76b0
                                                              try clear p77
                                                              try clear q77
                                                              try clear hx77
                                                              try clear c78
                                                              try clear c78b0
                                                              try clear p79
                                                              try clear q79
                                                              try clear hx79
                                                              try clear p80
                                                              try clear q80
                                                              try clear hx80
                                                              try clear p1
                                                              try clear p12
                                                              try clear p17
                                                              try clear p2
                                                              try clear p24
                                                              try clear p4
                                                              try clear p5
                                                              try clear p52
                                                              try clear p6
                                                              try clear p60
                                                              try clear p64
                                                              try clear p68
                                                              try clear p7
                                                              try clear p70
                                                              try clear p75
                                                              try clear p77
                                                              try clear p79
                                                              try clear p80
                                                              try clear q1
                                                              try clear q12
                                                              try clear q17
                                                              try clear q2
                                                              try clear q24
                                                              try clear q4
                                                              try clear q5
                                                              try clear q52
                                                              try clear q6
                                                              try clear q60
                                                              try clear q68
                                                              try clear q7
                                                              try clear q70
                                                              try clear q75
                                                              try clear q77
                                                              try clear q79
                                                              try clear q80
                                                              obtain ⟨kq, x216_71, rfl, HA, HJ71, ⟨mc71, rfl⟩⟩ := hcut
                                                              cases kq with
                                                              | zero => exact absurd HA.out (by simp [strconv_readFloat.j14])
                                                              | succ kj71 =>
                                                                have H := HA.out
                                                                clear HA
                                                                simp only [strconv_readFloat.j14] at H
                                                                by_cases c81 : x216_71 = true
                                                                · subst c81
                                                                  have H1 : (if 0 ≤ x7_10 then (if x7_10 < (a0.size : Int) then (if (bt a0 x7_10) = 95 then (strconv_readFloat.l1 kj71 a0 x2_20 0 x4_4 x5_20 x6_18 (wrap64 (x7_10 + 1)) false true x16_46 x17_46 x19_60 x20_10) else (if x20_10 < 10000 then (strconv_readFloat.l1 kj71 a0 x2_20 0 x4_4 x5_20 x6_18 (wrap64 (x7_10 + 1)) false x9_10 x16_46 x17_46 x19_60 (wrap64 ((wrap64 ((wrap64 (x20_10 * 10)) + (wrap64 (bt a0 x7_10)))) - 48))) else (strconv_readFloat.l1 kj71 a0 x2_20 0 x4_4 x5_20 x6_18 (wrap64 (x7_10 + 1)) false x9_10 x16_46 x17_46 x19_60 x20_10))) else (none)) else (none)) = some (r1, r2, r3, r4, r5, r6, r7) := by rw [if_pos rfl] at H; exact H
                                                                  clear H
                                                                  have H := H1
                                                                  clear H1
                                                                  by_cases c82 : 0 ≤ x7_10
                                                                  · rw [if_pos c82] at H
                                                                    have c82b0 : decide (0 ≤ x7_10) = true := decide_eq_true c82
                                                                    clear c82
                                                                    by_cases c83 : x7_10 < (a0.size : Int)
                                                                    · rw [if_pos c83] at H
                                                                      have c83b0 : decide (x7_10 < (a0.size : Int)) = true := decide_eq_true c83
                                                                      clear c83
                                                                      by_cases c85 : (bt a0 x7_10) = 95
                                                                      · rw [if_pos c85] at H
                                                                        have c85b0 : ((bt a0 x7_10) == 95) = true := beq_iff_eq.mpr c85
                                                                        have c85b1 : ((bt a0 x7_10) != 95) = false := bne_eq_false_iff_eq.mpr c85
                                                                        clear c85
                                                                        have H' := Aside0.mk H
                                                                        clear H
                                                                        have p84 : 0 ≤ (x7_10 : Int) := of_decide_eq_true (by first | (with_reducible assumption) | assumption)
                                                                        have q84 : x7_10 < (a0.size : Int) := of_decide_eq_true (by first | (with_reducible assumption) | assumption)
                                                                        have hx84 := bt_at a0 x7_10
                                                                        replace p84 := eq_true p84
                                                                        replace q84 := eq_true q84
                                                                        go_wp2
                                                                        go_roundg kj71
                                                                        case measure => have := HJ4.out; have := HJ7.out; have := HJ18.out; have := HJ20.out; have := HJ44.out; have := HJ46.out; have := HJ48.out; have := HJ60.out; have := HJ63.out; have := HK10.out; have := HJ71.out; omega
                                                                        case rel => exact ⟨(wrap64 (x7_10 + 1)), (true), (x20_10), (by first | rfl | (simp; done) | (simp [*]; done)), (by first | rfl | (simp; done) | (simp [*]; done)), (by first | rfl | (simp; done) | (simp [*]; done)), H', ⟨by have := HJ4.out; have := HJ7.out; have := HJ18.out; have := HJ20.out; have := HJ44.out; have := HJ46.out; have := HJ48.out; have := HJ60.out; have := HJ63.out; have := HK10.out; have := HJ71.out; omega⟩, by repeat (first | exact Drawn0.refl _ | apply Drawn0.step)⟩
                                                                      · rw [if_neg c85] at H
                                                                        have c85b0 : ((bt a0 x7_10) == 95) = false := beq_eq_false_iff_ne.mpr c85
                                                                        have c85b1 : ((bt a0 x7_10) != 95) = true := bne_iff_ne.mpr c85
                                                                        by_cases c86 : x20_10 < 10000
                                                                        · rw [if_pos c86] at H
                                                                          have c86b0 : decide (x20_10 < 10000) = true := decide_eq_true c86
                                                                          clear c86
                                                                          have H' := Aside0.mk H
                                                                          clear H
                                                                          have p84 : 0 ≤ (x7_10 : Int) := of_decide_eq_true (by first | (with_reducible assumption) | assumption)
                                                                          have q84 : x7_10 < (a0.size : Int) := of_decide_eq_true (by first | (with_reducible assumption) | assumption)
                                                                          have hx84 := bt_at a0 x7_10
                                                                          replace p84 := eq_true p84
                                                                          replace q84 := eq_true q84
                                                                          have p87 : 0 ≤ (x7_10 : Int) := of_decide_eq_true (by first | (with_reducible assumption) | assumption)
                                                                          have q87 : x7_10 < (a0.size : Int) := of_decide_eq_true (by first | (with_reducible assumption) | assumption)
                                                                          have hx87 := bt_at a0 x7_10
                                                                          replace p87 := eq_true p87
                                                                          replace q87 := eq_true q87
                                                                          go_wp2
                                                                          go_roundg kj71
                                                                          case measure => have := HJ4.out; have := HJ7.out; have := HJ18.out; have := HJ20.out; have := HJ44.out; have := HJ46.out; have := HJ48.out; have := HJ60.out; have := HJ63.out; have := HK10.out; have := HJ71.out; omega
                                                                          case rel => exact ⟨(wrap64 (x7_10 + 1)), (x9_10), (wrap64 ((wrap64 ((wrap64 (x20_10 * 10)) + (wrap64 (bt a0 x7_10)))) - 48)), (by first | rfl | (simp; done) | (simp [*]; done)), (by first | rfl | (simp; done) | (simp [*]; done)), (by first | rfl | (simp; done) | (simp [*]; done)), H', ⟨by have := HJ4.out; have := HJ7.out; have := HJ18.out; have := HJ20.out; have := HJ44.out; have := HJ46.out; have := HJ48.out; have := HJ60.out; have := HJ63.out; have := HK10.out; have := HJ71.out; omega⟩, by repeat (first | exact Drawn0.refl _ | apply Drawn0.step)⟩
                                                                        · rw [if_neg c86] at H
                                                                          have c86b0 : decide (x20_10 < 10000) = false := decide_eq_false c86
                                                                          clear c86
                                                                          have H' := Aside0.mk H
                                                                          clear H
                                                                          have p84 : 0 ≤ (x7_10 : Int) := of_decide_eq_true (by first | (with_reducible assumption) | assumption)
                                                                          have q84 : x7_10 < (a0.size : Int) := of_decide_eq_true (by first | (with_reducible assumption) | assumption)
                                                                          have hx84 := bt_at a0 x7_10
                                                                          replace p84 := eq_true p84
                                                                          replace q84 := eq_true q84
                                                                          go_wp2
                                                                          go_roundg kj71
                                                                          case measure => have := HJ4.out; have := HJ7.out; have := HJ18.out; have := HJ20.out; have := HJ44.out; have := HJ46.out; have := HJ48.out; have := HJ60.out; have := HJ63.out; have := HK10.out; have := HJ71.out; omega
                                                                          case rel => exact ⟨(wrap64 (x7_10 + 1)), (x9_10), (x20_10), (by first | rfl | (simp; done) | (simp [*]; done)), (by first | rfl | (simp; done) | (simp [*]; done)), (by first | rfl | (simp; done) | (simp [*]; done)), H', ⟨by have := HJ4.out; have := HJ7.out; have := HJ18.out; have := HJ20.out; have := HJ44.out; have := HJ46.out; have := HJ48.out; have := HJ60.out; have := HJ63.out; have := HK10.out; have := HJ71.out; omega⟩, by repeat (first | exact Drawn0.refl _ | apply Drawn0.step)⟩
                                                                    · rw [if_neg c83] at H
                                                                      exact absurd H (by simp)
                                                                  · rw [if_neg c82] at H
                                                                    exact absurd H (by simp)
                                                                · replace c81 := Bool.eq_false_iff.mpr c81
                                                                  subst c81
                                                                  have H1 : (strconv_readFloat.j15 kj71 a0 x2_20 0 x4_4 x5_20 x6_18 x7_10 false x9_10 x16_46 (wrap64 (x17_46 + (wrap64 (x20_10 * x19_60))))) = some (r1, r2, r3, r4, r5, r6, r7) := by rw [if_neg (show ¬ (false = true) by decide)] at H; exact H
                                                                  clear H
                                                                  have H := H1
                                                                  clear H1
                                                                  have H' := Aside0.mk H
                                                                  clear H
                                                                  go_wp2
                                                                  go_meet
                                                                  case rel => exact ⟨_, (x7_10), (x9_10), (wrap64 (x17_46 + (wrap64 (x20_10 * x19_60)))), (by first | rfl | (simp; done) | (simp [*]; done)), (by first | rfl | (simp; done) | (simp [*]; done)), (by first | rfl | (simp; done) | (simp [*]; done)), H', ⟨by have := HJ4.out; have := HJ7.out; have := HJ18.out; have := HJ20.out; have := HJ44.out; have := HJ46.out; have := HJ48.out; have := HJ60.out; have := HJ63.out; have := HK10.out; have := HJ71.out; first | omega | exact Nat.le_refl _⟩, by repeat (first | exact Drawn0.refl _ | apply Drawn0.step)⟩
                                            · rw [if_neg c59] at H
                                              exact absurd H (by simp)
                                          · rw [if_neg c58] at H
                                            exact absurd H (by simp)
                                      · replace c55 := Bool.eq_false_iff.mpr c55
                                        subst c55
                                        have H1 : (if x10_18 = 16 then (some (x2_20, 0, x4_4, x5_20, x6_18, x7_20, false)) else (strconv_readFloat.j15 kj48 a0 x2_20 0 x4_4 x5_20 x6_18 x7_20 false x9_20 x16_46 x17_46)) = some (r1, r2, r3, r4, r5, r6, r7) := by rw [if_neg (show ¬ (false = true) by decide)] at H; exact H
                                        clear H
                                        have H := H1
                                        clear H1
                                        by_cases c88 : x10_18 = 16
                                        · rw [if_pos c88] at H
                                          have c88b0 : (x10_18 == 16) = true := beq_iff_eq.mpr c88
                                          have c88b1 : (x10_18 != 16) = false := bne_eq_false_iff_eq.mpr c88
                                          clear c88
                                          simp only [Option.some.injEq, Prod.mk.injEq] at H
                                          obtain ⟨rfl, rfl, rfl, rfl, rfl, rfl, rfl⟩ := H
                                          go_wp2
                                          try rw [Exit.noGoto_ret]
                                          refine bodyPost_ret (results_list (rs := [.tmp 2, .tmp 3, .tmp 4, .tmp 5, .tmp 6, .tmp 7, .tmp 8]) rfl (by simp) (.tmp (.tmp (.tmp (.tmp (.tmp (.tmp (.tmp .nil)))))))) rfl ?_
                                          exact ⟨by first | rfl | (simp; done) | (simp [*]; done), by repeat (first | exact Drawn0.refl _ | apply Drawn0.step)⟩
                                        · rw [if_neg c88] at H
                                          have c88b0 : (x10_18 == 16) = false := beq_eq_false_iff_ne.mpr c88
                                          have c88b1 : (x10_18 != 16) = true := bne_iff_ne.mpr c88
                                          have H' := Aside0.mk H
                                          clear H
                                          go_wp2
                                          go_meet
                                          case rel => exact ⟨_, (x7_20), (x9_20), (x17_46), (by first | rfl | (simp; done) | (simp [*]; done)), (by first | rfl | (simp; done) | (simp [*]; done)), (by first | rfl | (simp; done) | (simp [*]; done)), H', ⟨by have := HJ4.out; have := HJ7.out; have := HJ18.out; have := HJ20.out; have := HJ44.out; have := HJ46.out; have := HJ48.out; first | omega | exact Nat.le_refl _⟩, by repeat (first | exact Drawn0.refl _ | apply Drawn0.step)⟩
                                    case rest => as_aux_lemma =>
                                      clear HC54
                                      try clear c1
                                      try clear p1
                                      try clear q1
                                      try clear hx1
                                      try clear c2
                                      try clear c2b0
                                      try clear c2b1
                                      try clear p2
                                      try clear q2
                                      try clear hx2
                                      try clear c3
                                      try clear c3b0
                                      try clear c3b1
                                      try clear c4
                                      try clear p4
                                      try clear q4
                                      try clear hx4
                                      try clear qi4
                                      try clear c5
                                      try clear p5
                                      try clear q5
                                      try clear hx5
                                      try clear c6
                                      try clear c6b0
                                      try clear c6b1
                                      try clear p6
                                      try clear q6
                                      try clear hx6
                                      try clear c7
                                      try clear c7b0
                                      try clear c7b1
                                      try clear p7
                                      try clear q7
                                      try clear hx7
                                      try clear c8
                                      try clear p8
                                      try clear q8
                                      try clear hx8
                                      try clear c9
                                      try clear c9b0
                                      try clear c10
                                      try clear c10b0
                                      try clear c11
                                      try clear c11b0
                                      try clear p12
                                      try clear q12
                                      try clear hx12
                                      try clear c13
                                      try clear c13b0
                                      try clear c13b1
                                      try clear c15
                                      try clear c15b0
                                      try clear c16
                                      try clear c16b0
                                      try clear p17
                                      try clear q17
                                      try clear hx17
                                      try clear c18
                                      try clear c20
                                      try clear c22
                                      try clear c22b0
                                      try clear c23
                                      try clear c23b0
                                      try clear p24
                                      try clear q24
                                      try clear hx24
                                      try clear c25
                                      try clear c25b0
                                      try clear c25b1
                                      try clear c25b2
                                      try clear c26
                                      try clear c26b0
                                      try clear c26b1
                                      try clear c26b2
                                      try clear c27
                                      try clear c29
                                      try clear c29b0
                                      try clear c30
                                      try clear c32
                                      try clear c32b0
                                      try clear c32b1
                                      try clear c33
                                      try clear c34
                                      try clear c34b0
                                      try clear c35
                                      try clear c35b0
                                      try clear c35b1
                                      try clear c37
                                      try clear c37b0
                                      try clear c37b1
                                      try clear c39
                                      try clear c39b0
                                      try clear c41
                                      try clear c42
                                      try clear c42b0
                                      try clear c44
                                      try clear c46
                                      try clear c48
                                      try clear c48b0
                                      try clear c48b1
                                      try clear c50
                                      try clear c50b0
                                      try clear c51
                                      try clear c51b0
                                      try clear p52
                                      try clear q52
                                      try clear hx52
                                      try clear c55
                                      try clear c56
                                      try clear c56b0
                                      try clear c58
                                      try clear c58b0
                                      try clear c59
                                      try clear c59b0
                                      try clear c60
                                      try clear p60
                                      try clear q60
                                      try clear hx60
                                      try clear c62
                                      try clear c62b0
                                      try clear c62b1
                                      try clear c63
                                      try clear c63b0
                                      try clear c63b1
                                      try clear p64
                                      try clear c65
                                      try clear c65b0
                                      try clear c66
                                      try clear c66b0
                                      try clear c67
                                      try clear c67b0
                                      try clear p68
                                      try clear q68
                                      try clear hx68
                                      try clear c69
                                      try clear c69b0
                                      try clear p70
                                      try clear q70
                                      try clear hx70
                                      try clear c71
                                      try clear c73
                                      try clear c73b0
                                      try clear c74
                                      try clear c74b0
                                      try clear p75
                                      try clear q75
                                      try clear hx75
                                      try clear c76
                                      try clear c76b0
                                      try clear p77
                                      try clear q77
                                      try clear hx77
                                      try clear c78
                                      try clear c78b0
                                      try clear p79
                                      try clear q79
                                      try clear hx79
                                      try clear p80
                                      try clear q80
                                      try clear hx80
                                      try clear c81
                                      try clear c82
                                      try clear c82b0
                                      try clear c83
                                      try clear c83b0
                                      try clear p84
                                      try clear q84
                                      try clear hx84
                                      try clear c85
                                      try clear c85b0
                                      try clear c85b1
                                      try clear c86
                                      try clear c86b0
                                      try clear p87
                                      try clear q87
                                      try clear hx87
                                      try clear c88
                                      try clear c88b0
                                      try clear c88b1
                                      try clear p1
                                      try clear p12
                                      try clear p17
                                      try clear p2
                                      try clear p24
                                      try clear p4
                                      try clear p5
                                      try clear p52
                                      try clear p6
                                      try clear p60
                                      try clear p64
                                      try clear p68
                                      try clear p7
                                      try clear p70
                                      try clear p75
                                      try clear p77
                                      try clear p79
                                      try clear p8
                                      try clear p80
                                      try clear p84
                                      try clear p87
                                      try clear q1
                                      try clear q12
                                      try clear q17
                                      try clear q2
                                      try clear q24
                                      try clear q4
                                      try clear q5
                                      try clear q52
                                      try clear q6
                                      try clear q60
                                      try clear q68
                                      try clear q7
                                      try clear q70
                                      try clear q75
                                      try clear q77
                                      try clear q79
                                      try clear q8
                                      try clear q80
                                      try clear q84
                                      try clear q87
                                      obtain ⟨kq, x7_53, x9_53, x17_53, rfl, rfl, rfl, HA, HJ53, ⟨mc53, rfl⟩⟩ := hcut
                                      cases kq with
                                      | zero => exact absurd HA.out (by simp [strconv_readFloat.j15])
                                      | succ kj53 =>
                                        have H := HA.out
                                        clear HA
                                        simp only [strconv_readFloat.j15] at H
                                        by_cases c89 : x2_20 = 0
                                        · rw [if_pos c89] at H
                                          have c89b0 : (x2_20 == 0) = true := beq_iff_eq.mpr c89
                                          have c89b1 : (x2_20 != 0) = false := bne_eq_false_iff_eq.mpr c89
                                          clear c89
                                          by_cases c90 : x9_53 = true
                                          · subst c90
                                            have H1 : (if 0 ≤ x7_53 then (if x7_53 ≤ (a0.size : Int) then ((strconv_underscoreOK.f kj53 (a0.extract 0 (x7_53 : Int).toNat)).bind fun t114 => (if t114 = true then (some (x2_20, 0, x4_4, x5_20, x6_18, x7_53, true)) else (some (x2_20, 0, x4_4, x5_20, x6_18, x7_53, false)))) else (none)) else (none)) = some (r1, r2, r3, r4, r5, r6, r7) := by rw [if_pos rfl] at H; exact H
                                            clear H
                                            have H := H1
                                            clear H1
                                            by_cases c91 : 0 ≤ x7_53
                                            · rw [if_pos c91] at H
                                              have c91b0 := eq_true c91
                                              have c91b1 : decide (0 ≤ x7_53) = true := decide_eq_true c91
                                              clear c91
                                              by_cases c92 : x7_53 ≤ (a0.size : Int)
                                              · rw [if_pos c92] at H
                                                have c92b0 := eq_true c92
                                                have c92b1 : decide (x7_53 ≤ (a0.size : Int)) = true := decide_eq_true c92
                                                clear c92
                                                replace H := Option.bind_eq_some_iff.mp H
                                                obtain ⟨t114, A930, H⟩ := H
                                                replace H : (if t114 = true then (some (x2_20, 0, x4_4, x5_20, x6_18, x7_53, true)) else (some (x2_20, 0, x4_4, x5_20, x6_18, x7_53, false))) = some (r1, r2, r3, r4, r5, r6, r7) := H
                                                have A93 := Aside0.mk A930
                                                clear A930
                                                by_cases c94 : t114 = true
                                                · subst c94
                                                  have H1 : (some (x2_20, 0, x4_4, x5_20, x6_18, x7_53, true)) = some (r1, r2, r3, r4, r5, r6, r7) := by rw [if_pos rfl] at H; exact H
                                                  clear H
                                                  have H := H1
                                                  clear H1
                                                  simp only [Option.some.injEq, Prod.mk.injEq] at H
                                                  obtain ⟨rfl, rfl, rfl, rfl, rfl, rfl, rfl⟩ := H
                                                  go_wp2_with (first | (go_at_call 28; (with_reducible refine (strconv_underscoreOK.calls kj53 (a0.extract 0 (x7_53 : Int).toNat) true _ A93.out).mono ?_); rintro e w' ⟨rfl, ⟨nd, rfl⟩⟩))
                                                  try rw [Exit.noGoto_ret]
                                                  refine bodyPost_ret (results_list (rs := [.tmp 2, .tmp 3, .tmp 4, .tmp 5, .tmp 6, .tmp 7, .tmp 8]) rfl (by simp) (.tmp (.tmp (.tmp (.tmp (.tmp (.tmp (.tmp .nil)))))))) rfl ?_
                                                  exact ⟨by first | rfl | (simp; done) | (simp [*]; done), by repeat (first | exact Drawn0.refl _ | apply Drawn0.step)⟩
                                                · replace c94 := Bool.eq_false_iff.mpr c94
                                                  subst c94
                                                  have H1 : (some (x2_20, 0, x4_4, x5_20, x6_18, x7_53, false)) = some (r1, r2, r3, r4, r5, r6, r7) := by rw [if_neg (show ¬ (false = true) by decide)] at H; exact H
                                                  clear H
                                                  have H := H1
                                                  clear H1
                                                  simp only [Option.some.injEq, Prod.mk.injEq] at H
                                                  obtain ⟨rfl, rfl, rfl, rfl, rfl, rfl, rfl⟩ := H
                                                  go_wp2_with (first | (go_at_call 28; (with_reducible refine (strconv_underscoreOK.calls kj53 (a0.extract 0 (x7_53 : Int).toNat) false _ A93.out).mono ?_); rintro e w' ⟨rfl, ⟨nd, rfl⟩⟩))
                                                  try rw [Exit.noGoto_ret]
                                                  refine bodyPost_ret (results_list (rs := [.tmp 2, .tmp 3, .tmp 4, .tmp 5, .tmp 6, .tmp 7, .tmp 8]) rfl (by simp) (.tmp (.tmp (.tmp (.tmp (.tmp (.tmp (.tmp .nil)))))))) rfl ?_
                                                  exact ⟨by first | rfl | (simp; done) | (simp [*]; done), by repeat (first | exact Drawn0.refl _ | apply Drawn0.step)⟩
                                              · rw [if_neg c92] at H
                                                exact absurd H (by simp)
                                            · rw [if_neg c91] at H
                                              exact absurd H (by simp)
                                          · replace c90 := Bool.eq_false_iff.mpr c90
                                            subst c90
                                            have H1 : (some (x2_20, 0, x4_4, x5_20, x6_18, x7_53, true)) = some (r1, r2, r3, r4, r5, r6, r7) := by rw [if_neg (show ¬ (false = true) by decide)] at H; exact H
                                            clear H
                                            have H := H1
                                            clear H1
                                            simp only [Option.some.injEq, Prod.mk.injEq] at H
                                            obtain ⟨rfl, rfl, rfl, rfl, rfl, rfl, rfl⟩ := H
                                            go_wp2
                                            try rw [Exit.noGoto_ret]
                                            refine bodyPost_ret (results_list (rs := [.tmp 2, .tmp 3, .tmp 4, .tmp 5, .tmp 6, .tmp 7, .tmp 8]) rfl (by simp) (.tmp (.tmp (.tmp (.tmp (.tmp (.tmp (.tmp .nil)))))))) rfl ?_
                                            exact ⟨by first | rfl | (simp; done) | (simp [*]; done), by repeat (first | exact Drawn0.refl _ | apply Drawn0.step)⟩
                                        · rw [if_neg c89] at H
                                          have c89b0 : (x2_20 == 0) = false := beq_eq_false_iff_ne.mpr c89
                                          have c89b1 : (x2_20 != 0) = true := bne_iff_ne.mpr c89
                                          by_cases c95 : x9_53 = true
                                          · subst c95
                                            have H1 : (if 0 ≤ x7_53 then (if x7_53 ≤ (a0.size : Int) then ((strconv_underscoreOK.f kj53 (a0.extract 0 (x7_53 : Int).toNat)).bind fun t115 => (if t115 = true then (some (x2_20, wrap64 (x17_53 - x16_46), x4_4, x5_20, x6_18, x7_53, true)) else (some (x2_20, wrap64 (x17_53 - x16_46), x4_4, x5_20, x6_18, x7_53, false)))) else (none)) else (none)) = some (r1, r2, r3, r4, r5, r6, r7) := by rw [if_pos rfl] at H; exact H
                                            clear H
                                            have H := H1
                                            clear H1
                                            by_cases c96 : 0 ≤ x7_53
                                            · rw [if_pos c96] at H
                                              have c96b0 := eq_true c96
                                              have c96b1 : decide (0 ≤ x7_53) = true := decide_eq_true c96
                                              clear c96
                                              by_cases c97 : x7_53 ≤ (a0.size : Int)
                                              · rw [if_pos c97] at H
                                                have c97b0 := eq_true c97
                                                have c97b1 : decide (x7_53 ≤ (a0.size : Int)) = true := decide_eq_true c97
                                                clear c97
                                                replace H := Option.bind_eq_some_iff.mp H
                                                obtain ⟨t115, A980, H⟩ := H
                                                replace H : (if t115 = true then (some (x2_20, wrap64 (x17_53 - x16_46), x4_4, x5_20, x6_18, x7_53, true)) else (some (x2_20, wrap64 (x17_53 - x16_46), x4_4, x5_20, x6_18, x7_53, false))) = some (r1, r2, r3, r4, r5, r6, r7) := H
                                                have A98 := Aside0.mk A980
                                                clear A980
                                                by_cases c99 : t115 = true
                                                · subst c99
                                                  have H1 : (some (x2_20, wrap64 (x17_53 - x16_46), x4_4, x5_20, x6_18, x7_53, true)) = some (r1, r2, r3, r4, r5, r6, r7) := by rw [if_pos rfl] at H; exact H
                                                  clear H
                                                  have H := H1
                                                  clear H1
                                                  simp only [Option.some.injEq, Prod.mk.injEq] at H
                                                  obtain ⟨rfl, rfl, rfl, rfl, rfl, rfl, rfl⟩ := H
                                                  go_wp2_with (first | (go_at_call 28; (with_reducible refine (strconv_underscoreOK.calls kj53 (a0.extract 0 (x7_53 : Int).toNat) true _ A98.out).mono ?_); rintro e w' ⟨rfl, ⟨nd, rfl⟩⟩))
                                                  try rw [Exit.noGoto_ret]
                                                  refine bodyPost_ret (results_list (rs := [.tmp 2, .tmp 3, .tmp 4, .tmp 5, .tmp 6, .tmp 7, .tmp 8]) rfl (by simp) (.tmp (.tmp (.tmp (.tmp (.tmp (.tmp (.tmp .nil)))))))) rfl ?_
                                                  exact ⟨by first | rfl | (simp; done) | (simp [*]; done), by repeat (first | exact Drawn0.refl _ | apply Drawn0.step)⟩
                                                · replace c99 := Bool.eq_false_iff.mpr c99
                                                  subst c99
                                                  have H1 : (some (x2_20, wrap64 (x17_53 - x16_46), x4_4, x5_20, x6_18, x7_53, false)) = some (r1, r2, r3, r4, r5, r6, r7) := by rw [if_neg (show ¬ (false = true) by decide)] at H; exact H
                                                  clear H
                                                  have H := H1
                                                  clear H1
                                                  simp only [Option.some.injEq, Prod.mk.injEq] at H
                                                  obtain ⟨rfl, rfl, rfl, rfl, rfl, rfl, rfl⟩ := H
                                                  go_wp2_with (first | (go_at_call 28; (with_reducible refine (strconv_underscoreOK.calls kj53 (a0.extract 0 (x7_53 : Int).toNat) false _ A98.out).mono ?_); rintro e w' ⟨rfl, ⟨nd, rfl⟩⟩))
                                                  try rw [Exit.noGoto_ret]
                                                  refine bodyPost_ret (results_list (rs := [.tmp 2, .tmp 3, .tmp 4, .tmp 5, .tmp 6, .tmp 7, .tmp 8]) rfl (by simp) (.tmp (.tmp (.tmp (.tmp (.tmp (.tmp (.tmp .nil)))))))) rfl ?_
                                                  exact ⟨by first | rfl | (simp; done) | (simp [*]; done), by repeat (first | exact Drawn0.refl _ | apply Drawn0.step)⟩
                                              · rw [if_neg c97] at H
                                                exact absurd H (by simp)
                                            · rw [if_neg c96] at H
                                              exact absurd H (by simp)
                                          · replace c95 := Bool.eq_false_iff.mpr c95
                                            subst c95
                                            have H1 : (some (x2_20, wrap64 (x17_53 - x16_46), x4_4, x5_20, x6_18, x7_53, true)) = some (r1, r2, r3, r4, r5, r6, r7) := by rw [if_neg (show ¬ (false = true) by decide)] at H; exact H
                                            clear H
                                            have H := H1
                                            clear H1
                                            simp only [Option.some.injEq, Prod.mk.injEq] at H
                                            obtain ⟨rfl, rfl, rfl, rfl, rfl, rfl, rfl⟩ := H
                                            go_wp2
                                            try rw [Exit.noGoto_ret]
                                            refine bodyPost_ret (results_list (rs := [.tmp 2, .tmp 3, .tmp 4, .tmp 5, .tmp 6, .tmp 7, .tmp 8]) rfl (by simp) (.tmp (.tmp (.tmp (.tmp (.tmp (.tmp (.tmp .nil)))))))) rfl ?_
                                            exact ⟨by first | rfl | (simp; done) | (simp [*]; done), by repeat (first | exact Drawn0.refl _ | apply Drawn0.step)⟩
                      · replace c44 := Bool.eq_false_iff.mpr c44
                        subst c44
                        have H1 : (some (x2_20, 0, x4_4, x5_20, x6_18, x7_20, false)) = some (r1, r2, r3, r4, r5, r6, r7) := by rw [if_neg (show ¬ (false = true) by decide)] at H; exact H
                        clear H
                        have H := H1
                        clear H1
                        simp only [Option.some.injEq, Prod.mk.injEq] at H
                        obtain ⟨rfl, rfl, rfl, rfl, rfl, rfl, rfl⟩ := H
                        go_wp2
                        try rw [Exit.noGoto_ret]
                        refine bodyPost_ret (results_list (rs := [.tmp 2, .tmp 3, .tmp 4, .tmp 5, .tmp 6, .tmp 7, .tmp 8]) rfl (by simp) (.tmp (.tmp (.tmp (.tmp (.tmp (.tmp (.tmp .nil)))))))) rfl ?_
                        exact ⟨by first | rfl | (simp; done) | (simp [*]; done), by repeat (first | exact Drawn0.refl _ | apply Drawn0.step)⟩
    · rw [if_neg c3] at H
      exact absurd H (by simp)

end Go.Proofs.YtogikhohkbcccaaGreatDoor.F
