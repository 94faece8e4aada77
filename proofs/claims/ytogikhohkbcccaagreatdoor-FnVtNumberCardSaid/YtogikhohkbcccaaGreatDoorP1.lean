-- Written by a program of this session out of the translation; Lean checks it.
import Derived.Test.YtogikhohkbcccaaGreatDoorProg
import Derived.Below
import Derived.Deep.Draws
import Derived.Deep.AppendLies
import Derived.Maps.AppendAt
import Derived.OwnWalk
import Derived.Laws.BytesArg
import Derived.Laws.MakeOwn
import Derived.Laws.OwnMore
import Derived.Deep.OwnRows
import Derived.Tactics
import Derived.Lib.ConvBytes
import Derived.Laws.Slices
import Derived.WalkKit
import Derived.KernelRfl
import Derived.RowKit3
import Derived.Deep.LoopGhost
import Derived.Deep.QuietTactic
import Derived.BigQuiet
import Derived.WideLaws
import Derived.Deep.DeepCutAuto
import Derived.Deep.CutBlock
import Derived.Deep.RegionHeld3
import Derived.Laws.Rows
import Derived.Lib.AppendStr
import Derived.ArgAppend
import Derived.Laws.IdiomCopy
import Derived.OrdersHeld
import Derived.Laws.BitsLemmas
import Derived.RowKit
import Derived.Test.YtogikhohkbcccaaGreatDoorWWords
import Derived.Test.YtogikhohkbcccaaGreatDoorWMore
import Derived.Laws.StructEq
namespace Go.Proofs.YtogikhohkbcccaaGreatDoor.P
open Go.RowKit Go.Proofs.YtogikhohkbcccaaGreatDoorW.PrintWords Go.Proofs.YtogikhohkbcccaaGreatDoorW.PrintLast Go.Proofs.YtogikhohkbcccaaGreatDoorW.PrintMore
attribute [local go_sem] max2_int min2_int max_two min_two max_three min_three max_four min_four   -- for this text's walks alone
set_option linter.unusedVariables false
set_option linter.unusedSimpArgs false

def errW : Option Int → Value
  | none => .nilIface
  | some c => .iface 0 (.int .i64 c)
theorem errW_none : errW none = .nilIface := rfl
theorem errW_some (c : Int) : errW (some c) = .iface 0 (.int .i64 c) := rfl

theorem info27 : (Tryz.prog.info? 27).map (fun i => (i.zero, i.size, i.bytes)) = some (some (.agg #[(.int .u8 0), (.int .u64 0), (.string ⟨#[]⟩), (.slice none 0 0)]), 4, 56) := by kernel_rfl
-- the values' own types
structure S49 where
  f0 : Int
  f1 : Int
  f2 : ByteArray
  f3 : (List S49)
def z49 : S49 := ⟨(0 : Int), (0 : Int), (⟨#[]⟩ : ByteArray), ([] : List S49)⟩
def F49 (d : Kd S49) : Kd S49 := Kd.iso (Kd.pair (Kd.int .u8) (Kd.pair (Kd.int .u64) (Kd.pair Kd.string (Kd.slice 49 d)))) (fun x : S49 => (x.f0, x.f1, x.f2, x.f3))
theorem sub49 : Kd.Sub F49 [49] := Kd.sub_iso _ (Kd.sub_pair (Kd.sub_const _ (by decide)) (Kd.sub_pair (Kd.sub_const _ (by decide)) (Kd.sub_pair (Kd.sub_const _ (by decide)) (Kd.sub_slice 49 (by decide) Kd.sub_id))))
theorem sz49 : ∀ n, (Kd.upto F49 4 [49] n).sz = 4 := Kd.upto_sz (fun _ => rfl)
def k49 : Kd S49 := Kd.fix F49 4 [49] sz49 (Kd.upto_E sub49)
theorem k49_open {w : World} {x : S49} {cs : List Value} (h : k49.K w x cs) : ∃ A3 c3, cs = [.int .u8 x.f0, .int .u64 x.f1, .string x.f2, .slice A3 x.f3.length c3] ∧ x.f3.length ≤ c3 ∧ k49.C w A3 x.f3.length x.f3 := by
  obtain ⟨n, h⟩ := h
  cases n with
  | zero => exact h.elim
  | succ n =>
    obtain ⟨_, _, rfl, rfl, ⟨_, _, rfl, rfl, ⟨_, _, rfl, rfl, ⟨A3, c3, rfl, l3, g3⟩⟩⟩⟩ := h
    exact ⟨A3, c3, rfl, l3, Kd.fix_C g3⟩
def rd_T49 (xs : List S49) (i : Int) : S49 := xs.getD i.toNat z49
theorem at_T49 {w : World} {A : Option Addr} {n : Nat} {xs : List S49} (h : Kd.C k49 w A n xs) (i : Int) (h0 : 0 ≤ i) (h1 : i < n) : ∃ ad A3 c3, A = some ad ∧ w.cell? (ad.add (i.toNat * 4)) = some (.int .u8 (rd_T49 xs i).f0) ∧ w.cell? ⟨(ad.add (i.toNat * 4)).block, (ad.add (i.toNat * 4)).off + 1, none⟩ = some (.int .u64 (rd_T49 xs i).f1) ∧ w.cell? ⟨(ad.add (i.toNat * 4)).block, (ad.add (i.toNat * 4)).off + 2, none⟩ = some (.string (rd_T49 xs i).f2) ∧ w.cell? ⟨(ad.add (i.toNat * 4)).block, (ad.add (i.toNat * 4)).off + 3, none⟩ = some (.slice A3 (rd_T49 xs i).f3.length c3) ∧ (rd_T49 xs i).f3.length ≤ c3 ∧ k49.C w A3 (rd_T49 xs i).f3.length (rd_T49 xs i).f3 := by
  obtain ⟨ad, c, e, _, hK, hc0⟩ := Kd.C_get h z49 i h0 h1
  have hc : ∀ j u, c[j]? = some u → w.cell? (ad.add (i.toNat * 4 + j)) = some u := hc0
  obtain ⟨A3, c3, rfl, l3, g3⟩ := k49_open hK
  exact ⟨ad, A3, c3, e, hc 0 _ rfl, by rw [← add_field _ _ 1 (by omega)]; exact hc 1 _ rfl, by rw [← add_field _ _ 2 (by omega)]; exact hc 2 _ rfl, by rw [← add_field _ _ 3 (by omega)]; exact hc 3 _ rfl, l3, g3⟩

structure S27 where
  f0 : Int
  f1 : Int
  f2 : ByteArray
  f3 : (List S27)
def F27 (d : Kd S27) : Kd S27 := Kd.iso (Kd.pair (Kd.int .u8) (Kd.pair (Kd.int .u64) (Kd.pair Kd.string (Kd.slice 27 d)))) (fun x : S27 => (x.f0, x.f1, x.f2, x.f3))
theorem mono27 : Kd.Mono F27 := Kd.mono_iso _ (Kd.mono_pair (Kd.mono_const _) (Kd.mono_pair (Kd.mono_const _) (Kd.mono_pair (Kd.mono_const _) (Kd.mono_slice 27 Kd.mono_id))))
theorem sub27 : Kd.Sub F27 [27] := Kd.sub_iso _ (Kd.sub_pair (Kd.sub_const _ (by decide)) (Kd.sub_pair (Kd.sub_const _ (by decide)) (Kd.sub_pair (Kd.sub_const _ (by decide)) (Kd.sub_slice 27 (by decide) Kd.sub_id))))
theorem sz27 : ∀ n, (Kd.upto F27 4 [27] n).sz = 4 := Kd.upto_sz (fun _ => rfl)
def k27 : Kd S27 := Kd.fix F27 4 [27] sz27 (Kd.upto_E sub27)
theorem k27_mkM (w : World) (base : Nat) (ok : Nat → Prop) (x : S27) {v3 : Value} (g3 : k27.R 27 w base ok v3 x.f3) : k27.M w base ok x [.int .u8 x.f0, .int .u64 x.f1, .string x.f2, v3] := by
  obtain ⟨n3, q3⟩ := Kd.fix_R_back mono27 g3
  have r3 := Kd.upto_R_le mono27 sz27 (show n3 ≤ n3 by omega) q3
  exact ⟨n3 + 1, ⟨[.int .u8 x.f0], [.int .u64 x.f1, .string x.f2, v3], rfl, rfl, ⟨[.int .u64 x.f1], [.string x.f2, v3], rfl, rfl, ⟨[.string x.f2], [v3], rfl, rfl, ⟨v3, rfl, r3⟩⟩⟩⟩⟩

end Go.Proofs.YtogikhohkbcccaaGreatDoor.P

-- Written by a program of this session out of the translation; Lean checks it.
namespace Go.Proofs.YtogikhohkbcccaaGreatDoor.P
open Go.RowKit Go.Proofs.YtogikhohkbcccaaGreatDoorW.PrintWords Go.Proofs.YtogikhohkbcccaaGreatDoorW.PrintLast Go.Proofs.YtogikhohkbcccaaGreatDoorW.PrintMore
attribute [local go_sem] max2_int min2_int max_two min_two max_three min_three max_four min_four   -- for this text's walks alone
set_option linter.unusedVariables false
set_option linter.unusedSimpArgs false

def strconv_prefixIsLessThan.l0 : Nat → List Int → ByteArray → Int → Option (Bool)
  | 0, _, _, _ => none
  | k + 1, x0, x1, x5 => if x5 < (x1.size : Int) then (if x5 ≥ (x0.length : Int) then (some true) else (if 0 ≤ x5 then (if x5 < (x0.length : Int) then (if (rd x0 x5) = (bt x1 x5) then (strconv_prefixIsLessThan.l0 k x0 x1 (wrap64 (x5 + 1))) else (some (decide ((rd x0 x5) < (bt x1 x5))))) else (none)) else (none))) else (some false)
def strconv_prefixIsLessThan.f (k : Nat) (l0 : List Int) (a1 : ByteArray) : Option (Bool) := strconv_prefixIsLessThan.l0 k l0 a1 0
theorem strconv_prefixIsLessThan.mono_l : ∀ k, (∀ y0 y1 y2, LeO (strconv_prefixIsLessThan.l0 k y0 y1 y2) (strconv_prefixIsLessThan.l0 (k + 1) y0 y1 y2))
  | 0 => fun _ _ _ r h => by simp [strconv_prefixIsLessThan.l0] at h
  | k + 1 => by
    have ih0 := strconv_prefixIsLessThan.mono_l k
    · intro y0 y1 y2
      unfold strconv_prefixIsLessThan.l0
      repeat' first
      | (with_reducible exact ih0 _ _ _)
      | (with_reducible exact LeO.refl _)
      | (with_reducible exact LeO.none _)
      | (with_reducible refine LeO.ite ?_ ?_)
      | (with_reducible refine LeO.bind ?_ (fun _ => ?_))
      | exact ih0 _ _ _
      | exact LeO.none _
      | refine LeO.ite ?_ ?_
      | refine LeO.bind ?_ (fun _ => ?_)
theorem strconv_prefixIsLessThan.mono : ∀ a0 a1 k, LeO (strconv_prefixIsLessThan.f k a0 a1) (strconv_prefixIsLessThan.f (k + 1) a0 a1) := by
  intro a0 a1 k
  have ih0 := strconv_prefixIsLessThan.mono_l k
  unfold strconv_prefixIsLessThan.f
  repeat' first
      | (with_reducible exact ih0 _ _ _)
      | (with_reducible exact LeO.refl _)
      | (with_reducible exact LeO.none _)
      | (with_reducible refine LeO.ite ?_ ?_)
      | (with_reducible refine LeO.bind ?_ (fun _ => ?_))
      | exact ih0 _ _ _
      | exact LeO.none _
      | refine LeO.ite ?_ ?_
      | refine LeO.bind ?_ (fun _ => ?_)
set_option maxHeartbeats 8000000 in
set_option maxRecDepth 100000 in
theorem strconv_prefixIsLessThan.calls (k : Nat) (A0 : Option Addr) (c0 : Nat) (l0 : List Int) (a1 : ByteArray) (r : Bool) (w : World) (hr0 : Kd.C (Kd.int .u8) w A0 l0.length l0) (hc0 : l0.length ≤ c0) (h : strconv_prefixIsLessThan.f k l0 a1 = some r) :
    Calls Tryz.prog 86 #[.slice A0 l0.length c0, .string a1] w fun e w' => e = .returned (.bool r) ∧ Drawn0 w w' := by
  have HR0 := Aside0.mk hr0
  have HC0 := Aside0.mk hc0
  clear hr0 hc0
  have H : (strconv_prefixIsLessThan.l0 k l0 a1 0) = some r := h
  clear h
  have H' := Aside0.mk H
  clear H
  go_enter Tryz.func86, Tryz.ntmps86
  go_wp2
  repeat (go_quiet (fail); try go_wp2)
  go_loopg [5] k (fun kq v5 w' => ∃ (x5_1 : Int), v5 = .int .i64 x5_1 ∧ Aside0 (strconv_prefixIsLessThan.l0 kq l0 a1 x5_1 = some r) ∧ Aside0 (kq ≤ k) ∧ Drawn0 w w')
  case atStart => exact ⟨(0), (by first | rfl | (simp; done) | (simp [*]; done)), H', ⟨Nat.le_refl _⟩, by repeat (first | exact Drawn0.refl _ | apply Drawn0.step)⟩
  case round =>
    clear H'
    try clear p2
    obtain ⟨x5_1, rfl, HA, HK1, ⟨m1, rfl⟩⟩ := hrel
    cases gk with
    | zero => exact absurd HA.out (by simp [strconv_prefixIsLessThan.l0])
    | succ k1 =>
      have H := HA.out
      clear HA
      simp only [strconv_prefixIsLessThan.l0] at H
      by_cases c3 : x5_1 < (a1.size : Int)
      · rw [if_pos c3] at H
        have c3b0 : decide (x5_1 < (a1.size : Int)) = true := decide_eq_true c3
        clear c3
        by_cases c4 : x5_1 ≥ (l0.length : Int)
        · rw [if_pos c4] at H
          have c4b0 : decide ((l0.length : Int) ≤ x5_1) = true := decide_eq_true c4
          clear c4
          obtain rfl := Option.some.inj H
          go_wp2
          repeat (go_quiet (fail); try go_wp2)
          go_ret
          exact ⟨by first | rfl | (simp; done) | (simp [*]; done), by repeat (first | exact Drawn0.refl _ | apply Drawn0.step)⟩
        · rw [if_neg c4] at H
          have c4b0 : decide ((l0.length : Int) ≤ x5_1) = false := decide_eq_false c4
          clear c4
          by_cases c5 : 0 ≤ x5_1
          · rw [if_pos c5] at H
            have c5b0 : decide (0 ≤ x5_1) = true := decide_eq_true c5
            clear c5
            by_cases c6 : x5_1 < (l0.length : Int)
            · rw [if_pos c6] at H
              have c6b0 : decide (x5_1 < (l0.length : Int)) = true := decide_eq_true c6
              clear c6
              by_cases c8 : (rd l0 x5_1) = (bt a1 x5_1)
              · rw [if_pos c8] at H
                have c8b0 : ((rd l0 x5_1) == (bt a1 x5_1)) = true := beq_iff_eq.mpr c8
                have c8b1 : ((rd l0 x5_1) != (bt a1 x5_1)) = false := bne_eq_false_iff_eq.mpr c8
                clear c8
                have H' := Aside0.mk H
                clear H
                have p101 : 0 ≤ (x5_1 : Int) := of_decide_eq_true (by first | (with_reducible assumption) | assumption)
                have q101 : x5_1 < (l0.length : Int) := of_decide_eq_true (by first | (with_reducible assumption) | assumption)
                obtain ⟨ad101, e101, hx101_0⟩ := Kd.at_int HR0.out x5_1 p101 q101
                cases e101
                replace p101 := eq_true p101
                replace q101 := eq_true q101
                have p7 : 0 ≤ (x5_1 : Int) := of_decide_eq_true (by first | (with_reducible assumption) | assumption)
                have q7 : x5_1 < (a1.size : Int) := of_decide_eq_true (by first | (with_reducible assumption) | assumption)
                have hx7 := bt_at a1 x5_1
                replace p7 := eq_true p7
                replace q7 := eq_true q7
                go_wp2
                repeat (go_quiet (fail); try go_wp2)
                go_roundg k1
                case measure => have := HK1.out; omega
                case rel => exact ⟨(wrap64 (x5_1 + 1)), (by first | rfl | (simp; done) | (simp [*]; done)), H', ⟨by have := HK1.out; omega⟩, by repeat (first | exact Drawn0.refl _ | apply Drawn0.step)⟩
              · rw [if_neg c8] at H
                have c8b0 : ((rd l0 x5_1) == (bt a1 x5_1)) = false := beq_eq_false_iff_ne.mpr c8
                have c8b1 : ((rd l0 x5_1) != (bt a1 x5_1)) = true := bne_iff_ne.mpr c8
                obtain rfl := Option.some.inj H
                have p101 : 0 ≤ (x5_1 : Int) := of_decide_eq_true (by first | (with_reducible assumption) | assumption)
                have q101 : x5_1 < (l0.length : Int) := of_decide_eq_true (by first | (with_reducible assumption) | assumption)
                obtain ⟨ad101, e101, hx101_0⟩ := Kd.at_int HR0.out x5_1 p101 q101
                cases e101
                replace p101 := eq_true p101
                replace q101 := eq_true q101
                have p7 : 0 ≤ (x5_1 : Int) := of_decide_eq_true (by first | (with_reducible assumption) | assumption)
                have q7 : x5_1 < (a1.size : Int) := of_decide_eq_true (by first | (with_reducible assumption) | assumption)
                have hx7 := bt_at a1 x5_1
                replace p7 := eq_true p7
                replace q7 := eq_true q7
                have p102 : 0 ≤ (x5_1 : Int) := of_decide_eq_true (by first | (with_reducible assumption) | assumption)
                have q102 : x5_1 < (l0.length : Int) := of_decide_eq_true (by first | (with_reducible assumption) | assumption)
                obtain ⟨ad102, e102, hx102_0⟩ := Kd.at_int HR0.out x5_1 p102 q102
                obtain rfl : ad101 = ad102 := (by injection e102)
                replace p102 := eq_true p102
                replace q102 := eq_true q102
                have p9 : 0 ≤ (x5_1 : Int) := of_decide_eq_true (by first | (with_reducible assumption) | assumption)
                have q9 : x5_1 < (a1.size : Int) := of_decide_eq_true (by first | (with_reducible assumption) | assumption)
                have hx9 := bt_at a1 x5_1
                replace p9 := eq_true p9
                replace q9 := eq_true q9
                go_wp2
                repeat (go_quiet (fail); try go_wp2)
                go_ret
                exact ⟨by first | rfl | (simp; done) | (simp [*]; done), by repeat (first | exact Drawn0.refl _ | apply Drawn0.step)⟩
            · rw [if_neg c6] at H
              exact absurd H (by simp)
          · rw [if_neg c5] at H
            exact absurd H (by simp)
      · rw [if_neg c3] at H
        have c3b0 : decide (x5_1 < (a1.size : Int)) = false := decide_eq_false c3
        clear c3
        obtain rfl := Option.some.inj H
        go_wp2
        repeat (go_quiet (fail); try go_wp2)
        go_ret
        exact ⟨by first | rfl | (simp; done) | (simp [*]; done), by repeat (first | exact Drawn0.refl _ | apply Drawn0.step)⟩

def strconv_bool2_uint64.f (a0 : Bool) : Option (Int) := if a0 = true then (some 1) else (some 0)
set_option maxHeartbeats 8000000 in
set_option maxRecDepth 100000 in
theorem strconv_bool2_uint64.calls (a0 : Bool) (r : Int) (w : World) (h : strconv_bool2_uint64.f a0 = some r) :
    Calls Tryz.prog 51 #[.bool a0] w fun e w' => e = .returned (.int .u64 r) ∧ Drawn0 w w' := by
  have H : (if a0 = true then (some 1) else (some 0)) = some r := h
  clear h
  by_cases c2 : a0 = true
  · subst c2
    have H1 : (some 1) = some r := by rw [if_pos rfl] at H; exact H
    clear H
    have H := H1
    clear H1
    obtain rfl := Option.some.inj H
    go_enter Tryz.func51, Tryz.ntmps51
    go_wp2
    go_ret
    exact ⟨by first | rfl | (simp; done) | (simp [*]; done), by repeat (first | exact Drawn0.refl _ | apply Drawn0.step)⟩
  · replace c2 := Bool.eq_false_iff.mpr c2
    subst c2
    have H1 : (some 0) = some r := by rw [if_neg (show ¬ (false = true) by decide)] at H; exact H
    clear H
    have H := H1
    clear H1
    obtain rfl := Option.some.inj H
    go_enter Tryz.func51, Tryz.ntmps51
    go_wp2
    go_ret
    exact ⟨by first | rfl | (simp; done) | (simp [*]; done), by repeat (first | exact Drawn0.refl _ | apply Drawn0.step)⟩

def bits_Mul64.f (a0 : Int) (a1 : Int) : Option (Int × Int) := some (IntKind.u64.wrap ((IntKind.u64.wrap ((IntKind.u64.wrap ((a0 / 4294967296) * (a1 / 4294967296))) + ((IntKind.u64.wrap ((IntKind.u64.wrap ((a0 / 4294967296) * (Go.bits .and .u64 a1 4294967295))) + ((IntKind.u64.wrap ((Go.bits .and .u64 a0 4294967295) * (Go.bits .and .u64 a1 4294967295))) / 4294967296))) / 4294967296))) + ((IntKind.u64.wrap ((Go.bits .and .u64 (IntKind.u64.wrap ((IntKind.u64.wrap ((a0 / 4294967296) * (Go.bits .and .u64 a1 4294967295))) + ((IntKind.u64.wrap ((Go.bits .and .u64 a0 4294967295) * (Go.bits .and .u64 a1 4294967295))) / 4294967296))) 4294967295) + (IntKind.u64.wrap ((Go.bits .and .u64 a0 4294967295) * (a1 / 4294967296))))) / 4294967296)), IntKind.u64.wrap (a0 * a1))
set_option maxHeartbeats 8000000 in
set_option maxRecDepth 100000 in
theorem bits_Mul64.calls (a0 : Int) (a1 : Int) (r1 : Int) (r2 : Int) (w : World) (h : bits_Mul64.f a0 a1 = some (r1, r2)) :
    Calls Tryz.prog 78 #[.int .u64 a0, .int .u64 a1] w fun e w' => e = .returned (.tuple #[.int .u64 r1, .int .u64 r2]) ∧ Drawn0 w w' := by
  have H : (some (IntKind.u64.wrap ((IntKind.u64.wrap ((IntKind.u64.wrap ((a0 / 4294967296) * (a1 / 4294967296))) + ((IntKind.u64.wrap ((IntKind.u64.wrap ((a0 / 4294967296) * (Go.bits .and .u64 a1 4294967295))) + ((IntKind.u64.wrap ((Go.bits .and .u64 a0 4294967295) * (Go.bits .and .u64 a1 4294967295))) / 4294967296))) / 4294967296))) + ((IntKind.u64.wrap ((Go.bits .and .u64 (IntKind.u64.wrap ((IntKind.u64.wrap ((a0 / 4294967296) * (Go.bits .and .u64 a1 4294967295))) + ((IntKind.u64.wrap ((Go.bits .and .u64 a0 4294967295) * (Go.bits .and .u64 a1 4294967295))) / 4294967296))) 4294967295) + (IntKind.u64.wrap ((Go.bits .and .u64 a0 4294967295) * (a1 / 4294967296))))) / 4294967296)), IntKind.u64.wrap (a0 * a1))) = some (r1, r2) := h
  clear h
  simp only [Option.some.injEq, Prod.mk.injEq] at H
  obtain ⟨rfl, rfl⟩ := H
  go_enter Tryz.func78, Tryz.ntmps78
  go_wp2
  go_ret2
  exact ⟨by first | rfl | (simp; done) | (simp [*]; done), by repeat (first | exact Drawn0.refl _ | apply Drawn0.step)⟩

/-- A state of type 160 at block g of W; what its slices lead to came in by w0. -/
def IsS160 (w0 W : World) (g : Nat) (f0 : Int) (f1 : Int) (f2 : Int) : Prop := W.heap[g]? = some (.cells #[.int .u64 f0, .int .u64 f1, .int .i64 f2] 160 (0, 0)) ∧ w0.heap.size ≤ g
theorem IsS160.grown {w0 W : World} {g : Nat} {f0 : Int} {f1 : Int} {f2 : Int} {W1 : World} {row : Option Nat} (h : IsS160 w0 W g f0 f1 f2) (hw : W.grownBy W1 row) (hne : some g ≠ row) : IsS160 w0 W1 g f0 f1 f2 := by
  obtain ⟨hb, hg⟩ := h
  exact ⟨blk_grown hb hw hne, hg⟩
theorem IsS160.kept {w0 W : World} {g : Nat} {f0 : Int} {f1 : Int} {f2 : Int} {W1 : World} {S : Nat → Prop} (h : IsS160 w0 W g f0 f1 f2) (hk : Kept W W1 S) (hne : ¬ S g) : IsS160 w0 W1 g f0 f1 f2 := by
  obtain ⟨hb, hg⟩ := h
  exact ⟨blk_kept hb hk hne, hg⟩
theorem IsS160.below {w0 W : World} {g : Nat} {f0 : Int} {f1 : Int} {f2 : Int} {W1 : World} (h : IsS160 w0 W g f0 f1 f2) (hw : Below W.heap.size W W1) : IsS160 w0 W1 g f0 f1 f2 := h.grown (grown_of_below hw none) (by simp)
theorem IsS160.alloc {w0 W : World} {g : Nat} {f0 : Int} {f1 : Int} {f2 : Int} (h : IsS160 w0 W g f0 f1 f2) (o : Obj) : IsS160 w0 (W.alloc o) g f0 f1 f2 := h.below (below_alloc (Below.refl _ _) o)
theorem IsS160.drewN {w0 W : World} {g : Nat} {f0 : Int} {f1 : Int} {f2 : Int} (h : IsS160 w0 W g f0 f1 f2) (m : Nat) : IsS160 w0 (W.drewN m) g f0 f1 f2 := h
theorem IsS160.drew {w0 W : World} {g : Nat} {f0 : Int} {f1 : Int} {f2 : Int} (h : IsS160 w0 W g f0 f1 f2) : IsS160 w0 W.drew g f0 f1 f2 := h
theorem IsS160.at_ {w0 W : World} {g : Nat} {f0 : Int} {f1 : Int} {f2 : Int} {w' : World} {m : Nat} (hq : W.drewN m = w') (h : IsS160 w0 W g f0 f1 f2) : IsS160 w0 w' g f0 f1 f2 := by subst hq; exact IsS160.drewN h m
theorem IsS160.apart {w0 W : World} {g : Nat} {f0 : Int} {f1 : Int} {f2 : Int} {α : Type} {d : Kd α} {e : Nat} {base : Nat} {ok : Nat → Prop} {v : Value} {xs : List α} (h : IsS160 w0 W g f0 f1 f2) (ho : d.R e W base ok v xs) (ht : ∀ q, q ∈ e :: d.E → q ≠ 160) : d.R e W base (fun k => ok k ∧ k ≠ g) v xs := by
  obtain ⟨hb, hg⟩ := h
  exact Kd.R_types ho hb ht
theorem IsS160.own_ne {w0 W : World} {g : Nat} {f0 : Int} {f1 : Int} {f2 : Int} {α : Type} {d : Kd α} {e : Nat} {base : Nat} {ok : Nat → Prop} {v : Value} {xs : List α} (h : IsS160 w0 W g f0 f1 f2) (ho : d.R e W base ok v xs) (ht : e ≠ 160) : some g ≠ v.ownBlock := by
  obtain ⟨hb, hg⟩ := h
  exact Kd.R_ne ho hb ht
theorem IsS160.lt {w0 W : World} {g : Nat} {f0 : Int} {f1 : Int} {f2 : Int} (h : IsS160 w0 W g f0 f1 f2) : g < W.heap.size := by
  obtain ⟨hb, hg⟩ := h
  exact blk_lt hb
theorem IsS160.ge {w0 W : World} {g : Nat} {f0 : Int} {f1 : Int} {f2 : Int} (h : IsS160 w0 W g f0 f1 f2) : w0.heap.size ≤ g := by
  obtain ⟨hb, hg⟩ := h
  exact hg
theorem cellS160_0 {W : World} {g : Nat} {f0 : Int} {f1 : Int} {f2 : Int} (h : W.heap[g]? = some (.cells #[.int .u64 f0, .int .u64 f1, .int .i64 f2] 160 (0, 0))) : W.cell? ⟨g, 0, none⟩ = some (.int .u64 f0) := (blk_cell h 0).trans rfl
theorem IsS160.set_0 {w0 W : World} {g : Nat} {f0 : Int} {f1 : Int} {f2 : Int} (h : IsS160 w0 W g f0 f1 f2) (x : Int) : IsS160 w0 (W.setCell ⟨g, 0, none⟩ (.int .u64 x)) g x f1 f2 := by
  obtain ⟨hb, hg⟩ := h
  exact ⟨by simpa using blk_set hb 0 (.int .u64 x), hg⟩
theorem cellS160_1 {W : World} {g : Nat} {f0 : Int} {f1 : Int} {f2 : Int} (h : W.heap[g]? = some (.cells #[.int .u64 f0, .int .u64 f1, .int .i64 f2] 160 (0, 0))) : W.cell? ⟨g, 1, none⟩ = some (.int .u64 f1) := (blk_cell h 1).trans rfl
theorem IsS160.set_1 {w0 W : World} {g : Nat} {f0 : Int} {f1 : Int} {f2 : Int} (h : IsS160 w0 W g f0 f1 f2) (x : Int) : IsS160 w0 (W.setCell ⟨g, 1, none⟩ (.int .u64 x)) g f0 x f2 := by
  obtain ⟨hb, hg⟩ := h
  exact ⟨by simpa using blk_set hb 1 (.int .u64 x), hg⟩
theorem cellS160_2 {W : World} {g : Nat} {f0 : Int} {f1 : Int} {f2 : Int} (h : W.heap[g]? = some (.cells #[.int .u64 f0, .int .u64 f1, .int .i64 f2] 160 (0, 0))) : W.cell? ⟨g, 2, none⟩ = some (.int .i64 f2) := (blk_cell h 2).trans rfl
theorem IsS160.set_2 {w0 W : World} {g : Nat} {f0 : Int} {f1 : Int} {f2 : Int} (h : IsS160 w0 W g f0 f1 f2) (x : Int) : IsS160 w0 (W.setCell ⟨g, 2, none⟩ (.int .i64 x)) g f0 f1 x := by
  obtain ⟨hb, hg⟩ := h
  exact ⟨by simpa using blk_set hb 2 (.int .i64 x), hg⟩
theorem IsS160.new (w0 W : World) (f0 : Int) (f1 : Int) (f2 : Int) (hB : Below w0.heap.size w0 W) : IsS160 w0 (W.alloc (.cells #[.int .u64 f0, .int .u64 f1, .int .i64 f2] 160)) W.heap.size f0 f1 f2 := ⟨by simpa using heap_alloc_new W _, hB.size⟩

def strconv_unmin.f (a0 : Int) : Option (Int) := some (IntKind.u64.wrap ((IntKind.u64.wrap (a0 * 4)) - 2))
set_option maxHeartbeats 8000000 in
set_option maxRecDepth 100000 in
theorem strconv_unmin.calls (a0 : Int) (r : Int) (w : World) (h : strconv_unmin.f a0 = some r) :
    Calls Tryz.prog 71 #[.int .u64 a0] w fun e w' => e = .returned (.int .u64 r) ∧ Drawn0 w w' := by
  have H : (some (IntKind.u64.wrap ((IntKind.u64.wrap (a0 * 4)) - 2))) = some r := h
  clear h
  obtain rfl := Option.some.inj H
  go_enter Tryz.func71, Tryz.ntmps71
  go_wp2
  go_ret
  exact ⟨by first | rfl | (simp; done) | (simp [*]; done), by repeat (first | exact Drawn0.refl _ | apply Drawn0.step)⟩

def strconv_unrounded_round.f (a0 : Int) : Option (Int) := some ((IntKind.u64.wrap ((IntKind.u64.wrap (a0 + 1)) + (Go.bits .and .u64 (a0 / 4) 1))) / 4)
set_option maxHeartbeats 8000000 in
set_option maxRecDepth 100000 in
theorem strconv_unrounded_round.calls (a0 : Int) (r : Int) (w : World) (h : strconv_unrounded_round.f a0 = some r) :
    Calls Tryz.prog 73 #[.int .u64 a0] w fun e w' => e = .returned (.int .u64 r) ∧ Drawn0 w w' := by
  have H : (some ((IntKind.u64.wrap ((IntKind.u64.wrap (a0 + 1)) + (Go.bits .and .u64 (a0 / 4) 1))) / 4)) = some r := h
  clear h
  obtain rfl := Option.some.inj H
  go_enter Tryz.func73, Tryz.ntmps73
  go_wp2
  go_ret
  exact ⟨by first | rfl | (simp; done) | (simp [*]; done), by repeat (first | exact Drawn0.refl _ | apply Drawn0.step)⟩

def strconv_bool2_int.f (a0 : Bool) : Option (Int) := if a0 = true then (some 1) else (some 0)
set_option maxHeartbeats 8000000 in
set_option maxRecDepth 100000 in
theorem strconv_bool2_int.calls (a0 : Bool) (r : Int) (w : World) (h : strconv_bool2_int.f a0 = some r) :
    Calls Tryz.prog 70 #[.bool a0] w fun e w' => e = .returned (.int .i64 r) ∧ Drawn0 w w' := by
  have H : (if a0 = true then (some 1) else (some 0)) = some r := h
  clear h
  by_cases c2 : a0 = true
  · subst c2
    have H1 : (some 1) = some r := by rw [if_pos rfl] at H; exact H
    clear H
    have H := H1
    clear H1
    obtain rfl := Option.some.inj H
    go_enter Tryz.func70, Tryz.ntmps70
    go_wp2
    go_ret
    exact ⟨by first | rfl | (simp; done) | (simp [*]; done), by repeat (first | exact Drawn0.refl _ | apply Drawn0.step)⟩
  · replace c2 := Bool.eq_false_iff.mpr c2
    subst c2
    have H1 : (some 0) = some r := by rw [if_neg (show ¬ (false = true) by decide)] at H; exact H
    clear H
    have H := H1
    clear H1
    obtain rfl := Option.some.inj H
    go_enter Tryz.func70, Tryz.ntmps70
    go_wp2
    go_ret
    exact ⟨by first | rfl | (simp; done) | (simp [*]; done), by repeat (first | exact Drawn0.refl _ | apply Drawn0.step)⟩

def strconv_log2Pow10.f (a0 : Int) : Option (Int) := some ((wrap64 (a0 * 108853)) / 32768)
set_option maxHeartbeats 8000000 in
set_option maxRecDepth 100000 in
theorem strconv_log2Pow10.calls (a0 : Int) (r : Int) (w : World) (h : strconv_log2Pow10.f a0 = some r) :
    Calls Tryz.prog 67 #[.int .i64 a0] w fun e w' => e = .returned (.int .i64 r) ∧ Drawn0 w w' := by
  have H : (some ((wrap64 (a0 * 108853)) / 32768)) = some r := h
  clear h
  obtain rfl := Option.some.inj H
  go_enter Tryz.func67, Tryz.ntmps67
  go_wp2
  go_ret
  exact ⟨by first | rfl | (simp; done) | (simp [*]; done), by repeat (first | exact Drawn0.refl _ | apply Drawn0.step)⟩

def strconv_lower.f (a0 : Int) : Option (Int) := some (Go.bits .or .u8 a0 32)
set_option maxHeartbeats 8000000 in
set_option maxRecDepth 100000 in
theorem strconv_lower.calls (a0 : Int) (r : Int) (w : World) (h : strconv_lower.f a0 = some r) :
    Calls Tryz.prog 27 #[.int .u8 a0] w fun e w' => e = .returned (.int .u8 r) ∧ Drawn0 w w' := by
  have H : (some (Go.bits .or .u8 a0 32)) = some r := h
  clear h
  obtain rfl := Option.some.inj H
  go_enter Tryz.func27, Tryz.ntmps27
  go_wp2
  go_ret
  exact ⟨by first | rfl | (simp; done) | (simp [*]; done), by repeat (first | exact Drawn0.refl _ | apply Drawn0.step)⟩

mutual
def impl_valOut.l0 : Nat → List (S49) → Int → Int → Int → Int → ByteArray → List (S27) → Option (Int × Int × ByteArray × (List (S27)))
  | 0, _, _, _, _, _, _, _ => none
  | k + 1, x14, x15, x16, x112000, x112001, x112002, x112003 => if x16 < x15 then (if 0 ≤ x16 then (if x16 < (x14.length : Int) then ((impl_valOut.f k ((rd_T49 x14 x16).f0) ((rd_T49 x14 x16).f1) ((rd_T49 x14 x16).f2) ((rd_T49 x14 x16).f3)).bind fun bt114 => (if x112003.length < 2513169434916 then (impl_valOut.l0 k x14 x15 (wrap64 (x16 + 1)) x112000 x112001 x112002 (x112003 ++ [(⟨bt114.1, bt114.2.1, bt114.2.2.1, bt114.2.2.2⟩ : S27)])) else (none))) else (none)) else (none)) else (some (x112000, x112001, x112002, x112003))
def impl_valOut.f : Nat → Int → Int → ByteArray → List (S49) → Option (Int × Int × ByteArray × (List (S27)))
  | 0, _, _, _, _ => none
  | k + 1, a0_0, a0_1, a0_2, l0_3 => impl_valOut.l0 k l0_3 (l0_3.length : Int) 0 a0_0 a0_1 a0_2 ([] : List (S27))
end
theorem impl_valOut.mono_l : ∀ k, (∀ y0 y1 y2 y3, LeO (impl_valOut.f k y0 y1 y2 y3) (impl_valOut.f (k + 1) y0 y1 y2 y3)) ∧ (∀ y0 y1 y2 y3 y4 y5 y6, LeO (impl_valOut.l0 k y0 y1 y2 y3 y4 y5 y6) (impl_valOut.l0 (k + 1) y0 y1 y2 y3 y4 y5 y6))
  | 0 => ⟨fun _ _ _ _ r h => by simp [impl_valOut.f] at h, fun _ _ _ _ _ _ _ r h => by simp [impl_valOut.l0] at h⟩
  | k + 1 => by
    obtain ⟨ih0, ih1⟩ := impl_valOut.mono_l k
    refine ⟨?_, ?_⟩
    · intro y0 y1 y2 y3
      unfold impl_valOut.f
      repeat' first
      | (with_reducible exact ih0 _ _ _ _)
      | (with_reducible exact ih1 _ _ _ _ _ _ _)
      | (with_reducible exact LeO.refl _)
      | (with_reducible exact LeO.none _)
      | (with_reducible refine LeO.ite ?_ ?_)
      | (with_reducible refine LeO.bind ?_ (fun _ => ?_))
      | exact ih0 _ _ _ _
      | exact ih1 _ _ _ _ _ _ _
      | exact LeO.none _
      | refine LeO.ite ?_ ?_
      | refine LeO.bind ?_ (fun _ => ?_)
    · intro y0 y1 y2 y3 y4 y5 y6
      unfold impl_valOut.l0
      repeat' first
      | (with_reducible exact ih0 _ _ _ _)
      | (with_reducible exact ih1 _ _ _ _ _ _ _)
      | (with_reducible exact LeO.refl _)
      | (with_reducible exact LeO.none _)
      | (with_reducible refine LeO.ite ?_ ?_)
      | (with_reducible refine LeO.bind ?_ (fun _ => ?_))
      | exact ih0 _ _ _ _
      | exact ih1 _ _ _ _ _ _ _
      | exact LeO.none _
      | refine LeO.ite ?_ ?_
      | refine LeO.bind ?_ (fun _ => ?_)
theorem impl_valOut.mono : ∀ a0 a1 a2 a3 k, LeO (impl_valOut.f k a0 a1 a2 a3) (impl_valOut.f (k + 1) a0 a1 a2 a3) := by
  intro a0 a1 a2 a3 k
  obtain ⟨ih0, ih1⟩ := impl_valOut.mono_l k
  exact ih0 a0 a1 a2 a3
def impl_valOut.T5 : Bool × List (List Nat × List Nat) := (true, [([], []), ([0], [0]), ([], []), ([2], [2]), ([3], [3]), ([1, 4, 3], [1, 4]), ([0, 1, 2, 3, 4, 5], []), ([6, 5, 5, 0, 1, 2, 3, 4, 5], [5, 6])])
def impl_valOut.B5 : List Nat := [0, 1, 0, 4, 12, 31, 63, 127]
theorem impl_valOut.tab5 : rtab .any (opsOf Tryz.f15 5) = impl_valOut.T5 := by kernel_rfl
theorem impl_valOut.bits5 : waitsOk impl_valOut.T5.2 impl_valOut.B5 = true := by kernel_rfl
set_option maxHeartbeats 8000000 in
set_option maxRecDepth 100000 in
theorem impl_valOut.calls (k : Nat) : ∀ (a0_0 : Int) (a0_1 : Int) (a0_2 : ByteArray) (A0_3 : Option Addr) (c0_3 : Nat) (l0_3 : List (S49)) (r1 : Int) (r2 : Int) (r3 : ByteArray) (r4 : List (S27)) (w : World) (hr0_3 : Kd.C k49 w A0_3 l0_3.length l0_3) (hc0_3 : l0_3.length ≤ c0_3) (h : impl_valOut.f k a0_0 a0_1 a0_2 l0_3 = some (r1, r2, r3, r4)),
    Calls Tryz.prog 15 #[.agg #[.int .u8 a0_0, .int .u64 a0_1, .string a0_2, .slice A0_3 l0_3.length c0_3]] w fun e w' => ∃ v3_ : Value, e = .returned (.agg #[.int .u8 r1, .int .u64 r2, .string r3, v3_]) ∧ Kd.R k27 27 w' w.heap.size (fun _ => True) v3_ r4 ∧ Below w.heap.size w w' := by
  induction k using Nat.strongRecOn with
  | _ k ih =>
  intro a0_0 a0_1 a0_2 A0_3 c0_3 l0_3 r1 r2 r3 r4 w hr0_3 hc0_3 h
  cases k with
  | zero => exact absurd h (by simp [impl_valOut.f])
  | succ k =>
  simp only [impl_valOut.f] at h
  have hu49 := Tryz.underlying49
  have hu27 := Tryz.underlying27
  have HR0_3 := Aside0.mk hr0_3
  have HC0_3 := Aside0.mk hc0_3
  clear hr0_3 hc0_3
  have HB := Aside0.mk (Below.refl w.heap.size w)
  have H : (impl_valOut.l0 k l0_3 (l0_3.length : Int) 0 a0_0 a0_1 a0_2 ([] : List (S27))) = some (r1, r2, r3, r4) := h
  clear h
  have H' := Aside0.mk H
  clear H
  go_enter Tryz.func15, Tryz.ntmps15
  go_wp2_with (first | ((with_reducible refine gate_dst (N := 1) rfl ?_); refine box_event ?hg (N := 1) ?hd (cs := #[.int .u8 a0_0, .int .u64 a0_1, .string a0_2, .slice A0_3 l0_3.length c0_3]) (t := 49) ?hr ?_; (case hd => rfl); (case hg => rfl); (case hr => first | (go_simp; done) | (go_simp; rfl)); intro gb109 hg w2 hbox hb; have n0_ := Aside0.mk (below_step (by repeat (first | (with_reducible first | exact HB.out | apply below_alloc | apply pw_below_drewN | apply below_drew1) | exact HB.out)) hb); have n1_ := Aside0.mk (hbox); have n2_ := Aside0.mk ((by rw [hg]; exact (below_size (by repeat (first | (with_reducible first | exact HB.out | apply below_alloc | apply pw_below_drewN | apply below_drew1) | exact HB.out))) : w.heap.size ≤ gb109)); have n3_ := Aside0.mk ((by rw [hg]; exact (below_size (by repeat (first | (with_reducible first | exact HB.out | apply below_alloc | apply pw_below_drewN | apply below_drew1) | exact HB.out))) : w.heap.size ≤ gb109)); clear HB; have HB := n0_; have BK109 := n1_; have GW109 := n2_; have GE109 := n3_; clear n0_ n1_ n2_ n3_; clear hb hbox hg) | ((with_reducible refine gate_dst (N := 2) rfl ?_); refine box_event ?hg (N := 2) ?hd (cs := #[.int .u8 0, .int .u64 0, .string (⟨#[]⟩ : ByteArray), .slice none 0 0]) (t := 27) ?hr ?_; (case hd => rfl); (case hg => rfl); (case hr => first | (go_simp; done) | (go_simp; rfl)); intro gb110 hg w3 hbox hb; have n0_ := Aside0.mk (blk_below (g := gb109) (o := .cells #[.int .u8 a0_0, .int .u64 a0_1, .string a0_2, .slice A0_3 l0_3.length c0_3] 49 (0, 0)) (by (with_reducible repeat (first | refine blk_drewN ?_ _ | refine blk_drew ?_ | refine blk_alloc ?_ _)); exact BK109.out) hb); have n1_ := Aside0.mk (below_step (by repeat (first | (with_reducible first | exact HB.out | apply below_alloc | apply pw_below_drewN | apply below_drew1 | refine below_set ?_ GE109.out) | exact HB.out)) hb); have n2_ := Aside0.mk (hbox); have n3_ := Aside0.mk ((by rw [hg]; exact (below_size (by repeat (first | (with_reducible first | exact HB.out | apply below_alloc | apply pw_below_drewN | apply below_drew1 | refine below_set ?_ GE109.out) | exact HB.out))) : w.heap.size ≤ gb110)); have n4_ := Aside0.mk ((by rw [hg]; exact (below_size (by repeat (first | (with_reducible first | exact HB.out | apply below_alloc | apply pw_below_drewN | apply below_drew1 | refine below_set ?_ GE109.out) | exact HB.out))) : w.heap.size ≤ gb110)); have n5_ := Aside0.mk ((by rw [hg]; exact Nat.ne_of_lt (blk_lt (g := gb109) (o := .cells #[.int .u8 a0_0, .int .u64 a0_1, .string a0_2, .slice A0_3 l0_3.length c0_3] 49 (0, 0)) (by (with_reducible repeat (first | refine blk_drewN ?_ _ | refine blk_drew ?_ | refine blk_alloc ?_ _)); exact BK109.out)) : gb109 ≠ gb110)); have n6_ := Aside0.mk ((by rw [hg]; exact Nat.ne_of_gt (blk_lt (g := gb109) (o := .cells #[.int .u8 a0_0, .int .u64 a0_1, .string a0_2, .slice A0_3 l0_3.length c0_3] 49 (0, 0)) (by (with_reducible repeat (first | refine blk_drewN ?_ _ | refine blk_drew ?_ | refine blk_alloc ?_ _)); exact BK109.out)) : gb110 ≠ gb109)); clear BK109; clear HB; have BK109 := n0_; have HB := n1_; have BK110 := n2_; have GW110 := n3_; have GE110 := n4_; have NB109_110 := n5_; have NB110_109 := n6_; clear n0_ n1_ n2_ n3_ n4_ n5_ n6_; clear hb hbox hg; have hnb4 := NB109_110.out; have hnc4 := NB110_109.out; have hcz5_0 : w3.cell? ⟨gb109, 0, none⟩ = some (.int .u8 a0_0) := (blk_cell BK109.out 0).trans rfl; have hcz5_1 : w3.cell? ⟨gb109, 1, none⟩ = some (.int .u64 a0_1) := (blk_cell BK109.out 1).trans rfl; have hcz5_2 : w3.cell? ⟨gb109, 2, none⟩ = some (.string a0_2) := (blk_cell BK109.out 2).trans rfl; have hcz5_3 : w3.cell? ⟨gb109, 3, none⟩ = some (.slice A0_3 l0_3.length c0_3) := (blk_cell BK109.out 3).trans rfl; have hfz5_0 := blk_frozen BK109.out 0; have hfz5_1 := blk_frozen BK109.out 1; have hfz5_2 := blk_frozen BK109.out 2; have hfz5_3 := blk_frozen BK109.out 3) | ((with_reducible refine gate_dst (N := 3) rfl ?_); refine box_event ?hg (N := 3) ?hd (cs := #[.int .u8 0, .int .u64 0, .string (⟨#[]⟩ : ByteArray), .slice none 0 0]) (t := 27) ?hr ?_; (case hd => rfl); (case hg => rfl); (case hr => first | (go_simp; done) | (go_simp; rfl)); intro gb111 hg w6 hbox hb; have n0_ := Aside0.mk (blk_below (g := gb109) (o := .cells #[.int .u8 a0_0, .int .u64 a0_1, .string a0_2, .slice A0_3 l0_3.length c0_3] 49 (0, 0)) (by (with_reducible repeat (first | refine blk_drewN ?_ _ | refine blk_drew ?_ | refine blk_alloc ?_ _)); exact BK109.out) hb); have n1_ := Aside0.mk (blk_below (g := gb110) (o := .cells #[.int .u8 0, .int .u64 0, .string (⟨#[]⟩ : ByteArray), .slice none 0 0] 27 (0, 0)) (by (with_reducible repeat (first | refine blk_drewN ?_ _ | refine blk_drew ?_ | refine blk_alloc ?_ _)); exact BK110.out) hb); have n2_ := Aside0.mk (below_step (by repeat (first | (with_reducible first | exact HB.out | apply below_alloc | apply pw_below_drewN | apply below_drew1 | refine below_set ?_ GE109.out | refine below_set ?_ GE110.out) | exact HB.out)) hb); have n3_ := Aside0.mk (hbox); have n4_ := Aside0.mk ((by rw [hg]; exact (below_size (by repeat (first | (with_reducible first | exact HB.out | apply below_alloc | apply pw_below_drewN | apply below_drew1 | refine below_set ?_ GE109.out | refine below_set ?_ GE110.out) | exact HB.out))) : w.heap.size ≤ gb111)); have n5_ := Aside0.mk ((by rw [hg]; exact (below_size (by repeat (first | (with_reducible first | exact HB.out | apply below_alloc | apply pw_below_drewN | apply below_drew1 | refine below_set ?_ GE109.out | refine below_set ?_ GE110.out) | exact HB.out))) : w.heap.size ≤ gb111)); have n6_ := Aside0.mk ((by rw [hg]; exact Nat.ne_of_lt (blk_lt (g := gb109) (o := .cells #[.int .u8 a0_0, .int .u64 a0_1, .string a0_2, .slice A0_3 l0_3.length c0_3] 49 (0, 0)) (by (with_reducible repeat (first | refine blk_drewN ?_ _ | refine blk_drew ?_ | refine blk_alloc ?_ _)); exact BK109.out)) : gb109 ≠ gb111)); have n7_ := Aside0.mk ((by rw [hg]; exact Nat.ne_of_gt (blk_lt (g := gb109) (o := .cells #[.int .u8 a0_0, .int .u64 a0_1, .string a0_2, .slice A0_3 l0_3.length c0_3] 49 (0, 0)) (by (with_reducible repeat (first | refine blk_drewN ?_ _ | refine blk_drew ?_ | refine blk_alloc ?_ _)); exact BK109.out)) : gb111 ≠ gb109)); have n8_ := Aside0.mk ((by rw [hg]; exact Nat.ne_of_lt (blk_lt (g := gb110) (o := .cells #[.int .u8 0, .int .u64 0, .string (⟨#[]⟩ : ByteArray), .slice none 0 0] 27 (0, 0)) (by (with_reducible repeat (first | refine blk_drewN ?_ _ | refine blk_drew ?_ | refine blk_alloc ?_ _)); exact BK110.out)) : gb110 ≠ gb111)); have n9_ := Aside0.mk ((by rw [hg]; exact Nat.ne_of_gt (blk_lt (g := gb110) (o := .cells #[.int .u8 0, .int .u64 0, .string (⟨#[]⟩ : ByteArray), .slice none 0 0] 27 (0, 0)) (by (with_reducible repeat (first | refine blk_drewN ?_ _ | refine blk_drew ?_ | refine blk_alloc ?_ _)); exact BK110.out)) : gb111 ≠ gb110)); clear BK109; clear BK110; clear HB; have BK109 := n0_; have BK110 := n1_; have HB := n2_; have BK111 := n3_; have GW111 := n4_; have GE111 := n5_; have NB109_111 := n6_; have NB111_109 := n7_; have NB110_111 := n8_; have NB111_110 := n9_; clear n0_ n1_ n2_ n3_ n4_ n5_ n6_ n7_ n8_ n9_; clear hb hbox hg; have hnb7 := NB111_109.out; have hnc7 := NB109_111.out; have hnb8 := NB111_110.out; have hnc8 := NB110_111.out; have hcz9_0 : w6.cell? ⟨gb111, 0, none⟩ = some (.int .u8 0) := (blk_cell BK111.out 0).trans rfl; have hcz9_1 : w6.cell? ⟨gb111, 1, none⟩ = some (.int .u64 0) := (blk_cell BK111.out 1).trans rfl; have hcz9_2 : w6.cell? ⟨gb111, 2, none⟩ = some (.string (⟨#[]⟩ : ByteArray)) := (blk_cell BK111.out 2).trans rfl; have hcz9_3 : w6.cell? ⟨gb111, 3, none⟩ = some (.slice none 0 0) := (blk_cell BK111.out 3).trans rfl; have hfz9_0 := blk_frozen BK111.out 0; have hfz9_1 := blk_frozen BK111.out 1; have hfz9_2 := blk_frozen BK111.out 2; have hfz9_3 := blk_frozen BK111.out 3; have hcz10_0 : w6.cell? ⟨gb109, 0, none⟩ = some (.int .u8 a0_0) := (blk_cell BK109.out 0).trans rfl; have hcz10_1 : w6.cell? ⟨gb109, 1, none⟩ = some (.int .u64 a0_1) := (blk_cell BK109.out 1).trans rfl; have hcz10_2 : w6.cell? ⟨gb109, 2, none⟩ = some (.string a0_2) := (blk_cell BK109.out 2).trans rfl; have hcz10_3 : w6.cell? ⟨gb109, 3, none⟩ = some (.slice A0_3 l0_3.length c0_3) := (blk_cell BK109.out 3).trans rfl; have hfz10_0 := blk_frozen BK109.out 0; have hfz10_1 := blk_frozen BK109.out 1; have hfz10_2 := blk_frozen BK109.out 2; have hfz10_3 := blk_frozen BK109.out 3))
  go_loopg [16] k (fun kq v16 w' => ∃ (x16_1 : Int) (x112003_1 : List (S27)) (u112003 : Value), v16 = .int .i64 x16_1 ∧ Aside0 (impl_valOut.l0 kq l0_3 (l0_3.length : Int) x16_1 a0_0 a0_1 a0_2 x112003_1 = some (r1, r2, r3, r4)) ∧ Aside0 (kq ≤ k) ∧ Aside0 (Kd.R k27 27 w' w.heap.size (fun k_ => k_ ≠ gb110 ∧ k_ ≠ gb111) u112003 x112003_1) ∧ Aside0 (w'.heap[gb109]? = some (.cells #[.int .u8 a0_0, .int .u64 a0_1, .string a0_2, (.slice A0_3 l0_3.length c0_3)] 49 (0, 0))) ∧ Aside0 (w'.heap[gb110]? = some (.cells #[.int .u8 0, .int .u64 0, .string (⟨#[]⟩ : ByteArray), (.slice none 0 0)] 27 (0, 0))) ∧ Aside0 (w'.heap[gb111]? = some (.cells #[.int .u8 a0_0, .int .u64 a0_1, .string a0_2, u112003] 27 (0, 0))) ∧ Aside0 (Below w.heap.size w w'))
  case atStart => exact ⟨(0), (([] : List (S27))), (.slice none 0 0), (by first | rfl | (simp; done) | (simp [*]; done)), H', ⟨Nat.le_refl _⟩, ⟨by first | exact Kd.R_nil _ _ _ _ _ | exact Kd.N_nil _ _ _ _ _ | exact Kd.V_nil _ _ _ _ _ | exact Kd.Q_nil _ _ _ _ _ | exact Kd.S_nil _ _ _ _ _⟩, ⟨by (with_reducible repeat (first | refine blk_drewN ?_ _ | refine blk_drew ?_ | refine blk_alloc ?_ _)); refine blk_far ?_ NB109_111.out _; (with_reducible repeat (first | refine blk_drewN ?_ _ | refine blk_drew ?_ | refine blk_alloc ?_ _)); refine blk_far ?_ NB109_111.out _; (with_reducible repeat (first | refine blk_drewN ?_ _ | refine blk_drew ?_ | refine blk_alloc ?_ _)); refine blk_far ?_ NB109_111.out _; (with_reducible repeat (first | refine blk_drewN ?_ _ | refine blk_drew ?_ | refine blk_alloc ?_ _)); refine blk_far ?_ NB109_111.out _; (with_reducible repeat (first | refine blk_drewN ?_ _ | refine blk_drew ?_ | refine blk_alloc ?_ _)); exact BK109.out⟩, ⟨by (with_reducible repeat (first | refine blk_drewN ?_ _ | refine blk_drew ?_ | refine blk_alloc ?_ _)); refine blk_far ?_ NB110_111.out _; (with_reducible repeat (first | refine blk_drewN ?_ _ | refine blk_drew ?_ | refine blk_alloc ?_ _)); refine blk_far ?_ NB110_111.out _; (with_reducible repeat (first | refine blk_drewN ?_ _ | refine blk_drew ?_ | refine blk_alloc ?_ _)); refine blk_far ?_ NB110_111.out _; (with_reducible repeat (first | refine blk_drewN ?_ _ | refine blk_drew ?_ | refine blk_alloc ?_ _)); refine blk_far ?_ NB110_111.out _; (with_reducible repeat (first | refine blk_drewN ?_ _ | refine blk_drew ?_ | refine blk_alloc ?_ _)); exact BK110.out⟩, ⟨by (with_reducible repeat (first | refine blk_drewN ?_ _ | refine blk_drew ?_ | refine blk_alloc ?_ _)); refine blk_put (cs := #[.int .u8 a0_0, .int .u64 a0_1, .string a0_2, .slice none 0 0]) ?_ 3 _ rfl; (with_reducible repeat (first | refine blk_drewN ?_ _ | refine blk_drew ?_ | refine blk_alloc ?_ _)); refine blk_put (cs := #[.int .u8 a0_0, .int .u64 a0_1, .string (⟨#[]⟩ : ByteArray), .slice none 0 0]) ?_ 2 _ rfl; (with_reducible repeat (first | refine blk_drewN ?_ _ | refine blk_drew ?_ | refine blk_alloc ?_ _)); refine blk_put (cs := #[.int .u8 a0_0, .int .u64 0, .string (⟨#[]⟩ : ByteArray), .slice none 0 0]) ?_ 1 _ rfl; (with_reducible repeat (first | refine blk_drewN ?_ _ | refine blk_drew ?_ | refine blk_alloc ?_ _)); refine blk_put (cs := #[.int .u8 0, .int .u64 0, .string (⟨#[]⟩ : ByteArray), .slice none 0 0]) ?_ 0 _ rfl; (with_reducible repeat (first | refine blk_drewN ?_ _ | refine blk_drew ?_ | refine blk_alloc ?_ _)); exact BK111.out⟩, ⟨by repeat (first | (with_reducible first | exact HB.out | apply below_alloc | apply pw_below_drewN | apply below_drew1 | refine below_set ?_ GE109.out | refine below_set ?_ GE110.out | refine below_set ?_ GE111.out) | exact HB.out)⟩⟩
  case round =>
    clear H'
    try clear c1
    try clear p2
    try clear c4
    try clear c7
    try clear c8
    try clear hcz10_0
    try clear hcz10_1
    try clear hcz10_2
    try clear hcz10_3
    try clear hcz5_0
    try clear hcz5_1
    try clear hcz5_2
    try clear hcz5_3
    try clear hcz9_0
    try clear hcz9_1
    try clear hcz9_2
    try clear hcz9_3
    try clear hfz10_0
    try clear hfz10_1
    try clear hfz10_2
    try clear hfz10_3
    try clear hfz5_0
    try clear hfz5_1
    try clear hfz5_2
    try clear hfz5_3
    try clear hfz9_0
    try clear hfz9_1
    try clear hfz9_2
    try clear hfz9_3
    obtain ⟨x16_1, x112003_1, u112003, rfl, HA, HK1, HO_112003, BK109, BK110, BK111, HB⟩ := hrel
    cases gk with
    | zero => exact absurd HA.out (by simp [impl_valOut.l0])
    | succ k1 =>
      have H := HA.out
      clear HA
      simp only [impl_valOut.l0] at H
      by_cases c11 : x16_1 < (l0_3.length : Int)
      · rw [if_pos c11] at H
        have c11b0 : decide (x16_1 < (l0_3.length : Int)) = true := decide_eq_true c11
        clear c11
        by_cases c12 : 0 ≤ x16_1
        · rw [if_pos c12] at H
          have c12b0 : decide (0 ≤ x16_1) = true := decide_eq_true c12
          clear c12
          by_cases c13 : x16_1 < (l0_3.length : Int)
          · rw [if_pos c13] at H
            have c13b0 : decide (x16_1 < (l0_3.length : Int)) = true := decide_eq_true c13
            clear c13
            replace H := Option.bind_eq_some_iff.mp H
            obtain ⟨⟨t114, t115, t116, t117⟩, A140, H⟩ := H
            replace H : (if x112003_1.length < 2513169434916 then (impl_valOut.l0 k1 l0_3 (l0_3.length : Int) (wrap64 (x16_1 + 1)) a0_0 a0_1 a0_2 (x112003_1 ++ [(⟨t114, t115, t116, t117⟩ : S27)])) else (none)) = some (r1, r2, r3, r4) := H
            have A14 := Aside0.mk A140
            clear A140
            by_cases c15 : x112003_1.length < 2513169434916
            · rw [if_pos c15] at H
              have LMc15 := Aside0.mk c15
              clear c15
              obtain ⟨y120, hy120⟩ : ∃ y_ : List (S27), y_ = (x112003_1 ++ [(⟨t114, t115, t116, t117⟩ : S27)]) := ⟨_, rfl⟩
              replace H : (impl_valOut.l0 k1 l0_3 (l0_3.length : Int) (wrap64 (x16_1 + 1)) a0_0 a0_1 a0_2 y120) = some (r1, r2, r3, r4) := by first | (rw [hy120]; with_reducible exact H) | (have H2_ := (Option.bind_some _ _).symm.trans H; rw [hy120]; with_reducible exact H2_) | (have H2_ := (Option.bind_some _ _).symm.trans H; with_reducible exact H2_) | with_reducible exact H | (rw [hy120]; exact H) | exact H
              have Ny120 := Aside0.mk hy120
              clear hy120
              have H' := Aside0.mk H
              clear H
              have p112 : 0 ≤ (x16_1 : Int) := of_decide_eq_true (by first | (with_reducible assumption) | assumption)
              have q112 : x16_1 < (l0_3.length : Int) := of_decide_eq_true (by first | (with_reducible assumption) | assumption)
              obtain ⟨ad112, A112_3, c112_3, e112, hx112_0, hx112_1, hx112_2, hx112_3, hl112_3, hi112_3⟩ := at_T49 HR0_3.out x16_1 p112 q112
              cases e112
              replace hx112_0 := (HB.out.cell (World.block_lt_of_cell? w _ hx112_0)).trans hx112_0
              replace hx112_1 := (HB.out.cell (World.block_lt_of_cell? w _ hx112_1)).trans hx112_1
              replace hx112_2 := (HB.out.cell (World.block_lt_of_cell? w _ hx112_2)).trans hx112_2
              replace hx112_3 := (HB.out.cell (World.block_lt_of_cell? w _ hx112_3)).trans hx112_3
              have HR112_3 := Aside0.mk hi112_3
              have HC112_3 := Aside0.mk hl112_3
              clear hi112_3 hl112_3
              replace p112 := eq_true p112
              replace q112 := eq_true q112
              try go_wp2_with (first | ((with_reducible refine gate_dst (N := 5) rfl ?_); refine box_event ?hg (N := 5) ?hd (cs := #[.int .u8 0, .int .u64 0, .string (⟨#[]⟩ : ByteArray), .slice none 0 0]) (t := 49) ?hr ?_; (case hd => rfl); (case hg => rfl); (case hr => first | (go_simp; done) | (go_simp; rfl)); intro gb113 hg w16 hbox hb; have n0_ := Aside0.mk (Kd.R_below (by (with_reducible repeat (first | apply Kd.R_alloc | apply Kd.R_drewN | apply Kd.R_drew)); exact HO_112003.out) hb); have n1_ := Aside0.mk (blk_below (g := gb109) (o := .cells #[.int .u8 a0_0, .int .u64 a0_1, .string a0_2, .slice (some ad112) l0_3.length c0_3] 49 (0, 0)) (by (with_reducible repeat (first | refine blk_drewN ?_ _ | refine blk_drew ?_ | refine blk_alloc ?_ _)); exact BK109.out) hb); have n2_ := Aside0.mk (blk_below (g := gb110) (o := .cells #[.int .u8 0, .int .u64 0, .string (⟨#[]⟩ : ByteArray), .slice none 0 0] 27 (0, 0)) (by (with_reducible repeat (first | refine blk_drewN ?_ _ | refine blk_drew ?_ | refine blk_alloc ?_ _)); exact BK110.out) hb); have n3_ := Aside0.mk (blk_below (g := gb111) (o := .cells #[.int .u8 a0_0, .int .u64 a0_1, .string a0_2, u112003] 27 (0, 0)) (by (with_reducible repeat (first | refine blk_drewN ?_ _ | refine blk_drew ?_ | refine blk_alloc ?_ _)); exact BK111.out) hb); have n4_ := Aside0.mk (below_step (by repeat (first | (with_reducible first | exact HB.out | apply below_alloc | apply pw_below_drewN | apply below_drew1 | refine below_set ?_ GE109.out | refine below_set ?_ GE110.out | refine below_set ?_ GE111.out) | exact HB.out)) hb); have n5_ := Aside0.mk (hbox); have n6_ := Aside0.mk ((by rw [hg]; exact (below_size (by repeat (first | (with_reducible first | exact HB.out | apply below_alloc | apply pw_below_drewN | apply below_drew1 | refine below_set ?_ GE109.out | refine below_set ?_ GE110.out | refine below_set ?_ GE111.out) | exact HB.out))) : w.heap.size ≤ gb113)); have n7_ := Aside0.mk ((by rw [hg]; exact (below_size (by repeat (first | (with_reducible first | exact HB.out | apply below_alloc | apply pw_below_drewN | apply below_drew1 | refine below_set ?_ GE109.out | refine below_set ?_ GE110.out | refine below_set ?_ GE111.out) | exact HB.out))) : w.heap.size ≤ gb113)); have n8_ := Aside0.mk ((by rw [hg]; exact Nat.ne_of_lt (blk_lt (g := gb109) (o := .cells #[.int .u8 a0_0, .int .u64 a0_1, .string a0_2, .slice (some ad112) l0_3.length c0_3] 49 (0, 0)) (by (with_reducible repeat (first | refine blk_drewN ?_ _ | refine blk_drew ?_ | refine blk_alloc ?_ _)); exact BK109.out)) : gb109 ≠ gb113)); have n9_ := Aside0.mk ((by rw [hg]; exact Nat.ne_of_gt (blk_lt (g := gb109) (o := .cells #[.int .u8 a0_0, .int .u64 a0_1, .string a0_2, .slice (some ad112) l0_3.length c0_3] 49 (0, 0)) (by (with_reducible repeat (first | refine blk_drewN ?_ _ | refine blk_drew ?_ | refine blk_alloc ?_ _)); exact BK109.out)) : gb113 ≠ gb109)); have n10_ := Aside0.mk ((by rw [hg]; exact Nat.ne_of_lt (blk_lt (g := gb110) (o := .cells #[.int .u8 0, .int .u64 0, .string (⟨#[]⟩ : ByteArray), .slice none 0 0] 27 (0, 0)) (by (with_reducible repeat (first | refine blk_drewN ?_ _ | refine blk_drew ?_ | refine blk_alloc ?_ _)); exact BK110.out)) : gb110 ≠ gb113)); have n11_ := Aside0.mk ((by rw [hg]; exact Nat.ne_of_gt (blk_lt (g := gb110) (o := .cells #[.int .u8 0, .int .u64 0, .string (⟨#[]⟩ : ByteArray), .slice none 0 0] 27 (0, 0)) (by (with_reducible repeat (first | refine blk_drewN ?_ _ | refine blk_drew ?_ | refine blk_alloc ?_ _)); exact BK110.out)) : gb113 ≠ gb110)); have n12_ := Aside0.mk ((by rw [hg]; exact Nat.ne_of_lt (blk_lt (g := gb111) (o := .cells #[.int .u8 a0_0, .int .u64 a0_1, .string a0_2, u112003] 27 (0, 0)) (by (with_reducible repeat (first | refine blk_drewN ?_ _ | refine blk_drew ?_ | refine blk_alloc ?_ _)); exact BK111.out)) : gb111 ≠ gb113)); have n13_ := Aside0.mk ((by rw [hg]; exact Nat.ne_of_gt (blk_lt (g := gb111) (o := .cells #[.int .u8 a0_0, .int .u64 a0_1, .string a0_2, u112003] 27 (0, 0)) (by (with_reducible repeat (first | refine blk_drewN ?_ _ | refine blk_drew ?_ | refine blk_alloc ?_ _)); exact BK111.out)) : gb113 ≠ gb111)); clear HO_112003; clear BK109; clear BK110; clear BK111; clear HB; have HO_112003 := n0_; have BK109 := n1_; have BK110 := n2_; have BK111 := n3_; have HB := n4_; have BK113 := n5_; have GW113 := n6_; have GE113 := n7_; have NB109_113 := n8_; have NB113_109 := n9_; have NB110_113 := n10_; have NB113_110 := n11_; have NB111_113 := n12_; have NB113_111 := n13_; clear n0_ n1_ n2_ n3_ n4_ n5_ n6_ n7_ n8_ n9_ n10_ n11_ n12_ n13_; clear hb hbox hg; have hnb17 := NB113_109.out; have hnc17 := NB109_113.out; have hnb18 := NB113_110.out; have hnc18 := NB110_113.out; have hnb19 := NB113_111.out; have hnc19 := NB111_113.out; have hcz20_0 : w16.cell? ⟨gb113, 0, none⟩ = some (.int .u8 0) := (blk_cell BK113.out 0).trans rfl; have hcz20_1 : w16.cell? ⟨gb113, 1, none⟩ = some (.int .u64 0) := (blk_cell BK113.out 1).trans rfl; have hcz20_2 : w16.cell? ⟨gb113, 2, none⟩ = some (.string (⟨#[]⟩ : ByteArray)) := (blk_cell BK113.out 2).trans rfl; have hcz20_3 : w16.cell? ⟨gb113, 3, none⟩ = some (.slice none 0 0) := (blk_cell BK113.out 3).trans rfl; have hfz20_0 := blk_frozen BK113.out 0; have hfz20_1 := blk_frozen BK113.out 1; have hfz20_2 := blk_frozen BK113.out 2; have hfz20_3 := blk_frozen BK113.out 3))
              have n0_ : Aside0 (Kd.R k27 27 ((((w16.setCell ⟨gb113, 0, none⟩ (.int .u8 ((rd_T49 l0_3 x16_1).f0))).setCell ⟨gb113, 1, none⟩ (.int .u64 ((rd_T49 l0_3 x16_1).f1))).setCell ⟨gb113, 2, none⟩ (.string ((rd_T49 l0_3 x16_1).f2))).setCell ⟨gb113, 3, none⟩ (.slice A112_3 ((rd_T49 l0_3 x16_1).f3).length c112_3)) w.heap.size (fun k_ => k_ ≠ gb110 ∧ k_ ≠ gb111) u112003 x112003_1) := ⟨by (with_reducible repeat (first | apply Kd.R_alloc | apply Kd.R_drewN | apply Kd.R_drew)); exact Kd.R_mono (Kd.R_far (p := ⟨gb113, 3, none⟩) (Kd.R_far (p := ⟨gb113, 2, none⟩) (Kd.R_far (p := ⟨gb113, 1, none⟩) (Kd.R_far (p := ⟨gb113, 0, none⟩) (Kd.R_types HO_112003.out BK113.out (by decide)) (fun _ hk => hk.2) (.int .u8 ((rd_T49 l0_3 x16_1).f0))) (fun _ hk => hk.2) (.int .u64 ((rd_T49 l0_3 x16_1).f1))) (fun _ hk => hk.2) (.string ((rd_T49 l0_3 x16_1).f2))) (fun _ hk => hk.2) (.slice A112_3 ((rd_T49 l0_3 x16_1).f3).length c112_3)) (fun _ hk => ⟨hk.1.1, hk.1.2⟩)⟩
              have n1_ : Aside0 (((((w16.setCell ⟨gb113, 0, none⟩ (.int .u8 ((rd_T49 l0_3 x16_1).f0))).setCell ⟨gb113, 1, none⟩ (.int .u64 ((rd_T49 l0_3 x16_1).f1))).setCell ⟨gb113, 2, none⟩ (.string ((rd_T49 l0_3 x16_1).f2))).setCell ⟨gb113, 3, none⟩ (.slice A112_3 ((rd_T49 l0_3 x16_1).f3).length c112_3)).heap[gb109]? = some (.cells #[.int .u8 a0_0, .int .u64 a0_1, .string a0_2, .slice (some ad112) l0_3.length c0_3] 49 (0, 0))) := ⟨by (with_reducible repeat (first | refine blk_drewN ?_ _ | refine blk_drew ?_ | refine blk_alloc ?_ _)); refine blk_far ?_ NB109_113.out _; (with_reducible repeat (first | refine blk_drewN ?_ _ | refine blk_drew ?_ | refine blk_alloc ?_ _)); refine blk_far ?_ NB109_113.out _; (with_reducible repeat (first | refine blk_drewN ?_ _ | refine blk_drew ?_ | refine blk_alloc ?_ _)); refine blk_far ?_ NB109_113.out _; (with_reducible repeat (first | refine blk_drewN ?_ _ | refine blk_drew ?_ | refine blk_alloc ?_ _)); refine blk_far ?_ NB109_113.out _; (with_reducible repeat (first | refine blk_drewN ?_ _ | refine blk_drew ?_ | refine blk_alloc ?_ _)); exact BK109.out⟩
              have n2_ : Aside0 (((((w16.setCell ⟨gb113, 0, none⟩ (.int .u8 ((rd_T49 l0_3 x16_1).f0))).setCell ⟨gb113, 1, none⟩ (.int .u64 ((rd_T49 l0_3 x16_1).f1))).setCell ⟨gb113, 2, none⟩ (.string ((rd_T49 l0_3 x16_1).f2))).setCell ⟨gb113, 3, none⟩ (.slice A112_3 ((rd_T49 l0_3 x16_1).f3).length c112_3)).heap[gb110]? = some (.cells #[.int .u8 0, .int .u64 0, .string (⟨#[]⟩ : ByteArray), .slice none 0 0] 27 (0, 0))) := ⟨by (with_reducible repeat (first | refine blk_drewN ?_ _ | refine blk_drew ?_ | refine blk_alloc ?_ _)); refine blk_far ?_ NB110_113.out _; (with_reducible repeat (first | refine blk_drewN ?_ _ | refine blk_drew ?_ | refine blk_alloc ?_ _)); refine blk_far ?_ NB110_113.out _; (with_reducible repeat (first | refine blk_drewN ?_ _ | refine blk_drew ?_ | refine blk_alloc ?_ _)); refine blk_far ?_ NB110_113.out _; (with_reducible repeat (first | refine blk_drewN ?_ _ | refine blk_drew ?_ | refine blk_alloc ?_ _)); refine blk_far ?_ NB110_113.out _; (with_reducible repeat (first | refine blk_drewN ?_ _ | refine blk_drew ?_ | refine blk_alloc ?_ _)); exact BK110.out⟩
              have n3_ : Aside0 (((((w16.setCell ⟨gb113, 0, none⟩ (.int .u8 ((rd_T49 l0_3 x16_1).f0))).setCell ⟨gb113, 1, none⟩ (.int .u64 ((rd_T49 l0_3 x16_1).f1))).setCell ⟨gb113, 2, none⟩ (.string ((rd_T49 l0_3 x16_1).f2))).setCell ⟨gb113, 3, none⟩ (.slice A112_3 ((rd_T49 l0_3 x16_1).f3).length c112_3)).heap[gb111]? = some (.cells #[.int .u8 a0_0, .int .u64 a0_1, .string a0_2, u112003] 27 (0, 0))) := ⟨by (with_reducible repeat (first | refine blk_drewN ?_ _ | refine blk_drew ?_ | refine blk_alloc ?_ _)); refine blk_far ?_ NB111_113.out _; (with_reducible repeat (first | refine blk_drewN ?_ _ | refine blk_drew ?_ | refine blk_alloc ?_ _)); refine blk_far ?_ NB111_113.out _; (with_reducible repeat (first | refine blk_drewN ?_ _ | refine blk_drew ?_ | refine blk_alloc ?_ _)); refine blk_far ?_ NB111_113.out _; (with_reducible repeat (first | refine blk_drewN ?_ _ | refine blk_drew ?_ | refine blk_alloc ?_ _)); refine blk_far ?_ NB111_113.out _; (with_reducible repeat (first | refine blk_drewN ?_ _ | refine blk_drew ?_ | refine blk_alloc ?_ _)); exact BK111.out⟩
              have n4_ : Aside0 (((((w16.setCell ⟨gb113, 0, none⟩ (.int .u8 ((rd_T49 l0_3 x16_1).f0))).setCell ⟨gb113, 1, none⟩ (.int .u64 ((rd_T49 l0_3 x16_1).f1))).setCell ⟨gb113, 2, none⟩ (.string ((rd_T49 l0_3 x16_1).f2))).setCell ⟨gb113, 3, none⟩ (.slice A112_3 ((rd_T49 l0_3 x16_1).f3).length c112_3)).heap[gb113]? = some (.cells #[.int .u8 ((rd_T49 l0_3 x16_1).f0), .int .u64 ((rd_T49 l0_3 x16_1).f1), .string ((rd_T49 l0_3 x16_1).f2), .slice A112_3 ((rd_T49 l0_3 x16_1).f3).length c112_3] 49 (0, 0))) := ⟨by (with_reducible repeat (first | refine blk_drewN ?_ _ | refine blk_drew ?_ | refine blk_alloc ?_ _)); refine blk_put (cs := #[.int .u8 ((rd_T49 l0_3 x16_1).f0), .int .u64 ((rd_T49 l0_3 x16_1).f1), .string ((rd_T49 l0_3 x16_1).f2), .slice none 0 0]) ?_ 3 _ rfl; (with_reducible repeat (first | refine blk_drewN ?_ _ | refine blk_drew ?_ | refine blk_alloc ?_ _)); refine blk_put (cs := #[.int .u8 ((rd_T49 l0_3 x16_1).f0), .int .u64 ((rd_T49 l0_3 x16_1).f1), .string (⟨#[]⟩ : ByteArray), .slice none 0 0]) ?_ 2 _ rfl; (with_reducible repeat (first | refine blk_drewN ?_ _ | refine blk_drew ?_ | refine blk_alloc ?_ _)); refine blk_put (cs := #[.int .u8 ((rd_T49 l0_3 x16_1).f0), .int .u64 0, .string (⟨#[]⟩ : ByteArray), .slice none 0 0]) ?_ 1 _ rfl; (with_reducible repeat (first | refine blk_drewN ?_ _ | refine blk_drew ?_ | refine blk_alloc ?_ _)); refine blk_put (cs := #[.int .u8 0, .int .u64 0, .string (⟨#[]⟩ : ByteArray), .slice none 0 0]) ?_ 0 _ rfl; (with_reducible repeat (first | refine blk_drewN ?_ _ | refine blk_drew ?_ | refine blk_alloc ?_ _)); exact BK113.out⟩
              have n5_ : Aside0 (Below w.heap.size w ((((w16.setCell ⟨gb113, 0, none⟩ (.int .u8 ((rd_T49 l0_3 x16_1).f0))).setCell ⟨gb113, 1, none⟩ (.int .u64 ((rd_T49 l0_3 x16_1).f1))).setCell ⟨gb113, 2, none⟩ (.string ((rd_T49 l0_3 x16_1).f2))).setCell ⟨gb113, 3, none⟩ (.slice A112_3 ((rd_T49 l0_3 x16_1).f3).length c112_3))) := ⟨by repeat (first | (with_reducible first | exact HB.out | apply below_alloc | apply pw_below_drewN | apply below_drew1 | refine below_set ?_ GE109.out | refine below_set ?_ GE110.out | refine below_set ?_ GE111.out | refine below_set ?_ GE113.out) | exact HB.out)⟩
              (try clear HO_112003)
              (try clear BK109)
              (try clear BK110)
              (try clear BK111)
              (try clear BK113)
              (try clear HB)
              generalize ((((w16.setCell ⟨gb113, 0, none⟩ (.int .u8 ((rd_T49 l0_3 x16_1).f0))).setCell ⟨gb113, 1, none⟩ (.int .u64 ((rd_T49 l0_3 x16_1).f1))).setCell ⟨gb113, 2, none⟩ (.string ((rd_T49 l0_3 x16_1).f2))).setCell ⟨gb113, 3, none⟩ (.slice A112_3 ((rd_T49 l0_3 x16_1).f3).length c112_3)) = w21 at n0_ n1_ n2_ n3_ n4_ n5_ ⊢
              have HO_112003 := n0_
              have BK109 := n1_
              have BK110 := n2_
              have BK111 := n3_
              have BK113 := n4_
              have HB := n5_
              clear n0_ n1_ n2_ n3_ n4_ n5_
              have n0_ := Aside0.mk (Kd.R_drew HO_112003.out)
              have n1_ := Aside0.mk (blk_drew BK109.out)
              have n2_ := Aside0.mk (blk_drew BK110.out)
              have n3_ := Aside0.mk (blk_drew BK111.out)
              have n4_ := Aside0.mk (blk_drew BK113.out)
              have n5_ := Aside0.mk (below_drew1 HB.out)
              clear HO_112003
              clear BK109
              clear BK110
              clear BK111
              clear BK113
              clear HB
              have HO_112003 := n0_
              have BK109 := n1_
              have BK110 := n2_
              have BK111 := n3_
              have BK113 := n4_
              have HB := n5_
              clear n0_ n1_ n2_ n3_ n4_ n5_
              refine start_ (n := 8) (S := fun w' => w'.cell? ⟨gb111, 0, none⟩ = some (.int .u8 a0_0) ∧ w'.cell? ⟨gb111, 1, none⟩ = some (.int .u64 a0_1) ∧ w'.cell? ⟨gb111, 2, none⟩ = some (.string a0_2) ∧ w'.cell? ⟨gb111, 3, none⟩ = some (u112003) ∧ w'.cell? ⟨gb113, 0, none⟩ = some (.int .u8 ((rd_T49 l0_3 x16_1).f0)) ∧ w'.cell? ⟨gb113, 1, none⟩ = some (.int .u64 ((rd_T49 l0_3 x16_1).f1)) ∧ w'.cell? ⟨gb113, 2, none⟩ = some (.string ((rd_T49 l0_3 x16_1).f2)) ∧ w'.cell? ⟨gb113, 3, none⟩ = some (.slice A112_3 ((rd_T49 l0_3 x16_1).f3).length c112_3)) (ds := [7]) #[false, false, false, false, false, false, false, false] (by kernel_rfl) rfl rfl ⟨(blk_cell BK111.out 0).trans rfl, (blk_cell BK111.out 1).trans rfl, (blk_cell BK111.out 2).trans rfl, (blk_cell BK111.out 3).trans rfl, (blk_cell BK113.out 0).trans rfl, (blk_cell BK113.out 1).trans rfl, (blk_cell BK113.out 2).trans rfl, (blk_cell BK113.out 3).trans rfl⟩ (fun hHeld => ?_); refine with_tabW impl_valOut.tab5 impl_valOut.bits5 (fun HT_ HW_ => ?_)
              generalize w21.drew = w22 at HO_112003 BK109 BK110 BK111 BK113 HB hHeld ⊢
              refine pure_ (i := 0) (N := some 20) (v := ?_) (a' := ?_) #[true, false, false, false, false, false, false, false] rfl rfl (any_of HT_.out (by kernel_rfl)) (fun _ _ _ h => h) (Or.inl ⟨by rfl, ?_⟩) ?_ ?_
              rotate_left
              · intro w'
                go_simp
                with_reducible rfl
              rotate_left
              · simp only [Act.put, List.setIfInBounds_toArray, List.set_cons_zero, List.set_cons_succ, i64_w, i32_w]
                rfl
              refine take_ (i := 1) (N := some 21) (v := ?_) (a' := ?_) #[true, true, false, false, false, false, false, false] rfl rfl (take_ofW HT_.out HW_.out (by kernel_rfl)) (fun _ _ _ h => h) (Or.inl ⟨by rfl, ?_⟩) hHeld ?_ ?_
              rotate_left
              · rintro w' ⟨s0, s1, s2, s3, s4, s5, s6, s7⟩
                go_simp
                with_reducible rfl
              rotate_left
              · simp only [Act.put, List.setIfInBounds_toArray, List.set_cons_zero, List.set_cons_succ, i64_w, i32_w]
                rfl
              refine take_ (i := 2) (N := some 22) (v := ?_) (a' := ?_) #[true, true, true, false, false, false, false, false] rfl rfl (take_ofW HT_.out HW_.out (by kernel_rfl)) (fun _ _ _ h => h) (Or.inl ⟨by rfl, ?_⟩) hHeld ?_ ?_
              rotate_left
              · rintro w' ⟨s0, s1, s2, s3, s4, s5, s6, s7⟩
                go_simp
                with_reducible rfl
              rotate_left
              · simp only [Act.put, List.setIfInBounds_toArray, List.set_cons_zero, List.set_cons_succ, i64_w, i32_w]
                rfl
              refine one_ (i := 3) (N := some 23) #[true, true, true, true, false, false, false, false] rfl rfl (one_of HT_.out (by kernel_rfl)) (by decide) (fun K hK => ?_)
              refine goes_ Tryz.func15 (by kernel_rfl) rfl #[.agg #[.int .u8 ((rd_T49 l0_3 x16_1).f0), .int .u64 ((rd_T49 l0_3 x16_1).f1), .string ((rd_T49 l0_3 x16_1).f2), .slice A112_3 ((rd_T49 l0_3 x16_1).f3).length c112_3]] (by rfl) rfl rfl (by (try simp only [List.map_toArray, List.map_cons, List.map_nil]); first | done | rfl | (simp only [List.length_drop, List.length_take]; rfl)) ?_
              with_reducible refine (ih k1 (by have := HK1.out; omega) ((rd_T49 l0_3 x16_1).f0) ((rd_T49 l0_3 x16_1).f1) ((rd_T49 l0_3 x16_1).f2) _ _ ((rd_T49 l0_3 x16_1).f3) t114 t115 t116 t117 _ ?side1 ?side2 A14.out).mono ?_
              (case side1 => repeat (first | exact (Kd.C_below HR112_3.out HB.out) | (with_reducible refine Kd.C_alloc ?_ _) | (with_reducible refine Kd.C_drewN ?_ _) | (with_reducible refine Kd.C_drew ?_)))
              (case side2 => exact HC112_3.out)
              rintro e w23 ⟨v118, rfl, ho0, hb⟩
              refine ⟨_, rfl, ?_⟩
              have n0_ := Aside0.mk (Kd.R_elder' (by (with_reducible repeat (first | apply Kd.R_alloc | apply Kd.R_drewN | apply Kd.R_drew)); exact HO_112003.out) (Kd.R_base ho0) hb)
              have n1_ := Aside0.mk (Kd.R_lower (Kd.R_newB (Kd.R_newB (Kd.R_new' ho0 (Kd.R_lt (by (with_reducible repeat (first | apply Kd.R_alloc | apply Kd.R_drewN | apply Kd.R_drew)); exact HO_112003.out))) (g := gb110) (o := .cells #[.int .u8 0, .int .u64 0, .string (⟨#[]⟩ : ByteArray), .slice none 0 0] 27 (0, 0)) (by (with_reducible repeat (first | refine blk_drewN ?_ _ | refine blk_drew ?_ | refine blk_alloc ?_ _)); exact BK110.out)) (g := gb111) (o := .cells #[.int .u8 a0_0, .int .u64 a0_1, .string a0_2, u112003] 27 (0, 0)) (by (with_reducible repeat (first | refine blk_drewN ?_ _ | refine blk_drew ?_ | refine blk_alloc ?_ _)); exact BK111.out)) (below_size (by repeat (first | (with_reducible first | exact HB.out | apply below_alloc | apply pw_below_drewN | apply below_drew1 | refine below_set ?_ GE109.out | refine below_set ?_ GE110.out | refine below_set ?_ GE111.out | refine below_set ?_ GE113.out) | exact HB.out))))
              have n2_ := Aside0.mk (blk_below (g := gb109) (o := .cells #[.int .u8 a0_0, .int .u64 a0_1, .string a0_2, .slice (some ad112) l0_3.length c0_3] 49 (0, 0)) (by (with_reducible repeat (first | refine blk_drewN ?_ _ | refine blk_drew ?_ | refine blk_alloc ?_ _)); exact BK109.out) hb)
              have n3_ := Aside0.mk (blk_below (g := gb110) (o := .cells #[.int .u8 0, .int .u64 0, .string (⟨#[]⟩ : ByteArray), .slice none 0 0] 27 (0, 0)) (by (with_reducible repeat (first | refine blk_drewN ?_ _ | refine blk_drew ?_ | refine blk_alloc ?_ _)); exact BK110.out) hb)
              have n4_ := Aside0.mk (blk_below (g := gb111) (o := .cells #[.int .u8 a0_0, .int .u64 a0_1, .string a0_2, u112003] 27 (0, 0)) (by (with_reducible repeat (first | refine blk_drewN ?_ _ | refine blk_drew ?_ | refine blk_alloc ?_ _)); exact BK111.out) hb)
              have n5_ := Aside0.mk (blk_below (g := gb113) (o := .cells #[.int .u8 ((rd_T49 l0_3 x16_1).f0), .int .u64 ((rd_T49 l0_3 x16_1).f1), .string ((rd_T49 l0_3 x16_1).f2), .slice A112_3 ((rd_T49 l0_3 x16_1).f3).length c112_3] 49 (0, 0)) (by (with_reducible repeat (first | refine blk_drewN ?_ _ | refine blk_drew ?_ | refine blk_alloc ?_ _)); exact BK113.out) hb)
              have n6_ := Aside0.mk (below_step (by repeat (first | (with_reducible first | exact HB.out | apply below_alloc | apply pw_below_drewN | apply below_drew1 | refine below_set ?_ GE109.out | refine below_set ?_ GE110.out | refine below_set ?_ GE111.out | refine below_set ?_ GE113.out) | exact HB.out)) hb)
              clear HO_112003
              clear BK109
              clear BK110
              clear BK111
              clear BK113
              clear HB
              have HO_112003 := n0_
              have HO119 := n1_
              have BK109 := n2_
              have BK110 := n3_
              have BK111 := n4_
              have BK113 := n5_
              have HB := n6_
              clear n0_ n1_ n2_ n3_ n4_ n5_ n6_
              (try clear hb)
              (try clear hb2)
              (try clear hk)
              (try clear hi)
              (try clear ho0)
              obtain ⟨Ao25, co25, eo25⟩ := Kd.R_slice HO119.out
              (first | subst eo25 | (injection eo25 with f1_ f2_ f3_; have f4_ := f1_.symm; have f5_ := f3_.symm; clear f1_ f2_ f3_; subst f4_; subst f5_))
              refine hK.out _ _ ⟨(blk_cell BK111.out 0).trans rfl, (blk_cell BK111.out 1).trans rfl, (blk_cell BK111.out 2).trans rfl, (blk_cell BK111.out 3).trans rfl, (blk_cell BK113.out 0).trans rfl, (blk_cell BK113.out 1).trans rfl, (blk_cell BK113.out 2).trans rfl, (blk_cell BK113.out 3).trans rfl⟩ (fun hHeld => ?_)
              clear hK K
              refine norm_ (a' := ?_) ?_ ?_
              rotate_left
              · show Act.put _ (some 23) _ = _
                simp only [Act.put, List.setIfInBounds_toArray, List.set_cons_zero, List.set_cons_succ, i64_w, i32_w]
                rfl
              refine one_ (i := 4) (N := some 24) #[true, true, true, true, true, false, false, false] rfl rfl (one_of HT_.out (by kernel_rfl)) (by decide) (fun K hK => ?_)
              refine value_ (w1 := ?_) (v := ?_) (by rfl) rfl ?_ ?_
              rotate_left 2
              · go_simp
                constructor
                · rfl
                · rfl
              refine hK.out _ _ ⟨(blk_cell (blk_alloc BK111.out _) 0).trans rfl, (blk_cell (blk_alloc BK111.out _) 1).trans rfl, (blk_cell (blk_alloc BK111.out _) 2).trans rfl, (blk_cell (blk_alloc BK111.out _) 3).trans rfl, (blk_cell (blk_alloc BK113.out _) 0).trans rfl, (blk_cell (blk_alloc BK113.out _) 1).trans rfl, (blk_cell (blk_alloc BK113.out _) 2).trans rfl, (blk_cell (blk_alloc BK113.out _) 3).trans rfl⟩ (fun hHeld => ?_)
              clear hK K
              refine norm_ (a' := ?_) ?_ ?_
              rotate_left
              · show Act.put _ (some 24) _ = _
                simp only [Act.put, List.setIfInBounds_toArray, List.set_cons_zero, List.set_cons_succ, i64_w, i32_w]
                rfl
              refine one_ (i := 5) (N := some 25) #[true, true, true, true, true, true, false, false] rfl rfl (one_of HT_.out (by kernel_rfl)) (by decide) (fun K hK => ?_)
              refine Kd.R_append_step k27 (w0 := w) w.heap.size (by rfl) (.tmp 21) (.tmp 24) 25 27 (.agg #[(.int .u8 0), (.int .u64 0), (.string ⟨#[]⟩), (.slice none 0 0)]) 56 rfl Tryz.underlying25 info27 rfl (by decide) (by omega) u112003 x112003_1 (⟨t114, t115, t116, t117⟩ : S27) [.int .u8 t114, .int .u64 t115, .string t116, .slice Ao25 t117.length co25] (fun k_ => k_ ≠ gb110 ∧ k_ ≠ gb111) (fun k_ => ((fun k_ => k_ ≠ gb110 ∧ k_ ≠ gb111)) k_ ∧ some k_ ≠ (u112003 : Value).ownBlock) rfl rfl ?aP (fun _ hk => hk) ?aF ?aO ?aB ?aS ?aL ?_
              (case aP => exact k27_mkM _ _ _ (⟨t114, t115, t116, t117⟩ : S27) (Kd.R_mono (HO119.out) (fun k_ hk => ⟨⟨hk.1.2, hk.2⟩, hk.1.1.2⟩)))
              (case aB => exact (by repeat (first | (with_reducible first | exact HB.out | apply below_alloc | apply pw_below_drewN | apply below_drew1 | refine below_set ?_ GE109.out | refine below_set ?_ GE110.out | refine below_set ?_ GE111.out | refine below_set ?_ GE113.out) | exact HB.out)))
              (case aF => exact (fun k_ hk => ⟨Kd.freshB (g := gb110) (o := .cells #[.int .u8 0, .int .u64 0, .string (⟨#[]⟩ : ByteArray), .slice none 0 0] 27 (0, 0)) (by (with_reducible repeat (first | refine blk_drewN ?_ _ | refine blk_drew ?_ | refine blk_alloc ?_ _)); exact BK110.out) k_ hk, Kd.freshB (g := gb111) (o := .cells #[.int .u8 a0_0, .int .u64 a0_1, .string a0_2, u112003] 27 (0, 0)) (by (with_reducible repeat (first | refine blk_drewN ?_ _ | refine blk_drew ?_ | refine blk_alloc ?_ _)); exact BK111.out) k_ hk⟩))
              (case aO => exact (by (with_reducible repeat (first | apply Kd.R_alloc | apply Kd.R_drewN | apply Kd.R_drew)); exact Kd.R_mono HO_112003.out (fun _ hk => ⟨hk.1.1, hk.1.2⟩)))
              (case aS => exact (below_size (by repeat (first | (with_reducible first | exact HB.out | apply below_alloc | apply pw_below_drewN | apply below_drew1 | refine below_set ?_ GE109.out | refine below_set ?_ GE110.out | refine below_set ?_ GE111.out | refine below_set ?_ GE113.out) | exact HB.out))))
              (case aL => have := LMc15.out; omega)
              intro v121 w24 ho hb hg hat
              rw [← Ny120.out] at ho
              have n0_ := Aside0.mk (blk_grown (g := gb109) (o := .cells #[.int .u8 a0_0, .int .u64 a0_1, .string a0_2, .slice (some ad112) l0_3.length c0_3] 49 (0, 0)) (by (with_reducible repeat (first | refine blk_drewN ?_ _ | refine blk_drew ?_ | refine blk_alloc ?_ _)); exact BK109.out) hg (Kd.R_ne HO_112003.out BK109.out (by decide)))
              have n1_ := Aside0.mk (blk_grown (g := gb110) (o := .cells #[.int .u8 0, .int .u64 0, .string (⟨#[]⟩ : ByteArray), .slice none 0 0] 27 (0, 0)) (by (with_reducible repeat (first | refine blk_drewN ?_ _ | refine blk_drew ?_ | refine blk_alloc ?_ _)); exact BK110.out) hg (Kd.R_away HO_112003.out (fun _ hk => hk.1.1)))
              have n2_ := Aside0.mk (blk_grown (g := gb111) (o := .cells #[.int .u8 a0_0, .int .u64 a0_1, .string a0_2, u112003] 27 (0, 0)) (by (with_reducible repeat (first | refine blk_drewN ?_ _ | refine blk_drew ?_ | refine blk_alloc ?_ _)); exact BK111.out) hg (Kd.R_away HO_112003.out (fun _ hk => hk.1.2)))
              have n3_ := Aside0.mk (blk_grown (g := gb113) (o := .cells #[.int .u8 ((rd_T49 l0_3 x16_1).f0), .int .u64 ((rd_T49 l0_3 x16_1).f1), .string ((rd_T49 l0_3 x16_1).f2), .slice A112_3 ((rd_T49 l0_3 x16_1).f3).length c112_3] 49 (0, 0)) (by (with_reducible repeat (first | refine blk_drewN ?_ _ | refine blk_drew ?_ | refine blk_alloc ?_ _)); exact BK113.out) hg (Kd.R_ne HO_112003.out BK113.out (by decide)))
              have n4_ := Aside0.mk (hb)
              have n5_ := Aside0.mk (ho)
              clear BK109
              clear BK110
              clear BK111
              clear BK113
              clear HB
              clear HO_112003
              clear HO119
              have BK109 := n0_
              have BK110 := n1_
              have BK111 := n2_
              have BK113 := n3_
              have HB := n4_
              have HO122 := n5_
              clear n0_ n1_ n2_ n3_ n4_ n5_
              clear ho hb hg hat
              obtain ⟨Ao26, co26, eo26⟩ := Kd.R_slice HO122.out
              (first | subst eo26 | (injection eo26 with f1_ f2_ f3_; have f4_ := f1_.symm; have f5_ := f3_.symm; clear f1_ f2_ f3_; subst f4_; subst f5_))
              refine hK.out _ _ ⟨(blk_cell BK111.out 0).trans rfl, (blk_cell BK111.out 1).trans rfl, (blk_cell BK111.out 2).trans rfl, (blk_cell BK111.out 3).trans rfl, (blk_cell BK113.out 0).trans rfl, (blk_cell BK113.out 1).trans rfl, (blk_cell BK113.out 2).trans rfl, (blk_cell BK113.out 3).trans rfl⟩ (fun hHeld => ?_)
              clear hK K
              refine norm_ (a' := ?_) ?_ ?_
              rotate_left
              · show Act.put _ (some 25) _ = _
                simp only [Act.put, List.setIfInBounds_toArray, List.set_cons_zero, List.set_cons_succ, i64_w, i32_w]
                rfl
              refine pure_ (i := 6) (N := some 26) (v := ?_) (a' := ?_) #[true, true, true, true, true, true, true, false] rfl rfl (any_of HT_.out (by kernel_rfl)) (fun _ _ _ h => h) (Or.inl ⟨by rfl, ?_⟩) ?_ ?_
              rotate_left
              · intro w'
                go_simp
                with_reducible rfl
              rotate_left
              · simp only [Act.put, List.setIfInBounds_toArray, List.set_cons_zero, List.set_cons_succ, i64_w, i32_w]
                rfl
              refine last_ (i := 7) (N := none) #[true, true, true, true, true, true, true, true] rfl rfl (one_of HT_.out (by kernel_rfl)) (by decide) (fun K hK => ?_)
              have hs27 : w24.cell? ⟨gb111, 3, none⟩ = some (u112003) := (blk_cell BK111.out 3).trans rfl
              have hfs27 := blk_frozen BK111.out 3
              have hns27_0 := NB109_111.out
              have hns27_1 := NB110_111.out
              have hns27_3 := NB113_111.out
              have hms27_0 := NB111_109.out
              have hms27_1 := NB111_110.out
              have hms27_3 := NB111_113.out
              refine skip_ (w1 := ?_) (by rfl) rfl ?_ ?_
              rotate_left
              · go_simp
                rfl
              refine hK.out _ _ ?_
              clear hK K
              refine done_ (done_of HT_.out (by kernel_rfl)) ?_
              try go_wp2
              go_roundg k1
              case measure => have := HK1.out; omega
              case rel => exact ⟨(wrap64 (x16_1 + 1)), (y120), (.slice Ao26 y120.length co26), (by first | rfl | (simp; done) | (simp [*]; done)), H', ⟨by have := HK1.out; omega⟩, ⟨by (with_reducible repeat (first | apply Kd.R_alloc | apply Kd.R_drewN | apply Kd.R_drew)); exact Kd.R_mono (Kd.R_far (p := ⟨gb111, 3, none⟩) (Kd.R_mono HO122.out (fun k_ hk => (⟨hk, hk.2⟩ : _ ∧ k_ ≠ gb111))) (fun _ hk => hk.2) (.slice Ao26 y120.length co26)) (fun _ hk => ⟨hk.1.1, hk.1.2⟩)⟩, ⟨by (with_reducible repeat (first | refine blk_drewN ?_ _ | refine blk_drew ?_ | refine blk_alloc ?_ _)); refine blk_far ?_ NB109_111.out _; (with_reducible repeat (first | refine blk_drewN ?_ _ | refine blk_drew ?_ | refine blk_alloc ?_ _)); exact BK109.out⟩, ⟨by (with_reducible repeat (first | refine blk_drewN ?_ _ | refine blk_drew ?_ | refine blk_alloc ?_ _)); refine blk_far ?_ NB110_111.out _; (with_reducible repeat (first | refine blk_drewN ?_ _ | refine blk_drew ?_ | refine blk_alloc ?_ _)); exact BK110.out⟩, ⟨by (with_reducible repeat (first | refine blk_drewN ?_ _ | refine blk_drew ?_ | refine blk_alloc ?_ _)); refine blk_put (cs := #[.int .u8 a0_0, .int .u64 a0_1, .string a0_2, u112003]) ?_ 3 _ rfl; (with_reducible repeat (first | refine blk_drewN ?_ _ | refine blk_drew ?_ | refine blk_alloc ?_ _)); exact BK111.out⟩, ⟨by repeat (first | (with_reducible first | exact HB.out | apply below_alloc | apply pw_below_drewN | apply below_drew1 | refine below_set ?_ GE109.out | refine below_set ?_ GE110.out | refine below_set ?_ GE111.out | refine below_set ?_ GE113.out) | exact HB.out)⟩⟩
            · rw [if_neg c15] at H
              exact absurd H (by simp)
          · rw [if_neg c13] at H
            exact absurd H (by simp)
        · rw [if_neg c12] at H
          exact absurd H (by simp)
      · rw [if_neg c11] at H
        have c11b0 : decide (x16_1 < (l0_3.length : Int)) = false := decide_eq_false c11
        clear c11
        simp only [Option.some.injEq, Prod.mk.injEq] at H
        obtain ⟨rfl, rfl, rfl, rfl⟩ := H
        have hnb28 := NB111_109.out
        have hnc28 := NB109_111.out
        have hnb29 := NB111_110.out
        have hnc29 := NB110_111.out
        have hcz30_0 : wr.cell? ⟨gb111, 0, none⟩ = some (.int .u8 a0_0) := (blk_cell BK111.out 0).trans rfl
        have hcz30_1 : wr.cell? ⟨gb111, 1, none⟩ = some (.int .u64 a0_1) := (blk_cell BK111.out 1).trans rfl
        have hcz30_2 : wr.cell? ⟨gb111, 2, none⟩ = some (.string a0_2) := (blk_cell BK111.out 2).trans rfl
        have hcz30_3 : wr.cell? ⟨gb111, 3, none⟩ = some (u112003) := (blk_cell BK111.out 3).trans rfl
        have hfz30_0 := blk_frozen BK111.out 0
        have hfz30_1 := blk_frozen BK111.out 1
        have hfz30_2 := blk_frozen BK111.out 2
        have hfz30_3 := blk_frozen BK111.out 3
        have hnb31 := NB110_109.out
        have hnc31 := NB109_110.out
        have hcz32_0 : wr.cell? ⟨gb110, 0, none⟩ = some (.int .u8 0) := (blk_cell BK110.out 0).trans rfl
        have hcz32_1 : wr.cell? ⟨gb110, 1, none⟩ = some (.int .u64 0) := (blk_cell BK110.out 1).trans rfl
        have hcz32_2 : wr.cell? ⟨gb110, 2, none⟩ = some (.string (⟨#[]⟩ : ByteArray)) := (blk_cell BK110.out 2).trans rfl
        have hcz32_3 : wr.cell? ⟨gb110, 3, none⟩ = some (.slice none 0 0) := (blk_cell BK110.out 3).trans rfl
        have hfz32_0 := blk_frozen BK110.out 0
        have hfz32_1 := blk_frozen BK110.out 1
        have hfz32_2 := blk_frozen BK110.out 2
        have hfz32_3 := blk_frozen BK110.out 3
        obtain ⟨Ao33, co33, eo33⟩ := Kd.R_slice HO_112003.out
        subst eo33
        go_wp2
        refine bodyPost_ret (results_cell_row rfl _ _ gb110 27 #[.int .u8 a0_0, .int .u64 a0_1, .string a0_2, .slice Ao33 x112003_1.length co33] (0, 0) _ rfl (by (with_reducible repeat (first | refine blk_drewN ?_ _ | refine blk_drew ?_ | refine blk_alloc ?_ _)); refine blk_put (cs := #[.int .u8 a0_0, .int .u64 a0_1, .string a0_2, .slice none 0 0]) ?_ 3 _ rfl; (with_reducible repeat (first | refine blk_drewN ?_ _ | refine blk_drew ?_ | refine blk_alloc ?_ _)); refine blk_put (cs := #[.int .u8 a0_0, .int .u64 a0_1, .string (⟨#[]⟩ : ByteArray), .slice none 0 0]) ?_ 2 _ rfl; (with_reducible repeat (first | refine blk_drewN ?_ _ | refine blk_drew ?_ | refine blk_alloc ?_ _)); refine blk_put (cs := #[.int .u8 a0_0, .int .u64 0, .string (⟨#[]⟩ : ByteArray), .slice none 0 0]) ?_ 1 _ rfl; (with_reducible repeat (first | refine blk_drewN ?_ _ | refine blk_drew ?_ | refine blk_alloc ?_ _)); refine blk_put (cs := #[.int .u8 0, .int .u64 0, .string (⟨#[]⟩ : ByteArray), .slice none 0 0]) ?_ 0 _ rfl; (with_reducible repeat (first | refine blk_drewN ?_ _ | refine blk_drew ?_ | refine blk_alloc ?_ _)); exact BK110.out) Tryz.underlying27 rfl (by kernel_rfl)) rfl ?_
        exact ⟨_, by first | rfl | (simp [errW_none, errW_some] <;> rfl) | (simp [*, errW_none, errW_some] <;> rfl), by (with_reducible repeat (first | apply Kd.R_alloc | apply Kd.R_drewN | apply Kd.R_drew)); exact Kd.R_mono (Kd.R_far (p := ⟨gb110, 3, none⟩) (Kd.R_far (p := ⟨gb110, 2, none⟩) (Kd.R_far (p := ⟨gb110, 1, none⟩) (Kd.R_far (p := ⟨gb110, 0, none⟩) (Kd.R_mono HO_112003.out (fun k_ hk => (⟨hk, hk.1⟩ : _ ∧ k_ ≠ gb110))) (fun _ hk => hk.2) (.int .u8 a0_0)) (fun _ hk => hk.2) (.int .u64 a0_1)) (fun _ hk => hk.2) (.string a0_2)) (fun _ hk => hk.2) (.slice Ao33 x112003_1.length co33)) (fun _ hk => trivial), by repeat (first | (with_reducible first | exact HB.out | apply below_alloc | apply pw_below_drewN | apply below_drew1 | refine below_set ?_ GE109.out | refine below_set ?_ GE110.out | refine below_set ?_ GE111.out) | exact HB.out)⟩

end Go.Proofs.YtogikhohkbcccaaGreatDoor.P
