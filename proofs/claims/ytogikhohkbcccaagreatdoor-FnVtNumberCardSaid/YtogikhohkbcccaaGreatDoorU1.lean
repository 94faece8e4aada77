-- Written by a program of this session out of the translation; Lean checks it.
import Derived.Test.YtogikhohkbcccaaGreatDoorProg
import Derived.Below
import Derived.Deep.Draws
import Derived.Deep.AppendLies
import Derived.Maps.AppendAt
import Derived.OwnWalk
import Derived.Laws.BytesArg
import Derived.Laws.MakeOwn
import Derived.Laws.OwnMore
import Derived.Deep.OwnRows
import Derived.Tactics
import Derived.Lib.ConvBytes
import Derived.Laws.Slices
import Derived.WalkKit
import Derived.KernelRfl
import Derived.RowKit3
import Derived.Deep.LoopGhost
import Derived.Deep.QuietTactic
import Derived.BigQuiet
import Derived.WideLaws
import Derived.Deep.DeepCutAuto
import Derived.Deep.CutBlock
import Derived.Deep.RegionHeld3
import Derived.Laws.Rows
import Derived.Lib.AppendStr
import Derived.ArgAppend
import Derived.Laws.IdiomCopy
import Derived.OrdersHeld
import Derived.Laws.BitsLemmas
import Derived.RowKit
import Derived.Test.YtogikhohkbcccaaGreatDoorWWords
import Derived.Test.YtogikhohkbcccaaGreatDoorWMore
import Derived.Laws.StructEq
namespace Go.Proofs.YtogikhohkbcccaaGreatDoor.U
open Go.RowKit Go.Proofs.YtogikhohkbcccaaGreatDoorW.PrintWords Go.Proofs.YtogikhohkbcccaaGreatDoorW.PrintLast Go.Proofs.YtogikhohkbcccaaGreatDoorW.PrintMore
attribute [local go_sem] max2_int min2_int max_two min_two max_three min_three max_four min_four   -- for this text's walks alone
set_option linter.unusedVariables false
set_option linter.unusedSimpArgs false

def errW : Option Int → Value
  | none => .nilIface
  | some c => .iface 0 (.int .i64 c)
theorem errW_none : errW none = .nilIface := rfl
theorem errW_some (c : Int) : errW (some c) = .iface 0 (.int .i64 c) := rfl

-- the values' own types

end Go.Proofs.YtogikhohkbcccaaGreatDoor.U

-- Written by a program of this session out of the translation; Lean checks it.
namespace Go.Proofs.YtogikhohkbcccaaGreatDoor.U
open Go.RowKit Go.Proofs.YtogikhohkbcccaaGreatDoorW.PrintWords Go.Proofs.YtogikhohkbcccaaGreatDoorW.PrintLast Go.Proofs.YtogikhohkbcccaaGreatDoorW.PrintMore
attribute [local go_sem] max2_int min2_int max_two min_two max_three min_three max_four min_four   -- for this text's walks alone
set_option linter.unusedVariables false
set_option linter.unusedSimpArgs false

def strconv_bool2_uint64.f (a0 : Bool) : Option (Int) := if a0 = true then (some 1) else (some 0)
set_option maxHeartbeats 8000000 in
set_option maxRecDepth 100000 in
theorem strconv_bool2_uint64.calls (a0 : Bool) (r : Int) (w : World) (h : strconv_bool2_uint64.f a0 = some r) :
    Calls Tryz.prog 51 #[.bool a0] w fun e w' => e = .returned (.int .u64 r) ∧ Drawn0 w w' := by
  have H : (if a0 = true then (some 1) else (some 0)) = some r := h
  clear h
  by_cases c2 : a0 = true
  · subst c2
    have H1 : (some 1) = some r := by rw [if_pos rfl] at H; exact H
    clear H
    have H := H1
    clear H1
    obtain rfl := Option.some.inj H
    go_enter Tryz.func51, Tryz.ntmps51
    go_wp2
    go_ret
    exact ⟨by first | rfl | (simp; done) | (simp [*]; done), by repeat (first | exact Drawn0.refl _ | apply Drawn0.step)⟩
  · replace c2 := Bool.eq_false_iff.mpr c2
    subst c2
    have H1 : (some 0) = some r := by rw [if_neg (show ¬ (false = true) by decide)] at H; exact H
    clear H
    have H := H1
    clear H1
    obtain rfl := Option.some.inj H
    go_enter Tryz.func51, Tryz.ntmps51
    go_wp2
    go_ret
    exact ⟨by first | rfl | (simp; done) | (simp [*]; done), by repeat (first | exact Drawn0.refl _ | apply Drawn0.step)⟩

def bits_Mul64.f (a0 : Int) (a1 : Int) : Option (Int × Int) := some (IntKind.u64.wrap ((IntKind.u64.wrap ((IntKind.u64.wrap ((a0 / 4294967296) * (a1 / 4294967296))) + ((IntKind.u64.wrap ((IntKind.u64.wrap ((a0 / 4294967296) * (Go.bits .and .u64 a1 4294967295))) + ((IntKind.u64.wrap ((Go.bits .and .u64 a0 4294967295) * (Go.bits .and .u64 a1 4294967295))) / 4294967296))) / 4294967296))) + ((IntKind.u64.wrap ((Go.bits .and .u64 (IntKind.u64.wrap ((IntKind.u64.wrap ((a0 / 4294967296) * (Go.bits .and .u64 a1 4294967295))) + ((IntKind.u64.wrap ((Go.bits .and .u64 a0 4294967295) * (Go.bits .and .u64 a1 4294967295))) / 4294967296))) 4294967295) + (IntKind.u64.wrap ((Go.bits .and .u64 a0 4294967295) * (a1 / 4294967296))))) / 4294967296)), IntKind.u64.wrap (a0 * a1))
set_option maxHeartbeats 8000000 in
set_option maxRecDepth 100000 in
theorem bits_Mul64.calls (a0 : Int) (a1 : Int) (r1 : Int) (r2 : Int) (w : World) (h : bits_Mul64.f a0 a1 = some (r1, r2)) :
    Calls Tryz.prog 78 #[.int .u64 a0, .int .u64 a1] w fun e w' => e = .returned (.tuple #[.int .u64 r1, .int .u64 r2]) ∧ Drawn0 w w' := by
  have H : (some (IntKind.u64.wrap ((IntKind.u64.wrap ((IntKind.u64.wrap ((a0 / 4294967296) * (a1 / 4294967296))) + ((IntKind.u64.wrap ((IntKind.u64.wrap ((a0 / 4294967296) * (Go.bits .and .u64 a1 4294967295))) + ((IntKind.u64.wrap ((Go.bits .and .u64 a0 4294967295) * (Go.bits .and .u64 a1 4294967295))) / 4294967296))) / 4294967296))) + ((IntKind.u64.wrap ((Go.bits .and .u64 (IntKind.u64.wrap ((IntKind.u64.wrap ((a0 / 4294967296) * (Go.bits .and .u64 a1 4294967295))) + ((IntKind.u64.wrap ((Go.bits .and .u64 a0 4294967295) * (Go.bits .and .u64 a1 4294967295))) / 4294967296))) 4294967295) + (IntKind.u64.wrap ((Go.bits .and .u64 a0 4294967295) * (a1 / 4294967296))))) / 4294967296)), IntKind.u64.wrap (a0 * a1))) = some (r1, r2) := h
  clear h
  simp only [Option.some.injEq, Prod.mk.injEq] at H
  obtain ⟨rfl, rfl⟩ := H
  go_enter Tryz.func78, Tryz.ntmps78
  go_wp2
  go_ret2
  exact ⟨by first | rfl | (simp; done) | (simp [*]; done), by repeat (first | exact Drawn0.refl _ | apply Drawn0.step)⟩

/-- A state of type 160 at block g of W; what its slices lead to came in by w0. -/
def IsS160 (w0 W : World) (g : Nat) (f0 : Int) (f1 : Int) (f2 : Int) : Prop := W.heap[g]? = some (.cells #[.int .u64 f0, .int .u64 f1, .int .i64 f2] 160 (0, 0)) ∧ w0.heap.size ≤ g
theorem IsS160.grown {w0 W : World} {g : Nat} {f0 : Int} {f1 : Int} {f2 : Int} {W1 : World} {row : Option Nat} (h : IsS160 w0 W g f0 f1 f2) (hw : W.grownBy W1 row) (hne : some g ≠ row) : IsS160 w0 W1 g f0 f1 f2 := by
  obtain ⟨hb, hg⟩ := h
  exact ⟨blk_grown hb hw hne, hg⟩
theorem IsS160.kept {w0 W : World} {g : Nat} {f0 : Int} {f1 : Int} {f2 : Int} {W1 : World} {S : Nat → Prop} (h : IsS160 w0 W g f0 f1 f2) (hk : Kept W W1 S) (hne : ¬ S g) : IsS160 w0 W1 g f0 f1 f2 := by
  obtain ⟨hb, hg⟩ := h
  exact ⟨blk_kept hb hk hne, hg⟩
theorem IsS160.below {w0 W : World} {g : Nat} {f0 : Int} {f1 : Int} {f2 : Int} {W1 : World} (h : IsS160 w0 W g f0 f1 f2) (hw : Below W.heap.size W W1) : IsS160 w0 W1 g f0 f1 f2 := h.grown (grown_of_below hw none) (by simp)
theorem IsS160.alloc {w0 W : World} {g : Nat} {f0 : Int} {f1 : Int} {f2 : Int} (h : IsS160 w0 W g f0 f1 f2) (o : Obj) : IsS160 w0 (W.alloc o) g f0 f1 f2 := h.below (below_alloc (Below.refl _ _) o)
theorem IsS160.drewN {w0 W : World} {g : Nat} {f0 : Int} {f1 : Int} {f2 : Int} (h : IsS160 w0 W g f0 f1 f2) (m : Nat) : IsS160 w0 (W.drewN m) g f0 f1 f2 := h
theorem IsS160.drew {w0 W : World} {g : Nat} {f0 : Int} {f1 : Int} {f2 : Int} (h : IsS160 w0 W g f0 f1 f2) : IsS160 w0 W.drew g f0 f1 f2 := h
theorem IsS160.at_ {w0 W : World} {g : Nat} {f0 : Int} {f1 : Int} {f2 : Int} {w' : World} {m : Nat} (hq : W.drewN m = w') (h : IsS160 w0 W g f0 f1 f2) : IsS160 w0 w' g f0 f1 f2 := by subst hq; exact IsS160.drewN h m
theorem IsS160.apart {w0 W : World} {g : Nat} {f0 : Int} {f1 : Int} {f2 : Int} {α : Type} {d : Kd α} {e : Nat} {base : Nat} {ok : Nat → Prop} {v : Value} {xs : List α} (h : IsS160 w0 W g f0 f1 f2) (ho : d.R e W base ok v xs) (ht : ∀ q, q ∈ e :: d.E → q ≠ 160) : d.R e W base (fun k => ok k ∧ k ≠ g) v xs := by
  obtain ⟨hb, hg⟩ := h
  exact Kd.R_types ho hb ht
theorem IsS160.own_ne {w0 W : World} {g : Nat} {f0 : Int} {f1 : Int} {f2 : Int} {α : Type} {d : Kd α} {e : Nat} {base : Nat} {ok : Nat → Prop} {v : Value} {xs : List α} (h : IsS160 w0 W g f0 f1 f2) (ho : d.R e W base ok v xs) (ht : e ≠ 160) : some g ≠ v.ownBlock := by
  obtain ⟨hb, hg⟩ := h
  exact Kd.R_ne ho hb ht
theorem IsS160.lt {w0 W : World} {g : Nat} {f0 : Int} {f1 : Int} {f2 : Int} (h : IsS160 w0 W g f0 f1 f2) : g < W.heap.size := by
  obtain ⟨hb, hg⟩ := h
  exact blk_lt hb
theorem IsS160.ge {w0 W : World} {g : Nat} {f0 : Int} {f1 : Int} {f2 : Int} (h : IsS160 w0 W g f0 f1 f2) : w0.heap.size ≤ g := by
  obtain ⟨hb, hg⟩ := h
  exact hg
theorem cellS160_0 {W : World} {g : Nat} {f0 : Int} {f1 : Int} {f2 : Int} (h : W.heap[g]? = some (.cells #[.int .u64 f0, .int .u64 f1, .int .i64 f2] 160 (0, 0))) : W.cell? ⟨g, 0, none⟩ = some (.int .u64 f0) := (blk_cell h 0).trans rfl
theorem IsS160.set_0 {w0 W : World} {g : Nat} {f0 : Int} {f1 : Int} {f2 : Int} (h : IsS160 w0 W g f0 f1 f2) (x : Int) : IsS160 w0 (W.setCell ⟨g, 0, none⟩ (.int .u64 x)) g x f1 f2 := by
  obtain ⟨hb, hg⟩ := h
  exact ⟨by simpa using blk_set hb 0 (.int .u64 x), hg⟩
theorem cellS160_1 {W : World} {g : Nat} {f0 : Int} {f1 : Int} {f2 : Int} (h : W.heap[g]? = some (.cells #[.int .u64 f0, .int .u64 f1, .int .i64 f2] 160 (0, 0))) : W.cell? ⟨g, 1, none⟩ = some (.int .u64 f1) := (blk_cell h 1).trans rfl
theorem IsS160.set_1 {w0 W : World} {g : Nat} {f0 : Int} {f1 : Int} {f2 : Int} (h : IsS160 w0 W g f0 f1 f2) (x : Int) : IsS160 w0 (W.setCell ⟨g, 1, none⟩ (.int .u64 x)) g f0 x f2 := by
  obtain ⟨hb, hg⟩ := h
  exact ⟨by simpa using blk_set hb 1 (.int .u64 x), hg⟩
theorem cellS160_2 {W : World} {g : Nat} {f0 : Int} {f1 : Int} {f2 : Int} (h : W.heap[g]? = some (.cells #[.int .u64 f0, .int .u64 f1, .int .i64 f2] 160 (0, 0))) : W.cell? ⟨g, 2, none⟩ = some (.int .i64 f2) := (blk_cell h 2).trans rfl
theorem IsS160.set_2 {w0 W : World} {g : Nat} {f0 : Int} {f1 : Int} {f2 : Int} (h : IsS160 w0 W g f0 f1 f2) (x : Int) : IsS160 w0 (W.setCell ⟨g, 2, none⟩ (.int .i64 x)) g f0 f1 x := by
  obtain ⟨hb, hg⟩ := h
  exact ⟨by simpa using blk_set hb 2 (.int .i64 x), hg⟩
theorem IsS160.new (w0 W : World) (f0 : Int) (f1 : Int) (f2 : Int) (hB : Below w0.heap.size w0 W) : IsS160 w0 (W.alloc (.cells #[.int .u64 f0, .int .u64 f1, .int .i64 f2] 160)) W.heap.size f0 f1 f2 := ⟨by simpa using heap_alloc_new W _, hB.size⟩

def strconv_uscale.f (a0 : Int) (s1_0 : Int) (s1_1 : Int) (s1_2 : Int) : Option (Int × Int × Int × Int) := (bits_Mul64.f a0 s1_0).bind fun bt101 => (if 0 ≤ (Go.bits .and .i64 s1_2 63) then (if (shl .u64 (shr .u64 bt101.1 (Go.bits .and .i64 s1_2 63)) (Go.bits .and .i64 s1_2 63)) = bt101.1 then ((bits_Mul64.f a0 s1_1).bind fun bt103 => ((strconv_bool2_uint64.f (decide (bt101.2 < bt103.1))).bind fun t105 => ((strconv_bool2_uint64.f (decide ((IntKind.u64.wrap (bt101.2 - bt103.1)) > 1))).bind fun t106 => (some (Go.bits .or .u64 (shr .u64 (IntKind.u64.wrap (bt101.1 - t105)) (Go.bits .and .i64 s1_2 63)) t106, s1_0, s1_1, s1_2))))) else (some (Go.bits .or .u64 (shr .u64 bt101.1 (Go.bits .and .i64 s1_2 63)) 1, s1_0, s1_1, s1_2))) else (none))
set_option maxHeartbeats 8000000 in
set_option maxRecDepth 100000 in
theorem strconv_uscale.calls (a0 : Int) (g : Nat) (s1_0 : Int) (s1_1 : Int) (s1_2 : Int) (r1 : Int) (r2 : Int) (r3 : Int) (r4 : Int) (w0 w : World) (hI : IsS160 w0 w g s1_0 s1_1 s1_2) (hB : Below w0.heap.size w0 w) (h : strconv_uscale.f a0 s1_0 s1_1 s1_2 = some (r1, r2, r3, r4)) :
    Calls Tryz.prog 69 #[.int .u64 a0, .pointer (some ⟨g, 0, none⟩)] w fun e w' => e = .returned (.int .u64 r1) ∧ IsS160 w0 w' g r2 r3 r4 ∧ Below w0.heap.size w0 w' ∧ KeepBut w w' g none := by
  have HI1 := Aside0.mk hI
  have HK := Aside0.mk (KeepBut.refl w g none)
  have HL := Aside0.mk hB.size
  clear hI
  have HW0 := Aside0.mk hB.size
  have HB := Aside0.mk hB
  clear hB
  have H : ((bits_Mul64.f a0 s1_0).bind fun bt101 => (if 0 ≤ (Go.bits .and .i64 s1_2 63) then (if (shl .u64 (shr .u64 bt101.1 (Go.bits .and .i64 s1_2 63)) (Go.bits .and .i64 s1_2 63)) = bt101.1 then ((bits_Mul64.f a0 s1_1).bind fun bt103 => ((strconv_bool2_uint64.f (decide (bt101.2 < bt103.1))).bind fun t105 => ((strconv_bool2_uint64.f (decide ((IntKind.u64.wrap (bt101.2 - bt103.1)) > 1))).bind fun t106 => (some (Go.bits .or .u64 (shr .u64 (IntKind.u64.wrap (bt101.1 - t105)) (Go.bits .and .i64 s1_2 63)) t106, s1_0, s1_1, s1_2))))) else (some (Go.bits .or .u64 (shr .u64 bt101.1 (Go.bits .and .i64 s1_2 63)) 1, s1_0, s1_1, s1_2))) else (none))) = some (r1, r2, r3, r4) := h
  clear h
  replace H := Option.bind_eq_some_iff.mp H
  obtain ⟨⟨t101, t102⟩, A30, H⟩ := H
  replace H : (if 0 ≤ (Go.bits .and .i64 s1_2 63) then (if (shl .u64 (shr .u64 t101 (Go.bits .and .i64 s1_2 63)) (Go.bits .and .i64 s1_2 63)) = t101 then ((bits_Mul64.f a0 s1_1).bind fun bt103 => ((strconv_bool2_uint64.f (decide (t102 < bt103.1))).bind fun t105 => ((strconv_bool2_uint64.f (decide ((IntKind.u64.wrap (t102 - bt103.1)) > 1))).bind fun t106 => (some (Go.bits .or .u64 (shr .u64 (IntKind.u64.wrap (t101 - t105)) (Go.bits .and .i64 s1_2 63)) t106, s1_0, s1_1, s1_2))))) else (some (Go.bits .or .u64 (shr .u64 t101 (Go.bits .and .i64 s1_2 63)) 1, s1_0, s1_1, s1_2))) else (none)) = some (r1, r2, r3, r4) := H
  have A3 := Aside0.mk A30
  clear A30
  by_cases c4 : 0 ≤ (Go.bits .and .i64 s1_2 63)
  · rw [if_pos c4] at H
    have c4b0 := eq_true c4
    have c4b1 : decide (0 ≤ (Go.bits .and .i64 s1_2 63)) = true := decide_eq_true c4
    clear c4
    obtain ⟨ji5, hji5⟩ : ∃ j_ : Int, (shr .u64 t101 (Go.bits .and .i64 s1_2 63)) = j_ := ⟨_, rfl⟩
    replace H : (if (shl .u64 (ji5) (Go.bits .and .i64 s1_2 63)) = t101 then ((bits_Mul64.f a0 s1_1).bind fun bt103 => ((strconv_bool2_uint64.f (decide (t102 < bt103.1))).bind fun t105 => ((strconv_bool2_uint64.f (decide ((IntKind.u64.wrap (t102 - bt103.1)) > 1))).bind fun t106 => (some (Go.bits .or .u64 (shr .u64 (IntKind.u64.wrap (t101 - t105)) (Go.bits .and .i64 s1_2 63)) t106, s1_0, s1_1, s1_2))))) else (some (Go.bits .or .u64 (ji5) 1, s1_0, s1_1, s1_2))) = some (r1, r2, r3, r4) := by first | (rw [hji5] at H; exact H) | (simp only [hji5] at H ⊢; exact H)
    (try rw [hji5] at A3)
    have hji5_ : (t101 / 2 ^ min (Go.bits .and .i64 s1_2 63).toNat 64) = ji5 := hji5
    have hji5z : (Go.bits .and .i64 s1_2 63) ≤ 64 → (t101 / 2 ^ (Go.bits .and .i64 s1_2 63).toNat) = ji5 := shr_small hji5
    have c6b0 := eq_true (of_decide_eq_true (by first | (with_reducible assumption) | assumption) : 0 ≤ (Go.bits .and .i64 s1_2 63))
    obtain ⟨ji7, hji7⟩ : ∃ j_ : Int, (shl .u64 (ji5) (Go.bits .and .i64 s1_2 63)) = j_ := ⟨_, rfl⟩
    replace H : (if (ji7) = t101 then ((bits_Mul64.f a0 s1_1).bind fun bt103 => ((strconv_bool2_uint64.f (decide (t102 < bt103.1))).bind fun t105 => ((strconv_bool2_uint64.f (decide ((IntKind.u64.wrap (t102 - bt103.1)) > 1))).bind fun t106 => (some (Go.bits .or .u64 (shr .u64 (IntKind.u64.wrap (t101 - t105)) (Go.bits .and .i64 s1_2 63)) t106, s1_0, s1_1, s1_2))))) else (some (Go.bits .or .u64 (ji5) 1, s1_0, s1_1, s1_2))) = some (r1, r2, r3, r4) := by first | (rw [hji7] at H; exact H) | (simp only [hji7] at H ⊢; exact H)
    (try rw [hji7] at A3)
    have hji7_ : (IntKind.u64.wrap ((ji5) * 2 ^ min (Go.bits .and .i64 s1_2 63).toNat 64)) = ji7 := hji7
    have hji7z : (Go.bits .and .i64 s1_2 63) ≤ 64 → (IntKind.u64.wrap ((ji5) * 2 ^ (Go.bits .and .i64 s1_2 63).toNat)) = ji7 := shl_small hji7
    by_cases c8 : (ji7) = t101
    · rw [if_pos c8] at H
      have c8b0 : ((ji7) == t101) = true := beq_iff_eq.mpr c8
      have c8b1 : ((ji7) != t101) = false := bne_eq_false_iff_eq.mpr c8
      clear c8
      replace H := Option.bind_eq_some_iff.mp H
      obtain ⟨⟨t103, t104⟩, A90, H⟩ := H
      replace H : ((strconv_bool2_uint64.f (decide (t102 < t103))).bind fun t105 => ((strconv_bool2_uint64.f (decide ((IntKind.u64.wrap (t102 - t103)) > 1))).bind fun t106 => (some (Go.bits .or .u64 (shr .u64 (IntKind.u64.wrap (t101 - t105)) (Go.bits .and .i64 s1_2 63)) t106, s1_0, s1_1, s1_2)))) = some (r1, r2, r3, r4) := H
      have A9 := Aside0.mk A90
      clear A90
      replace H := Option.bind_eq_some_iff.mp H
      obtain ⟨t105, A100, H⟩ := H
      replace H : ((strconv_bool2_uint64.f (decide ((IntKind.u64.wrap (t102 - t103)) > 1))).bind fun t106 => (some (Go.bits .or .u64 (shr .u64 (IntKind.u64.wrap (t101 - t105)) (Go.bits .and .i64 s1_2 63)) t106, s1_0, s1_1, s1_2))) = some (r1, r2, r3, r4) := H
      have A10 := Aside0.mk A100
      clear A100
      have c11b0 := eq_true (of_decide_eq_true (by first | (with_reducible assumption) | assumption) : 0 ≤ (Go.bits .and .i64 s1_2 63))
      obtain ⟨ji12, hji12⟩ : ∃ j_ : Int, (shr .u64 (IntKind.u64.wrap (t101 - t105)) (Go.bits .and .i64 s1_2 63)) = j_ := ⟨_, rfl⟩
      replace H : ((strconv_bool2_uint64.f (decide ((IntKind.u64.wrap (t102 - t103)) > 1))).bind fun t106 => (some (Go.bits .or .u64 (ji12) t106, s1_0, s1_1, s1_2))) = some (r1, r2, r3, r4) := by first | (rw [hji12] at H; exact H) | (simp only [hji12] at H ⊢; exact H)
      (try rw [hji12] at A3)
      (try rw [hji12] at A9)
      (try rw [hji12] at A10)
      have hji12_ : ((IntKind.u64.wrap (t101 - t105)) / 2 ^ min (Go.bits .and .i64 s1_2 63).toNat 64) = ji12 := hji12
      have hji12z : (Go.bits .and .i64 s1_2 63) ≤ 64 → ((IntKind.u64.wrap (t101 - t105)) / 2 ^ (Go.bits .and .i64 s1_2 63).toNat) = ji12 := shr_small hji12
      replace H := Option.bind_eq_some_iff.mp H
      obtain ⟨t106, A130, H⟩ := H
      replace H : (some (Go.bits .or .u64 (ji12) t106, s1_0, s1_1, s1_2)) = some (r1, r2, r3, r4) := H
      have A13 := Aside0.mk A130
      clear A130
      simp only [Option.some.injEq, Prod.mk.injEq] at H
      obtain ⟨rfl, rfl, rfl, rfl⟩ := H
      obtain ⟨HGz14, hgz14⟩ := HI1.out
      have hcz14_0 := cellS160_0 HGz14
      have hcz14_1 := cellS160_1 HGz14
      have hcz14_2 := cellS160_2 HGz14
      have hfz14_0 := blk_frozen HGz14 0
      have hfz14_1 := blk_frozen HGz14 1
      have hfz14_2 := blk_frozen HGz14 2
      clear HGz14 hgz14
      go_enter Tryz.func69, Tryz.ntmps69
      go_wp2_with (first | (go_at_call 78; (with_reducible refine (bits_Mul64.calls a0 s1_0 t101 t102 _ A3.out).mono ?_); rintro e w' ⟨rfl, ⟨nd, rfl⟩⟩; (try first | exact ⟨rfl, _, World.drewN_drewN _ _ _⟩ | exact ⟨rfl, _, Eq.trans (World.drewN_drewN _ _ _) (congrArg (World.drewN _) (Nat.add_assoc _ _ _))⟩)) | (go_at_call 78; (with_reducible refine (bits_Mul64.calls a0 s1_1 t103 t104 _ A9.out).mono ?_); rintro e w' ⟨rfl, ⟨nd, rfl⟩⟩; (try first | exact ⟨rfl, _, World.drewN_drewN _ _ _⟩ | exact ⟨rfl, _, Eq.trans (World.drewN_drewN _ _ _) (congrArg (World.drewN _) (Nat.add_assoc _ _ _))⟩)) | (go_at_call 51; (with_reducible refine (strconv_bool2_uint64.calls (decide (t102 < t103)) t105 _ A10.out).mono ?_); rintro e w' ⟨rfl, ⟨nd, rfl⟩⟩; (try first | exact ⟨rfl, _, World.drewN_drewN _ _ _⟩ | exact ⟨rfl, _, Eq.trans (World.drewN_drewN _ _ _) (congrArg (World.drewN _) (Nat.add_assoc _ _ _))⟩)) | (go_at_call 51; (with_reducible refine (strconv_bool2_uint64.calls (decide ((IntKind.u64.wrap (t102 - t103)) > 1)) t106 _ A13.out).mono ?_); rintro e w' ⟨rfl, ⟨nd, rfl⟩⟩; (try first | exact ⟨rfl, _, World.drewN_drewN _ _ _⟩ | exact ⟨rfl, _, Eq.trans (World.drewN_drewN _ _ _) (congrArg (World.drewN _) (Nat.add_assoc _ _ _))⟩)))
      repeat (go_quiet (first | (go_at_call 78; (with_reducible refine (bits_Mul64.calls a0 s1_0 t101 t102 _ A3.out).mono ?_); rintro e w' ⟨rfl, ⟨nd, rfl⟩⟩; (try first | exact ⟨rfl, _, World.drewN_drewN _ _ _⟩ | exact ⟨rfl, _, Eq.trans (World.drewN_drewN _ _ _) (congrArg (World.drewN _) (Nat.add_assoc _ _ _))⟩)) | (go_at_call 78; (with_reducible refine (bits_Mul64.calls a0 s1_1 t103 t104 _ A9.out).mono ?_); rintro e w' ⟨rfl, ⟨nd, rfl⟩⟩; (try first | exact ⟨rfl, _, World.drewN_drewN _ _ _⟩ | exact ⟨rfl, _, Eq.trans (World.drewN_drewN _ _ _) (congrArg (World.drewN _) (Nat.add_assoc _ _ _))⟩)) | (go_at_call 51; (with_reducible refine (strconv_bool2_uint64.calls (decide (t102 < t103)) t105 _ A10.out).mono ?_); rintro e w' ⟨rfl, ⟨nd, rfl⟩⟩; (try first | exact ⟨rfl, _, World.drewN_drewN _ _ _⟩ | exact ⟨rfl, _, Eq.trans (World.drewN_drewN _ _ _) (congrArg (World.drewN _) (Nat.add_assoc _ _ _))⟩)) | (go_at_call 51; (with_reducible refine (strconv_bool2_uint64.calls (decide ((IntKind.u64.wrap (t102 - t103)) > 1)) t106 _ A13.out).mono ?_); rintro e w' ⟨rfl, ⟨nd, rfl⟩⟩; (try first | exact ⟨rfl, _, World.drewN_drewN _ _ _⟩ | exact ⟨rfl, _, Eq.trans (World.drewN_drewN _ _ _) (congrArg (World.drewN _) (Nat.add_assoc _ _ _))⟩))); try go_wp2_with (first | (go_at_call 78; (with_reducible refine (bits_Mul64.calls a0 s1_0 t101 t102 _ A3.out).mono ?_); rintro e w' ⟨rfl, ⟨nd, rfl⟩⟩; (try first | exact ⟨rfl, _, World.drewN_drewN _ _ _⟩ | exact ⟨rfl, _, Eq.trans (World.drewN_drewN _ _ _) (congrArg (World.drewN _) (Nat.add_assoc _ _ _))⟩)) | (go_at_call 78; (with_reducible refine (bits_Mul64.calls a0 s1_1 t103 t104 _ A9.out).mono ?_); rintro e w' ⟨rfl, ⟨nd, rfl⟩⟩; (try first | exact ⟨rfl, _, World.drewN_drewN _ _ _⟩ | exact ⟨rfl, _, Eq.trans (World.drewN_drewN _ _ _) (congrArg (World.drewN _) (Nat.add_assoc _ _ _))⟩)) | (go_at_call 51; (with_reducible refine (strconv_bool2_uint64.calls (decide (t102 < t103)) t105 _ A10.out).mono ?_); rintro e w' ⟨rfl, ⟨nd, rfl⟩⟩; (try first | exact ⟨rfl, _, World.drewN_drewN _ _ _⟩ | exact ⟨rfl, _, Eq.trans (World.drewN_drewN _ _ _) (congrArg (World.drewN _) (Nat.add_assoc _ _ _))⟩)) | (go_at_call 51; (with_reducible refine (strconv_bool2_uint64.calls (decide ((IntKind.u64.wrap (t102 - t103)) > 1)) t106 _ A13.out).mono ?_); rintro e w' ⟨rfl, ⟨nd, rfl⟩⟩; (try first | exact ⟨rfl, _, World.drewN_drewN _ _ _⟩ | exact ⟨rfl, _, Eq.trans (World.drewN_drewN _ _ _) (congrArg (World.drewN _) (Nat.add_assoc _ _ _))⟩))))
      go_ret
      exact ⟨by first | rfl | (simp [errW_none, errW_some] <;> rfl) | (simp only [← hji5, ← hji7, ← hji12]; first | rfl | (simp [errW_none, errW_some] <;> rfl)) | (simp [*, errW_none, errW_some] <;> rfl), by repeat (first | (with_reducible first | exact HI1.out | apply IsS160.alloc | apply IsS160.drewN | apply IsS160.drew | apply IsS160.set_0 | apply IsS160.set_1 | apply IsS160.set_2) | exact HI1.out), by repeat (first | (with_reducible first | exact HB.out | apply below_alloc | apply pw_below_drewN | apply below_drew1 | refine below_set ?_ (IsS160.ge HI1.out)) | exact HB.out), by repeat (first | (with_reducible first | exact HK.out | apply KeepBut.set_ | apply keep_drewN | apply keep_drew | apply keep_alloc) | exact HK.out)⟩
    · rw [if_neg c8] at H
      have c8b0 : ((ji7) == t101) = false := beq_eq_false_iff_ne.mpr c8
      have c8b1 : ((ji7) != t101) = true := bne_iff_ne.mpr c8
      have c15b0 := eq_true (of_decide_eq_true (by first | (with_reducible assumption) | assumption) : 0 ≤ (Go.bits .and .i64 s1_2 63))
      simp only [Option.some.injEq, Prod.mk.injEq] at H
      obtain ⟨rfl, rfl, rfl, rfl⟩ := H
      obtain ⟨HGz17, hgz17⟩ := HI1.out
      have hcz17_0 := cellS160_0 HGz17
      have hcz17_1 := cellS160_1 HGz17
      have hcz17_2 := cellS160_2 HGz17
      have hfz17_0 := blk_frozen HGz17 0
      have hfz17_1 := blk_frozen HGz17 1
      have hfz17_2 := blk_frozen HGz17 2
      clear HGz17 hgz17
      go_enter Tryz.func69, Tryz.ntmps69
      go_wp2_with (first | (go_at_call 78; (with_reducible refine (bits_Mul64.calls a0 s1_0 t101 t102 _ A3.out).mono ?_); rintro e w' ⟨rfl, ⟨nd, rfl⟩⟩; (try first | exact ⟨rfl, _, World.drewN_drewN _ _ _⟩ | exact ⟨rfl, _, Eq.trans (World.drewN_drewN _ _ _) (congrArg (World.drewN _) (Nat.add_assoc _ _ _))⟩)))
      repeat (go_quiet (first | (go_at_call 78; (with_reducible refine (bits_Mul64.calls a0 s1_0 t101 t102 _ A3.out).mono ?_); rintro e w' ⟨rfl, ⟨nd, rfl⟩⟩; (try first | exact ⟨rfl, _, World.drewN_drewN _ _ _⟩ | exact ⟨rfl, _, Eq.trans (World.drewN_drewN _ _ _) (congrArg (World.drewN _) (Nat.add_assoc _ _ _))⟩))); try go_wp2_with (first | (go_at_call 78; (with_reducible refine (bits_Mul64.calls a0 s1_0 t101 t102 _ A3.out).mono ?_); rintro e w' ⟨rfl, ⟨nd, rfl⟩⟩; (try first | exact ⟨rfl, _, World.drewN_drewN _ _ _⟩ | exact ⟨rfl, _, Eq.trans (World.drewN_drewN _ _ _) (congrArg (World.drewN _) (Nat.add_assoc _ _ _))⟩))))
      go_ret
      exact ⟨by first | rfl | (simp [errW_none, errW_some] <;> rfl) | (simp only [← hji5, ← hji7]; first | rfl | (simp [errW_none, errW_some] <;> rfl)) | (simp [*, errW_none, errW_some] <;> rfl), by repeat (first | (with_reducible first | exact HI1.out | apply IsS160.alloc | apply IsS160.drewN | apply IsS160.drew | apply IsS160.set_0 | apply IsS160.set_1 | apply IsS160.set_2) | exact HI1.out), by repeat (first | (with_reducible first | exact HB.out | apply below_alloc | apply pw_below_drewN | apply below_drew1 | refine below_set ?_ (IsS160.ge HI1.out)) | exact HB.out), by repeat (first | (with_reducible first | exact HK.out | apply KeepBut.set_ | apply keep_drewN | apply keep_drew | apply keep_alloc) | exact HK.out)⟩
  · rw [if_neg c4] at H
    exact absurd H (by simp)

end Go.Proofs.YtogikhohkbcccaaGreatDoor.U
