-- Written by a program of this session out of the translation; Lean checks it.
import Derived.Test.YtheopfecoakhnaaY0
namespace Go.Proofs.Ytheopfecoakhnaa.Clo
open Go.Proofs.Ytheopfecoakhnaa.Y Go.RowKit Go.Proofs.Ytheopfecoakhnaa.Ext Go.Proofs.YtheopfecoakhnaaW.PrintWords Go.Proofs.YtheopfecoakhnaaW.PrintLast Go.Proofs.YtheopfecoakhnaaW.PrintMore
attribute [local go_sem] max2_int min2_int max_two min_two max_three min_three max_four min_four   -- for this text's walks alone
set_option linter.unusedVariables false
set_option linter.unusedSimpArgs false

theorem load_ {P : Program} {ops : Array Oper} {Q : Exit → Act → World → Prop} {oi : Oper} {N : Option Tmp} {a : Act} {w : World} {K : Act → World → Prop} (v : Value) (hw : Region.wanted oi (yielded ops a.tmps) = true) (hN : oi.dst = N) (hrun : (execOp a.eval oi).run P w = .ok (.value v) w)
    (h : K (a.put N v) w) : if Region.wanted oi (yielded ops a.tmps) = true then Oper.wp P oi a w K Q else K (a.put N undef) w := by
  rw [if_pos hw]
  subst hN
  unfold Oper.wp
  rw [hrun, Oper.upon_value]
  exact h

theorem run_makeFunc_ (P : Program) (fn : Fn) (first cap : Array Value) (w : World) : (Instr.makeFunc fn first cap).run P w = .ok (.func fn first cap) w := rfl
theorem events_makeFunc_ (P : Program) (fn : Fn) (first cap : Array Value) (w : World) (es : Array Event) : (Instr.makeFunc fn first cap).events P w es = es := rfl
/-- A call of a closure in a plain region, by its contract. -/
theorem goesV_ {P : Program} {ops : Array Oper} {Q : Exit → Act → World → Prop} {rest : List Oper} {oi : Oper} {a : Act} {w : World} (N : Option Tmp) (hd : oi.dst = N) (hg : oi.guard = none) {f : FuncId} {fn : Func} {x : Operand} {ar : Array Operand} {ts : Array TypeId} (cap : Array Value) (hx : a.eval x = .func (.func f) #[] cap) (hf : P.funcs[f]? = some fn) (hname : (fn.name == "runtime.NumGoroutine") = false) (hb : fn.body.isSome = true) (args : Array Value)
    (hop : oi.op = .call { callee := .value x, args := ar, argTypes := ts }) (hargs : ar.map a.eval ++ cap = args)
    (h : Calls P f args w fun e w' => ∃ v, e = .returned v ∧ wpList P ops Q rest (a.put N v) w') : wpList P ops Q (oi :: rest) a w := by
  refine wpList_plain hg fun K hK => ?_
  have he := enters_ hf hname hb args w
  have hrun : (execOp a.eval oi).run P w = .ok (.enter f args) w := by
    unfold execOp
    simp [hop, resolve, Deferred.ofValue, invoke, hx, hargs, he]
  unfold Oper.wp
  rw [hrun, Oper.upon_enter]
  refine h.mono fun e w'' hh => ?_
  obtain ⟨v, rfl, hk⟩ := hh
  subst hd
  exact hK _ _ hk

/-! ### laws_FnNmByte_1: function 13 -/
def laws_FnNmByte_1.f (a0 : ByteArray) (a1 : Int) (a2 : Int) : Option (ByteArray × Bool × Bool) := if (a0.size : Int) = 0 then (none) else (if 0 ≤ (Int.tmod (wrap64 (a1)) (a0.size : Int)) then (if (Int.tmod (wrap64 (a1)) (a0.size : Int)) < (a0.size : Int) then (if (bt a0 (Int.tmod (wrap64 (a1)) (a0.size : Int))) = 46 then (some (a0, false, false)) else (if (bt a0 (Int.tmod (wrap64 (a1)) (a0.size : Int))) = 47 then (some (a0, false, false)) else (if (Int.tmod (wrap64 (a1)) (a0.size : Int)) ≤ (a0.size : Int) then ((some (([a2] : List Int) : List Int)).bind fun y101 => (if (a0.extract 0 ((Int.tmod (wrap64 (a1)) (a0.size : Int)) : Int).toNat).size + (strOfNums y101).size ≤ 9223372036854775807 then (if 0 ≤ (wrap64 ((Int.tmod (wrap64 (a1)) (a0.size : Int)) + 1)) then (if (wrap64 ((Int.tmod (wrap64 (a1)) (a0.size : Int)) + 1)) ≤ (a0.size : Int) then (if ((a0.extract 0 ((Int.tmod (wrap64 (a1)) (a0.size : Int)) : Int).toNat) ++ (strOfNums y101)).size + (a0.extract ((wrap64 ((Int.tmod (wrap64 (a1)) (a0.size : Int)) + 1)) : Int).toNat a0.size).size ≤ 9223372036854775807 then (if (Int.tmod (wrap64 (a1)) (a0.size : Int)) = 0 then (some (((a0.extract 0 ((Int.tmod (wrap64 (a1)) (a0.size : Int)) : Int).toNat) ++ (strOfNums y101)) ++ (a0.extract ((wrap64 ((Int.tmod (wrap64 (a1)) (a0.size : Int)) + 1)) : Int).toNat a0.size), true, true)) else (if 0 ≤ (wrap64 ((Int.tmod (wrap64 (a1)) (a0.size : Int)) - 1)) then (if (wrap64 ((Int.tmod (wrap64 (a1)) (a0.size : Int)) - 1)) < (a0.size : Int) then (some (((a0.extract 0 ((Int.tmod (wrap64 (a1)) (a0.size : Int)) : Int).toNat) ++ (strOfNums y101)) ++ (a0.extract ((wrap64 ((Int.tmod (wrap64 (a1)) (a0.size : Int)) + 1)) : Int).toNat a0.size), ((bt a0 (wrap64 ((Int.tmod (wrap64 (a1)) (a0.size : Int)) - 1))) == 46), true)) else (none)) else (none))) else (none)) else (none)) else (none)) else (none))) else (none)))) else (none)) else (none))
def laws_FnNmByte_1.T4 : Bool × List (List Nat × List Nat) := (true, [([], []), ([], []), ([0, 1], [0, 1]), ([], []), ([3], [3]), ([4], [4]), ([2, 5], [2, 5]), ([], []), ([], []), ([8], [8]), ([7, 9], [7, 9]), ([6, 10], [6, 10]), ([], []), ([12], [12]), ([13], [13]), ([14], [14]), ([14], [14]), ([16, 14], [14, 16]), ([15, 17, 14], [14, 15, 17]), ([18, 14], [14, 18]), ([14, 19], [14, 19]), ([11, 14, 0, 1, 2, 3, 4, 5, 6, 7, 8, 9, 10, 11], [11]), ([20, 21, 0, 1, 2, 3, 4, 5, 6, 7, 8, 9, 10, 11, 12, 13, 14, 15, 16, 17, 18, 19, 20, 21], [20]), ([22, 0, 1, 2, 3, 4, 5, 6, 7, 8, 9, 10, 11, 12, 13, 14, 15, 16, 17, 18, 19, 20, 21, 22], [])])
def laws_FnNmByte_1.B4 : List Nat := [0, 0, 3, 0, 8, 24, 63, 0, 0, 256, 896, 2047, 0, 4096, 12288, 28672, 28672, 94208, 258048, 520192, 1044480, 32767, 4194303, 8388607]
theorem laws_FnNmByte_1.tab4 : rtab .any (opsOf Try.f13 4) = laws_FnNmByte_1.T4 := by kernel_rfl
theorem laws_FnNmByte_1.bits4 : waitsOk laws_FnNmByte_1.T4.2 laws_FnNmByte_1.B4 = true := by kernel_rfl
set_option maxHeartbeats 8000000 in
set_option maxRecDepth 100000 in
theorem laws_FnNmByte_1.calls (a0 : ByteArray) (a1 : Int) (a2 : Int) (r1 : ByteArray) (r2 : Bool) (r3 : Bool) (w : World) (g8 g9 : Nat) (h8 : w.cell? ⟨g8, 0, none⟩ = some (.int .u16 a1)) (h9 : w.cell? ⟨g9, 0, none⟩ = some (.int .u8 a2)) (h : laws_FnNmByte_1.f a0 a1 a2 = some (r1, r2, r3)) :
    Calls Try.prog 13 #[.string a0, .pointer (some ⟨g8, 0, none⟩), .pointer (some ⟨g9, 0, none⟩)] w fun e w' => e = .returned (.tuple #[.string r1, .bool r2, .bool r3]) ∧ Below w.heap.size w w' := by
  have HB := Aside0.mk (Below.refl w.heap.size w)
  have H : (if (a0.size : Int) = 0 then (none) else (if 0 ≤ (Int.tmod (wrap64 (a1)) (a0.size : Int)) then (if (Int.tmod (wrap64 (a1)) (a0.size : Int)) < (a0.size : Int) then (if (bt a0 (Int.tmod (wrap64 (a1)) (a0.size : Int))) = 46 then (some (a0, false, false)) else (if (bt a0 (Int.tmod (wrap64 (a1)) (a0.size : Int))) = 47 then (some (a0, false, false)) else (if (Int.tmod (wrap64 (a1)) (a0.size : Int)) ≤ (a0.size : Int) then ((some (([a2] : List Int) : List Int)).bind fun y101 => (if (a0.extract 0 ((Int.tmod (wrap64 (a1)) (a0.size : Int)) : Int).toNat).size + (strOfNums y101).size ≤ 9223372036854775807 then (if 0 ≤ (wrap64 ((Int.tmod (wrap64 (a1)) (a0.size : Int)) + 1)) then (if (wrap64 ((Int.tmod (wrap64 (a1)) (a0.size : Int)) + 1)) ≤ (a0.size : Int) then (if ((a0.extract 0 ((Int.tmod (wrap64 (a1)) (a0.size : Int)) : Int).toNat) ++ (strOfNums y101)).size + (a0.extract ((wrap64 ((Int.tmod (wrap64 (a1)) (a0.size : Int)) + 1)) : Int).toNat a0.size).size ≤ 9223372036854775807 then (if (Int.tmod (wrap64 (a1)) (a0.size : Int)) = 0 then (some (((a0.extract 0 ((Int.tmod (wrap64 (a1)) (a0.size : Int)) : Int).toNat) ++ (strOfNums y101)) ++ (a0.extract ((wrap64 ((Int.tmod (wrap64 (a1)) (a0.size : Int)) + 1)) : Int).toNat a0.size), true, true)) else (if 0 ≤ (wrap64 ((Int.tmod (wrap64 (a1)) (a0.size : Int)) - 1)) then (if (wrap64 ((Int.tmod (wrap64 (a1)) (a0.size : Int)) - 1)) < (a0.size : Int) then (some (((a0.extract 0 ((Int.tmod (wrap64 (a1)) (a0.size : Int)) : Int).toNat) ++ (strOfNums y101)) ++ (a0.extract ((wrap64 ((Int.tmod (wrap64 (a1)) (a0.size : Int)) + 1)) : Int).toNat a0.size), ((bt a0 (wrap64 ((Int.tmod (wrap64 (a1)) (a0.size : Int)) - 1))) == 46), true)) else (none)) else (none))) else (none)) else (none)) else (none)) else (none))) else (none)))) else (none)) else (none))) = some (r1, r2, r3) := h
  clear h
  by_cases c4 : (a0.size : Int) = 0
  · rw [if_pos c4] at H
    exact absurd H (by simp)
  · rw [if_neg c4] at H
    have c4b0 : ((a0.size : Int) == 0) = false := beq_eq_false_iff_ne.mpr c4
    have c4b1 : ((a0.size : Int) != 0) = true := bne_iff_ne.mpr c4
    obtain ⟨ji5, hji5⟩ : ∃ j_ : Int, (Int.tmod (wrap64 (a1)) (a0.size : Int)) = j_ := ⟨_, rfl⟩
    replace H : (if 0 ≤ (ji5) then (if (ji5) < (a0.size : Int) then (if (bt a0 (ji5)) = 46 then (some (a0, false, false)) else (if (bt a0 (ji5)) = 47 then (some (a0, false, false)) else (if (ji5) ≤ (a0.size : Int) then ((some (([a2] : List Int) : List Int)).bind fun y101 => (if (a0.extract 0 ((ji5) : Int).toNat).size + (strOfNums y101).size ≤ 9223372036854775807 then (if 0 ≤ (wrap64 ((ji5) + 1)) then (if (wrap64 ((ji5) + 1)) ≤ (a0.size : Int) then (if ((a0.extract 0 ((ji5) : Int).toNat) ++ (strOfNums y101)).size + (a0.extract ((wrap64 ((ji5) + 1)) : Int).toNat a0.size).size ≤ 9223372036854775807 then (if (ji5) = 0 then (some (((a0.extract 0 ((ji5) : Int).toNat) ++ (strOfNums y101)) ++ (a0.extract ((wrap64 ((ji5) + 1)) : Int).toNat a0.size), true, true)) else (if 0 ≤ (wrap64 ((ji5) - 1)) then (if (wrap64 ((ji5) - 1)) < (a0.size : Int) then (some (((a0.extract 0 ((ji5) : Int).toNat) ++ (strOfNums y101)) ++ (a0.extract ((wrap64 ((ji5) + 1)) : Int).toNat a0.size), ((bt a0 (wrap64 ((ji5) - 1))) == 46), true)) else (none)) else (none))) else (none)) else (none)) else (none)) else (none))) else (none)))) else (none)) else (none)) = some (r1, r2, r3) := by first | (rw [hji5] at H; exact H) | (simp only [hji5] at H ⊢; exact H)
    by_cases c6 : 0 ≤ (ji5)
    · rw [if_pos c6] at H
      have c6b0 : decide (0 ≤ (ji5)) = true := decide_eq_true c6
      clear c6
      by_cases c7 : (ji5) < (a0.size : Int)
      · rw [if_pos c7] at H
        have c7b0 : decide ((ji5) < (a0.size : Int)) = true := decide_eq_true c7
        clear c7
        by_cases c9 : (bt a0 (ji5)) = 46
        · rw [if_pos c9] at H
          have c9b0 : ((bt a0 (ji5)) == 46) = true := beq_iff_eq.mpr c9
          have c9b1 : ((bt a0 (ji5)) != 46) = false := bne_eq_false_iff_eq.mpr c9
          clear c9
          simp only [Option.some.injEq, Prod.mk.injEq] at H
          obtain ⟨rfl, rfl, rfl⟩ := H
          have p8 : 0 ≤ ((ji5) : Int) := of_decide_eq_true (by first | (with_reducible assumption) | assumption)
          have q8 : (ji5) < (a0.size : Int) := of_decide_eq_true (by first | (with_reducible assumption) | assumption)
          have hx8 := bt_at a0 (ji5)
          replace p8 := eq_true p8
          replace q8 := eq_true q8
          go_enter Try.func13, Try.ntmps13
          go_wp2
          go_ret3
          exact ⟨by first | rfl | (simp [errW_none, errW_some] <;> rfl) | (simp only [← hji5]; first | rfl | (simp [errW_none, errW_some] <;> rfl)) | (simp [*, errW_none, errW_some] <;> rfl), by repeat (first | (with_reducible first | exact HB.out | apply below_alloc | apply pw_below_drewN | apply below_drew1) | exact HB.out)⟩
        · rw [if_neg c9] at H
          have c9b0 : ((bt a0 (ji5)) == 46) = false := beq_eq_false_iff_ne.mpr c9
          have c9b1 : ((bt a0 (ji5)) != 46) = true := bne_iff_ne.mpr c9
          by_cases c11 : (bt a0 (ji5)) = 47
          · rw [if_pos c11] at H
            have c11b0 : ((bt a0 (ji5)) == 47) = true := beq_iff_eq.mpr c11
            have c11b1 : ((bt a0 (ji5)) != 47) = false := bne_eq_false_iff_eq.mpr c11
            clear c11
            simp only [Option.some.injEq, Prod.mk.injEq] at H
            obtain ⟨rfl, rfl, rfl⟩ := H
            have p8 : 0 ≤ ((ji5) : Int) := of_decide_eq_true (by first | (with_reducible assumption) | assumption)
            have q8 : (ji5) < (a0.size : Int) := of_decide_eq_true (by first | (with_reducible assumption) | assumption)
            have hx8 := bt_at a0 (ji5)
            replace p8 := eq_true p8
            replace q8 := eq_true q8
            have p10 : 0 ≤ ((ji5) : Int) := of_decide_eq_true (by first | (with_reducible assumption) | assumption)
            have q10 : (ji5) < (a0.size : Int) := of_decide_eq_true (by first | (with_reducible assumption) | assumption)
            have hx10 := bt_at a0 (ji5)
            replace p10 := eq_true p10
            replace q10 := eq_true q10
            go_enter Try.func13, Try.ntmps13
            go_wp2
            go_ret3
            exact ⟨by first | rfl | (simp [errW_none, errW_some] <;> rfl) | (simp only [← hji5]; first | rfl | (simp [errW_none, errW_some] <;> rfl)) | (simp [*, errW_none, errW_some] <;> rfl), by repeat (first | (with_reducible first | exact HB.out | apply below_alloc | apply pw_below_drewN | apply below_drew1) | exact HB.out)⟩
          · rw [if_neg c11] at H
            have c11b0 : ((bt a0 (ji5)) == 47) = false := beq_eq_false_iff_ne.mpr c11
            have c11b1 : ((bt a0 (ji5)) != 47) = true := bne_iff_ne.mpr c11
            have c12b0 := eq_true (of_decide_eq_true (by first | (with_reducible assumption) | assumption) : 0 ≤ (ji5))
            by_cases c13 : (ji5) ≤ (a0.size : Int)
            · rw [if_pos c13] at H
              have c13b0 := eq_true c13
              have c13b1 : decide ((ji5) ≤ (a0.size : Int)) = true := decide_eq_true c13
              clear c13
              obtain ⟨y101, hy101⟩ : ∃ y_ : List Int, y_ = (([a2] : List Int)) := ⟨_, rfl⟩
              replace H : (if (a0.extract 0 ((ji5) : Int).toNat).size + (strOfNums y101).size ≤ 9223372036854775807 then (if 0 ≤ (wrap64 ((ji5) + 1)) then (if (wrap64 ((ji5) + 1)) ≤ (a0.size : Int) then (if ((a0.extract 0 ((ji5) : Int).toNat) ++ (strOfNums y101)).size + (a0.extract ((wrap64 ((ji5) + 1)) : Int).toNat a0.size).size ≤ 9223372036854775807 then (if (ji5) = 0 then (some (((a0.extract 0 ((ji5) : Int).toNat) ++ (strOfNums y101)) ++ (a0.extract ((wrap64 ((ji5) + 1)) : Int).toNat a0.size), true, true)) else (if 0 ≤ (wrap64 ((ji5) - 1)) then (if (wrap64 ((ji5) - 1)) < (a0.size : Int) then (some (((a0.extract 0 ((ji5) : Int).toNat) ++ (strOfNums y101)) ++ (a0.extract ((wrap64 ((ji5) + 1)) : Int).toNat a0.size), ((bt a0 (wrap64 ((ji5) - 1))) == 46), true)) else (none)) else (none))) else (none)) else (none)) else (none)) else (none)) = some (r1, r2, r3) := by first | (rw [hy101]; with_reducible exact H) | (have H2_ := (Option.bind_some _ _).symm.trans H; rw [hy101]; with_reducible exact H2_) | (have H2_ := (Option.bind_some _ _).symm.trans H; with_reducible exact H2_) | with_reducible exact H | (rw [hy101]; exact H) | exact H
              have Ny101 := Aside0.mk hy101
              clear hy101
              by_cases c14 : (a0.extract 0 ((ji5) : Int).toNat).size + (strOfNums y101).size ≤ 9223372036854775807
              · rw [if_pos c14] at H
                have c14b0 := eq_true c14
                have c14b1 : decide ((a0.extract 0 ((ji5) : Int).toNat).size + (strOfNums y101).size ≤ 9223372036854775807) = true := decide_eq_true c14
                try have c14b2 : (9223372036854775807 < (a0.extract 0 ((ji5) : Int).toNat).size + (strOfNums y101).size) = False := eq_false (Nat.not_lt.2 c14)
                try (have c14b3 := c14b2; simp only [ByteArray.size_append] at c14b3)
                try (have c14b4 := c14b3; simp only [show ∀ c : UInt8, (ByteArray.mk #[c]).size = 1 from fun _ => rfl] at c14b4)
                obtain ⟨ji15, hji15⟩ : ∃ j_ : Int, (wrap64 ((ji5) + 1)) = j_ := ⟨_, rfl⟩
                replace H : (if 0 ≤ (ji15) then (if (ji15) ≤ (a0.size : Int) then (if ((a0.extract 0 ((ji5) : Int).toNat) ++ (strOfNums y101)).size + (a0.extract ((ji15) : Int).toNat a0.size).size ≤ 9223372036854775807 then (if (ji5) = 0 then (some (((a0.extract 0 ((ji5) : Int).toNat) ++ (strOfNums y101)) ++ (a0.extract ((ji15) : Int).toNat a0.size), true, true)) else (if 0 ≤ (wrap64 ((ji5) - 1)) then (if (wrap64 ((ji5) - 1)) < (a0.size : Int) then (some (((a0.extract 0 ((ji5) : Int).toNat) ++ (strOfNums y101)) ++ (a0.extract ((ji15) : Int).toNat a0.size), ((bt a0 (wrap64 ((ji5) - 1))) == 46), true)) else (none)) else (none))) else (none)) else (none)) else (none)) = some (r1, r2, r3) := by first | (rw [hji15] at H; exact H) | (simp only [hji15] at H ⊢; exact H)
                have hji15w : (IntKind.i64.wrap ((ji5) + 1)) = ji15 := (i64_w _).trans hji15
                by_cases c16 : 0 ≤ (ji15)
                · rw [if_pos c16] at H
                  have c16b0 := eq_true c16
                  have c16b1 : decide (0 ≤ (ji15)) = true := decide_eq_true c16
                  clear c16
                  by_cases c17 : (ji15) ≤ (a0.size : Int)
                  · rw [if_pos c17] at H
                    have c17b0 := eq_true c17
                    have c17b1 : decide ((ji15) ≤ (a0.size : Int)) = true := decide_eq_true c17
                    clear c17
                    by_cases c18 : ((a0.extract 0 ((ji5) : Int).toNat) ++ (strOfNums y101)).size + (a0.extract ((ji15) : Int).toNat a0.size).size ≤ 9223372036854775807
                    · rw [if_pos c18] at H
                      have c18b0 := eq_true c18
                      have c18b1 : decide (((a0.extract 0 ((ji5) : Int).toNat) ++ (strOfNums y101)).size + (a0.extract ((ji15) : Int).toNat a0.size).size ≤ 9223372036854775807) = true := decide_eq_true c18
                      try have c18b2 : (9223372036854775807 < ((a0.extract 0 ((ji5) : Int).toNat) ++ (strOfNums y101)).size + (a0.extract ((ji15) : Int).toNat a0.size).size) = False := eq_false (Nat.not_lt.2 c18)
                      try (have c18b3 := c18b2; simp only [ByteArray.size_append] at c18b3)
                      try (have c18b4 := c18b3; simp only [show ∀ c : UInt8, (ByteArray.mk #[c]).size = 1 from fun _ => rfl] at c18b4)
                      by_cases c19 : (ji5) = 0
                      · rw [if_pos c19] at H
                        have c19b0 : ((ji5) == 0) = true := beq_iff_eq.mpr c19
                        have c19b1 : ((ji5) != 0) = false := bne_eq_false_iff_eq.mpr c19
                        clear c19
                        simp only [Option.some.injEq, Prod.mk.injEq] at H
                        obtain ⟨rfl, rfl, rfl⟩ := H
                        have p8 : 0 ≤ ((ji5) : Int) := of_decide_eq_true (by first | (with_reducible assumption) | assumption)
                        have q8 : (ji5) < (a0.size : Int) := of_decide_eq_true (by first | (with_reducible assumption) | assumption)
                        have hx8 := bt_at a0 (ji5)
                        replace p8 := eq_true p8
                        replace q8 := eq_true q8
                        have p10 : 0 ≤ ((ji5) : Int) := of_decide_eq_true (by first | (with_reducible assumption) | assumption)
                        have q10 : (ji5) < (a0.size : Int) := of_decide_eq_true (by first | (with_reducible assumption) | assumption)
                        have hx10 := bt_at a0 (ji5)
                        replace p10 := eq_true p10
                        replace q10 := eq_true q10
                        have Z0_ : (a0.extract 0 ((ji5) : Int).toNat).size = ji5.toNat := by have := of_decide_eq_true c13b1; rw [ByteArray.size_extract]; omega
                        have Z3_ : (a0.extract ((ji15) : Int).toNat a0.size).size = a0.size - ji15.toNat := by rw [ByteArray.size_extract]; omega
                        have Z1_ : (9223372036854775807 < ji5.toNat + (strOfNums y101).size) = False := by rw [← Z0_]; exact c14b2
                        have Z2_ : (9223372036854775807 < ji5.toNat + (strOfNums y101).size + (a0.size - ji15.toNat)) = False := by rw [← Z0_, ← Z3_]; exact c18b3
                        clear Z0_ Z3_
                        go_enter Try.func13, Try.ntmps13
                        try go_wp2
                        have n0_ := Aside0.mk (below_drew1 HB.out)
                        clear HB
                        have HB := n0_
                        clear n0_
                        refine start_ (n := 24) (S := fun w' => True) (ds := []) #[false, false, false, false, false, false, false, false, false, false, false, false, false, false, false, false, false, false, false, false, false, false, false, false] (by kernel_rfl) rfl rfl trivial (fun hHeld => ?_); refine with_tabW laws_FnNmByte_1.tab4 laws_FnNmByte_1.bits4 (fun HT_ HW_ => ?_)
                        generalize w.drew = w20 at HB hHeld ⊢
                        refine pure_ (i := 0) (N := some 24) (v := ?_) (a' := ?_) #[true, false, false, false, false, false, false, false, false, false, false, false, false, false, false, false, false, false, false, false, false, false, false, false] rfl rfl (any_of HT_.out (by kernel_rfl)) (fun _ _ _ h => h) (Or.inl ⟨by rfl, ?_⟩) ?_ ?_
                        rotate_left
                        · intro w'
                          go_simp
                          with_reducible rfl
                        rotate_left
                        · simp only [Act.put, List.setIfInBounds_toArray, List.set_cons_zero, List.set_cons_succ, i64_w, i32_w]
                          rfl
                        refine pure_ (i := 1) (N := some 25) (v := ?_) (a' := ?_) #[true, true, false, false, false, false, false, false, false, false, false, false, false, false, false, false, false, false, false, false, false, false, false, false] rfl rfl (any_of HT_.out (by kernel_rfl)) (fun _ _ _ h => h) (Or.inl ⟨by rfl, ?_⟩) ?_ ?_
                        rotate_left
                        · intro w'
                          go_simp
                          with_reducible rfl
                        rotate_left
                        · simp only [Act.put, List.setIfInBounds_toArray, List.set_cons_zero, List.set_cons_succ, i64_w, i32_w]
                          rfl
                        refine pure_ (i := 2) (N := some 26) (v := ?_) (a' := ?_) #[true, true, true, false, false, false, false, false, false, false, false, false, false, false, false, false, false, false, false, false, false, false, false, false] rfl rfl (any_of HT_.out (by kernel_rfl)) (fun _ _ _ h => h) (Or.inl ⟨by rfl, ?_⟩) ?_ ?_
                        rotate_left
                        · intro w'
                          go_simp
                          with_reducible rfl
                        rotate_left
                        · simp only [Act.put, List.setIfInBounds_toArray, List.set_cons_zero, List.set_cons_succ, i64_w, i32_w]
                          rfl
                        refine pure_ (i := 7) (N := some 31) (v := ?_) (a' := ?_) #[true, true, true, false, false, false, false, true, false, false, false, false, false, false, false, false, false, false, false, false, false, false, false, false] rfl rfl (any_of HT_.out (by kernel_rfl)) (fun _ _ _ h => h) (Or.inl ⟨by rfl, ?_⟩) ?_ ?_
                        rotate_left
                        · intro w'
                          go_simp
                          with_reducible rfl
                        rotate_left
                        · simp only [Act.put, List.setIfInBounds_toArray, List.set_cons_zero, List.set_cons_succ, i64_w, i32_w]
                          rfl
                        refine pure_ (i := 8) (N := some 32) (v := ?_) (a' := ?_) #[true, true, true, false, false, false, false, true, true, false, false, false, false, false, false, false, false, false, false, false, false, false, false, false] rfl rfl (any_of HT_.out (by kernel_rfl)) (fun _ _ _ h => h) (Or.inl ⟨by rfl, ?_⟩) ?_ ?_
                        rotate_left
                        · intro w'
                          go_simp
                          with_reducible rfl
                        rotate_left
                        · simp only [Act.put, List.setIfInBounds_toArray, List.set_cons_zero, List.set_cons_succ, i64_w, i32_w]
                          rfl
                        refine pure_ (i := 9) (N := some 33) (v := ?_) (a' := ?_) #[true, true, true, false, false, false, false, true, true, true, false, false, false, false, false, false, false, false, false, false, false, false, false, false] rfl rfl (any_of HT_.out (by kernel_rfl)) (fun _ _ _ h => h) (Or.inl ⟨by rfl, ?_⟩) ?_ ?_
                        rotate_left
                        · intro w'
                          go_simp
                          with_reducible rfl
                        rotate_left
                        · simp only [Act.put, List.setIfInBounds_toArray, List.set_cons_zero, List.set_cons_succ, i64_w, i32_w]
                          rfl
                        refine pure_ (i := 10) (N := some 34) (v := ?_) (a' := ?_) #[true, true, true, false, false, false, false, true, true, true, true, false, false, false, false, false, false, false, false, false, false, false, false, false] rfl rfl (any_of HT_.out (by kernel_rfl)) (fun _ _ _ h => h) (Or.inl ⟨by rfl, ?_⟩) ?_ ?_
                        rotate_left
                        · intro w'
                          go_simp
                          with_reducible rfl
                        rotate_left
                        · simp only [Act.put, List.setIfInBounds_toArray, List.set_cons_zero, List.set_cons_succ, i64_w, i32_w]
                          rfl
                        refine pure_ (i := 12) (N := some 36) (v := ?_) (a' := ?_) #[true, true, true, false, false, false, false, true, true, true, true, false, true, false, false, false, false, false, false, false, false, false, false, false] rfl rfl (any_of HT_.out (by kernel_rfl)) (fun _ _ _ h => h) (Or.inl ⟨by rfl, ?_⟩) ?_ ?_
                        rotate_left
                        · intro w'
                          go_simp
                          with_reducible rfl
                        rotate_left
                        · simp only [Act.put, List.setIfInBounds_toArray, List.set_cons_zero, List.set_cons_succ, i64_w, i32_w]
                          rfl
                        refine pure_ (i := 13) (N := some 37) (v := ?_) (a' := ?_) #[true, true, true, false, false, false, false, true, true, true, true, false, true, true, false, false, false, false, false, false, false, false, false, false] rfl rfl (any_of HT_.out (by kernel_rfl)) (fun _ _ _ h => h) (Or.inl ⟨by rfl, ?_⟩) ?_ ?_
                        rotate_left
                        · intro w'
                          go_simp
                          with_reducible rfl
                        rotate_left
                        · simp only [Act.put, List.setIfInBounds_toArray, List.set_cons_zero, List.set_cons_succ, i64_w, i32_w]
                          rfl
                        refine pure_ (i := 14) (N := some 38) (v := ?_) (a' := ?_) #[true, true, true, false, false, false, false, true, true, true, true, false, true, true, true, false, false, false, false, false, false, false, false, false] rfl rfl (any_of HT_.out (by kernel_rfl)) (fun _ _ _ h => h) (Or.inl ⟨by rfl, ?_⟩) ?_ ?_
                        rotate_left
                        · intro w'
                          go_simp
                          with_reducible rfl
                        rotate_left
                        · simp only [Act.put, List.setIfInBounds_toArray, List.set_cons_zero, List.set_cons_succ, i64_w, i32_w]
                          rfl
                        refine pure_ (i := 15) (N := some 39) (v := undef) (a' := ?_) #[true, true, true, false, false, false, false, true, true, true, true, false, true, true, true, true, false, false, false, false, false, false, false, false] rfl rfl (any_of HT_.out (by kernel_rfl)) (fun _ _ _ h => h) (Or.inr ⟨by rfl, rfl⟩) ?_ ?_
                        rotate_left
                        · simp only [Act.put, List.setIfInBounds_toArray, List.set_cons_zero, List.set_cons_succ, i64_w, i32_w]
                          rfl
                        refine pure_ (i := 16) (N := some 40) (v := undef) (a' := ?_) #[true, true, true, false, false, false, false, true, true, true, true, false, true, true, true, true, true, false, false, false, false, false, false, false] rfl rfl (any_of HT_.out (by kernel_rfl)) (fun _ _ _ h => h) (Or.inr ⟨by rfl, rfl⟩) ?_ ?_
                        rotate_left
                        · simp only [Act.put, List.setIfInBounds_toArray, List.set_cons_zero, List.set_cons_succ, i64_w, i32_w]
                          rfl
                        refine pure_ (i := 17) (N := some 41) (v := undef) (a' := ?_) #[true, true, true, false, false, false, false, true, true, true, true, false, true, true, true, true, true, true, false, false, false, false, false, false] rfl rfl (any_of HT_.out (by kernel_rfl)) (fun _ _ _ h => h) (Or.inr ⟨by rfl, rfl⟩) ?_ ?_
                        rotate_left
                        · simp only [Act.put, List.setIfInBounds_toArray, List.set_cons_zero, List.set_cons_succ, i64_w, i32_w]
                          rfl
                        refine pure_ (i := 18) (N := some 42) (v := undef) (a' := ?_) #[true, true, true, false, false, false, false, true, true, true, true, false, true, true, true, true, true, true, true, false, false, false, false, false] rfl rfl (any_of HT_.out (by kernel_rfl)) (fun _ _ _ h => h) (Or.inr ⟨by rfl, rfl⟩) ?_ ?_
                        rotate_left
                        · simp only [Act.put, List.setIfInBounds_toArray, List.set_cons_zero, List.set_cons_succ, i64_w, i32_w]
                          rfl
                        refine pure_ (i := 19) (N := some 43) (v := undef) (a' := ?_) #[true, true, true, false, false, false, false, true, true, true, true, false, true, true, true, true, true, true, true, true, false, false, false, false] rfl rfl (any_of HT_.out (by kernel_rfl)) (fun _ _ _ h => h) (Or.inr ⟨by rfl, rfl⟩) ?_ ?_
                        rotate_left
                        · simp only [Act.put, List.setIfInBounds_toArray, List.set_cons_zero, List.set_cons_succ, i64_w, i32_w]
                          rfl
                        refine pure_ (i := 20) (N := some 44) (v := ?_) (a' := ?_) #[true, true, true, false, false, false, false, true, true, true, true, false, true, true, true, true, true, true, true, true, true, false, false, false] rfl rfl (any_of HT_.out (by kernel_rfl)) (fun _ _ _ h => h) (Or.inl ⟨by rfl, ?_⟩) ?_ ?_
                        rotate_left
                        · intro w'
                          go_simp
                          with_reducible rfl
                        rotate_left
                        · simp only [Act.put, List.setIfInBounds_toArray, List.set_cons_zero, List.set_cons_succ, i64_w, i32_w]
                          rfl
                        refine one_ (i := 3) (N := some 27) #[true, true, true, true, false, false, false, true, true, true, true, false, true, true, true, true, true, true, true, true, true, false, false, false] rfl rfl (one_of HT_.out (by kernel_rfl)) (by decide) (fun K hK => ?_)
                        refine load_ (.int .u8 a2) (by rfl) rfl (by have hc9_ := pw_cell_below HB.out h9; go_simp) ?_
                        refine hK.out _ _ trivial (fun hHeld => ?_)
                        clear hK K
                        refine norm_ (a' := ?_) ?_ ?_
                        rotate_left
                        · show Act.put _ (some 27) _ = _
                          simp only [Act.put, List.setIfInBounds_toArray, List.set_cons_zero, List.set_cons_succ, i64_w, i32_w]
                          rfl
                        refine one_ (i := 4) (N := some 28) #[true, true, true, true, true, false, false, true, true, true, true, false, true, true, true, true, true, true, true, true, true, false, false, false] rfl rfl (one_of HT_.out (by kernel_rfl)) (by decide) (fun K hK => ?_)
                        refine Kd.R_lit_step (Kd.int .u8) _ 5 ?hg (N := 28) ?hd (xs := ([a2] : List Int)) (inner := [.int .u8 a2]) (ok := fun _ => True) (okp := fun _ => True) ?hr ?hp (fun _ hk => hk) trivial (Below.refl _ _) (Nat.le_refl _) (by simp) ?_; (case hd => rfl); (case hg => rfl); (case hr => first | (go_simp; done) | (go_simp; rfl)); (case hp => exact (Reps.one (show Kd.M (Kd.int .u8) _ _ _ a2 [.int .u8 a2] from rfl) (Reps.none _ _)))
                        intro v102 w21 ho22 hb hg_ hnew_
                        clear hg_ hnew_
                        (first | rw [← Ny101.out] at ho22 | (simp only [Int.reduceToNat] at ho22; rw [← Ny101.out] at ho22))
                        have n0_ := Aside0.mk (Kd.R_lower ho22 (below_size (by repeat (first | (with_reducible first | exact HB.out | apply below_alloc | apply pw_below_drewN | apply below_drew1) | exact HB.out))))
                        have n1_ := Aside0.mk (below_step (by repeat (first | (with_reducible first | exact HB.out | apply below_alloc | apply pw_below_drewN | apply below_drew1) | exact HB.out)) hb)
                        clear HB
                        have HO103 := n0_
                        have HB := n1_
                        clear n0_ n1_
                        clear hb ho22
                        refine hK.out _ _ trivial (fun hHeld => ?_)
                        clear hK K
                        refine norm_ (a' := ?_) ?_ ?_
                        rotate_left
                        · show Act.put _ (some 28) _ = _
                          simp only [Act.put, List.setIfInBounds_toArray, List.set_cons_zero, List.set_cons_succ, i64_w, i32_w]
                          rfl
                        refine one_ (i := 5) (N := some 29) #[true, true, true, true, true, true, false, true, true, true, true, false, true, true, true, true, true, true, true, true, true, false, false, false] rfl rfl (one_of HT_.out (by kernel_rfl)) (by decide) (fun K hK => ?_)
                        have hcv23 := own_string (P := Try.prog) Try.underlying27 Try.underlying5 Try.underlying9 (Kd.own_of_R HO103.out)
                        refine value_ (w1 := ?_) (v := ?_) (by rfl) rfl ?_ ?_
                        rotate_left 2
                        · go_simp
                          constructor
                          · rfl
                          · rfl
                        clear hcv23
                        refine hK.out _ _ trivial (fun hHeld => ?_)
                        clear hK K
                        refine norm_ (a' := ?_) ?_ ?_
                        rotate_left
                        · show Act.put _ (some 29) _ = _
                          simp only [Act.put, List.setIfInBounds_toArray, List.set_cons_zero, List.set_cons_succ, i64_w, i32_w]
                          rfl
                        refine pure_ (i := 6) (N := some 30) (v := ?_) (a' := ?_) #[true, true, true, true, true, true, true, true, true, true, true, false, true, true, true, true, true, true, true, true, true, false, false, false] rfl rfl (any_of HT_.out (by kernel_rfl)) (fun _ _ _ h => h) (Or.inl ⟨by rfl, ?_⟩) ?_ ?_
                        rotate_left
                        · intro w'
                          go_simp
                          with_reducible rfl
                        rotate_left
                        · simp only [Act.put, List.setIfInBounds_toArray, List.set_cons_zero, List.set_cons_succ, i64_w, i32_w]
                          rfl
                        refine pure_ (i := 11) (N := some 35) (v := ?_) (a' := ?_) #[true, true, true, true, true, true, true, true, true, true, true, true, true, true, true, true, true, true, true, true, true, false, false, false] rfl rfl (any_of HT_.out (by kernel_rfl)) (fun _ _ _ h => h) (Or.inl ⟨by rfl, ?_⟩) ?_ ?_
                        rotate_left
                        · intro w'
                          go_simp
                          with_reducible rfl
                        rotate_left
                        · simp only [Act.put, List.setIfInBounds_toArray, List.set_cons_zero, List.set_cons_succ, i64_w, i32_w]
                          rfl
                        refine pure_ (i := 21) (N := some 4) (v := ?_) (a' := ?_) #[true, true, true, true, true, true, true, true, true, true, true, true, true, true, true, true, true, true, true, true, true, true, false, false] rfl rfl (any_of HT_.out (by kernel_rfl)) (fun _ _ _ h => h) (Or.inl ⟨by rfl, ?_⟩) ?_ ?_
                        rotate_left
                        · intro w'
                          go_simp
                          with_reducible rfl
                        rotate_left
                        · simp only [Act.put, List.setIfInBounds_toArray, List.set_cons_zero, List.set_cons_succ, i64_w, i32_w]
                          rfl
                        refine pure_ (i := 22) (N := some 5) (v := ?_) (a' := ?_) #[true, true, true, true, true, true, true, true, true, true, true, true, true, true, true, true, true, true, true, true, true, true, true, false] rfl rfl (any_of HT_.out (by kernel_rfl)) (fun _ _ _ h => h) (Or.inl ⟨by rfl, ?_⟩) ?_ ?_
                        rotate_left
                        · intro w'
                          go_simp
                          with_reducible rfl
                        rotate_left
                        · simp only [Act.put, List.setIfInBounds_toArray, List.set_cons_zero, List.set_cons_succ, i64_w, i32_w]
                          rfl
                        refine pure_ (i := 23) (N := some 6) (v := ?_) (a' := ?_) #[true, true, true, true, true, true, true, true, true, true, true, true, true, true, true, true, true, true, true, true, true, true, true, true] rfl rfl (any_of HT_.out (by kernel_rfl)) (fun _ _ _ h => h) (Or.inl ⟨by rfl, ?_⟩) ?_ ?_
                        rotate_left
                        · intro w'
                          go_simp
                          with_reducible rfl
                        rotate_left
                        · simp only [Act.put, List.setIfInBounds_toArray, List.set_cons_zero, List.set_cons_succ, i64_w, i32_w]
                          rfl
                        refine done_ (done_of HT_.out (by kernel_rfl)) ?_
                        try go_wp2
                        go_ret3
                        exact ⟨by first | rfl | (simp [errW_none, errW_some] <;> rfl) | (simp only [← hji5, ← hji15]; first | rfl | (simp [errW_none, errW_some] <;> rfl)) | (simp [*, errW_none, errW_some] <;> rfl), by repeat (first | (with_reducible first | exact HB.out | apply below_alloc | apply pw_below_drewN | apply below_drew1) | exact HB.out)⟩
                      · rw [if_neg c19] at H
                        have c19b0 : ((ji5) == 0) = false := beq_eq_false_iff_ne.mpr c19
                        have c19b1 : ((ji5) != 0) = true := bne_iff_ne.mpr c19
                        obtain ⟨ji24, hji24⟩ : ∃ j_ : Int, (wrap64 ((ji5) - 1)) = j_ := ⟨_, rfl⟩
                        replace H : (if 0 ≤ (ji24) then (if (ji24) < (a0.size : Int) then (some (((a0.extract 0 ((ji5) : Int).toNat) ++ (strOfNums y101)) ++ (a0.extract ((ji15) : Int).toNat a0.size), ((bt a0 (ji24)) == 46), true)) else (none)) else (none)) = some (r1, r2, r3) := by first | (rw [hji24] at H; exact H) | (simp only [hji24] at H ⊢; exact H)
                        have hji24w : (IntKind.i64.wrap ((ji5) - 1)) = ji24 := (i64_w _).trans hji24
                        by_cases c25 : 0 ≤ (ji24)
                        · rw [if_pos c25] at H
                          have c25b0 : decide (0 ≤ (ji24)) = true := decide_eq_true c25
                          clear c25
                          by_cases c26 : (ji24) < (a0.size : Int)
                          · rw [if_pos c26] at H
                            have c26b0 : decide ((ji24) < (a0.size : Int)) = true := decide_eq_true c26
                            clear c26
                            simp only [Option.some.injEq, Prod.mk.injEq] at H
                            obtain ⟨rfl, rfl, rfl⟩ := H
                            have p8 : 0 ≤ ((ji5) : Int) := of_decide_eq_true (by first | (with_reducible assumption) | assumption)
                            have q8 : (ji5) < (a0.size : Int) := of_decide_eq_true (by first | (with_reducible assumption) | assumption)
                            have hx8 := bt_at a0 (ji5)
                            replace p8 := eq_true p8
                            replace q8 := eq_true q8
                            have p10 : 0 ≤ ((ji5) : Int) := of_decide_eq_true (by first | (with_reducible assumption) | assumption)
                            have q10 : (ji5) < (a0.size : Int) := of_decide_eq_true (by first | (with_reducible assumption) | assumption)
                            have hx10 := bt_at a0 (ji5)
                            replace p10 := eq_true p10
                            replace q10 := eq_true q10
                            have Z0_ : (a0.extract 0 ((ji5) : Int).toNat).size = ji5.toNat := by have := of_decide_eq_true c13b1; rw [ByteArray.size_extract]; omega
                            have Z3_ : (a0.extract ((ji15) : Int).toNat a0.size).size = a0.size - ji15.toNat := by rw [ByteArray.size_extract]; omega
                            have Z1_ : (9223372036854775807 < ji5.toNat + (strOfNums y101).size) = False := by rw [← Z0_]; exact c14b2
                            have Z2_ : (9223372036854775807 < ji5.toNat + (strOfNums y101).size + (a0.size - ji15.toNat)) = False := by rw [← Z0_, ← Z3_]; exact c18b3
                            clear Z0_ Z3_
                            go_enter Try.func13, Try.ntmps13
                            try go_wp2
                            have n0_ := Aside0.mk (below_drew1 HB.out)
                            clear HB
                            have HB := n0_
                            clear n0_
                            have p27 : 0 ≤ ((ji24) : Int) := of_decide_eq_true (by first | (with_reducible assumption) | assumption)
                            have q27 : (ji24) < (a0.size : Int) := of_decide_eq_true (by first | (with_reducible assumption) | assumption)
                            have hx27 := bt_at a0 (ji24)
                            replace p27 := eq_true p27
                            replace q27 := eq_true q27
                            refine start_ (n := 24) (S := fun w' => True) (ds := []) #[false, false, false, false, false, false, false, false, false, false, false, false, false, false, false, false, false, false, false, false, false, false, false, false] (by kernel_rfl) rfl rfl trivial (fun hHeld => ?_); refine with_tabW laws_FnNmByte_1.tab4 laws_FnNmByte_1.bits4 (fun HT_ HW_ => ?_)
                            generalize w.drew = w28 at HB hHeld ⊢
                            refine pure_ (i := 0) (N := some 24) (v := ?_) (a' := ?_) #[true, false, false, false, false, false, false, false, false, false, false, false, false, false, false, false, false, false, false, false, false, false, false, false] rfl rfl (any_of HT_.out (by kernel_rfl)) (fun _ _ _ h => h) (Or.inl ⟨by rfl, ?_⟩) ?_ ?_
                            rotate_left
                            · intro w'
                              go_simp
                              with_reducible rfl
                            rotate_left
                            · simp only [Act.put, List.setIfInBounds_toArray, List.set_cons_zero, List.set_cons_succ, i64_w, i32_w]
                              rfl
                            refine pure_ (i := 1) (N := some 25) (v := ?_) (a' := ?_) #[true, true, false, false, false, false, false, false, false, false, false, false, false, false, false, false, false, false, false, false, false, false, false, false] rfl rfl (any_of HT_.out (by kernel_rfl)) (fun _ _ _ h => h) (Or.inl ⟨by rfl, ?_⟩) ?_ ?_
                            rotate_left
                            · intro w'
                              go_simp
                              with_reducible rfl
                            rotate_left
                            · simp only [Act.put, List.setIfInBounds_toArray, List.set_cons_zero, List.set_cons_succ, i64_w, i32_w]
                              rfl
                            refine pure_ (i := 2) (N := some 26) (v := ?_) (a' := ?_) #[true, true, true, false, false, false, false, false, false, false, false, false, false, false, false, false, false, false, false, false, false, false, false, false] rfl rfl (any_of HT_.out (by kernel_rfl)) (fun _ _ _ h => h) (Or.inl ⟨by rfl, ?_⟩) ?_ ?_
                            rotate_left
                            · intro w'
                              go_simp
                              with_reducible rfl
                            rotate_left
                            · simp only [Act.put, List.setIfInBounds_toArray, List.set_cons_zero, List.set_cons_succ, i64_w, i32_w]
                              rfl
                            refine pure_ (i := 7) (N := some 31) (v := ?_) (a' := ?_) #[true, true, true, false, false, false, false, true, false, false, false, false, false, false, false, false, false, false, false, false, false, false, false, false] rfl rfl (any_of HT_.out (by kernel_rfl)) (fun _ _ _ h => h) (Or.inl ⟨by rfl, ?_⟩) ?_ ?_
                            rotate_left
                            · intro w'
                              go_simp
                              with_reducible rfl
                            rotate_left
                            · simp only [Act.put, List.setIfInBounds_toArray, List.set_cons_zero, List.set_cons_succ, i64_w, i32_w]
                              rfl
                            refine pure_ (i := 8) (N := some 32) (v := ?_) (a' := ?_) #[true, true, true, false, false, false, false, true, true, false, false, false, false, false, false, false, false, false, false, false, false, false, false, false] rfl rfl (any_of HT_.out (by kernel_rfl)) (fun _ _ _ h => h) (Or.inl ⟨by rfl, ?_⟩) ?_ ?_
                            rotate_left
                            · intro w'
                              go_simp
                              with_reducible rfl
                            rotate_left
                            · simp only [Act.put, List.setIfInBounds_toArray, List.set_cons_zero, List.set_cons_succ, i64_w, i32_w]
                              rfl
                            refine pure_ (i := 9) (N := some 33) (v := ?_) (a' := ?_) #[true, true, true, false, false, false, false, true, true, true, false, false, false, false, false, false, false, false, false, false, false, false, false, false] rfl rfl (any_of HT_.out (by kernel_rfl)) (fun _ _ _ h => h) (Or.inl ⟨by rfl, ?_⟩) ?_ ?_
                            rotate_left
                            · intro w'
                              go_simp
                              with_reducible rfl
                            rotate_left
                            · simp only [Act.put, List.setIfInBounds_toArray, List.set_cons_zero, List.set_cons_succ, i64_w, i32_w]
                              rfl
                            refine pure_ (i := 10) (N := some 34) (v := ?_) (a' := ?_) #[true, true, true, false, false, false, false, true, true, true, true, false, false, false, false, false, false, false, false, false, false, false, false, false] rfl rfl (any_of HT_.out (by kernel_rfl)) (fun _ _ _ h => h) (Or.inl ⟨by rfl, ?_⟩) ?_ ?_
                            rotate_left
                            · intro w'
                              go_simp
                              with_reducible rfl
                            rotate_left
                            · simp only [Act.put, List.setIfInBounds_toArray, List.set_cons_zero, List.set_cons_succ, i64_w, i32_w]
                              rfl
                            refine pure_ (i := 12) (N := some 36) (v := ?_) (a' := ?_) #[true, true, true, false, false, false, false, true, true, true, true, false, true, false, false, false, false, false, false, false, false, false, false, false] rfl rfl (any_of HT_.out (by kernel_rfl)) (fun _ _ _ h => h) (Or.inl ⟨by rfl, ?_⟩) ?_ ?_
                            rotate_left
                            · intro w'
                              go_simp
                              with_reducible rfl
                            rotate_left
                            · simp only [Act.put, List.setIfInBounds_toArray, List.set_cons_zero, List.set_cons_succ, i64_w, i32_w]
                              rfl
                            refine pure_ (i := 13) (N := some 37) (v := ?_) (a' := ?_) #[true, true, true, false, false, false, false, true, true, true, true, false, true, true, false, false, false, false, false, false, false, false, false, false] rfl rfl (any_of HT_.out (by kernel_rfl)) (fun _ _ _ h => h) (Or.inl ⟨by rfl, ?_⟩) ?_ ?_
                            rotate_left
                            · intro w'
                              go_simp
                              with_reducible rfl
                            rotate_left
                            · simp only [Act.put, List.setIfInBounds_toArray, List.set_cons_zero, List.set_cons_succ, i64_w, i32_w]
                              rfl
                            refine pure_ (i := 14) (N := some 38) (v := ?_) (a' := ?_) #[true, true, true, false, false, false, false, true, true, true, true, false, true, true, true, false, false, false, false, false, false, false, false, false] rfl rfl (any_of HT_.out (by kernel_rfl)) (fun _ _ _ h => h) (Or.inl ⟨by rfl, ?_⟩) ?_ ?_
                            rotate_left
                            · intro w'
                              go_simp
                              with_reducible rfl
                            rotate_left
                            · simp only [Act.put, List.setIfInBounds_toArray, List.set_cons_zero, List.set_cons_succ, i64_w, i32_w]
                              rfl
                            refine pure_ (i := 15) (N := some 39) (v := ?_) (a' := ?_) #[true, true, true, false, false, false, false, true, true, true, true, false, true, true, true, true, false, false, false, false, false, false, false, false] rfl rfl (any_of HT_.out (by kernel_rfl)) (fun _ _ _ h => h) (Or.inl ⟨by rfl, ?_⟩) ?_ ?_
                            rotate_left
                            · intro w'
                              go_simp
                              with_reducible rfl
                            rotate_left
                            · simp only [Act.put, List.setIfInBounds_toArray, List.set_cons_zero, List.set_cons_succ, i64_w, i32_w]
                              rfl
                            refine pure_ (i := 16) (N := some 40) (v := ?_) (a' := ?_) #[true, true, true, false, false, false, false, true, true, true, true, false, true, true, true, true, true, false, false, false, false, false, false, false] rfl rfl (any_of HT_.out (by kernel_rfl)) (fun _ _ _ h => h) (Or.inl ⟨by rfl, ?_⟩) ?_ ?_
                            rotate_left
                            · intro w'
                              go_simp
                              with_reducible rfl
                            rotate_left
                            · simp only [Act.put, List.setIfInBounds_toArray, List.set_cons_zero, List.set_cons_succ, i64_w, i32_w]
                              rfl
                            refine pure_ (i := 17) (N := some 41) (v := ?_) (a' := ?_) #[true, true, true, false, false, false, false, true, true, true, true, false, true, true, true, true, true, true, false, false, false, false, false, false] rfl rfl (any_of HT_.out (by kernel_rfl)) (fun _ _ _ h => h) (Or.inl ⟨by rfl, ?_⟩) ?_ ?_
                            rotate_left
                            · intro w'
                              go_simp
                              with_reducible rfl
                            rotate_left
                            · simp only [Act.put, List.setIfInBounds_toArray, List.set_cons_zero, List.set_cons_succ, i64_w, i32_w]
                              rfl
                            refine take_ (i := 18) (N := some 42) (v := ?_) (a' := ?_) #[true, true, true, false, false, false, false, true, true, true, true, false, true, true, true, true, true, true, true, false, false, false, false, false] rfl rfl (take_ofW HT_.out HW_.out (by kernel_rfl)) (fun _ _ _ h => h) (Or.inl ⟨by rfl, ?_⟩) hHeld ?_ ?_
                            rotate_left
                            · intro w' _
                              go_simp
                              with_reducible rfl
                            rotate_left
                            · simp only [Act.put, List.setIfInBounds_toArray, List.set_cons_zero, List.set_cons_succ, i64_w, i32_w]
                              rfl
                            refine pure_ (i := 19) (N := some 43) (v := ?_) (a' := ?_) #[true, true, true, false, false, false, false, true, true, true, true, false, true, true, true, true, true, true, true, true, false, false, false, false] rfl rfl (any_of HT_.out (by kernel_rfl)) (fun _ _ _ h => h) (Or.inl ⟨by rfl, ?_⟩) ?_ ?_
                            rotate_left
                            · intro w'
                              go_simp
                              with_reducible rfl
                            rotate_left
                            · simp only [Act.put, List.setIfInBounds_toArray, List.set_cons_zero, List.set_cons_succ, i64_w, i32_w]
                              rfl
                            refine pure_ (i := 20) (N := some 44) (v := ?_) (a' := ?_) #[true, true, true, false, false, false, false, true, true, true, true, false, true, true, true, true, true, true, true, true, true, false, false, false] rfl rfl (any_of HT_.out (by kernel_rfl)) (fun _ _ _ h => h) (Or.inl ⟨by rfl, ?_⟩) ?_ ?_
                            rotate_left
                            · intro w'
                              go_simp
                              with_reducible rfl
                            rotate_left
                            · simp only [Act.put, List.setIfInBounds_toArray, List.set_cons_zero, List.set_cons_succ, i64_w, i32_w]
                              rfl
                            refine one_ (i := 3) (N := some 27) #[true, true, true, true, false, false, false, true, true, true, true, false, true, true, true, true, true, true, true, true, true, false, false, false] rfl rfl (one_of HT_.out (by kernel_rfl)) (by decide) (fun K hK => ?_)
                            refine load_ (.int .u8 a2) (by rfl) rfl (by have hc9_ := pw_cell_below HB.out h9; go_simp) ?_
                            refine hK.out _ _ trivial (fun hHeld => ?_)
                            clear hK K
                            refine norm_ (a' := ?_) ?_ ?_
                            rotate_left
                            · show Act.put _ (some 27) _ = _
                              simp only [Act.put, List.setIfInBounds_toArray, List.set_cons_zero, List.set_cons_succ, i64_w, i32_w]
                              rfl
                            refine one_ (i := 4) (N := some 28) #[true, true, true, true, true, false, false, true, true, true, true, false, true, true, true, true, true, true, true, true, true, false, false, false] rfl rfl (one_of HT_.out (by kernel_rfl)) (by decide) (fun K hK => ?_)
                            refine Kd.R_lit_step (Kd.int .u8) _ 5 ?hg (N := 28) ?hd (xs := ([a2] : List Int)) (inner := [.int .u8 a2]) (ok := fun _ => True) (okp := fun _ => True) ?hr ?hp (fun _ hk => hk) trivial (Below.refl _ _) (Nat.le_refl _) (by simp) ?_; (case hd => rfl); (case hg => rfl); (case hr => first | (go_simp; done) | (go_simp; rfl)); (case hp => exact (Reps.one (show Kd.M (Kd.int .u8) _ _ _ a2 [.int .u8 a2] from rfl) (Reps.none _ _)))
                            intro v102 w29 ho30 hb hg_ hnew_
                            clear hg_ hnew_
                            (first | rw [← Ny101.out] at ho30 | (simp only [Int.reduceToNat] at ho30; rw [← Ny101.out] at ho30))
                            have n0_ := Aside0.mk (Kd.R_lower ho30 (below_size (by repeat (first | (with_reducible first | exact HB.out | apply below_alloc | apply pw_below_drewN | apply below_drew1) | exact HB.out))))
                            have n1_ := Aside0.mk (below_step (by repeat (first | (with_reducible first | exact HB.out | apply below_alloc | apply pw_below_drewN | apply below_drew1) | exact HB.out)) hb)
                            clear HB
                            have HO103 := n0_
                            have HB := n1_
                            clear n0_ n1_
                            clear hb ho30
                            refine hK.out _ _ trivial (fun hHeld => ?_)
                            clear hK K
                            refine norm_ (a' := ?_) ?_ ?_
                            rotate_left
                            · show Act.put _ (some 28) _ = _
                              simp only [Act.put, List.setIfInBounds_toArray, List.set_cons_zero, List.set_cons_succ, i64_w, i32_w]
                              rfl
                            refine one_ (i := 5) (N := some 29) #[true, true, true, true, true, true, false, true, true, true, true, false, true, true, true, true, true, true, true, true, true, false, false, false] rfl rfl (one_of HT_.out (by kernel_rfl)) (by decide) (fun K hK => ?_)
                            have hcv31 := own_string (P := Try.prog) Try.underlying27 Try.underlying5 Try.underlying9 (Kd.own_of_R HO103.out)
                            refine value_ (w1 := ?_) (v := ?_) (by rfl) rfl ?_ ?_
                            rotate_left 2
                            · go_simp
                              constructor
                              · rfl
                              · rfl
                            clear hcv31
                            refine hK.out _ _ trivial (fun hHeld => ?_)
                            clear hK K
                            refine norm_ (a' := ?_) ?_ ?_
                            rotate_left
                            · show Act.put _ (some 29) _ = _
                              simp only [Act.put, List.setIfInBounds_toArray, List.set_cons_zero, List.set_cons_succ, i64_w, i32_w]
                              rfl
                            refine pure_ (i := 6) (N := some 30) (v := ?_) (a' := ?_) #[true, true, true, true, true, true, true, true, true, true, true, false, true, true, true, true, true, true, true, true, true, false, false, false] rfl rfl (any_of HT_.out (by kernel_rfl)) (fun _ _ _ h => h) (Or.inl ⟨by rfl, ?_⟩) ?_ ?_
                            rotate_left
                            · intro w'
                              go_simp
                              with_reducible rfl
                            rotate_left
                            · simp only [Act.put, List.setIfInBounds_toArray, List.set_cons_zero, List.set_cons_succ, i64_w, i32_w]
                              rfl
                            refine pure_ (i := 11) (N := some 35) (v := ?_) (a' := ?_) #[true, true, true, true, true, true, true, true, true, true, true, true, true, true, true, true, true, true, true, true, true, false, false, false] rfl rfl (any_of HT_.out (by kernel_rfl)) (fun _ _ _ h => h) (Or.inl ⟨by rfl, ?_⟩) ?_ ?_
                            rotate_left
                            · intro w'
                              go_simp
                              with_reducible rfl
                            rotate_left
                            · simp only [Act.put, List.setIfInBounds_toArray, List.set_cons_zero, List.set_cons_succ, i64_w, i32_w]
                              rfl
                            refine pure_ (i := 21) (N := some 4) (v := ?_) (a' := ?_) #[true, true, true, true, true, true, true, true, true, true, true, true, true, true, true, true, true, true, true, true, true, true, false, false] rfl rfl (any_of HT_.out (by kernel_rfl)) (fun _ _ _ h => h) (Or.inl ⟨by rfl, ?_⟩) ?_ ?_
                            rotate_left
                            · intro w'
                              go_simp
                              with_reducible rfl
                            rotate_left
                            · simp only [Act.put, List.setIfInBounds_toArray, List.set_cons_zero, List.set_cons_succ, i64_w, i32_w]
                              rfl
                            refine pure_ (i := 22) (N := some 5) (v := ?_) (a' := ?_) #[true, true, true, true, true, true, true, true, true, true, true, true, true, true, true, true, true, true, true, true, true, true, true, false] rfl rfl (any_of HT_.out (by kernel_rfl)) (fun _ _ _ h => h) (Or.inl ⟨by rfl, ?_⟩) ?_ ?_
                            rotate_left
                            · intro w'
                              go_simp
                              with_reducible rfl
                            rotate_left
                            · simp only [Act.put, List.setIfInBounds_toArray, List.set_cons_zero, List.set_cons_succ, i64_w, i32_w]
                              rfl
                            refine pure_ (i := 23) (N := some 6) (v := ?_) (a' := ?_) #[true, true, true, true, true, true, true, true, true, true, true, true, true, true, true, true, true, true, true, true, true, true, true, true] rfl rfl (any_of HT_.out (by kernel_rfl)) (fun _ _ _ h => h) (Or.inl ⟨by rfl, ?_⟩) ?_ ?_
                            rotate_left
                            · intro w'
                              go_simp
                              with_reducible rfl
                            rotate_left
                            · simp only [Act.put, List.setIfInBounds_toArray, List.set_cons_zero, List.set_cons_succ, i64_w, i32_w]
                              rfl
                            refine done_ (done_of HT_.out (by kernel_rfl)) ?_
                            try go_wp2
                            go_ret3
                            exact ⟨by first | rfl | (simp [errW_none, errW_some] <;> rfl) | (simp only [← hji5, ← hji15, ← hji24]; first | rfl | (simp [errW_none, errW_some] <;> rfl)) | (simp [*, errW_none, errW_some] <;> rfl), by repeat (first | (with_reducible first | exact HB.out | apply below_alloc | apply pw_below_drewN | apply below_drew1) | exact HB.out)⟩
                          · rw [if_neg c26] at H
                            exact absurd H (by simp)
                        · rw [if_neg c25] at H
                          exact absurd H (by simp)
                    · rw [if_neg c18] at H
                      exact absurd H (by simp)
                  · rw [if_neg c17] at H
                    exact absurd H (by simp)
                · rw [if_neg c16] at H
                  exact absurd H (by simp)
              · rw [if_neg c14] at H
                exact absurd H (by simp)
            · rw [if_neg c13] at H
              exact absurd H (by simp)
      · rw [if_neg c7] at H
        exact absurd H (by simp)
    · rw [if_neg c6] at H
      exact absurd H (by simp)

end Go.Proofs.Ytheopfecoakhnaa.Clo
