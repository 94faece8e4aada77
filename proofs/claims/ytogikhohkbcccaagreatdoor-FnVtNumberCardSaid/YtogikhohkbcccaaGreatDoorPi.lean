import Derived.Test.YtogikhohkbcccaaGreatDoorPu
import Derived.Lib.IfaceNeq
namespace Go.Proofs.YtogikhohkbcccaaGreatDoor.De
set_option linter.unusedVariables false
set_option linter.unusedSimpArgs false
open Go.RowKit Go.Proofs.YtogikhohkbcccaaGreatDoorW.PrintWords Go.Proofs.YtogikhohkbcccaaGreatDoorW.PrintLast Go.Proofs.YtogikhohkbcccaaGreatDoorW.PrintMore

/-- A sign ahead. -/
def SG (s s1 : ByteArray) (neg : Bool) : Prop :=
  (bt s 0 = 43 ∧ neg = false ∧ s1 = s.extract 1 s.size) ∨ (bt s 0 = 45 ∧ neg = true ∧ s1 = s.extract 1 s.size) ∨ (bt s 0 ≠ 43 ∧ bt s 0 ≠ 45 ∧ neg = false ∧ s1 = s)
def halfOf (m : Int) : Int := if m = 16 then 32768 else if m = 32 then 2147483648 else 9223372036854775808
def piV (neg : Bool) (C : Int) (r : Int × Option Int) : Int × Option Int :=
  if r.2 = some 2 then (0, some 2)
  else if neg = false ∧ C ≤ r.1 then (C - 1, some 1)
  else if neg = true ∧ C < r.1 then (wrap64 (-(wrap64 C)), some 1)
  else (if neg = true then wrap64 (-(wrap64 r.1)) else wrap64 r.1, none)
theorem puL_ok {β C M : Int} {s : ByteArray} (hM : 0 ≤ M) : ∀ m k n, 0 ≤ n → n ≤ M → (puL β C M s m k n).2 = none ∧ 0 ≤ (puL β C M s m k n).1 ∧ (puL β C M s m k n).1 ≤ M ∨ (puL β C M s m k n).2 = some 1 ∧ (puL β C M s m k n).1 = M ∨ (puL β C M s m k n).2 = some 2
  | 0, k, n, h0, h1 => .inl ⟨rfl, h0, h1⟩
  | m + 1, k, n, h0, h1 => by
    rw [puL]
    split
    · exact .inr (.inr rfl)
    · split
      · exact .inr (.inr rfl)
      · split
        · exact .inr (.inl ⟨rfl, rfl⟩)
        · split
          · exact .inr (.inl ⟨rfl, rfl⟩)
          · rename_i h
            exact puL_ok hM m (k + 1) _ (by rw [IntKind.wrap_u64]; exact Int.emod_nonneg _ (by decide)) (Int.not_lt.1 fun e => h (.inr e))
theorem max_pos (m : Int) : 0 ≤ maxOf m := by unfold maxOf; split; decide; split; decide; split; decide; decide
theorem puV_ok (β m : Int) (s : ByteArray) : (puV β m s).2 = none ∧ 0 ≤ (puV β m s).1 ∧ (puV β m s).1 ≤ maxOf m ∨ (puV β m s).2 = some 1 ∧ (puV β m s).1 = maxOf m ∨ (puV β m s).2 = some 2 :=
  puL_ok (max_pos m) _ _ _ (Int.le_refl _) (max_pos m)
theorem half_ok {m : Int} (h : m = 16 ∨ m = 32 ∨ m = 64) : IntKind.u64.wrap (halfOf m - 1) = halfOf m - 1 ∧ wrap64 (halfOf m - 1) = halfOf m - 1 := by
  rw [IntKind.wrap_u64]
  have h : halfOf m = 32768 ∨ halfOf m = 2147483648 ∨ halfOf m = 9223372036854775808 := by rcases h with rfl | rfl | rfl <;> simp [halfOf]
  unfold wrap64
  omega

theorem pi_neq (a : Int) (W : World) : (binOp .neq 39 (.iface 61 (.int .i64 a)) (.iface 61 (.int .i64 1))).run Tryz.prog W = .ok (.bool (a != 1)) W := Lib.run_neq_iface_int W a 1 Tryz.underlying39 (by kernel_rfl) Tryz.underlying61

set_option maxHeartbeats 4000000 in
set_option maxRecDepth 100000 in
theorem pi_calls (s s1 s' : ByteArray) (neg : Bool) (base β m : Int) (w : World) (hne : s.size ≠ 0) (hsg : SG s s1 neg) (h1 : s1.size ≠ 0) (hs : s'.size ≤ 400) (hu : ∀ i : Nat, i < s'.size → bt s' i ≠ 95) (hp : PRE s1 s' base β) (hm : m = 16 ∨ m = 32 ∨ m = 64) :
    Calls Tryz.prog 18 #[.string s, .int .i64 base, .int .i64 m] w fun e w' => e = .returned (.tuple #[.int .i64 (piV neg (halfOf m) (puV β m s')).1, errV (piV neg (halfOf m) (puV β m s')).2]) ∧ Below w.heap.size w w' := by
  have HA := fun w => pu_calls s1 s' base β m w h1 hs hu hp (.inr hm)
  have hok := puV_ok β m s'
  generalize puV β m s' = R at HA hok ⊢
  have HM := Aside0.mk hm
  have HSG := Aside0.mk hsg
  have HOK := Aside0.mk hok
  replace HA := Aside0.mk HA
  have c2 : s.toList.isEmpty = false := pu_ne hne
  have q1 : (0 < s.size) = True := eq_true (by omega)
  have q2 : (0 < (s.size : Int)) = True := eq_true (by omega)
  have q6 : ((1 : Int) ≤ (s.size : Int)) = True := eq_true (by omega)
  have q7 : (1 ≤ s.size) = True := eq_true (by omega)
  clear hne hu hm hp hs h1 hsg hok
  obtain ⟨c, hc⟩ : ∃ c, c = bt s 0 := ⟨_, rfl⟩
  have hx : ∀ h : 0 < s.size, ((s[0]'h).toNat : Int) = c := pu_hx (i := 0) hc
  have HC := Aside0.mk hc
  clear hc
  have hq2 : ∀ W, (binOp .neq 39 (.iface 61 (.int .i64 2)) (.iface 61 (.int .i64 1))).run Tryz.prog W = .ok (.bool true) W := fun W => pi_neq 2 W
  have hq1 : ∀ W, (binOp .neq 39 (.iface 61 (.int .i64 1)) (.iface 61 (.int .i64 1))).run Tryz.prog W = .ok (.bool false) W := fun W => pi_neq 1 W
  go_enter Tryz.func18, Tryz.ntmps18
  go_upto_block 0 with fail
  go_cut [0, 8] (fun v0 v8 wc => v0 = .string s1 ∧ v8 = .bool neg ∧ w = wc)
  case first => as_aux_lemma =>
    rcases HSG.out with ⟨h43, hn, h⟩ | ⟨h45, hn, h⟩ | ⟨h43, h45, hn, h⟩
    · rw [← HC.out] at h43
      have b1 : (c == 43) = true := beq_iff_eq.2 h43
      have H := Aside0.mk h
      have HN := Aside0.mk hn
      clear h43 hn h
      go_wp2
      go_meet
      case rel => exact ⟨by rw [H.out], by rw [HN.out], rfl⟩
    · rw [← HC.out] at h45
      have b1 : (c == 43) = false := beq_eq_false_iff_ne.2 (by rw [h45]; decide)
      have b2 : (c == 45) = true := beq_iff_eq.2 h45
      have H := Aside0.mk h
      have HN := Aside0.mk hn
      clear h45 hn h
      go_wp2
      go_meet
      case rel => exact ⟨by rw [H.out], by rw [HN.out], rfl⟩
    · rw [← HC.out] at h43 h45
      have b1 : (c == 43) = false := beq_eq_false_iff_ne.2 h43
      have b2 : (c == 45) = false := beq_eq_false_iff_ne.2 h45
      have H := Aside0.mk h
      have HN := Aside0.mk hn
      clear h43 h45 hn h
      go_wp2
      go_meet
      case rel => exact ⟨by rw [H.out], by rw [HN.out], rfl⟩
  case rest => as_aux_lemma =>
    obtain ⟨rfl, rfl, rfl⟩ := hcut
    clear c2 q1 q2 q6 q7 hx HC HSG
    obtain ⟨n, er⟩ := R
    by_cases he2 : er = some 2
    · subst he2
      replace HA := Aside0.mk (show ∀ w, Calls Tryz.prog 19 #[.string s1, .int .i64 base, .int .i64 m] w fun e w' => e = .returned (.tuple #[.int .u64 n, .iface 61 (.int .i64 2)]) ∧ Below w.heap.size w w' from HA.out)
      have HO : Aside0 (piV neg (halfOf m) (n, some 2) = (0, some 2)) := ⟨by unfold piV; rw [if_pos rfl]⟩
      go_wp2_with (go_at_call 19; ((with_reducible refine (HA.out _).mono ?_); rintro x w2 ⟨rfl, hb⟩; have HB := Aside0.mk hb; clear hb))
      refine bodyPost_ret (results_list (rs := [.tmp 6, .tmp 7]) rfl (by simp) (.tmp (.tmp .nil))) rfl ?_
      rw [HO.out]
      exact ⟨rfl, HB.out⟩
    · have he : er = none ∨ er = some 1 := by
        rcases HOK.out with ⟨h, _⟩ | ⟨h, _⟩ | h
        · exact .inl h
        · exact .inr h
        · exact absurd h he2
      have HE2 := Aside0.mk he2
      have HE := Aside0.mk he
      clear he2 he
      have m1 : (m == 0) = false := beq_eq_false_iff_ne.2 (by have := HM.out; omega)
      rcases HE.out with rfl | rfl
      · replace HA := Aside0.mk (show ∀ w, Calls Tryz.prog 19 #[.string s1, .int .i64 base, .int .i64 m] w fun e w' => e = .returned (.tuple #[.int .u64 n, .nilIface]) ∧ Below w.heap.size w w' from HA.out)
        go_upto_region 16 with (go_at_call 19; ((with_reducible refine (HA.out _).mono ?_); rintro x w2 ⟨rfl, hb⟩; have HB := Aside0.mk hb; clear hb))
        go_cut [10] (fun v10 wc => v10 = .int .u64 (halfOf m) ∧ w2 = wc)
        case first => as_aux_lemma =>
          clear HOK
          rcases HM.out with hb | hb | hb
          all_goals
            have HV := Aside0.mk hb
            subst hb
            go_wp2
            go_meet
            case rel => exact ⟨rfl, rfl⟩
        case rest => as_aux_lemma =>
          obtain ⟨rfl, rfl⟩ := hcut
          have w1 := (half_ok HM.out).1
          have w2 := (half_ok HM.out).2
          have W2 := Aside0.mk w2
          clear HOK HA m1 w2
          cases neg with
          | false =>
            by_cases hC : halfOf m ≤ n
            · have b1 : decide (halfOf m ≤ n) = true := decide_eq_true hC
              have HC := Aside0.mk hC
              clear hC
              go_wp2
              refine bodyPost_ret (results_list (rs := [.tmp 6, .tmp 7]) rfl (by simp) (.tmp (.tmp .nil))) rfl ?_
              unfold piV
              rw [if_neg (by simp), if_pos ⟨rfl, HC.out⟩]
              refine ⟨?_, HB.out⟩
              show Ending.returned (.tuple #[.int .i64 (wrap64 (halfOf m - 1)), _]) = _
              rw [W2.out]
              rfl
            · have b1 : decide (halfOf m ≤ n) = false := decide_eq_false hC
              have HC := Aside0.mk hC
              clear hC
              go_wp2
              refine bodyPost_ret (results_list (rs := [.tmp 6, .tmp 7]) rfl (by simp) (.tmp (.tmp .nil))) rfl ?_
              unfold piV
              rw [if_neg (by simp), if_neg (fun h => absurd h.2 (Int.not_le.2 HC.out)), if_neg (by simp)]
              exact ⟨rfl, HB.out⟩
          | true =>
            by_cases hC : halfOf m < n
            · have b1 : decide (halfOf m < n) = true := decide_eq_true hC
              have HC := Aside0.mk hC
              clear hC
              go_wp2
              refine bodyPost_ret (results_list (rs := [.tmp 6, .tmp 7]) rfl (by simp) (.tmp (.tmp .nil))) rfl ?_
              unfold piV
              rw [if_neg (by simp), if_neg (by simp), if_pos ⟨rfl, HC.out⟩]
              exact ⟨rfl, HB.out⟩
            · have b1 : decide (halfOf m < n) = false := decide_eq_false hC
              have HC := Aside0.mk hC
              clear hC
              go_wp2
              refine bodyPost_ret (results_list (rs := [.tmp 6, .tmp 7]) rfl (by simp) (.tmp (.tmp .nil))) rfl ?_
              unfold piV
              rw [if_neg (by simp), if_neg (by simp), if_neg (fun h => absurd h.2 (Int.not_lt.2 HC.out))]
              exact ⟨rfl, HB.out⟩
      · replace HA := Aside0.mk (show ∀ w, Calls Tryz.prog 19 #[.string s1, .int .i64 base, .int .i64 m] w fun e w' => e = .returned (.tuple #[.int .u64 n, .iface 61 (.int .i64 1)]) ∧ Below w.heap.size w w' from HA.out)
        go_upto_region 16 with (go_at_call 19; ((with_reducible refine (HA.out _).mono ?_); rintro x w2 ⟨rfl, hb⟩; have HB := Aside0.mk hb; clear hb))
        go_cut [10] (fun v10 wc => v10 = .int .u64 (halfOf m) ∧ w2 = wc)
        case first => as_aux_lemma =>
          clear HOK
          rcases HM.out with hb | hb | hb
          all_goals
            have HV := Aside0.mk hb
            subst hb
            go_wp2
            go_meet
            case rel => exact ⟨rfl, rfl⟩
        case rest => as_aux_lemma =>
          obtain ⟨rfl, rfl⟩ := hcut
          have w1 := (half_ok HM.out).1
          have w2 := (half_ok HM.out).2
          have W2 := Aside0.mk w2
          clear HOK HA m1 w2
          cases neg with
          | false =>
            by_cases hC : halfOf m ≤ n
            · have b1 : decide (halfOf m ≤ n) = true := decide_eq_true hC
              have HC := Aside0.mk hC
              clear hC
              go_wp2
              refine bodyPost_ret (results_list (rs := [.tmp 6, .tmp 7]) rfl (by simp) (.tmp (.tmp .nil))) rfl ?_
              unfold piV
              rw [if_neg (by simp), if_pos ⟨rfl, HC.out⟩]
              refine ⟨?_, HB.out⟩
              show Ending.returned (.tuple #[.int .i64 (wrap64 (halfOf m - 1)), _]) = _
              rw [W2.out]
              rfl
            · have b1 : decide (halfOf m ≤ n) = false := decide_eq_false hC
              have HC := Aside0.mk hC
              clear hC
              go_wp2
              refine bodyPost_ret (results_list (rs := [.tmp 6, .tmp 7]) rfl (by simp) (.tmp (.tmp .nil))) rfl ?_
              unfold piV
              rw [if_neg (by simp), if_neg (fun h => absurd h.2 (Int.not_le.2 HC.out)), if_neg (by simp)]
              exact ⟨rfl, HB.out⟩
          | true =>
            by_cases hC : halfOf m < n
            · have b1 : decide (halfOf m < n) = true := decide_eq_true hC
              have HC := Aside0.mk hC
              clear hC
              go_wp2
              refine bodyPost_ret (results_list (rs := [.tmp 6, .tmp 7]) rfl (by simp) (.tmp (.tmp .nil))) rfl ?_
              unfold piV
              rw [if_neg (by simp), if_neg (by simp), if_pos ⟨rfl, HC.out⟩]
              exact ⟨rfl, HB.out⟩
            · have b1 : decide (halfOf m < n) = false := decide_eq_false hC
              have HC := Aside0.mk hC
              clear hC
              go_wp2
              refine bodyPost_ret (results_list (rs := [.tmp 6, .tmp 7]) rfl (by simp) (.tmp (.tmp .nil))) rfl ?_
              unfold piV
              rw [if_neg (by simp), if_neg (by simp), if_neg (fun h => absurd h.2 (Int.not_lt.2 HC.out))]
              exact ⟨rfl, HB.out⟩
end Go.Proofs.YtogikhohkbcccaaGreatDoor.De
