import Derived.Test.YtogikhohkbcccaaGreatDoorAg
namespace Go.Proofs.YtogikhohkbcccaaGreatDoor.De
set_option linter.unusedVariables false
set_option linter.unusedSimpArgs false
open Go.RowKit Go.Proofs.YtogikhohkbcccaaGreatDoorW.PrintWords Go.Proofs.YtogikhohkbcccaaGreatDoorW.PrintLast Go.Proofs.YtogikhohkbcccaaGreatDoorW.PrintMore

/-- What ParseFloat of the inner package answers. -/
noncomputable def pfV (s : ByteArray) : Nat × Option Int := if (afV s).2.1 = (s.size : Int) then ((afV s).1, (afV s).2.2) else (0, some 2)

set_option maxHeartbeats 4000000 in
set_option maxRecDepth 100000 in
theorem pp_calls (s : ByteArray) (h : FText s) (w : World) (B : Nat) (hT : TT B w) (hB : B ≤ w.heap.size) :
    Calls Tryz.prog 22 #[.string s, .int .i64 64] w (AP s w) := by
  have HA := Aside0.mk (af_calls s h w B hT hB)
  unfold AP at HA
  clear h hT hB
  go_enter Tryz.func22, Tryz.ntmps22
  go_wp2_with (go_at_call 36; ((with_reducible refine (HA.out).mono ?_); rintro x w2 ⟨rfl, hb⟩; have HB := Aside0.mk hb; clear hb))
  refine bodyPost_ret (results_list (rs := [.tmp 4, .tmp 5, .tmp 6]) rfl (by simp) (.tmp (.tmp (.tmp .nil)))) rfl ?_
  exact ⟨rfl, HB.out⟩
set_option maxHeartbeats 4000000 in
set_option maxRecDepth 100000 in
theorem pfi_calls (s : ByteArray) (h : FText s) (w : World) (B : Nat) (hT : TT B w) (hB : B ≤ w.heap.size) :
    Calls Tryz.prog 16 #[.string s, .int .i64 64] w fun e w' => e = .returned (.tuple #[.float .f64 (pfV s).1, errV (pfV s).2]) ∧ Below w.heap.size w w' := by
  have HA := pp_calls s h w B hT hB
  unfold AP at HA
  obtain ⟨R, hR⟩ : ∃ R, R = afV s := ⟨_, rfl⟩
  rw [← hR] at HA
  obtain ⟨f, n, er⟩ := R
  have HA := Aside0.mk HA
  have HR := Aside0.mk hR
  clear h hT hB hR
  by_cases hn : n = (s.size : Int)
  · have c1 : (n == (s.size : Int)) = true := beq_iff_eq.2 hn
    have c2 : (n != (s.size : Int)) = false := bne_eq_false_iff_eq.2 hn
    have HO : Aside0 (pfV s = (f, er)) := ⟨by unfold pfV; rw [← HR.out, if_pos (by exact hn)]⟩
    clear hn
    go_enter Tryz.func16, Tryz.ntmps16
    go_wp2_with (go_at_call 22; ((with_reducible refine (HA.out).mono ?_); rintro x w2 ⟨rfl, hb⟩; have HB := Aside0.mk hb; clear hb))
    refine bodyPost_ret (results_list (rs := [.tmp 4, .tmp 5]) rfl (by simp) (.tmp (.tmp .nil))) rfl ?_
    refine ⟨?_, HB.out⟩
    rw [HO.out]
    rfl
  · have c1 : (n == (s.size : Int)) = false := beq_eq_false_iff_ne.2 hn
    have c2 : (n != (s.size : Int)) = true := bne_iff_ne.2 hn
    have HO : Aside0 (pfV s = (0, some 2)) := ⟨by unfold pfV; rw [← HR.out, if_neg (by exact hn)]⟩
    clear hn
    go_enter Tryz.func16, Tryz.ntmps16
    go_wp2_with (go_at_call 22; ((with_reducible refine (HA.out).mono ?_); rintro x w2 ⟨rfl, hb⟩; have HB := Aside0.mk hb; clear hb))
    refine bodyPost_ret (results_list (rs := [.tmp 4, .tmp 5]) rfl (by simp) (.tmp (.tmp .nil))) rfl ?_
    refine ⟨?_, HB.out⟩
    rw [HO.out]
    rfl
end Go.Proofs.YtogikhohkbcccaaGreatDoor.De
