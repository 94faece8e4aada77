import Derived.Test.YtogikhohkbcccaaGreatDoorEy
import Derived.Test.YtogikhohkbcccaaGreatDoorSw
namespace Go.Proofs.YtogikhohkbcccaaGreatDoor.De
set_option linter.unusedVariables false
set_option linter.unusedSimpArgs false
open Go.RowKit Go.Proofs.YtogikhohkbcccaaGreatDoorW.PrintWords Go.Proofs.YtogikhohkbcccaaGreatDoorW.PrintLast Go.Proofs.YtogikhohkbcccaaGreatDoorW.PrintMore

set_option maxHeartbeats 4000000 in
set_option maxRecDepth 100000 in
theorem prefix0 (s a : ByteArray) (ha : a.size = 8) (ha0 : bt a 0 = 105) (hs : 0 < s.size) (hd : 48 ≤ bt s 0 ∧ bt s 0 ≤ 57) (w : World) :
    Calls Tryz.prog 63 #[.string s, .string a] w fun e w' => e = .returned (.int .i64 0) ∧ w' = w := by
  obtain ⟨c, hc⟩ : ∃ c, c = bt s 0 := ⟨_, rfl⟩
  have hx : ∀ h : 0 < s.size, ((s[0]'h).toNat : Int) = c := hx_at (i := 0) hc
  have hx2 : ∀ h : 0 < a.size, ((a[0]'h).toNat : Int) = 105 := hx_at (i := 0) ha0.symm
  rw [← hc] at hd
  have c1 : decide ((65 : Int) ≤ c) = false := decide_eq_false (by omega)
  have c2 : (c == 105) = false := beq_eq_false_iff_ne.2 (by omega)
  have c3 : (c != 105) = true := bne_iff_ne.2 (by omega)
  have q1 : (0 < s.size) = True := eq_true hs
  have q2 : ((0 : Int) < (s.size : Int)) = True := eq_true (by omega)
  have q3 : (0 < a.size) = True := eq_true (by omega)
  have q4 : ((0 : Int) < (a.size : Int)) = True := eq_true (by omega)
  by_cases h8 : (s.size : Int) < (a.size : Int)
  · have h9 : ((s.size : Int) < (a.size : Int)) = True := eq_true h8
    clear hs hd hc ha ha0 h8
    go_enter Tryz.func63, Tryz.ntmps63
    go_wp2
    go_loop [6] (fun v6 => v6 = .int .i64 0) (fun _ => 0)
    case atStart => rfl
    case round =>
      subst hrel
      go_wp2
      go_ret
      exact ⟨rfl, rfl⟩
  · have h9 : ((s.size : Int) < (a.size : Int)) = False := eq_false h8
    clear hs hd hc ha ha0 h8
    go_enter Tryz.func63, Tryz.ntmps63
    go_wp2
    go_loop [6] (fun v6 => v6 = .int .i64 0) (fun _ => 0)
    case atStart => rfl
    case round =>
      subst hrel
      go_wp2
      go_ret
      exact ⟨rfl, rfl⟩
set_option maxHeartbeats 4000000 in
set_option maxRecDepth 100000 in
theorem special_digit (s : ByteArray) (hs : 0 < s.size) (hd : 48 ≤ bt s 0 ∧ bt s 0 ≤ 57) (w : World) :
    Calls Tryz.prog 42 #[.string s] w fun e w' => e = .returned (.tuple #[.float .f64 0, .int .i64 0, .bool false]) ∧ w' = w := by
  obtain ⟨c, hc⟩ : ∃ c, c = bt s 0 := ⟨_, rfl⟩
  have hx : ∀ h : 0 < s.size, ((s[0]'h).toNat : Int) = c := hx_at (i := 0) hc
  rw [← hc] at hd
  have c1 : (c == 43) = false := beq_eq_false_iff_ne.2 (by omega)
  have c2 : (c == 45) = false := beq_eq_false_iff_ne.2 (by omega)
  have c3 : (c == 105) = false := beq_eq_false_iff_ne.2 (by omega)
  have c4 : (c == 73) = false := beq_eq_false_iff_ne.2 (by omega)
  have c5 : (c == 110) = false := beq_eq_false_iff_ne.2 (by omega)
  have c6 : (c == 78) = false := beq_eq_false_iff_ne.2 (by omega)
  have q1 : (0 < s.size) = True := eq_true hs
  have q2 : ((0 : Int) < (s.size : Int)) = True := eq_true (by omega)
  have q3 : ((s.size : Int) == 0) = false := beq_eq_false_iff_ne.2 (by omega)
  have q4 : (s = ByteArray.empty) = False := eq_false (fun e => by rw [e] at hs; exact absurd hs (by decide))
  have q5 : (s.size = 0) = False := eq_false (by omega)
  clear hs hd hc
  go_enter Tryz.func42, Tryz.ntmps42
  go_wp2
  refine bodyPost_ret (results_list (rs := [.tmp 2, .tmp 3, .tmp 4]) rfl (by simp) (.tmp (.tmp (.tmp .nil)))) rfl ?_
  exact ⟨rfl, rfl⟩
theorem ext_size (s : ByteArray) : (s.extract 1 s.size).size = s.size - 1 := by
  rw [ByteArray.size_extract]; omega
theorem ext_bt (s : ByteArray) (hs : 1 < s.size) : bt (s.extract 1 s.size) 0 = bt s 1 := by
  unfold bt
  have h1 : (0 : Int).toNat < (s.extract 1 s.size).size := by rw [ext_size]; show 0 < _; omega
  have h2 : (1 : Int).toNat < s.size := hs
  rw [dif_pos h1, dif_pos h2]
  congr 2
  rw [ByteArray.getElem_extract]
  rfl
set_option maxHeartbeats 4000000 in
set_option maxRecDepth 100000 in
theorem special_sign (s : ByteArray) (hs : 1 < s.size) (h0 : bt s 0 = 43 ∨ bt s 0 = 45) (hd : 48 ≤ bt s 1 ∧ bt s 1 ≤ 57) (w : World) :
    Calls Tryz.prog 42 #[.string s] w fun e w' => e = .returned (.tuple #[.float .f64 0, .int .i64 0, .bool false]) ∧ w' = w := by
  obtain ⟨c, hc⟩ : ∃ c, c = bt s 0 := ⟨_, rfl⟩
  have hx : ∀ h : 0 < s.size, ((s[0]'h).toNat : Int) = c := hx_at (i := 0) hc
  rw [← hc] at h0
  have q1 : (0 < s.size) = True := eq_true (by omega)
  have q2 : ((0 : Int) < (s.size : Int)) = True := eq_true (by omega)
  have q6 : ((1 : Int) ≤ (s.size : Int)) = True := eq_true (by omega)
  have q6n : (1 ≤ s.size) = True := eq_true (by omega)
  have q3 : ((s.size : Int) == 0) = false := beq_eq_false_iff_ne.2 (by omega)
  have q4 : (s = ByteArray.empty) = False := eq_false (fun e => by rw [e] at hs; exact absurd hs (by decide))
  have q5 : (s.size = 0) = False := eq_false (by omega)
  have HS := Aside0.mk hs
  clear hs hc
  have HP : Aside0 (∀ W : World, Calls Tryz.prog 63 #[.string (s.extract 1 s.size), .string ⟨#[105, 110, 102, 105, 110, 105, 116, 121]⟩] W fun e w' => e = .returned (.int .i64 0) ∧ w' = W) := ⟨fun W => prefix0 _ _ rfl rfl (by rw [ext_size]; have := HS.out; omega) (by rw [ext_bt s HS.out]; exact hd) W⟩
  clear hd
  rcases h0 with rfl | rfl
  · go_enter Tryz.func42, Tryz.ntmps42
    go_wp2_with (go_at_call 63; ((with_reducible refine (HP.out _).mono ?_); rintro e w' ⟨rfl, rfl⟩))
    refine bodyPost_ret (results_list (rs := [.tmp 2, .tmp 3, .tmp 4]) rfl (by simp) (.tmp (.tmp (.tmp .nil)))) rfl ?_
    exact ⟨rfl, rfl⟩
  · go_enter Tryz.func42, Tryz.ntmps42
    go_wp2_with (go_at_call 63; ((with_reducible refine (HP.out _).mono ?_); rintro e w' ⟨rfl, rfl⟩))
    refine bodyPost_ret (results_list (rs := [.tmp 2, .tmp 3, .tmp 4]) rfl (by simp) (.tmp (.tmp (.tmp .nil)))) rfl ?_
    exact ⟨rfl, rfl⟩
end Go.Proofs.YtogikhohkbcccaaGreatDoor.De
