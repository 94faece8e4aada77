import Derived.Test.YtogikhohkbcccaaGreatDoorRi
namespace Go.Proofs.YtogikhohkbcccaaGreatDoor.De
set_option linter.unusedVariables false
set_option linter.unusedSimpArgs false
open Go.RowKit Go.Proofs.YtogikhohkbcccaaGreatDoorW.PrintWords Go.Proofs.YtogikhohkbcccaaGreatDoorW.PrintLast Go.Proofs.YtogikhohkbcccaaGreatDoorW.PrintMore

def riN (D : List Nat) : Nat → Nat
  | 0 => 0
  | j + 1 => (riN D j * 10 + dg D j) % 18446744073709551616
/-- The whole part, rounded. -/
def riD (x : Dc) : Nat := if 20 < x.dp then 18446744073709551615 else (riN x.D x.dp.toNat + (if ru x x.dp = true then 1 else 0)) % 18446744073709551616
theorem riN_lt (D : List Nat) : ∀ j, riN D j < 18446744073709551616
  | 0 => by show 0 < _; decide
  | j + 1 => Nat.mod_lt _ (by decide)
theorem ri_step (D : List Nat) (j : Nat) : IntKind.u64.wrap (IntKind.u64.wrap ((riN D j : Int) * 10) + (dg D j : Int)) = ((riN D (j + 1) : Nat) : Int) := by
  simp only [IntKind.wrap_u64, riN]; omega
theorem ri_step0 (D : List Nat) (j : Nat) (h : D.length ≤ j) : IntKind.u64.wrap ((riN D j : Int) * 10) = ((riN D (j + 1) : Nat) : Int) := by
  rw [riN, dg_end h]
  simp only [IntKind.wrap_u64]; omega
theorem ri_end {x : Dc} (h : ¬ 20 < x.dp) {n : Nat} (hn : n = riN x.D x.dp.toNat) (hr : ru x x.dp = false) : (n : Int) = (riD x : Int) := by
  unfold riD; rw [if_neg h, hr, ← hn]
  have := riN_lt x.D x.dp.toNat
  rw [← hn] at this
  simp only [Bool.false_eq_true, if_false, Nat.add_zero]; omega
theorem ri_end1 {x : Dc} (h : ¬ 20 < x.dp) {n : Nat} (hn : n = riN x.D x.dp.toNat) (hr : ru x x.dp = true) : IntKind.u64.wrap ((n : Int) + 1) = (riD x : Int) := by
  unfold riD; rw [if_neg h, hr, ← hn]
  simp only [if_true, IntKind.wrap_u64]; omega
theorem ri_meas {i m : Nat} {p : Int} (h : (i : Int) < p) (hw : wrap64 ((i : Int) + 1) = (i : Int) + 1) : (p - intOf (.int .i64 (wrap64 ((i : Int) + 1)))).toNat < (p - intOf (.int .i64 (i : Int))).toNat := by
  rw [hw]
  show (p - ((i : Int) + 1)).toNat < (p - (i : Int)).toNat; omega

theorem ri_next {i : Nat} (hw : wrap64 ((i : Int) + 1) = (i : Int) + 1) : Value.int .i64 (wrap64 ((i : Int) + 1)) = Value.int .i64 ((i + 1 : Nat) : Int) := by rw [hw]; rfl

set_option maxHeartbeats 4000000 in
set_option maxRecDepth 100000 in
theorem ri_calls (g : Nat) (x : Dc) (w : World) (h : Dec w g x) :
    Calls Tryz.prog 75 #[.pointer (some ⟨g, 0, none⟩)] w fun e w' => e = .returned (.int .u64 (riD x)) ∧ w' = w := by
  have HD := Aside0.mk h
  have h800 := h.nd.1
  have h801 := h.dp
  obtain ⟨N, hN⟩ : ∃ N, N = x.D.length := ⟨_, rfl⟩
  obtain ⟨p, hp⟩ : ∃ p, p = x.dp := ⟨_, rfl⟩
  have hN8 : N ≤ 800 := by rw [hN]; exact h.nd.2
  rw [← hN] at h800
  rw [← hp] at h801
  have HN := Aside0.mk hN
  have HPP := Aside0.mk hp
  by_cases h20 : 20 < p
  · have g1 : (20 < p) = True := eq_true h20
    have e : riD x = 18446744073709551615 := by unfold riD; rw [if_pos (by omega)]
    rw [e]
    clear h e h20 hN hp
    go_enter Tryz.func75, Tryz.ntmps75
    go_wp2
    go_ret
    exact ⟨rfl, rfl⟩
  · have g1 : (20 < p) = False := eq_false h20
    have H20 := Aside0.mk h20
    have H9 := Aside0.mk h.nine.2
    have HRU : Aside0 (Calls Tryz.prog 81 #[.pointer (some ⟨g, 0, none⟩), .int .i64 p] w fun e w' => e = .returned (.bool (ru x p)) ∧ w' = w) := ⟨ru_calls g p x w h (by omega)⟩
    clear h hN hp
    go_enter Tryz.func75, Tryz.ntmps75
    go_upto_block 0 with fail
    go_cut [3, 4] (fun v3 v4 wc => ∃ i : Nat, v3 = .int .i64 (i : Int) ∧ v4 = .int .u64 (riN x.D i : Nat) ∧ ((i : Int) ≤ p ∨ i = 0) ∧ (p ≤ (i : Int) ∨ N ≤ i) ∧ wc = w)
    case first =>
      go_wp2_with fail
      go_loop [3, 4] (fun v3 v4 => ∃ i : Nat, v3 = .int .i64 (i : Int) ∧ v4 = .int .u64 (riN x.D i : Nat) ∧ ((i : Int) ≤ p ∨ i = 0)) (fun v3 _ => (p - intOf v3).toNat)
      case atStart => exact ⟨0, rfl, rfl, .inr rfl⟩
      case round =>
        obtain ⟨i, rfl, rfl, hi⟩ := hrel
        have HI := Aside0.mk hi
        by_cases hip : (i : Int) < p
        · have q1 : ((i : Int) < p) = True := eq_true hip
          by_cases hiN : i < N
          · have q2 : ((i : Int) < (N : Int)) = True := eq_true (by omega)
            have q2n : (i < N) = True := eq_true (by omega)
            have p3 : ((0 : Int) ≤ (i : Int)) = True := eq_true (by omega)
            have p4 : ((i : Int) < 800) = True := eq_true (by omega)
            have hd := HD.out.dig i (by have := HN.out; omega)
            have e1 := u8_digit (H9.out i)
            have W1 := w_succ (i := i) (by omega)
            have E := Aside0.mk (ri_step x.D i)
            have HIP := Aside0.mk hip
            obtain ⟨n, hn⟩ : ∃ n, n = riN x.D i := ⟨_, rfl⟩
            obtain ⟨d, hdd⟩ : ∃ d, d = dg x.D i := ⟨_, rfl⟩
            have hd9 : d ≤ 9 := by rw [hdd]; exact H9.out i
            have e2 : IntKind.u64.wrap (d : Int) = (d : Int) := sh_kind (by omega)
            rw [← hn, ← hdd] at E
            rw [← hdd] at hd e1
            rw [← hn]
            have HNN := Aside0.mk hn
            clear hi hip hiN hn hdd
            go_wp2
            go_round
            case measure => exact ri_meas (m := 0) HIP.out W1
            case rel => exact ⟨i + 1, ri_next W1, congrArg (Value.int IntKind.u64) E.out, .inl (by have := HIP.out; omega)⟩
          · have q2 : ((i : Int) < (N : Int)) = False := eq_false (by omega)
            have q2n : (i < N) = False := eq_false (by omega)
            have HIN := Aside0.mk hiN
            clear hi hip hiN
            go_wp2
            go_meet
            case rel => exact ⟨i, rfl, rfl, HI.out, .inr (Nat.le_of_not_lt HIN.out), rfl⟩
        · have q1 : ((i : Int) < p) = False := eq_false hip
          have HIP := Aside0.mk hip
          clear hi hip
          go_wp2
          go_meet
          case rel => exact ⟨i, rfl, rfl, HI.out, .inl (by have := HIP.out; omega), rfl⟩
    case rest =>
      obtain ⟨i0, rfl, rfl, hi0, hi1, rfl⟩ := hcut
      have HI1 := Aside0.mk hi1
      have HI0 := Aside0.mk hi0
      clear hi1 hi0
      go_wp2
      go_loop [3, 4] (fun v3 v4 => ∃ i : Nat, v3 = .int .i64 (i : Int) ∧ v4 = .int .u64 (riN x.D i : Nat) ∧ ((i : Int) ≤ p ∨ i = 0) ∧ i0 ≤ i) (fun v3 _ => (p - intOf v3).toNat)
      case atStart => exact ⟨i0, rfl, rfl, HI0.out, Nat.le_refl _⟩
      case round =>
        obtain ⟨i, rfl, rfl, hi, hii⟩ := hrel
        have HI := Aside0.mk hi
        obtain ⟨n, hn⟩ : ∃ n, n = riN x.D i := ⟨_, rfl⟩
        by_cases hip : (i : Int) < p
        · have q1 : ((i : Int) < p) = True := eq_true hip
          have hNi : N ≤ i := by have := HI1.out; omega
          have E := Aside0.mk (ri_step0 x.D i (by have := HN.out; omega))
          have W1 := w_succ (i := i) (by omega)
          have HIP := Aside0.mk hip
          have HII := Aside0.mk hii
          rw [← hn] at E
          rw [← hn]
          clear hi hip hn hNi hii
          go_wp2
          go_round
          case measure => exact ri_meas (m := 0) HIP.out W1
          case rel => exact ⟨i + 1, ri_next W1, congrArg (Value.int IntKind.u64) E.out, .inl (by have := HIP.out; omega), Nat.le_succ_of_le HII.out⟩
        · have q1 : ((i : Int) < p) = False := eq_false hip
          have HE : Aside0 (n = riN x.D x.dp.toNat) := ⟨by
            rw [hn, ← HPP.out]; congr 1; omega⟩
          have H20' : ¬ 20 < x.dp := by rw [← HPP.out]; exact Int.not_lt.2 H20.out
          rw [← hn]
          clear hi hip hn hii
          obtain ⟨R, hR⟩ : ∃ R, R = ru x p := ⟨_, rfl⟩
          rw [← hR] at HRU
          rw [HPP.out] at hR
          have HR := Aside0.mk hR.symm
          clear hR
          cases R with
          | true =>
            have HF := Aside0.mk (ri_end1 H20' HE.out HR.out)
            clear H20'
            go_wp2_with (go_at_call 81; ((with_reducible refine (HRU.out).mono ?_); rintro e w3 ⟨rfl, rfl⟩))
            go_wp2
            go_ret
            exact ⟨congrArg (fun q => Ending.returned (.int .u64 q)) HF.out, rfl⟩
          | false =>
            have HF := Aside0.mk (ri_end H20' HE.out HR.out)
            clear H20'
            go_wp2_with (go_at_call 81; ((with_reducible refine (HRU.out).mono ?_); rintro e w3 ⟨rfl, rfl⟩))
            go_wp2
            go_ret
            exact ⟨congrArg (fun q => Ending.returned (.int .u64 q)) HF.out, rfl⟩
end Go.Proofs.YtogikhohkbcccaaGreatDoor.De
