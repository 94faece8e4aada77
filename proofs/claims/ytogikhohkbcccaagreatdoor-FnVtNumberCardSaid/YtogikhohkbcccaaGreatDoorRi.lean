import Derived.Test.YtogikhohkbcccaaGreatDoorSh
namespace Go.Proofs.YtogikhohkbcccaaGreatDoor.De
set_option linter.unusedVariables false
set_option linter.unusedSimpArgs false
open Go.RowKit Go.Proofs.YtogikhohkbcccaaGreatDoorW.PrintWords Go.Proofs.YtogikhohkbcccaaGreatDoorW.PrintLast Go.Proofs.YtogikhohkbcccaaGreatDoorW.PrintMore

/-- Whether to round up behind i digits. -/
def ruN (x : Dc) (i : Nat) : Bool :=
  if x.D.length ≤ i then false else if dg x.D i = 5 then (if i + 1 = x.D.length then (if x.tr then true else (if i = 0 then false else decide (dg x.D (i - 1) % 2 ≠ 0))) else true) else decide (5 < dg x.D i)
def ru (x : Dc) (n : Int) : Bool := if n < 0 then false else ruN x n.toNat

theorem w_pre {i j : Nat} (hji : j = i - 1) (h0 : ¬ i = 0) (h : i ≤ 1000) : wrap64 ((i : Int) - 1) = (j : Int) := by unfold wrap64; omega
theorem rem_odd {b : Nat} : ((b : Int) % 2 != 0) = decide (b % 2 ≠ 0) := by
  by_cases h : b % 2 = 0
  · rw [decide_eq_false (fun e => e h)]; exact bne_eq_false_iff_eq.2 (by omega)
  · rw [decide_eq_true h]; exact bne_iff_ne.2 (by omega)
theorem w_succ {i : Nat} (h : i ≤ 1000) : wrap64 ((i : Int) + 1) = (i : Int) + 1 := by unfold wrap64; omega
theorem u8_digit {b : Nat} (h : b ≤ 9) : IntKind.u8.wrap ((b : Int) + 48 - 48) = (b : Int) := by simp only [IntKind.wrap_u8]; omega

set_option maxHeartbeats 4000000 in
set_option maxRecDepth 100000 in
theorem ru_calls (g : Nat) (n : Int) (x : Dc) (w : World) (h : Dec w g x) (hn : n ≤ 1000000000) :
    Calls Tryz.prog 81 #[.pointer (some ⟨g, 0, none⟩), .int .i64 n] w fun e w' => e = .returned (.bool (ru x n)) ∧ w' = w := by
  have HD := Aside0.mk h
  have h800 := h.nd.1
  have h803 := h.tr
  obtain ⟨N, hN⟩ : ∃ N, N = x.D.length := ⟨_, rfl⟩
  have hN8 : N ≤ 800 := by rw [hN]; exact h.nd.2
  rw [← hN] at h800
  by_cases hneg : n < 0
  · have g1 : (n < 0) = True := eq_true hneg
    have e : ru x n = false := if_pos hneg
    rw [e]
    clear h e hneg
    go_enter Tryz.func81, Tryz.ntmps81
    go_wp2
    go_ret
    exact ⟨rfl, rfl⟩
  · obtain ⟨i, rfl⟩ : ∃ i : Nat, n = (i : Int) := ⟨n.toNat, by omega⟩
    have e : ru x (i : Int) = ruN x i := by unfold ru; rw [if_neg hneg, Int.toNat_natCast]
    rw [e]
    clear hneg e
    by_cases hi : N ≤ i
    · have g1 : ((N : Int) ≤ (i : Int)) = True := eq_true (by omega)
      have g2 : (N ≤ i) = True := eq_true hi
      have e : ruN x i = false := if_pos (by omega)
      rw [e]
      clear h e hi hN hn
      go_enter Tryz.func81, Tryz.ntmps81
      go_wp2
      go_ret
      exact ⟨rfl, rfl⟩
    · have g1 : ((N : Int) ≤ (i : Int)) = False := eq_false (by omega)
      have g2 : (N ≤ i) = False := eq_false hi
      have p1 : ((0 : Int) ≤ (i : Int)) = True := eq_true (by omega)
      have p2 : ((i : Int) < 800) = True := eq_true (by omega)
      have hd := h.dig i (by omega)
      obtain ⟨d, hdd⟩ : ∃ d, d = dg x.D i := ⟨_, rfl⟩
      have hd9 : d ≤ 9 := by rw [hdd]; exact h.nine.2 i
      rw [← hdd] at hd
      have e : ruN x i = if d = 5 then (if i + 1 = N then (if x.tr then true else (if i = 0 then false else decide (dg x.D (i - 1) % 2 ≠ 0))) else true) else decide (5 < d) := by
        unfold ruN; rw [if_neg (by omega), hdd, hN]
      rw [e]
      clear e
      have hi1000 : i ≤ 1000 := by omega
      have hw := w_succ hi1000
      by_cases h5 : d = 5
      · have hd' : w.cell? ⟨g, i, none⟩ = some (.int .u8 53) := by rw [hd, h5]; rfl
        rw [if_pos h5]
        clear hd h5 hdd hd9
        by_cases hl : i + 1 = N
        · have q1 : (((i : Int) + 1) == (N : Int)) = true := beq_iff_eq.2 (by omega)
          rw [if_pos hl]
          cases htr : x.tr with
          | true =>
            rw [htr] at h803
            clear h hi hN hn hl HD hN8 htr hi1000
            go_enter Tryz.func81, Tryz.ntmps81
            go_wp2
            go_ret
            exact ⟨rfl, rfl⟩
          | false =>
            rw [htr] at h803
            by_cases h0 : i = 0
            · subst h0
              clear h hi hN hn HD hN8 htr hi1000
              obtain rfl := hl
              go_enter Tryz.func81, Tryz.ntmps81
              go_wp2
              go_ret
              exact ⟨rfl, rfl⟩
            · obtain ⟨j, hji⟩ : ∃ j, j = i - 1 := ⟨i - 1, rfl⟩
              have hj := h.dig j (by omega)
              have p3 : ((0 : Int) ≤ (j : Int)) = True := eq_true (by omega)
              have p4 : ((j : Int) < 800) = True := eq_true (by omega)
              have p5 : ((0 : Int) < (i : Int)) = True := eq_true (by omega)
              have p5n : (0 < i) = True := eq_true (by omega)
              have W3 : wrap64 ((i : Int) - 1) = (j : Int) := w_pre hji h0 hi1000
              obtain ⟨b, hb⟩ : ∃ b, b = dg x.D j := ⟨_, rfl⟩
              have hb9 : b ≤ 9 := by rw [hb]; exact h.nine.2 j
              rw [← hb] at hj
              rw [if_neg h0, ← hji, ← hb]
              have e1 : IntKind.u8.wrap ((b : Int) + 48 - 48) = (b : Int) := u8_digit hb9
              clear h hi hN hn hl HD hN8 htr hi1000 hb h0 hji
              simp only [Bool.false_eq_true, if_false]
              go_enter Tryz.func81, Tryz.ntmps81
              go_wp2
              go_ret
              refine ⟨?_, rfl⟩
              show Ending.returned (Value.bool ((b : Int) % 2 != 0)) = _
              rw [rem_odd]
        · have q1 : (((i : Int) + 1) == (N : Int)) = false := beq_eq_false_iff_ne.2 (by omega)
          rw [if_neg hl]
          clear h hi hN hn hl HD hN8 hi1000
          go_enter Tryz.func81, Tryz.ntmps81
          go_wp2
          go_ret
          exact ⟨rfl, rfl⟩
      · have q1 : (((d : Int) + 48) == 53) = false := beq_eq_false_iff_ne.2 (by omega)
        rw [if_neg h5]
        by_cases h6 : 5 < d
        · have q2 : (53 ≤ ((d : Int) + 48)) = True := eq_true (by omega)
          rw [decide_eq_true h6]
          clear h hi hN hn HD hN8 hi1000 hdd h5
          go_enter Tryz.func81, Tryz.ntmps81
          go_wp2
          go_ret
          exact ⟨rfl, rfl⟩
        · have q2 : (53 ≤ ((d : Int) + 48)) = False := eq_false (by omega)
          rw [decide_eq_false h6]
          clear h hi hN hn HD hN8 hi1000 hdd h5
          go_enter Tryz.func81, Tryz.ntmps81
          go_wp2
          go_ret
          exact ⟨rfl, rfl⟩
end Go.Proofs.YtogikhohkbcccaaGreatDoor.De
