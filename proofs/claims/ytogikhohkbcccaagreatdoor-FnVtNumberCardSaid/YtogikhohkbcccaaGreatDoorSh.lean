import Derived.Test.YtogikhohkbcccaaGreatDoorSf
namespace Go.Proofs.YtogikhohkbcccaaGreatDoor.De
set_option linter.unusedVariables false
set_option linter.unusedSimpArgs false
open Go.RowKit Go.Proofs.YtogikhohkbcccaaGreatDoorW.PrintWords Go.Proofs.YtogikhohkbcccaaGreatDoorW.PrintLast Go.Proofs.YtogikhohkbcccaaGreatDoorW.PrintMore

theorem Dec.nd {w : World} {g : Nat} {x : Dc} (h : Dec w g x) : w.cell? ⟨g, 800, none⟩ = some (.int .i64 (x.D.length : Int)) ∧ x.D.length ≤ 800 := by
  obtain ⟨c, hd, hi, _⟩ := h
  have := hd.cell 800 (by omega)
  rw [hi.nd] at this
  exact ⟨this, hi.len⟩
theorem Dec.dp {w : World} {g : Nat} {x : Dc} (h : Dec w g x) : w.cell? ⟨g, 801, none⟩ = some (.int .i64 x.dp) := by
  obtain ⟨c, hd, hi, _⟩ := h
  have := hd.cell 801 (by omega)
  rw [hi.dp] at this
  exact this
theorem Dec.neg {w : World} {g : Nat} {x : Dc} (h : Dec w g x) : w.cell? ⟨g, 802, none⟩ = some (.bool x.neg) := by
  obtain ⟨c, hd, hi, _⟩ := h
  have := hd.cell 802 (by omega)
  rw [hi.neg] at this
  exact this
theorem Dec.tr {w : World} {g : Nat} {x : Dc} (h : Dec w g x) : w.cell? ⟨g, 803, none⟩ = some (.bool x.tr) := by
  obtain ⟨c, hd, hi, _⟩ := h
  have := hd.cell 803 (by omega)
  rw [hi.tr] at this
  exact this
theorem Dec.dig {w : World} {g : Nat} {x : Dc} (h : Dec w g x) (i : Nat) (hi : i < x.D.length) : w.cell? ⟨g, i, none⟩ = some (.int .u8 ((dg x.D i : Int) + 48)) := by
  obtain ⟨c, hd, his, _⟩ := h
  have hl := his.len
  have := hd.cell i (by omega)
  rw [dg_at his i hi] at this
  exact this
theorem Dec.nine {w : World} {g : Nat} {x : Dc} (h : Dec w g x) : (∀ d ∈ x.D, d ≤ 9) ∧ ∀ i, dg x.D i ≤ 9 := by
  obtain ⟨c, hd, his, _⟩ := h
  refine ⟨fun d hd => ?_, fun i => ?_⟩
  · obtain ⟨i, hi, e⟩ := List.getElem_of_mem hd
    rw [← e]; exact (his.dig i hi).2
  · unfold dg
    by_cases hi : i < x.D.length
    · rw [List.getD_eq_getElem?_getD, List.getElem?_eq_getElem hi]; exact (his.dig i hi).2
    · rw [List.getD_eq_getElem?_getD, List.getElem?_eq_none (by omega)]; exact Nat.zero_le _
theorem Dec.drewN {w : World} {g : Nat} {x : Dc} (h : Dec w g x) (n : Nat) : Dec (w.drewN n) g x := by
  obtain ⟨c, hd, h2⟩ := h; exact ⟨c, hd.drewN n, h2⟩
theorem Dec.lt {w : World} {g : Nat} {x : Dc} (h : Dec w g x) : g < w.heap.size := by
  obtain ⟨c, hd, h2⟩ := h; exact hd.lt
theorem Dec.below {w w' : World} {g G : Nat} {x : Dc} (h : Dec w g x) (hb : Below G w w') (hg : g < G) : Dec w' g x := by
  obtain ⟨c, hd, h2⟩ := h; exact ⟨c, hd.heap (hb.block g hg), h2⟩

theorem sh_kind {k : Nat} (h : k ≤ 60) : IntKind.u64.wrap (k : Int) = (k : Int) := by simp only [IntKind.wrap_u64]; omega
theorem sh_len {x : Dc} (h : 0 < dg x.D 0) : ((x.D.length : Int) == 0) = false := beq_eq_false_iff_ne.2 (by have := List.length_pos_iff.2 (dg_ne h); omega)

set_option maxHeartbeats 4000000 in
set_option maxRecDepth 100000 in
/-- To the left. -/
theorem shiftL_calls (g k : Nat) (x : Dc) (w : World) (B : Nat) (hBg : B ≤ g) (hLC : LC B w) (h : Dec w g x) (hk1 : 1 ≤ k) (hk : k ≤ 60) (hlead : 0 < dg x.D 0) (hp0 : -1000000000 ≤ x.dp) (hp1 : x.dp ≤ 1000000000) :
    Calls Tryz.prog 74 #[.pointer (some ⟨g, 0, none⟩), .int .i64 k] w fun e w' => e = .returned (.tuple #[]) ∧ Dec w' g (lshD k x) ∧ Below g w w' ∧ w'.heap.size = w.heap.size := by
  have h800 := h.nd.1
  have hz := sh_len hlead
  have HL := Aside0.mk (leftShift_calls g k x w B hBg hLC h hk1 hk hlead hp0 hp1)
  have g1 : ((0 : Int) < (k : Int)) = True := eq_true (by omega)
  have g1n : (0 < k) = True := eq_true (by omega)
  have g2 : ((60 : Int) < (k : Int)) = False := eq_false (by omega)
  have e1 := sh_kind hk
  clear h hLC hlead hp0 hp1 hk1 hk hBg
  go_enter Tryz.func74, Tryz.ntmps74
  go_wp2
  go_loopw [1] (fun v1 wr => v1 = .int .i64 k ∧ wr = w) (fun _ _ => 0)
  case atStart => exact ⟨rfl, rfl⟩
  case round =>
    obtain ⟨rfl, rfl⟩ := hrel
    go_wp2_with (go_at_call 79; ((with_reducible refine (HL.out).mono ?_); rintro e w3 ⟨rfl, hd3, hb3, hs3⟩; have HD3 := Aside0.mk hd3; have HB3 := Aside0.mk hb3; have HS3 := Aside0.mk hs3; clear hd3 hb3 hs3))
    go_wp2
    go_end0
    exact ⟨rfl, HD3.out, HB3.out, HS3.out⟩

theorem sh_wrap {k j : Nat} (hk : k ≤ 200000) (hj : 60 * j ≤ k) : wrap64 (-((k - 60 * j : Nat) : Int) + 60) = -((k - 60 * j : Nat) : Int) + 60 := by unfold wrap64; omega
theorem sh_next {k j : Nat} (h : 60 < k - 60 * j) : Value.int .i64 (-((k - 60 * j : Nat) : Int) + 60) = Value.int .i64 (-((k - 60 * (j + 1) : Nat) : Int)) := by congr 1; omega
theorem sh_meas {k j : Nat} (h : 60 < k - 60 * j) : (-(intOf (.int .i64 (-((k - 60 * j : Nat) : Int) + 60)))).toNat < (-(intOf (.int .i64 (-((k - 60 * j : Nat) : Int))))).toNat := by
  show (-(-((k - 60 * j : Nat) : Int) + 60)).toNat < (-(-((k - 60 * j : Nat) : Int))).toNat; omega
theorem sh_last {k j : Nat} (hk1 : 1 ≤ k) (hj : 60 * j < k) (h : k - 60 * j ≤ 60) : j = (k - 1) / 60 := by omega
theorem sh_lt {k j : Nat} (h : 60 < k - 60 * j) : 60 * (j + 1) < k := by omega
theorem sh_dp {x : Dc} {k j : Nat} {p : Int} (hp : x.dp - 61 * j ≤ p) (hp0 : -500000000 ≤ x.dp) (hk : k ≤ 200000) (hj : 60 * j < k) : -1000000000 ≤ p := by omega

theorem rightShift60 (g : Nat) (x : Dc) (w : World) (h : Dec w g x) (hlead : 0 < dg x.D 0) (hp0 : -1000000000 ≤ x.dp) (hp1 : x.dp ≤ 1000000000) :
    Calls Tryz.prog 80 #[.pointer (some ⟨g, 0, none⟩), .int .u64 60] w fun e w' => e = .returned (.tuple #[]) ∧ Dec w' g (rshD 60 x) ∧ Below g w w' ∧ w'.heap.size = w.heap.size :=
  rightShift_calls g 60 x w h (by omega) (by omega) hlead hp0 hp1
set_option maxHeartbeats 4000000 in
set_option maxRecDepth 100000 in
/-- To the right. -/
theorem shiftR_calls (g k : Nat) (x : Dc) (w : World) (h : Dec w g x) (hk1 : 1 ≤ k) (hk : k ≤ 200000) (hlead : 0 < dg x.D 0) (hp0 : -500000000 ≤ x.dp) (hp1 : x.dp ≤ 500000000) :
    Calls Tryz.prog 74 #[.pointer (some ⟨g, 0, none⟩), .int .i64 (-(k : Int))] w fun e w' => e = .returned (.tuple #[]) ∧ Dec w' g (shR k x) ∧ Below g w w' ∧ w'.heap.size = w.heap.size := by
  have h800 := h.nd.1
  have hz := sh_len hlead
  have HD := Aside0.mk h
  have HLD := Aside0.mk hlead
  have HP := Aside0.mk (And.intro hp0 hp1)
  have g1 : ((0 : Int) < -(k : Int)) = False := eq_false (by omega)
  have g2 : (-(k : Int) < 0) = True := eq_true (by omega)
  have g2n : (0 < k) = True := eq_true (by omega)
  clear h hlead hp0 hp1
  go_enter Tryz.func74, Tryz.ntmps74
  go_wp2
  clear h800
  go_loopw [1] (fun v1 wr => ∃ j, v1 = .int .i64 (-((k - 60 * j : Nat) : Int)) ∧ 60 * j < k ∧ Aside0 (Dec wr g (itR j x)) ∧ Aside0 (Below g w wr ∧ wr.heap.size = w.heap.size)) (fun v1 _ => (-(intOf v1)).toNat)
  case atStart => exact ⟨0, rfl, by omega, HD, ⟨Below.refl _ _, rfl⟩⟩
  case round =>
    obtain ⟨j, rfl, hj, HDR, HBR⟩ := hrel
    have HIT := Aside0.mk (itR_lead HLD.out j)
    by_cases hlt : 60 < k - 60 * j
    · have q1 : (-((k - 60 * j : Nat) : Int) < -60) = True := eq_true (by omega)
      have HC := Aside0.mk (rightShift60 g (itR j x) wr HDR.out HIT.out.1 (sh_dp HIT.out.2.1 HP.out.1 hk hj) (by have := HIT.out.2.2.1; have := HP.out.2; omega))
      have W1 := sh_wrap hk (Nat.le_of_lt hj)
      have HLT := Aside0.mk hlt
      clear hlt hj g1 g2 g2n
      go_wp2_with (go_at_call 80; ((with_reducible refine (HC.out).mono ?_); rintro e w3 ⟨rfl, hd3, hb3, hs3⟩; have HD3 := Aside0.mk hd3; have HB3 := Aside0.mk hb3; have HS3 := Aside0.mk hs3; clear hd3 hb3 hs3))
      go_wp2
      go_roundw
      case measure => exact sh_meas HLT.out
      case rel => exact ⟨j + 1, sh_next HLT.out, sh_lt HLT.out, HD3, ⟨HBR.out.1.trans HB3.out, HS3.out.trans HBR.out.2⟩⟩
    · have q1 : (-((k - 60 * j : Nat) : Int) < -60) = False := eq_false (by omega)
      obtain ⟨r, hr⟩ : ∃ r, r = k - 60 * j := ⟨_, rfl⟩
      have hj2 := sh_last hk1 hj (Nat.le_of_not_lt hlt)
      have HC := rightShift_calls g r (itR j x) wr HDR.out (by omega) (by omega) HIT.out.1 (sh_dp HIT.out.2.1 HP.out.1 hk hj) (by have := HIT.out.2.2.1; have := HP.out.2; omega)
      have e0 : rshD r (itR j x) = shR k x := by unfold shR; rw [← hj2, hr]
      rw [e0] at HC
      have HC := Aside0.mk HC
      have e1 : IntKind.u64.wrap (r : Int) = (r : Int) := sh_kind (by omega)
      have e2 : wrap64 (r : Int) = (r : Int) := w_self (by omega)
      rw [← hr] at q1 ⊢
      clear hr hj2 e0 hlt hj g1 g2 g2n hk hk1
      go_wp2_with (go_at_call 80; ((with_reducible refine (HC.out).mono ?_); rintro e w3 ⟨rfl, hd3, hb3, hs3⟩; have HD3 := Aside0.mk hd3; have HB3 := Aside0.mk hb3; have HS3 := Aside0.mk hs3; clear hd3 hb3 hs3))
      go_wp2
      go_end0
      exact ⟨rfl, HD3.out, HBR.out.1.trans HB3.out, HS3.out.trans HBR.out.2⟩
end Go.Proofs.YtogikhohkbcccaaGreatDoor.De
