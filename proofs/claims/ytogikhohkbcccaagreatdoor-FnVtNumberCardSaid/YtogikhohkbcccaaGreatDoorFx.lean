import Derived.Test.YtogikhohkbcccaaGreatDoorFw
namespace Go.Proofs.YtogikhohkbcccaaGreatDoor.De
set_option linter.unusedVariables false
set_option linter.unusedSimpArgs false
open Go.RowKit Go.Proofs.YtogikhohkbcccaaGreatDoorW.PrintWords Go.Proofs.YtogikhohkbcccaaGreatDoorW.PrintLast Go.Proofs.YtogikhohkbcccaaGreatDoorW.PrintMore
attribute [local go_sem] Exit.jmp_normal Exit.jmp_ret

theorem me1_le {x : Dc} (h : x.dp ≤ 310) : me1 x ≤ 621 := by unfold me1; split <;> omega
theorem me2_le {x : Dc} (h : -330 ≤ x.dp) : me2 x ≤ 3309 := by unfold me2; omega
/-- What is kept in the first loop. -/
structure L1 (x y : Dc) (e : Int) (k : Nat) : Prop where
  run : fb1 k y e = fbA x
  me : me1 y ≤ k
  lead : 0 < dg y.D 0
  lo : -330 ≤ y.dp
  hi : y.dp ≤ 310
  ng : y.neg = x.neg
  e0 : 0 ≤ e
  e1 : e + 27 * k ≤ 27 * 621
theorem L1.next {x y : Dc} {e : Int} {k : Nat} (h : L1 x y e k) (hd : 0 < y.dp) (h9 : dg y.D 0 ≤ 9) : ∃ j, k = j + 1 ∧ L1 x (rshD (pwTab y.dp.toNat) y) (e + pwTab y.dp.toNat) j := by
  obtain ⟨a, b, c, d, e', f⟩ := fb1_round hd h.lead h9
  have hm := h.me
  obtain ⟨p1, p2, _⟩ := pwTab_ge y.dp.toNat
  have h0 := h.e0
  have h1 := h.e1
  refine ⟨k - 1, by omega, ?_, by omega, a, c, by have := h.hi; omega, e'.trans h.ng, by omega, by omega⟩
  rw [← h.run, show k = (k - 1) + 1 by omega, fb1_go hd]
  rfl
theorem L1.stop {x y : Dc} {e : Int} {k : Nat} (h : L1 x y e k) (hd : ¬ 0 < y.dp) : fbA x = (y, e) := by rw [← h.run, fb1_stop hd]
theorem L1.start {x : Dc} (hl : 0 < dg x.D 0) (h0 : -330 ≤ x.dp) (h1 : x.dp ≤ 310) : L1 x x 0 (me1 x) :=
  ⟨rfl, Nat.le_refl _, hl, h0, h1, rfl, Int.le_refl _, by have := me1_le h1; omega⟩
theorem L1.eb {x y : Dc} {e : Int} {k : Nat} (h : L1 x y e k) : wrap64 (e + (pwTab y.dp.toNat : Nat)) = e + (pwTab y.dp.toNat : Nat) ∧ wrap64 (-(pwTab y.dp.toNat : Int)) = -(pwTab y.dp.toNat : Int) := by
  obtain ⟨p1, p2, _⟩ := pwTab_ge y.dp.toNat
  have h0 := h.e0
  have h1 := h.e1
  unfold wrap64; omega
/-- What is kept in the second loop. -/
structure L2 (x y : Dc) (e : Int) (k : Nat) : Prop where
  run : fb2 k y e = fbB x
  me : me2 y ≤ k
  lead : 0 < dg y.D 0
  lo : -330 ≤ y.dp
  hi : y.dp ≤ 20
  ng : y.neg = x.neg
  e0 : e ≤ 27 * 621
  e1 : -(27 * 3309 : Int) ≤ e - 27 * k
theorem L2.next {x y : Dc} {e : Int} {k : Nat} (h : L2 x y e k) (hd : y.dp < 0 ∨ y.dp = 0 ∧ dg y.D 0 < 5) (h9 : ∀ d ∈ y.D, d ≤ 9) (h9' : dg y.D 0 ≤ 9) (h9'' : dg (lshD (pwTab (-y.dp).toNat) y).D 0 ≤ 9) : ∃ j, k = j + 1 ∧ L2 x (lshD (pwTab (-y.dp).toNat) y) (e - pwTab (-y.dp).toNat) j := by
  obtain ⟨a, b, c, d, e', f⟩ := fb2_round hd h.lead h9 h9' h9''
  have hm := h.me
  obtain ⟨p1, p2, _⟩ := pwTab_ge (-y.dp).toNat
  have h0 := h.e0
  have h1 := h.e1
  have hlo := h.lo
  refine ⟨k - 1, by omega, ?_, by omega, a, by omega, d, e'.trans h.ng, by omega, by omega⟩
  rw [← h.run, show k = (k - 1) + 1 by omega, fb2_go hd]
  rfl
theorem L2.stop {x y : Dc} {e : Int} {k : Nat} (h : L2 x y e k) (hd : ¬ (y.dp < 0 ∨ y.dp = 0 ∧ dg y.D 0 < 5)) : fbB x = (y, e) := by rw [← h.run, fb2_stop hd]
theorem L1.to2 {x y : Dc} {e : Int} {k : Nat} (h : L1 x y e k) (hd : ¬ 0 < y.dp) : L2 x y e (me2 y) := by
  have h0 := h.e0
  have h1 := h.e1
  have hm := me2_le h.lo
  refine ⟨?_, Nat.le_refl _, h.lead, h.lo, by omega, h.ng, by omega, by omega⟩
  unfold fbB; rw [h.stop hd]
theorem L2.eb {x y : Dc} {e : Int} {k : Nat} (h : L2 x y e k) : wrap64 (e - (pwTab (-y.dp).toNat : Nat)) = e - (pwTab (-y.dp).toNat : Nat) ∧ wrap64 (-y.dp) = -y.dp := by
  obtain ⟨p1, p2, _⟩ := pwTab_ge (-y.dp).toNat
  have h0 := h.e0
  have h1 := h.e1
  have hlo := h.lo
  have hhi := h.hi
  unfold wrap64; omega
theorem L2.pos {x y : Dc} {e : Int} {k : Nat} (h : L2 x y e k) (hd : y.dp < 0 ∨ y.dp = 0 ∧ dg y.D 0 < 5) (h9 : dg y.D 0 ≤ 9) : ∃ j, k = j + 1 := by
  have hm := h.me
  unfold me2 at hm
  exact ⟨k - 1, by omega⟩
theorem LC.drewN {B n : Nat} {w : World} (h : LC B w) : LC B (w.drewN n) := by
  obtain ⟨a, cap, h1, h2, h3, h4⟩ := h
  exact ⟨a, cap, h1, h2, h3, h4⟩
theorem fb_neg {z : Dc} (h : z.dp < 0 ∨ z.dp = 0 ∧ dg z.D 0 < 5) : ∃ d : Nat, -z.dp = (d : Int) ∧ z.dp = -(d : Int) := ⟨(-z.dp).toNat, by rcases h with h | h <;> omega, by rcases h with h | h <;> omega⟩
theorem fb_ld {ld : Nat} (h : ld < 5) : ((ld : Int) + 48 < 53) = True ∧ decide ((ld : Int) + 48 < 53) = true := ⟨eq_true (by omega), decide_eq_true (by omega)⟩
theorem fb_ld' {ld : Nat} (h : ¬ ld < 5) : ((ld : Int) + 48 < 53) = False ∧ decide ((ld : Int) + 48 < 53) = false := ⟨eq_false (by omega), decide_eq_false (by omega)⟩
/-- What holds behind the loops. -/
structure L3 (x z : Dc) (e : Int) : Prop where
  eq : fbB x = (z, e)
  lead : 0 < dg z.D 0
  lo : -330 ≤ z.dp
  hi : z.dp ≤ 20
  ng : z.neg = x.neg
  e0 : e ≤ 27 * 621
  e1 : -(27 * 3309 : Int) ≤ e
theorem L2.to3 {x y : Dc} {e : Int} {k : Nat} (h : L2 x y e k) (hd : ¬ (y.dp < 0 ∨ y.dp = 0 ∧ dg y.D 0 < 5)) : L3 x y e :=
  ⟨h.stop hd, h.lead, h.lo, h.hi, h.ng, h.e0, by have := h.e1; omega⟩
theorem L3.w {x z : Dc} {e : Int} (h : L3 x z e) : wrap64 (e - 1) = e - 1 := by
  have h0 := h.e0
  have h1 := h.e1
  unfold wrap64; omega
/-- What holds behind the lift to the least power. -/
structure L4 (x : Dc) : Prop where
  lead : 0 < dg (fbC x).1.D 0
  lo : -900000000 ≤ (fbC x).1.dp
  hi : (fbC x).1.dp ≤ 20
  ng : (fbC x).1.neg = x.neg
  e0 : (fbC x).2 ≤ 27 * 621
  e1 : -1022 ≤ (fbC x).2
theorem L3.low {x z : Dc} {e : Int} (h : L3 x z e) (hd : e - 1 < -1022) : ∃ n : Nat, -1022 - (e - 1) = (n : Int) ∧ wrap64 (-1022 - (e - 1)) = (n : Int) ∧ 1 ≤ n ∧ n ≤ 200000 ∧ wrap64 (-(n : Int)) = -(n : Int) ∧ wrap64 ((e - 1) + (n : Int)) = (fbC x).2 ∧ (fbC x).1 = shR n z ∧ L4 x := by
  have h0 := h.e0
  have h1 := h.e1
  have hc : fbC x = (shR (-1022 - (e - 1)).toNat z, -1022) := by unfold fbC; rw [h.eq, if_pos hd]
  obtain ⟨n, hn⟩ : ∃ n, n = (-1022 - (e - 1)).toNat := ⟨_, rfl⟩
  rw [← hn] at hc
  have hn1 : 1 ≤ n := by omega
  obtain ⟨a, b, c, d⟩ := shR_lead hn1 h.lead
  have hlo := h.lo
  have hhi := h.hi
  refine ⟨n, by omega, by unfold wrap64; omega, hn1, by omega, by unfold wrap64; omega, by rw [hc]; show wrap64 _ = (-1022 : Int); unfold wrap64; omega, by rw [hc], ?_⟩
  refine ⟨by rw [hc]; exact a, by rw [hc]; show -900000000 ≤ (shR n z).dp; omega, by rw [hc]; show (shR n z).dp ≤ 20; omega, by rw [hc]; exact d.trans h.ng, by rw [hc]; show (-1022 : Int) ≤ _; omega, by rw [hc]; exact Int.le_refl _⟩
theorem L3.same {x z : Dc} {e : Int} (h : L3 x z e) (hd : ¬ e - 1 < -1022) : fbC x = (z, e - 1) ∧ L4 x := by
  have h0 := h.e0
  have hc : fbC x = (z, e - 1) := by unfold fbC; rw [h.eq, if_neg hd]
  have hlo := h.lo
  refine ⟨hc, ⟨by rw [hc]; exact h.lead, by rw [hc]; show -900000000 ≤ z.dp; omega, by rw [hc]; exact h.hi, by rw [hc]; exact h.ng, by rw [hc]; show e - 1 ≤ _; omega, by rw [hc]; show -1022 ≤ e - 1; omega⟩⟩
theorem fb_w2 {e : Int} (h : e ≤ 27 * 621 ∧ -1022 ≤ e) : wrap64 (e + 1023) = e + 1023 := by unfold wrap64; omega
theorem fb_w3 {e : Int} (h : e ≤ 27 * 621 ∧ -1022 ≤ e) : wrap64 (e + 1) = e + 1 := by unfold wrap64; omega
theorem fb_w4 {e : Int} (h : e ≤ 27 * 621 ∧ -1022 ≤ e) : wrap64 (e + 1 + 1023) = e + 1 + 1023 := by unfold wrap64; omega
theorem fb_out1 {x : Dc} (hl : 0 < dg x.D 0) (h0 : -330 ≤ x.dp) (h1 : x.dp ≤ 310) (h : 1024 ≤ (fbC x).2) : fbO x = (outB x.neg 0 1024, true) := by
  unfold fbO; rw [if_neg (dg_ne hl), if_neg (by omega), if_neg (by omega), if_pos h]
theorem fb_out2 {x : Dc} (hl : 0 < dg x.D 0) (h0 : -330 ≤ x.dp) (h1 : x.dp ≤ 310) (h : ¬ 1024 ≤ (fbC x).2) (hm : riD (lshD 53 (fbC x).1) = 9007199254740992) (h2 : 1024 ≤ (fbC x).2 + 1) : fbO x = (outB x.neg 0 1024, true) := by
  unfold fbO; rw [if_neg (dg_ne hl), if_neg (by omega), if_neg (by omega), if_neg h, if_pos hm, if_pos h2]
theorem fb_out3 {x : Dc} (hl : 0 < dg x.D 0) (h0 : -330 ≤ x.dp) (h1 : x.dp ≤ 310) (h : ¬ 1024 ≤ (fbC x).2) (hm : riD (lshD 53 (fbC x).1) = 9007199254740992) (h2 : ¬ 1024 ≤ (fbC x).2 + 1) : fbO x = fbE x.neg 4503599627370496 ((fbC x).2 + 1) := by
  unfold fbO; rw [if_neg (dg_ne hl), if_neg (by omega), if_neg (by omega), if_neg h, if_pos hm, if_neg h2]
theorem fb_out4 {x : Dc} (hl : 0 < dg x.D 0) (h0 : -330 ≤ x.dp) (h1 : x.dp ≤ 310) (h : ¬ 1024 ≤ (fbC x).2) (hm : ¬ riD (lshD 53 (fbC x).1) = 9007199254740992) : fbO x = fbE x.neg (riD (lshD 53 (fbC x).1) : Nat) (fbC x).2 := by
  unfold fbO; rw [if_neg (dg_ne hl), if_neg (by omega), if_neg (by omega), if_neg h, if_neg hm]
theorem fb_d9 {d : Nat} (h : d < 9) : (((d : Int) < 9) = True) ∧ ((9 : Int) ≤ (d : Int)) = False ∧ (((0 : Int) ≤ (d : Int)) = True) ∧ ((9 ≤ d) = False) ∧ ((d < 9) = True) ∧ decide ((9 : Int) ≤ (d : Int)) = false := ⟨eq_true (by omega), eq_false (by omega), eq_true (by omega), eq_false (by omega), eq_true h, decide_eq_false (by omega)⟩
theorem fb_d9' {d : Nat} (h : ¬ d < 9) : ((9 : Int) ≤ (d : Int)) = True ∧ ((9 ≤ d) = True) ∧ decide ((9 : Int) ≤ (d : Int)) = true := ⟨eq_true (by omega), eq_true (by omega), decide_eq_true (by omega)⟩
theorem shR_pw {y : Dc} (d : Nat) : shR (pwTab d) y = rshD (pwTab d) y := by
  obtain ⟨p1, p2, _⟩ := pwTab_ge d
  exact shR_small p1 (by omega)

set_option maxHeartbeats 4000000 in
set_option maxRecDepth 100000 in
theorem floatBits_main (g : Nat) (x : Dc) (w : World) (B : Nat) (hBg : B ≤ g) (hLC : LC B w) (hF : FT B w) (h : Dec w g x) (hl : 0 < dg x.D 0) (hp0 : -330 ≤ x.dp) (hp1 : x.dp ≤ 310) :
    Calls Tryz.prog 50 #[.pointer (some ⟨g, 0, none⟩), .pointer (some ⟨5, 0, none⟩)] w (BP (fbO x) g w) := by
  have h800 := h.nd.1
  have hz := fb_len hl
  have h801 := h.dp
  have g1 : (310 < x.dp) = False := eq_false (by omega)
  have g2 : (x.dp < -330) = False := eq_false (by omega)
  have HL1 := Aside0.mk (L1.start hl hp0 hp1)
  have HD := Aside0.mk h
  have HF := Aside0.mk hF
  have HLC := Aside0.mk hLC
  have HPB := Aside0.mk (And.intro hp0 hp1)
  have HLE := Aside0.mk hl
  clear h hF hLC hl hp0 hp1
  go_enter Tryz.func50, Tryz.ntmps50
  go_wp2
  refine wp_scope_two (r0 := _) (r1 := _) rfl rfl fun J j0 j1 => ?_
  have j0 := Aside0.mk j0
  have j1 := Aside0.mk j1
  go_wp2
  clear h800 hz h801 g1 g2
  go_loopg [6] (me1 x) (fun kq v6 wr => ∃ (y : Dc) (e : Int), v6 = .int .i64 e ∧ Aside0 (L1 x y e kq) ∧ Aside0 (Dec wr g y) ∧ Aside0 (Below g w wr ∧ wr.heap.size = w.heap.size))
  case atStart => exact ⟨x, 0, rfl, HL1, HD, ⟨Below.refl _ _, rfl⟩⟩
  case round =>
    clear HL1 HD
    obtain ⟨y, e, rfl, HL, HDR, HBR⟩ := hrel
    have h801 := HDR.out.dp
    by_cases hd : 0 < y.dp
    · obtain ⟨j, hj, hnext⟩ := HL.out.next hd (HDR.out.nine.2 0)
      subst hj
      have HNX := Aside0.mk hnext
      obtain ⟨d, hdd⟩ : ∃ d : Nat, y.dp = (d : Int) := ⟨y.dp.toNat, by omega⟩
      rw [hdd] at h801
      have c1 : ((0 : Int) < (d : Int)) = True := eq_true (by omega)
      have c1n : (0 < d) = True := eq_true (by omega)
      obtain ⟨E1, E2⟩ := HL.out.eb
      rw [hdd, Int.toNat_natCast] at E1 E2 HNX
      have HFR := HF.out.below HBR.out.1 hBg
      obtain ⟨b, o, cap, hb, ht1, ht2⟩ := HFR.tab
      have HT2 := Aside0.mk ht2
      have HSH := Aside0.mk (fun w' (hd' : Dec w' g y) => shiftR_calls g (pwTab d) y w' hd' (pwTab_ge d).1 (by have := (pwTab_ge d).2.1; omega) HL.out.lead (by have := HL.out.lo; omega) (by have := HL.out.hi; omega))
      rw [shR_pw] at HSH
      clear hd hdd hnext ht2
      go_upto_region 13 with fail
      go_quiet (fail)
      go_upto_if 46 with fail
      go_cut [8] (fun v8 wc => v8 = .int .i64 (pwTab d : Nat) ∧ ∃ n, wc = wr.drewN n)
      case first => as_aux_lemma =>
        have hbg : b < g := Nat.lt_of_lt_of_le hb hBg
        by_cases h9 : d < 9
        · obtain ⟨q1, q2, q3, q4, q5, q6⟩ := fb_d9 h9
          rw [q6]
          have hc := HT2.out d h9
          clear h9
          go_wp2
          go_quiet (fail)
          go_wp2
          go_meet
          case rel => exact ⟨rfl, _, World.drewN_drewN _ _ _⟩
        · obtain ⟨q1, q2, q6⟩ := fb_d9' h9
          rw [q6]
          have hpw := pwTab_hi (Nat.le_of_not_lt h9)
          have HPW := Aside0.mk hpw
          clear h9 hpw
          go_wp2
          go_meet
          case rel => exact ⟨by rw [HPW.out]; rfl, _, rfl⟩
      case rest => as_aux_lemma =>
        obtain ⟨rfl, n, rfl⟩ := hcut
        have HC := Aside0.mk (HSH.out _ (HDR.out.drewN n))
        have HBR2 : Aside0 (Below g w (wr.drewN n) ∧ (wr.drewN n).heap.size = w.heap.size) := ⟨pw_below_drewN HBR.out.1 n, HBR.out.2⟩
        clear ht1 h801 HSH HT2
        generalize wr.drewN n = w2 at HC HBR2 ⊢
        go_wp2_with (go_at_call 74; ((with_reducible refine (HC.out).mono ?_); rintro e w3 ⟨rfl, hd3, hb3, hs3⟩; have HD3 := Aside0.mk hd3; have HB3 := Aside0.mk hb3; have HS3 := Aside0.mk hs3; clear hd3 hb3 hs3))
        go_wp2
        go_roundg j
        case measure => omega
        case rel => exact ⟨_, _, congrArg (Value.int .i64) E1, HNX, HD3, ⟨HBR2.out.1.trans HB3.out, HS3.out.trans HBR2.out.2⟩⟩
    · have c1 : ((0 : Int) < y.dp) = False := eq_false hd
      have HL2 := Aside0.mk (HL.out.to2 hd)
      clear hd HL
      go_upto_block 2 with fail
      go_cut [6] (fun v6 wc => ∃ (z : Dc) (e : Int), v6 = .int .i64 e ∧ Aside0 (L3 x z e) ∧ Aside0 (Dec wc g z) ∧ Aside0 (Below g w wc ∧ wc.heap.size = w.heap.size))
      case first => as_aux_lemma =>
        go_wp2_with fail
        clear h801 c1
        go_loopg [6] (me2 y) (fun kq v6 wr => ∃ (z : Dc) (e : Int), v6 = .int .i64 e ∧ Aside0 (L2 x z e kq) ∧ Aside0 (Dec wr g z) ∧ Aside0 (Below g w wr ∧ wr.heap.size = w.heap.size))
        case atStart => exact ⟨y, e, rfl, HL2, HDR, HBR⟩
        case round =>
          clear HL2 HDR HBR
          obtain ⟨z, e, rfl, HL, HDR, HBR⟩ := hrel
          have h801 := HDR.out.dp
          have h0 := HDR.out.dig 0 (List.length_pos_iff.2 (dg_ne HL.out.lead))
          obtain ⟨ld, hld⟩ : ∃ ld, ld = dg z.D 0 := ⟨_, rfl⟩
          rw [← hld] at h0
          by_cases hd : z.dp < 0 ∨ z.dp = 0 ∧ dg z.D 0 < 5
          · obtain ⟨d, hdd, hdz⟩ := fb_neg hd
            obtain ⟨k1, hk1⟩ := HL.out.pos hd (HDR.out.nine.2 0)
            subst hk1
            obtain ⟨E1, E2⟩ := HL.out.eb
            have hk := pwTab_ge d
            have HFR := HF.out.below HBR.out.1 hBg
            obtain ⟨b, o, cap, hb, ht1, ht2⟩ := HFR.tab
            have HT2 := Aside0.mk ht2
            have HLR := HLC.out.below HBR.out.1 hBg
            have HSH := Aside0.mk (fun n => shiftL_calls g (pwTab d) z (wr.drewN n) B hBg HLR.drewN (HDR.out.drewN n) hk.1 (by omega) HL.out.lead (by have := HL.out.lo; omega) (by have := HL.out.hi; omega))
            have HNX : Aside0 (dg (lshD (pwTab d) z).D 0 ≤ 9 → ∃ j, k1 + 1 = j + 1 ∧ L2 x (lshD (pwTab d) z) (e - (pwTab d : Nat)) j) := ⟨fun h9 => by
              have := HL.out.next hd HDR.out.nine.1 (HDR.out.nine.2 0) (by rw [hdd, Int.toNat_natCast]; exact h9)
              rw [hdd, Int.toNat_natCast] at this
              exact this⟩
            rw [hdd, Int.toNat_natCast] at E1
            rw [hdd] at E2
            by_cases hneg : z.dp < 0
            · have c1 : (-(d : Int) < 0) = True := eq_true (by omega)
              have c1d : decide (-(d : Int) < 0) = true := decide_eq_true (by omega)
              have c1n : (0 < d) = True := eq_true (by omega)
              rw [hdz] at h801
              clear hd hdd hdz ht2 hk hneg HLR HFR hld
              go_upto_region 20 with fail
              go_quiet (fail)
              go_upto_if 88 with fail
              go_cut [9] (fun v9 wc => v9 = .int .i64 (pwTab d : Nat) ∧ ∃ n, wc = wr.drewN n)
              case first => as_aux_lemma =>
                have hbg : b < g := Nat.lt_of_lt_of_le hb hBg
                by_cases h9 : d < 9
                · obtain ⟨q1, q2, q3, q4, q5, q6⟩ := fb_d9 h9
                  rw [q6]
                  have hc := HT2.out d h9
                  clear h9
                  go_wp2
                  go_quiet (fail)
                  go_wp2
                  go_meet
                  case rel => exact ⟨rfl, _, World.drewN_drewN _ _ _⟩
                · obtain ⟨q1, q2, q6⟩ := fb_d9' h9
                  rw [q6]
                  have HPW := Aside0.mk (pwTab_hi (Nat.le_of_not_lt h9))
                  clear h9
                  go_wp2
                  go_meet
                  case rel => exact ⟨by rw [HPW.out]; rfl, _, rfl⟩
              case rest => as_aux_lemma =>
                obtain ⟨rfl, n, rfl⟩ := hcut
                have HC := Aside0.mk (HSH.out n)
                have HBR2 : Aside0 (Below g w (wr.drewN n) ∧ (wr.drewN n).heap.size = w.heap.size) := ⟨pw_below_drewN HBR.out.1 n, HBR.out.2⟩
                clear ht1 h801 HSH HT2 h0
                generalize wr.drewN n = w2 at HC HBR2 ⊢
                go_wp2_with (go_at_call 74; ((with_reducible refine (HC.out).mono ?_); rintro e w3 ⟨rfl, hd3, hb3, hs3⟩; have HD3 := Aside0.mk hd3; have HB3 := Aside0.mk hb3; have HS3 := Aside0.mk hs3; clear hd3 hb3 hs3))
                go_wp2
                go_roundg k1
                case measure => omega
                case rel =>
                  obtain ⟨j, hj, hn⟩ := HNX.out (HD3.out.nine.2 0)
                  obtain rfl : k1 = j := Nat.succ.inj hj
                  exact ⟨_, _, congrArg (Value.int .i64) E1, ⟨hn⟩, HD3, ⟨HBR2.out.1.trans HB3.out, HS3.out.trans HBR2.out.2⟩⟩
            · have hd0 : d = 0 := by omega
              subst hd0
              replace h801 : wr.cell? ⟨g, 801, none⟩ = some (.int .i64 0) := by rw [h801, hdz]; rfl
              obtain ⟨b1, b2⟩ := fb_ld (ld := ld) (by rw [hld]; rcases hd with h | h; exact absurd h hneg; exact h.2)
              have hc : wr.cell? ⟨b, o, none⟩ = some (.int .i64 1) := HT2.out 0 (by omega)
              have hbg : b < g := Nat.lt_of_lt_of_le hb hBg
              have HSH : Aside0 (∀ n, Calls Tryz.prog 74 #[.pointer (some ⟨g, 0, none⟩), .int .i64 1] (wr.drewN n) fun e w' => e = .returned (.tuple #[]) ∧ Dec w' g (lshD (pwTab 0) z) ∧ Below g w w' ∧ w'.heap.size = w.heap.size) := ⟨fun n => (HSH.out n).mono fun e w' h => ⟨h.1, h.2.1, (pw_below_drewN HBR.out.1 n).trans h.2.2.1, h.2.2.2.trans HBR.out.2⟩⟩
              clear hd hdd hdz ht2 hk hneg HLR HFR HT2 hld
              go_upto_region 20 with fail
              go_quiet (fail)
              go_wp2
              go_quiet (fail)
              go_wp2_with (go_at_call 74; ((with_reducible refine (HSH.out _).mono ?_); rintro e w3 ⟨rfl, hd3, hb3, hs3⟩; have HD3 := Aside0.mk hd3; have HB3 := Aside0.mk hb3; have HS3 := Aside0.mk hs3; clear hd3 hb3 hs3))
              go_wp2
              go_roundg k1
              case measure => omega
              case rel =>
                obtain ⟨j, hj, hn⟩ := HNX.out (HD3.out.nine.2 0)
                obtain rfl : k1 = j := Nat.succ.inj hj
                exact ⟨_, _, congrArg (Value.int .i64) E1, ⟨hn⟩, HD3, ⟨HB3.out, HS3.out⟩⟩
          · obtain hex | hex : 0 < z.dp ∨ (z.dp = 0 ∧ ¬ dg z.D 0 < 5) := by omega
            · have HL3 := Aside0.mk (HL.out.to3 hd)
              have c1 : (z.dp < 0) = False := eq_false (by omega)
              have c2 : (z.dp == 0) = false := beq_eq_false_iff_ne.2 (by omega)
              clear hld h0 hd hex
              go_wp2
              go_meet
              case rel => exact ⟨z, e, rfl, HL3, HDR, HBR⟩
            · have HL3 := Aside0.mk (HL.out.to3 hd)
              rw [hex.1] at h801
              obtain ⟨b1, b2⟩ := fb_ld' (ld := ld) (by rw [hld]; exact hex.2)
              clear hld hd hex
              go_wp2
              go_meet
              case rel => exact ⟨z, e, rfl, HL3, HDR, HBR⟩
      case rest => as_aux_lemma =>
        obtain ⟨z, e, rfl, HL3, HD3, HB3⟩ := hcut
        clear h801 c1
        generalize wc = w3 at HD3 HB3 ⊢
        have h52 := (HF.out.below HB3.out.1 hBg).bias
        have W1 := HL3.out.w
        go_upto_if 111 with fail
        rw [W1]
        go_cut [6] (fun v6 wc => v6 = .int .i64 (fbC x).2 ∧ Aside0 (L4 x) ∧ Aside0 (Dec wc g (fbC x).1) ∧ Aside0 (Below g w wc ∧ wc.heap.size = w.heap.size))
        case first => as_aux_lemma =>
          by_cases hlow : e - 1 < -1022
          · obtain ⟨n, e1, e2, e3, e4, e5, e6, e7, e8⟩ := HL3.out.low hlow
            have c1 : (e - 1 < -1022) = True := eq_true hlow
            rw [decide_eq_true hlow]
            have HC := Aside0.mk (shiftR_calls g n z w3 HD3.out e3 e4 HL3.out.lead (by have := HL3.out.lo; omega) (by have := HL3.out.hi; omega))
            rw [← e7] at HC
            have H8 := Aside0.mk e8
            have H6 := Aside0.mk e6
            clear hlow e1 e3 e6 e7 e8
            go_upto_region 28 with fail
            rw [e2]
            go_wp2_with (go_at_call 74; ((with_reducible refine (HC.out).mono ?_); rintro e w4 ⟨rfl, hd3, hb3, hs3⟩; have HD4 := Aside0.mk hd3; have HB4 := Aside0.mk hb3; have HS4 := Aside0.mk hs3; clear hd3 hb3 hs3))
            go_wp2
            go_meet
            case rel => exact ⟨congrArg (Value.int .i64) H6.out, H8, HD4, ⟨HB3.out.1.trans HB4.out, HS4.out.trans HB3.out.2⟩⟩
          · obtain ⟨e1, e2⟩ := HL3.out.same hlow
            rw [decide_eq_false hlow]
            have H1 := Aside0.mk e1
            have H2 := Aside0.mk e2
            clear hlow e1 e2
            go_wp2
            go_meet
            case rel => exact ⟨by rw [H1.out], H2, ⟨by rw [H1.out]; exact HD3.out⟩, HB3⟩
        case rest => as_aux_lemma =>
          obtain ⟨rfl, HL4, HD4, HB4⟩ := hcut
          clear W1 h52 HL3 HD3 HB3
          obtain ⟨e4, he4⟩ : ∃ e4, e4 = (fbC x).2 := ⟨_, rfl⟩
          have HE4 := Aside0.mk he4
          have HEB : Aside0 (e4 ≤ 27 * 621 ∧ -1022 ≤ e4) := ⟨by rw [he4]; exact ⟨HL4.out.e0, HL4.out.e1⟩⟩
          rw [← he4]
          clear he4
          obtain ⟨w5, hw5⟩ : ∃ w5, w5 = wc := ⟨_, rfl⟩
          rw [← hw5] at HD4 HB4 ⊢
          clear hw5
          have W2 := fb_w2 HEB.out
          obtain ⟨h50, h51, h52⟩ : w5.cell? ⟨5, 0, none⟩ = some (.int .u64 52) ∧ w5.cell? ⟨5, 1, none⟩ = some (.int .u64 11) ∧ w5.cell? ⟨5, 2, none⟩ = some (.int .i64 (-1023)) := by
            have hh := HF.out.below HB4.out.1 hBg
            exact ⟨hh.mant, hh.expo, hh.bias⟩
          have h802 : w5.cell? ⟨g, 802, none⟩ = some (.bool x.neg) := by rw [HD4.out.neg, HL4.out.ng]
          by_cases hover : 1024 ≤ e4
          · have HO := Aside0.mk (fb_out1 HLE.out HPB.out.1 HPB.out.2 (by rw [← HE4.out]; exact hover))
            have c1 : ((2047 : Int) ≤ e4 + 1023) = True := eq_true (by omega)
            have c1d : decide ((2047 : Int) ≤ e4 + 1023) = true := decide_eq_true (by omega)
            clear hover
            go_upto_region 30 with fail
            go_quiet (fail)
            cases hn : x.neg with
            | false =>
              rw [hn] at h802
              have HN := Aside0.mk hn
              clear hn
              go_wp2
              go_step3
              refine j1.out _ _ ?_
              clear j0 j1
              go_wp2
              go_quiet (fail)
              go_wp2
              go_step3
              go_wp2
              go_quiet (fail)
              go_wp2
              rw [Exit.noGoto_ret]
              refine bodyPost_ret (results_list (rs := [.tmp 4, .tmp 5]) rfl (by simp) (.tmp (.tmp .nil))) rfl ?_
              refine ⟨?_, (by (repeat apply pw_below_drewN); exact HB4.out.1), HB4.out.2⟩
              rw [HO.out, HN.out]
              rfl
            | true =>
              rw [hn] at h802
              have HN := Aside0.mk hn
              clear hn
              go_wp2
              go_step3
              refine j1.out _ _ ?_
              clear j0 j1
              go_wp2
              go_quiet (fail)
              go_wp2
              go_step3
              go_wp2
              go_quiet (fail)
              go_wp2
              go_quiet (fail)
              go_wp2
              rw [Exit.noGoto_ret]
              refine bodyPost_ret (results_list (rs := [.tmp 4, .tmp 5]) rfl (by simp) (.tmp (.tmp .nil))) rfl ?_
              refine ⟨?_, (by (repeat apply pw_below_drewN); exact HB4.out.1), HB4.out.2⟩
              rw [HO.out, HN.out]
              rfl
          · have c1 : ((2047 : Int) ≤ e4 + 1023) = False := eq_false (by omega)
            have c1d : decide ((2047 : Int) ≤ e4 + 1023) = false := decide_eq_false (by omega)
            have HOV := Aside0.mk hover
            have HSH : Aside0 (∀ n, Calls Tryz.prog 74 #[.pointer (some ⟨g, 0, none⟩), .int .i64 53] (w5.drewN n) fun e w' => e = .returned (.tuple #[]) ∧ Dec w' g (lshD 53 (fbC x).1) ∧ Below g w w' ∧ w'.heap.size = w.heap.size) := ⟨fun n => (shiftL_calls g 53 (fbC x).1 (w5.drewN n) B hBg (HLC.out.below HB4.out.1 hBg).drewN (HD4.out.drewN n) (by omega) (by omega) HL4.out.lead (by have := HL4.out.lo; omega) (by have := HL4.out.hi; omega)).mono fun e w' h => ⟨h.1, h.2.1, (pw_below_drewN HB4.out.1 n).trans h.2.2.1, h.2.2.2.trans HB4.out.2⟩⟩
            have HNG2 := Aside0.mk ((lsh_lead (k := 53) (x := (fbC x).1) (by omega) (by omega) HL4.out.lead HD4.out.nine.1).2.2.2.1.trans HL4.out.ng)
            clear hover
            go_upto_region 30 with fail
            go_quiet (fail)
            clear h802
            go_upto_region 31 with fail
            go_cut [] (fun wc => Aside0 (Dec wc g (lshD 53 (fbC x).1)) ∧ Aside0 (Below g w wc ∧ wc.heap.size = w.heap.size))
            case first => as_aux_lemma =>
              go_wp2_with (go_at_call 74; ((with_reducible refine (HSH.out _).mono ?_); rintro e w6 ⟨rfl, hd3, hb3, hs3⟩; have HD6 := Aside0.mk hd3; have HB6 : Aside0 (Below g w w6 ∧ w6.heap.size = w.heap.size) := ⟨hb3, hs3⟩; clear hd3 hb3 hs3))
              go_meet
              case rel => exact ⟨HD6, HB6⟩
            case rest => as_aux_lemma =>
              obtain ⟨HD6, HB6⟩ := hcut
              clear h50 h51 h52 HD4 HB4 HSH
              generalize wc = w6 at HD6 HB6 ⊢
              have h802 : w6.cell? ⟨g, 802, none⟩ = some (.bool x.neg) := by rw [HD6.out.neg, HNG2.out]
              obtain ⟨h50, h51, h52⟩ : w6.cell? ⟨5, 0, none⟩ = some (.int .u64 52) ∧ w6.cell? ⟨5, 1, none⟩ = some (.int .u64 11) ∧ w6.cell? ⟨5, 2, none⟩ = some (.int .i64 (-1023)) := by
                have hh := HF.out.below HB6.out.1 hBg
                exact ⟨hh.mant, hh.expo, hh.bias⟩
              obtain ⟨m, hm⟩ : ∃ m, m = riD (lshD 53 (fbC x).1) := ⟨_, rfl⟩
              have HRI : Aside0 (Calls Tryz.prog 75 #[.pointer (some ⟨g, 0, none⟩)] w6 fun e w' => e = .returned (.int .u64 (m : Nat)) ∧ w' = w6) := ⟨by rw [hm]; exact ri_calls g _ w6 HD6.out⟩
              have HM := Aside0.mk hm
              clear hm
              go_upto_region 33 with (go_at_call 75; ((with_reducible refine (HRI.out).mono ?_); rintro e w7 ⟨rfl, rfl⟩))
              clear HRI
              by_cases hbig : m = 9007199254740992
              · obtain ⟨e5, he5⟩ : ∃ e5, e5 = e4 + 1 := ⟨_, rfl⟩
                have W3 : wrap64 (e4 + 1) = e5 := by rw [he5]; exact fb_w3 HEB.out
                have W4 : wrap64 (e5 + 1023) = e5 + 1023 := by rw [he5]; exact fb_w4 HEB.out
                have hbit : (bits .and .u64 4503599627370496 4503599627370496 == 0) = false := by decide
                have HB5 := Aside0.mk (HM.out.symm.trans hbig)
                have HE5 := Aside0.mk he5
                have hmz : (m : Int) = 9007199254740992 := by rw [hbig]; rfl
                rw [hmz]
                clear hmz hbig he5
                by_cases hover2 : 1024 ≤ e5
                · have HO := Aside0.mk (fb_out2 HLE.out HPB.out.1 HPB.out.2 (by rw [← HE4.out]; exact Int.not_le.2 HOV.out) HB5.out (by rw [← HE4.out, ← HE5.out]; exact hover2))
                  have c2 : ((2047 : Int) ≤ e5 + 1023) = True := eq_true (by omega)
                  have c2d : decide ((2047 : Int) ≤ e5 + 1023) = true := decide_eq_true (by omega)
                  clear hover2
                  go_upto_region 36 with fail
                  rw [W3]
                  go_quiet (fail)
                  cases hn : x.neg with
                  | false =>
                    rw [hn] at h802
                    have HN := Aside0.mk hn
                    clear hn
                    go_wp2
                    go_step3
                    refine j1.out _ _ ?_
                    clear j0 j1
                    go_wp2
                    go_quiet (fail)
                    go_wp2
                    go_step3
                    go_wp2
                    go_quiet (fail)
                    go_wp2
                    rw [Exit.noGoto_ret]
                    refine bodyPost_ret (results_list (rs := [.tmp 4, .tmp 5]) rfl (by simp) (.tmp (.tmp .nil))) rfl ?_
                    refine ⟨?_, (by (repeat apply pw_below_drewN); exact HB6.out.1), HB6.out.2⟩
                    rw [HO.out, HN.out]
                    rfl
                  | true =>
                    rw [hn] at h802
                    have HN := Aside0.mk hn
                    clear hn
                    go_wp2
                    go_step3
                    refine j1.out _ _ ?_
                    clear j0 j1
                    go_wp2
                    go_quiet (fail)
                    go_wp2
                    go_step3
                    go_wp2
                    go_quiet (fail)
                    go_wp2
                    go_quiet (fail)
                    go_wp2
                    rw [Exit.noGoto_ret]
                    refine bodyPost_ret (results_list (rs := [.tmp 4, .tmp 5]) rfl (by simp) (.tmp (.tmp .nil))) rfl ?_
                    refine ⟨?_, (by (repeat apply pw_below_drewN); exact HB6.out.1), HB6.out.2⟩
                    rw [HO.out, HN.out]
                    rfl
                · have HO := Aside0.mk (fb_out3 HLE.out HPB.out.1 HPB.out.2 (by rw [← HE4.out]; exact Int.not_le.2 HOV.out) HB5.out (by rw [← HE4.out, ← HE5.out]; exact hover2))
                  rw [← HE4.out, ← HE5.out] at HO
                  have c2 : ((2047 : Int) ≤ e5 + 1023) = False := eq_false (by omega)
                  have c2d : decide ((2047 : Int) ≤ e5 + 1023) = false := decide_eq_false (by omega)
                  clear hover2
                  go_upto_region 36 with fail
                  rw [W3]
                  go_quiet (fail)
                  cases hn : x.neg with
                  | false =>
                    rw [hn] at h802
                    have HN := Aside0.mk hn
                    clear hn
                    go_wp2
                    go_step3
                    refine j0.out _ _ ?_
                    clear j0 j1
                    go_wp2
                    go_quiet (fail)
                    go_wp2
                    rw [Exit.noGoto_ret]
                    refine bodyPost_ret (results_list (rs := [.tmp 4, .tmp 5]) rfl (by simp) (.tmp (.tmp .nil))) rfl ?_
                    refine ⟨?_, (by (repeat apply pw_below_drewN); exact HB6.out.1), HB6.out.2⟩
                    rw [HO.out, HN.out]
                    rfl
                  | true =>
                    rw [hn] at h802
                    have HN := Aside0.mk hn
                    clear hn
                    go_wp2
                    go_step3
                    refine j0.out _ _ ?_
                    clear j0 j1
                    go_wp2
                    go_quiet (fail)
                    go_wp2
                    go_quiet (fail)
                    go_wp2
                    rw [Exit.noGoto_ret]
                    refine bodyPost_ret (results_list (rs := [.tmp 4, .tmp 5]) rfl (by simp) (.tmp (.tmp .nil))) rfl ?_
                    refine ⟨?_, (by (repeat apply pw_below_drewN); exact HB6.out.1), HB6.out.2⟩
                    rw [HO.out, HN.out]
                    rfl
              · have HO := Aside0.mk (fb_out4 HLE.out HPB.out.1 HPB.out.2 (by rw [← HE4.out]; exact Int.not_le.2 HOV.out) (by rw [← HM.out]; exact hbig))
                rw [← HE4.out, ← HM.out] at HO
                have c3 : ((m : Int) == 9007199254740992) = false := beq_eq_false_iff_ne.2 (fun e => hbig (by omega))
                clear hbig
                cases hbit : (bits .and .u64 (m : Int) 4503599627370496 == 0) with
                | true =>
                  have HBT := Aside0.mk hbit
                  cases hn : x.neg with
                  | false =>
                    rw [hn] at h802
                    have HN := Aside0.mk hn
                    clear hn
                    go_wp2
                    go_step3
                    refine j0.out _ _ ?_
                    clear j0 j1
                    go_wp2
                    go_quiet (fail)
                    go_wp2
                    rw [Exit.noGoto_ret]
                    refine bodyPost_ret (results_list (rs := [.tmp 4, .tmp 5]) rfl (by simp) (.tmp (.tmp .nil))) rfl ?_
                    refine ⟨?_, (by (repeat apply pw_below_drewN); exact HB6.out.1), HB6.out.2⟩
                    rw [HO.out, fbE, HBT.out, HN.out]
                    rfl
                  | true =>
                    rw [hn] at h802
                    have HN := Aside0.mk hn
                    clear hn
                    go_wp2
                    go_step3
                    refine j0.out _ _ ?_
                    clear j0 j1
                    go_wp2
                    go_quiet (fail)
                    go_wp2
                    go_quiet (fail)
                    go_wp2
                    rw [Exit.noGoto_ret]
                    refine bodyPost_ret (results_list (rs := [.tmp 4, .tmp 5]) rfl (by simp) (.tmp (.tmp .nil))) rfl ?_
                    refine ⟨?_, (by (repeat apply pw_below_drewN); exact HB6.out.1), HB6.out.2⟩
                    rw [HO.out, fbE, HBT.out, HN.out]
                    rfl
                | false =>
                  have HBT := Aside0.mk hbit
                  cases hn : x.neg with
                  | false =>
                    rw [hn] at h802
                    have HN := Aside0.mk hn
                    clear hn
                    go_wp2
                    go_step3
                    refine j0.out _ _ ?_
                    clear j0 j1
                    go_wp2
                    go_quiet (fail)
                    go_wp2
                    rw [Exit.noGoto_ret]
                    refine bodyPost_ret (results_list (rs := [.tmp 4, .tmp 5]) rfl (by simp) (.tmp (.tmp .nil))) rfl ?_
                    refine ⟨?_, (by (repeat apply pw_below_drewN); exact HB6.out.1), HB6.out.2⟩
                    rw [HO.out, fbE, HBT.out, HN.out]
                    rfl
                  | true =>
                    rw [hn] at h802
                    have HN := Aside0.mk hn
                    clear hn
                    go_wp2
                    go_step3
                    refine j0.out _ _ ?_
                    clear j0 j1
                    go_wp2
                    go_quiet (fail)
                    go_wp2
                    go_quiet (fail)
                    go_wp2
                    rw [Exit.noGoto_ret]
                    refine bodyPost_ret (results_list (rs := [.tmp 4, .tmp 5]) rfl (by simp) (.tmp (.tmp .nil))) rfl ?_
                    refine ⟨?_, (by (repeat apply pw_below_drewN); exact HB6.out.1), HB6.out.2⟩
                    rw [HO.out, fbE, HBT.out, HN.out]
                    rfl
end Go.Proofs.YtogikhohkbcccaaGreatDoor.De
