import Derived.Test.YtogikhohkbcccaaGreatDoorDe
import Derived.Laws.Bits64
import Derived.Laws.BitsAllLaws
namespace Go.Proofs.YtogikhohkbcccaaGreatDoor.De
set_option linter.unusedVariables false
set_option linter.unusedSimpArgs false
open Go.RowKit Go.Proofs.YtogikhohkbcccaaGreatDoorW.PrintWords Go.Proofs.YtogikhohkbcccaaGreatDoorW.PrintLast Go.Proofs.YtogikhohkbcccaaGreatDoorW.PrintMore

theorem pow_cast (k : Nat) : ((2 : Int) ^ k) = ((2 ^ k : Nat) : Int) := by simp
theorem shr_nat (n k : Nat) : (n : Int) / 2 ^ k = ((n / 2 ^ k : Nat) : Int) := by rw [pow_cast]; rfl
theorem shr_zero {n k : Nat} (h : n < 2 ^ k) : ((n : Int) / 2 ^ k == 0) = true := by
  rw [shr_nat, Nat.div_eq_of_lt h]; rfl
theorem shr_pos {n k : Nat} (h : 2 ^ k ≤ n) : ((n : Int) / 2 ^ k == 0) = false := by
  rw [shr_nat]
  have : 0 < n / 2 ^ k := Nat.div_pos h (Nat.pos_of_ne_zero (by simp))
  exact beq_eq_false_iff_ne.2 (by omega)
theorem pow60 {k : Nat} (hk : k ≤ 60) : 2 ^ k ≤ 1152921504606846976 := Nat.le_trans (Nat.pow_le_pow_right (by omega) hk) (by decide)
theorem eat {n d : Nat} (hn : n < 1152921504606846976) (hd : d ≤ 9) : IntKind.u64.wrap (IntKind.u64.wrap (IntKind.u64.wrap ((n : Int) * 10) + IntKind.u64.wrap ((d : Int) + 48)) - 48) = ((n * 10 + d : Nat) : Int) := by
  simp only [IntKind.wrap_u64]; omega
theorem eat0 {n : Nat} (hn : n < 1152921504606846976) : IntKind.u64.wrap ((n : Int) * 10) = ((n * 10 : Nat) : Int) := by
  simp only [IntKind.wrap_u64]; omega
theorem mask_is {k : Nat} (hk1 : 1 ≤ k) (hk : k ≤ 60) : IntKind.u64.wrap (IntKind.u64.wrap (2 ^ k) - 1) = ((2 ^ k - 1 : Nat) : Int) := by
  have h := pow60 hk
  have h1 : 1 ≤ 2 ^ k := Nat.one_le_pow _ _ (by omega)
  rw [pow_cast]
  simp only [IntKind.wrap_u64]; omega
theorem and_mask {k n : Nat} (hk : k ≤ 60) (hn : n < 18446744073709551616) : bits .and .u64 (n : Int) ((2 ^ k - 1 : Nat) : Int) = ((n % 2 ^ k : Nat) : Int) := by
  have h := pow60 hk
  rw [u64_and_nat n _ hn (by omega), Nat.and_two_pow_sub_one_eq_mod]
theorem put48' {n : Nat} (hn : n ≤ 9) : IntKind.u64.wrap ((n : Int) + 48) % 256 = (n : Int) + 48 := by
  simp only [IntKind.wrap_u64]; omega
theorem any_drop (f : Nat → Nat) : ∀ J, (((List.range J).map f).drop 800).any (· != 0) = (List.range J).any (fun i => decide (800 ≤ i) && f i != 0)
  | 0 => rfl
  | J + 1 => by
    rw [List.range_succ, List.map_append, List.drop_append, List.any_append, any_drop f J, List.any_append]
    congr 1
    rw [List.length_map, List.length_range]
    by_cases h : 800 ≤ J
    · rw [show 800 - J = 0 by omega]
      simp [h]
    · obtain ⟨q, hq⟩ : ∃ q, 800 - J = q + 1 := ⟨800 - J - 1, by omega⟩
      rw [hq]
      simp [h]
theorem dg_at {c : Nat → Value} {x : Dc} (h : Is c x) (i : Nat) (hi : i < x.D.length) : c i = .int .u8 ((dg x.D i : Int) + 48) := by
  unfold dg
  rw [List.getD_eq_getElem?_getD, List.getElem?_eq_getElem hi]; exact (h.dig i hi).1
theorem dg_end {D : List Nat} {i : Nat} (hi : D.length ≤ i) : dg D i = 0 := by unfold dg; rw [List.getD_eq_getElem?_getD, List.getElem?_eq_none hi]; rfl

set_option maxHeartbeats 4000000 in
set_option maxRecDepth 100000 in
theorem rightShift_calls (g k : Nat) (x : Dc) (w : World) (h : Dec w g x) (hk1 : 1 ≤ k) (hk : k ≤ 60) (hlead : 0 < dg x.D 0) (hp0 : -1000000000 ≤ x.dp) (hp1 : x.dp ≤ 1000000000) :
    Calls Tryz.prog 80 #[.pointer (some ⟨g, 0, none⟩), .int .u64 k] w fun e w' => e = .returned (.tuple #[]) ∧ Dec w' g (rshD k x) ∧ Below g w w' ∧ w'.heap.size = w.heap.size := by
  obtain ⟨c, hdb, his, hany⟩ := h
  have h9 : ∀ i, dg x.D i ≤ 9 := fun i => by
    unfold dg
    by_cases hi : i < x.D.length
    · rw [List.getD_eq_getElem?_getD, List.getElem?_eq_getElem hi]; exact (his.dig i hi).2
    · rw [List.getD_eq_getElem?_getD, List.getElem?_eq_none (by omega)]; exact Nat.zero_le _
  obtain ⟨r0, hr0⟩ : ∃ r0, r0 = rs0 x.D k := ⟨_, rfl⟩
  have H0 := Aside0.mk (rs0_is hk hlead)
  rw [← hr0] at H0
  have h61 : r0 ≤ 62 := H0.out.2.2.1
  have HD := Aside0.mk hdb
  have HI := Aside0.mk his
  have HA := Aside0.mk hany
  have HR0 := Aside0.mk hr0
  have H9 := Aside0.mk h9
  have h800 := hdb.cell 800 (by omega)
  rw [his.nd] at h800
  obtain ⟨N, hN⟩ : ∃ N, N = x.D.length := ⟨_, rfl⟩
  rw [← hN] at h800
  have hN8 : N ≤ 800 := by have := his.len; omega
  have HN := Aside0.mk hN
  clear hdb his hany hr0 hN h9
  have hk64 : (k : Int) < 64 := by omega
  go_enter Tryz.func80, Tryz.ntmps80
  go_upto_block 0 with fail
  go_cut [4, 6] (fun v4 v6 wc => v4 = .int .i64 (r0 : Nat) ∧ v6 = .int .u64 (num x.D r0) ∧ wc = w)
  case first =>
    go_wp2_with fail
    go_loop [4, 6] (fun v4 v6 => ∃ r, v4 = .int .i64 (r : Nat) ∧ v6 = .int .u64 (num x.D r) ∧ r ≤ r0) (fun v4 _ => r0 - (intOf v4).toNat)
    case atStart => exact ⟨0, rfl, rfl, Nat.zero_le _⟩
    case round =>
      obtain ⟨r, rfl, rfl, hr⟩ := hrel
      by_cases hlt : r < r0
      · have hnl := H0.out.2.2.2 r hlt
        have e1 := shr_zero hnl
        have HNL := Aside0.mk (Nat.lt_of_lt_of_le hnl (pow60 hk))
        clear hnl
        by_cases hrN : r < N
        · have hq1 : ((N : Int) ≤ (r : Int)) = False := eq_false (by omega)
          have hq2 : (N ≤ r) = False := eq_false (by omega)
          have p2 : ((0 : Int) ≤ (r : Int)) = True := eq_true (by omega)
          have p3 : ((r : Int) < 800) = True := eq_true (by omega)
          have hdc := HD.out.cell r (by omega)
          rw [dg_at HI.out r (by have := HN.out; omega)] at hdc
          go_wp2
          go_round
          case rel => exact ⟨r + 1, by go_num, by rw [eat HNL.out (H9.out r), num], by omega⟩
          case measure => simp [intOf]; omega
        · have hq1 : ((N : Int) ≤ (r : Int)) = True := eq_true (by omega)
          have hq2 : (N ≤ r) = True := eq_true (by omega)
          have HN0 : Aside0 (∀ q, N ≤ q → 1 ≤ num x.D q) := ⟨fun q hq => by
            have hl : 0 < N := by
              refine Nat.pos_of_ne_zero fun e => ?_
              have := dg_end (D := x.D) (i := 0) (by have := HN.out; omega)
              omega
            obtain ⟨q', rfl⟩ : ∃ q', q = q' + 1 := ⟨q - 1, by omega⟩
            have := num_ge hlead q'
            have h1 : 1 ≤ 10 ^ q' := Nat.one_le_pow _ _ (by omega)
            omega⟩
          have hnz : ((num x.D r : Int) == 0) = false := beq_eq_false_iff_ne.2 (by have := HN0.out r (by omega); omega)
          have hnz2 : (num x.D r == 0) = false := beq_eq_false_iff_ne.2 (by have := HN0.out r (by omega); omega)
          have hnz3 : (num x.D r = 0) = False := eq_false (by have := HN0.out r (by omega); omega)
          have hnz4 : ((num x.D r : Int) = 0) = False := eq_false (by have := HN0.out r (by omega); omega)
          clear HNL
          go_wp2
          go_loop [4, 6] (fun v4 v6 => ∃ q, v4 = .int .i64 (q : Nat) ∧ v6 = .int .u64 (num x.D q) ∧ N ≤ q ∧ q ≤ r0) (fun v4 _ => r0 - (intOf v4).toNat)
          case atStart => exact ⟨r, rfl, rfl, by omega, hr⟩
          case round =>
            obtain ⟨q, rfl, rfl, hq, hqr⟩ := hrel
            by_cases hlq : q < r0
            · have hnl := H0.out.2.2.2 q hlq
              have e1 := shr_zero hnl
              have HNL := Aside0.mk (Nat.lt_of_lt_of_le hnl (pow60 hk))
              clear hnl
              go_wp2
              go_round
              case rel => exact ⟨q + 1, by go_num, by rw [eat0 HNL.out, num, dg_end (by have := HN.out; omega)]; rfl, by omega, by omega⟩
              case measure => simp [intOf]; omega
            · obtain rfl : q = r0 := by omega
              have e1 := shr_pos H0.out.1
              go_wp2
              go_meet
              case rel => exact ⟨rfl, rfl, rfl⟩
      · obtain rfl : r = r0 := by omega
        have e1 := shr_pos H0.out.1
        go_wp2
        go_meet
        case rel => exact ⟨rfl, rfl, rfl⟩
  case rest =>
    obtain ⟨rfl, rfl, rfl⟩ := hcut
    have h801 := HD.out.cell 801 (by omega)
    rw [HI.out.dp] at h801
    have hf801 := HD.out.frozen 801
    have HL := Aside0.mk (fun j => rsn_lt (D := x.D) (k := k) hk hlead H9.out j)
    rw [← HR0.out] at HL
    have HJ := Aside0.mk (rsJ_is (D := x.D) (k := k) (r0 := r0))
    obtain ⟨J, hJ⟩ : ∃ J, J = rsJ x.D k r0 := ⟨_, rfl⟩
    rw [← hJ] at HJ
    have HJD := Aside0.mk hJ
    clear hJ
    have HP := Aside0.mk (pow60 hk)
    go_upto_block 4 with fail
    rw [mask_is hk1 hk]
    obtain ⟨dq, hdq⟩ : ∃ dq, dq = x.dp - ((r0 : Int) - 1) := ⟨_, rfl⟩
    rw [← hdq]
    have HD1 := Aside0.mk (HD.out.set 801 (by omega) (.int .i64 dq))
    have HB1 : Aside0 (Below g wc (wc.setCell ⟨g, 801, none⟩ (.int .i64 dq)) ∧ (wc.setCell ⟨g, 801, none⟩ (.int .i64 dq)).heap.size = wc.heap.size) := ⟨(Below.refl g wc).setCell (Nat.le_refl _) _, size_set _ _ _⟩
    have HDQ := Aside0.mk hdq
    clear hdq h801 hf801 h800
    generalize (wc.setCell ⟨g, 801, none⟩ (.int .i64 dq)) = w1 at HD1 HB1 ⊢
    go_wp2
    go_loopw [4, 5, 6] (fun v4 v5 v6 wr => ∃ (j : Nat) (c' : Nat → Value), v4 = .int .i64 ((r0 + j : Nat) : Int) ∧ v5 = .int .i64 (j : Nat) ∧ v6 = .int .u64 (rsn x.D k r0 j) ∧ (j = 0 ∨ r0 + j ≤ N) ∧ Aside0 (DB wr g c') ∧ Aside0 ((∀ i, i < j → c' i = .int .u8 ((rsn x.D k r0 i / 2 ^ k : Nat) + 48)) ∧ (∀ i, j ≤ i → i < 804 → i ≠ 801 → c' i = c i) ∧ c' 801 = .int .i64 dq) ∧ Aside0 (Below g wc wr ∧ wr.heap.size = wc.heap.size)) (fun v4 _ _ _ => N - (intOf v4).toNat)
    case atStart => exact ⟨0, _, rfl, rfl, rfl, .inl rfl, HD1, ⟨fun i hi => by omega, fun i _ _ hn => upd_other _ _ hn, upd_same _ _ _⟩, HB1⟩
    case round =>
      obtain ⟨j, c', rfl, rfl, rfl, hj, HDR, HF, HBR⟩ := hrel
      have h800 := HDR.out.cell 800 (by omega)
      rw [HF.out.2.1 800 (by omega) (by omega) (by omega), HI.out.nd, ← HN.out] at h800
      obtain ⟨nn, hnn⟩ : ∃ nn, nn = rsn x.D k r0 j := ⟨_, rfl⟩
      have hnl := HL.out j
      rw [← hnn] at hnl ⊢
      have HNL := Aside0.mk hnl
      have HNQ := Aside0.mk hnn
      clear hnl hnn
      by_cases hlt : r0 + j < N
      · have hj8 : j < 800 := by omega
        have e1 := and_mask (n := nn) hk (by have := HNL.out; have := HP.out; omega)
        have hq1 : (((r0 + j : Nat) : Int) < (N : Int)) = True := eq_true (by omega)
        have p2 : ((0 : Int) ≤ ((r0 + j : Nat) : Int)) = True := eq_true (by omega)
        have p3 : (((r0 + j : Nat) : Int) < 800) = True := eq_true (by omega)
        have p4 : ((0 : Int) ≤ (j : Int)) = True := eq_true (by omega)
        have p5 : ((j : Int) < 800) = True := eq_true (by omega)
        have hdc := HDR.out.cell (r0 + j) (by omega)
        rw [HF.out.2.1 (r0 + j) (by omega) (by omega) (by omega), dg_at HI.out (r0 + j) (by have := HN.out; omega)] at hdc
        have hfj := HDR.out.frozen j
        have hcj := HDR.out.cell j (by omega)
        have hdig : nn / 2 ^ k ≤ 9 := by
          have := HNL.out
          have := Nat.div_lt_of_lt_mul (show nn < 2 ^ k * 10 by omega)
          omega
        have hm : nn % 2 ^ k < 1152921504606846976 := Nat.lt_of_lt_of_le (Nat.mod_lt _ (Nat.pos_of_ne_zero (by simp))) HP.out
        have h10 : 1 ≤ r0 := H0.out.2.1
        have HDG := Aside0.mk hdig
        have HMM := Aside0.mk hm
        clear hdig hm
        go_wp2
        refine ⟨⟨j + 1, upd c' j (.int .u8 ((nn / 2 ^ k : Nat) + 48)), by go_num, by go_num, ?_, .inr (by omega), ⟨?_⟩, ⟨fun i hi => ?_, fun i h1 h2 h3 => ?_, ?_⟩, ⟨HBR.out.1.setCell (Nat.le_refl _) _, by rw [size_set]; exact HBR.out.2⟩⟩, ?_⟩
        · have e := eat HMM.out (H9.out (r0 + j))
          rw [rsn, ← HNQ.out, ← e]
          rfl
        · have e : IntKind.u64.wrap ((nn : Int) / 2 ^ k + 48) % 256 = ((nn / 2 ^ k : Nat) : Int) + 48 := by rw [shr_nat]; exact put48' HDG.out
          rw [e]
          exact HDR.out.set j (by omega) _
        · by_cases hij : i = j
          · subst hij; rw [upd_same, HNQ.out]
          · rw [upd_other _ _ hij]; exact HF.out.1 i (by omega)
        · rw [upd_other _ _ (by omega)]; exact HF.out.2.1 i (by omega) h2 h3
        · rw [upd_other _ _ (by omega)]; exact HF.out.2.2
        · simp [intOf]; omega
      · have hq1 : (((r0 + j : Nat) : Int) < (N : Int)) = False := eq_false (by omega)
        have hJJ : j ≤ J := by have := HJ.out.1; have := HN.out; omega
        have HJJ := Aside0.mk hJJ
        have HLT := Aside0.mk hlt
        have hj8 : j ≤ 800 := by omega
        have HA2 : Aside0 (∀ i, i < 800 → ∃ n : Int, c' i = .int .u8 n) := ⟨fun i hi => by
          by_cases hij : i < j
          · exact ⟨_, HF.out.1 i hij⟩
          · rw [HF.out.2.1 i (by omega) (by omega) (by omega)]; exact HA.out i hi⟩
        have hv5 : (j : Int) = ((min j 800 : Nat) : Int) := by omega
        have HV5 := Aside0.mk hv5
        have HTR0 : Aside0 ((List.range j).any (fun i => decide (800 ≤ i) && rsn x.D k r0 i / 2 ^ k != 0) = false) := ⟨by
          rw [List.any_eq_false]
          intro i hi
          have : i < j := List.mem_range.1 hi
          simp; intro h; omega⟩
        clear hJJ hv5 hj
        go_wp2
        obtain rfl := HNQ.out
        go_loopg [5, 6] (J - j) (fun kq v5 v6 wr => ∃ (q : Nat) (c2 : Nat → Value), kq = J - q ∧ v5 = .int .i64 ((min q 800 : Nat) : Int) ∧ v6 = .int .u64 (rsn x.D k r0 q) ∧ q ≤ J ∧ N ≤ r0 + q ∧ Aside0 (DB wr g c2) ∧ Aside0 ((∀ i, i < min q 800 → c2 i = .int .u8 ((rsn x.D k r0 i / 2 ^ k : Nat) + 48)) ∧ c2 801 = .int .i64 dq ∧ c2 802 = .bool x.neg ∧ c2 803 = .bool (x.tr || (List.range q).any (fun i => decide (800 ≤ i) && rsn x.D k r0 i / 2 ^ k != 0)) ∧ ∀ i, i < 800 → ∃ n : Int, c2 i = .int .u8 n) ∧ Aside0 (Below g wc wr ∧ wr.heap.size = wc.heap.size))
        case atStart => exact ⟨j, c', rfl, by rw [HV5.out], rfl, HJJ.out, by omega, HDR, ⟨fun i hi => HF.out.1 i (by omega), HF.out.2.2, (HF.out.2.1 802 (by omega) (by omega) (by omega)).trans HI.out.neg, by rw [HTR0.out, Bool.or_false]; exact (HF.out.2.1 803 (by omega) (by omega) (by omega)).trans HI.out.tr, HA2.out⟩, HBR⟩
        case round =>
          clear h800
          obtain ⟨q, c2, hkq, rfl, rfl, hq, hqN, HD2, HF2, HB2⟩ := hrel
          obtain ⟨nn, hnn⟩ : ∃ nn, nn = rsn x.D k r0 q := ⟨_, rfl⟩
          have hnl := HL.out q
          rw [← hnn] at hnl ⊢
          have HNL := Aside0.mk hnl
          have HNQ := Aside0.mk hnn
          clear hnl hnn
          have HKQ := Aside0.mk hkq
          clear hkq
          by_cases hz : nn = 0
          · have hz1 : ((0 : Int) < (nn : Int)) = False := eq_false (by omega)
            have hz2 : (0 < nn) = False := eq_false (by omega)
            obtain ⟨u, hu⟩ : ∃ u, u = min q 800 := ⟨_, rfl⟩
            have HQ : Aside0 (q = J) := ⟨by
              refine Classical.byContradiction fun h => HJ.out.2.2 q (by omega) (by have := HN.out; omega) ?_
              rw [← HNQ.out]; exact hz⟩
            rw [← hu]
            have HU := Aside0.mk hu
            have hf800 := HD2.out.frozen 800
            have hc800 := HD2.out.cell 800 (by omega)
            have HY : Aside0 (Dec (wr.setCell ⟨g, 800, none⟩ (.int .i64 (u : Int))) g ⟨(rsOut x.D k).take 800, dq, x.neg, x.tr || ((rsOut x.D k).drop 800).any (· != 0)⟩) := ⟨by
              have hlen : (rsOut x.D k).length = J := by unfold rsOut; rw [List.length_map, List.length_range, ← HR0.out, HJD.out]
              have hlt8 : ((rsOut x.D k).take 800).length = u := by rw [List.length_take, hlen, HU.out, HQ.out]; omega
              refine ⟨_, HD2.out.set 800 (by omega) _, ⟨by show ((rsOut x.D k).take 800).length ≤ 800; rw [List.length_take]; omega, fun i hi => ?_, ?_, ?_, ?_, ?_⟩, fun i hi => ?_⟩
              · have hi2 : i < u := by rw [hlt8] at hi; exact hi
                have hu8 := HU.out
                rw [upd_other _ _ (by omega), HF2.out.1 i (by rw [← hu8]; exact hi2)]
                have e : ((rsOut x.D k).take 800)[i]'hi = rsn x.D k r0 i / 2 ^ k := by
                  rw [List.getElem_take]
                  unfold rsOut
                  rw [List.getElem_map, List.getElem_range, ← HR0.out]
                refine ⟨by rw [e], ?_⟩
                rw [e]
                have := HL.out i
                have := Nat.div_lt_of_lt_mul (show rsn x.D k r0 i < 2 ^ k * 10 by omega)
                omega
              · rw [upd_same, hlt8]
              · rw [upd_other _ _ (by omega)]; exact HF2.out.2.1
              · rw [upd_other _ _ (by omega)]; exact HF2.out.2.2.1
              · rw [upd_other _ _ (by omega), HF2.out.2.2.2.1]
                unfold rsOut
                rw [any_drop, ← HR0.out, ← HJD.out, HQ.out]
              · rw [upd_other _ _ (by omega)]; exact HF2.out.2.2.2.2 i hi⟩
            have HBY : Aside0 (Below g wc (wr.setCell ⟨g, 800, none⟩ (.int .i64 (u : Int))) ∧ (wr.setCell ⟨g, 800, none⟩ (.int .i64 (u : Int))).heap.size = wc.heap.size) := ⟨HB2.out.1.setCell (Nat.le_refl _) _, by rw [size_set]; exact HB2.out.2⟩
            clear hu hz
            go_wp2_with (go_at_call 87; ((with_reducible refine (trim_calls g _ _ HY.out).mono ?_); rintro e w3 ⟨rfl, hd3, hb3, hs3⟩; have HD3 := Aside0.mk hd3; have HB3 := Aside0.mk hb3; have HS3 := Aside0.mk hs3; clear hd3 hb3 hs3))
            go_wp2
            go_end0
            refine ⟨rfl, ?_, (HBY.out.1.trans HB3.out), by rw [HS3.out]; exact HBY.out.2⟩
            have e : rshD k x = trimD ⟨(rsOut x.D k).take 800, dq, x.neg, x.tr || ((rsOut x.D k).drop 800).any (· != 0)⟩ := by
              unfold rshD; rw [HDQ.out, HR0.out]
            rw [e]
            exact HD3.out
          · have hz1 : ((0 : Int) < (nn : Int)) = True := eq_true (by omega)
            have hz2 : (0 < nn) = True := eq_true (by omega)
            have HZ := Aside0.mk hz
            have e1 := and_mask (n := nn) hk (by have := HNL.out; have := HP.out; omega)
            have hqJ : q < J := by
              refine Nat.lt_of_le_of_ne hq fun h => hz ?_
              rw [HNQ.out, h]; exact HJ.out.2.1
            obtain ⟨k9, hk9⟩ : ∃ k9, gk = k9 + 1 := ⟨gk - 1, by have := HKQ.out; omega⟩
            subst hk9
            have hdig : nn / 2 ^ k ≤ 9 := by
              have := HNL.out
              have := Nat.div_lt_of_lt_mul (show nn < 2 ^ k * 10 by omega)
              omega
            have hm : nn % 2 ^ k < 1152921504606846976 := Nat.lt_of_lt_of_le (Nat.mod_lt _ (Nat.pos_of_ne_zero (by simp))) HP.out
            have HDG := Aside0.mk hdig
            have HMM := Aside0.mk hm
            have HNX : Aside0 (IntKind.u64.wrap ((nn : Int) % 2 ^ k * 10) = ((rsn x.D k r0 (q + 1) : Nat) : Int)) := ⟨by
              rw [pow_cast, ← Int.natCast_emod, eat0 hm, rsn, dg_end (by have := HN.out; omega), ← HNQ.out]; rfl⟩
            have HSH : Aside0 ((nn : Int) / 2 ^ k = ((nn / 2 ^ k : Nat) : Int)) := ⟨shr_nat _ _⟩
            have HQJ := Aside0.mk hqJ
            clear hdig hm hqJ hz
            by_cases h8 : q < 800
            · have hmq : min q 800 = q := by omega
              rw [hmq] at HF2 ⊢
              have p5 : ((q : Int) < 800) = True := eq_true (by omega)
              have p4 : ((0 : Int) ≤ (q : Int)) = True := eq_true (by omega)
              have hfj := HD2.out.frozen q
              have hcj := HD2.out.cell q (by omega)
              clear hmq
              go_wp2
              go_roundg k9
              case measure => omega
              case rel =>
                refine ⟨q + 1, upd c2 q (.int .u8 ((nn / 2 ^ k : Nat) + 48)), by have := HKQ.out; omega, ?_, by rw [HNX.out], HQJ.out, by omega, ⟨?_⟩, ⟨fun i hi => ?_, ?_, ?_, ?_, fun i hi => ?_⟩, ⟨HB2.out.1.setCell (Nat.le_refl _) _, by rw [size_set]; exact HB2.out.2⟩⟩
                · have e : ((min (q + 1) 800 : Nat) : Int) = (q : Int) + 1 := by omega
                  rw [e]
                · rw [HSH.out, put48' HDG.out]; exact HD2.out.set q (by omega) _
                · by_cases hiq : i = q
                  · subst hiq; rw [upd_same, HNQ.out]
                  · rw [upd_other _ _ hiq]; exact HF2.out.1 i (by omega)
                · rw [upd_other _ _ (by omega)]; exact HF2.out.2.1
                · rw [upd_other _ _ (by omega)]; exact HF2.out.2.2.1
                · rw [upd_other _ _ (by omega), HF2.out.2.2.2.1, List.range_succ, List.any_append]
                  have e : (decide (800 ≤ q) && rsn x.D k r0 q / 2 ^ k != 0) = false := by simp; intro h; omega
                  simp only [List.any_cons, List.any_nil, e, Bool.or_false]
                · by_cases hiq : i = q
                  · exact ⟨_, by subst hiq; exact upd_same _ _ _⟩
                  · rw [upd_other _ _ hiq]; exact HF2.out.2.2.2.2 i hi
            · have hmq : min q 800 = 800 := by omega
              rw [hmq] at HF2 ⊢
              have hmq1 : min (q + 1) 800 = 800 := by omega
              have HQ1 := Aside0.mk hmq1
              have h803 := HD2.out.cell 803 (by omega)
              have hf803 := HD2.out.frozen 803
              clear hmq hmq1
              by_cases hd : nn / 2 ^ k = 0
              · have g1 : ((0 : Int) < (nn : Int) / 2 ^ k) = False := eq_false (by rw [HSH.out, hd]; simp)
                have HE : Aside0 ((decide (800 ≤ q) && rsn x.D k r0 q / 2 ^ k != 0) = false) := ⟨by rw [← HNQ.out, hd]; simp⟩
                clear hd
                go_wp2
                go_roundg k9
                case measure => omega
                case rel =>
                  refine ⟨q + 1, c2, by have := HKQ.out; omega, by rw [HQ1.out]; rfl, by rw [HNX.out], HQJ.out, by omega, HD2, ⟨fun i hi => HF2.out.1 i (by rw [HQ1.out] at hi; exact hi), HF2.out.2.1, HF2.out.2.2.1, ?_, HF2.out.2.2.2.2⟩, HB2⟩
                  rw [HF2.out.2.2.2.1, List.range_succ, List.any_append]
                  simp only [List.any_cons, List.any_nil, HE.out, Bool.or_false]
              · have g1 : ((0 : Int) < (nn : Int) / 2 ^ k) = True := eq_true (by rw [HSH.out]; exact Int.natCast_pos.2 (Nat.pos_of_ne_zero hd))
                have HE : Aside0 ((decide (800 ≤ q) && rsn x.D k r0 q / 2 ^ k != 0) = true) := ⟨by rw [← HNQ.out]; simp only [Bool.and_eq_true, decide_eq_true_eq, bne_iff_ne]; exact ⟨by omega, hd⟩⟩
                clear hd
                go_wp2
                go_roundg k9
                case measure => omega
                case rel =>
                  refine ⟨q + 1, upd c2 803 (.bool true), by have := HKQ.out; omega, by rw [HQ1.out]; rfl, by rw [HNX.out], HQJ.out, by omega, ⟨HD2.out.set 803 (by omega) _⟩, ⟨fun i hi => ?_, ?_, ?_, ?_, fun i hi => ?_⟩, ⟨HB2.out.1.setCell (Nat.le_refl _) _, by rw [size_set]; exact HB2.out.2⟩⟩
                  · rw [HQ1.out] at hi
                    rw [upd_other _ _ (by omega)]; exact HF2.out.1 i hi
                  · rw [upd_other _ _ (by omega)]; exact HF2.out.2.1
                  · rw [upd_other _ _ (by omega)]; exact HF2.out.2.2.1
                  · rw [upd_same, List.range_succ, List.any_append]
                    simp only [List.any_cons, List.any_nil, HE.out, Bool.or_true, Bool.or_false, Bool.true_or]
                  · rw [upd_other _ _ (by omega)]; exact HF2.out.2.2.2.2 i hi
end Go.Proofs.YtogikhohkbcccaaGreatDoor.De
