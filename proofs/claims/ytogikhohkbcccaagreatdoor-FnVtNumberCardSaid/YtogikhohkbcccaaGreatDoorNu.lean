import Derived.Test.YtogikhohkbcccaaGreatDoorNg
import Derived.Test.YtogikhohkbcccaaGreatDoorP3
import Derived.BigQuiet
namespace Go.Proofs.YtogikhohkbcccaaGreatDoor.De
set_option linter.unusedVariables false
set_option linter.unusedSimpArgs false
open Go.RowKit Go.Proofs.YtogikhohkbcccaaGreatDoorW.PrintWords Go.Proofs.YtogikhohkbcccaaGreatDoorW.PrintLast Go.Proofs.YtogikhohkbcccaaGreatDoorW.PrintMore

set_option maxHeartbeats 8000000 in
set_option maxRecDepth 100000 in
theorem nt_calls (s : ByteArray) (h0 : 0 < s.size) (hs : s.size ≤ 400) (w : World) : Calls Tryz.prog 4 #[.string s] w (NQ s w) := by
  obtain ⟨c, hc⟩ : ∃ c, c = bt s 0 := ⟨_, rfl⟩
  have hx : ∀ h : 0 < s.size, ((s[0]'h).toNat : Int) = c := pu_hx (i := 0) hc
  have HC := Aside0.mk hc
  have q1 : (0 < s.size) = True := eq_true h0
  have q2 : (0 < (s.size : Int)) = True := eq_true (by omega)
  have HS := Aside0.mk hs
  have H0 := Aside0.mk h0
  have HKW : Aside0 (KW w w.heap.size s 0 ((w.alloc (Obj.cells #[.string s] 9)).alloc (Obj.cells #[.int .i64 0] 3))) := ⟨kw_start w s⟩
  clear hc h0 hs
  go_enter Tryz.func4, Tryz.ntmps4
  go_upto_region 2 with fail
  go_cut [5] (fun v5 wc => v5 = .bool (sgB s) ∧ Aside0 (KW w w.heap.size s 0 wc))
  case first => as_aux_lemma =>
    by_cases h43 : c = 43
    · have b1 : (c == 43) = true := beq_iff_eq.2 h43
      have HB : Aside0 (sgB s = true) := ⟨decide_eq_true (.inl (HC.out.symm.trans h43))⟩
      clear h43
      go_wp2
      go_meet
      case rel => exact ⟨by rw [HB.out], HKW⟩
    · have b1 : (c == 43) = false := beq_eq_false_iff_ne.2 h43
      by_cases h45 : c = 45
      · have b2 : (c == 45) = true := beq_iff_eq.2 h45
        have HB : Aside0 (sgB s = true) := ⟨decide_eq_true (.inr (HC.out.symm.trans h45))⟩
        clear h43 h45
        go_wp2
        go_meet
        case rel => exact ⟨by rw [HB.out], HKW⟩
      · have b2 : (c == 45) = false := beq_eq_false_iff_ne.2 h45
        have HB : Aside0 (sgB s = false) := ⟨decide_eq_false (by rw [← HC.out]; rintro (h | h); exact h43 h; exact h45 h)⟩
        clear h43 h45
        go_wp2
        go_meet
        case rel => exact ⟨by rw [HB.out], HKW⟩
  case rest => as_aux_lemma =>
    obtain ⟨rfl, HKW⟩ := hcut
    clear q1 q2 hx HC
    obtain ⟨sg, hsg⟩ : ∃ sg, sg = sgB s := ⟨_, rfl⟩
    have HSG := Aside0.mk hsg
    obtain ⟨p, hp⟩ : ∃ p, p = sgP s := ⟨_, rfl⟩
    have HP := Aside0.mk hp
    have hP1 : (sg = true → p = 1) ∧ (sg = false → p = 0) := by
      rw [hp, hsg]; unfold sgP sgB
      constructor
      · intro h; rw [if_pos (of_decide_eq_true h)]
      · intro h; rw [if_neg (of_decide_eq_false h)]
    have HP1 := Aside0.mk hP1
    rw [← hsg]
    clear hsg hp hP1
    have hkc := HKW.out.kcell
    have hfr := HKW.out.kfree
    generalize wc = w1 at HKW hkc hfr ⊢
    go_upto_if 20 with fail
    go_cut [20] (fun _ wc => Aside0 (KW w w.heap.size s p wc))
    case first => as_aux_lemma =>
      cases sg with
      | true =>
        have HPE : Aside0 (p = 1) := ⟨HP1.out.1 rfl⟩
        clear HP1
        go_wp2
        go_meet
        case rel => exact ⟨by rw [HPE.out]; exact HKW.out.set 1⟩
      | false =>
        have HPE : Aside0 (p = 0) := ⟨HP1.out.2 rfl⟩
        clear HP1
        go_wp2
        go_meet
        case rel => exact ⟨by rw [HPE.out]; exact HKW.out⟩
    case rest => as_aux_lemma =>
      have HKW := hcut
      clear HKW hkc hfr
      have HKW := hcut
      clear hcut
      have hkc := HKW.out.kcell
      have hfr := HKW.out.kfree
      have hsc := HKW.out.scell
      have HGB : Aside0 (GB s 0 p) := ⟨by rw [HP.out]; exact GB.front s⟩
      generalize wc = w2 at HKW hkc hfr hsc ⊢
      by_cases hz : p < s.size ∧ bt s (p : Int) = 48
      · obtain ⟨hpl, h48⟩ := hz
        have cp1 : ((p : Int) < (s.size : Int)) = True := eq_true (by omega)
        have cp2 : (p < s.size) = True := eq_true (by omega)
        have cp3 : ((0 : Int) ≤ (p : Int)) = True := eq_true (by omega)

        have hxp : ∀ h : p < s.size, ((s[p]'h).toNat : Int) = 48 := pu_hx h48.symm
        have HPZ := Aside0.mk (And.intro hpl h48)
        obtain ⟨q, hq⟩ : ∃ q, q = p + 1 := ⟨_, rfl⟩
        have W1 : wrap64 ((p : Int) + 1) = (q : Int) := nu_succ hq hpl HS.out
        have HQ := Aside0.mk hq
        have HGQ : Aside0 (GB s 0 q) := ⟨by rw [hq]; exact HGB.out.one (by rw [h48]; exact good_48)⟩
        have HQL : Aside0 (q ≤ s.size) := ⟨by omega⟩
        clear hpl h48 hq
        go_upto_block 0 with fail
        have HKW3 := Aside0.mk (HKW.out.set q)
        clear hkc hsc hfr
        generalize World.setCell w2 _ _ = w3 at HKW3 ⊢
        clear HKW W1 cp1 cp2 cp3 hxp
        have HKW := HKW3
        clear HKW3
        have hkc := HKW.out.kcell
        have hfr := HKW.out.kfree
        have hsc := HKW.out.scell
        go_cut [36] (fun _ wc => w3 = wc)
        case first => as_aux_lemma =>
          by_cases hql : q < s.size
          · have cq1 : ((q : Int) < (s.size : Int)) = True := eq_true (by omega)
            have cq2 : (q < s.size) = True := eq_true (by omega)
            have cq3 : ((0 : Int) ≤ (q : Int)) = True := eq_true (by omega)
            obtain ⟨d, hd⟩ : ∃ d, d = bt s (q : Int) := ⟨_, rfl⟩
            have hxq : ∀ h : q < s.size, ((s[q]'h).toNat : Int) = d := pu_hx hd
            have HD := Aside0.mk hd
            have HQ1 := Aside0.mk hql
            obtain ⟨r, hr⟩ : ∃ r, r = q + 1 := ⟨_, rfl⟩
            have W1 : wrap64 ((q : Int) + 1) = (r : Int) := nu_succ hr hql HS.out
            have HR := Aside0.mk hr
            have HRL : Aside0 (r ≤ s.size) := ⟨by omega⟩
            clear hd hql hr
            by_cases hd120 : d = 120
            · have b1 : (d == 120) = true := beq_iff_eq.2 hd120
              have HGR : Aside0 (GB s 0 r) := ⟨by rw [HR.out]; exact HGQ.out.one (by rw [← HD.out, hd120]; exact good_120)⟩
              have HD120 := Aside0.mk hd120
              clear hd120
              go_upto_block 1 with fail
              have HKW4 := Aside0.mk (HKW.out.set r)
              clear hkc hsc hfr W1
              generalize World.setCell w3 _ _ = w5 at HKW4 ⊢
              clear HKW
              have hkc := HKW4.out.kcell
              have hfr := HKW4.out.kfree
              have hsc := HKW4.out.scell
              go_cut [50] (fun _ wc => ∃ j : Nat, r ≤ j ∧ j ≤ s.size ∧ Aside0 (KW w w.heap.size s j wc) ∧ Aside0 (GB s 0 j ∧ NS s r j))
              case first => as_aux_lemma =>
                go_wp2_with fail
                go_loopw [61] (fun _ wr => ∃ j : Nat, r ≤ j ∧ j ≤ s.size ∧ Aside0 (KW w w.heap.size s j wr) ∧ Aside0 (GB s 0 j ∧ NS s r j)) (fun _ wr => s.size - (intOf ((wr.cell? ⟨w.heap.size + 1, 0, none⟩).getD undef)).toNat)
                case atStart => exact ⟨r, Nat.le_refl _, HRL.out, HKW4, ⟨HGR.out, fun i h1 h2 => by omega⟩⟩
                case round =>
                  clear hkc hfr hsc HKW4 HGR
                  obtain ⟨j, hj0, hj1, HKJ, HGJ⟩ := hrel
                  have hkc := HKJ.out.kcell
                  have hfr := HKJ.out.kfree
                  have hsc := HKJ.out.scell
                  have HJJ := Aside0.mk (And.intro hj0 hj1)
                  by_cases hjl : j < s.size
                  · have cj1 : ((j : Int) < (s.size : Int)) = True := eq_true (by omega)
                    have cj2 : (j < s.size) = True := eq_true (by omega)
                    have cj3 : ((0 : Int) ≤ (j : Int)) = True := eq_true (by omega)

                    obtain ⟨e, he⟩ : ∃ e, e = bt s (j : Int) := ⟨_, rfl⟩
                    have hxj : ∀ h : j < s.size, ((s[j]'h).toNat : Int) = e := pu_hx he
                    obtain ⟨v, b, hv, hb⟩ := hex_ok e
                    have W1 : wrap64 ((j : Int) + 1) = (j : Int) + 1 := pu_succ hjl HS.out
                    have HE := Aside0.mk he
                    have HV := Aside0.mk hv
                    have HJL := Aside0.mk hjl
                    have HB := Aside0.mk hb
                    clear he hv hb hjl hj0 hj1
                    cases b with
                    | true =>
                      have HGJ2 : Aside0 (GB s 0 (j + 1) ∧ NS s r (j + 1)) := ⟨HGJ.out.1.one (by rw [← HE.out]; exact (HB.out rfl).1), HGJ.out.2.one (by rw [← HE.out]; exact (HB.out rfl).2)⟩
                      clear HB
                      go_wp2_with (go_at_call 9; ((with_reducible refine (P.spec_hexDigit.calls 1 e v true _ HV.out).mono ?_); rintro x w6 ⟨rfl, ⟨nd, rfl⟩⟩))
                      go_roundw
                      case measure => exact kw_meas (KW.drewN HKJ.out) HJL.out rfl
                      case rel => exact ⟨j + 1, Nat.le_trans HJJ.out.1 (Nat.le_succ _), HJL.out, ⟨(KW.drewN HKJ.out).set' (j + 1) rfl⟩, HGJ2⟩
                    | false =>
                      clear HB
                      go_wp2_with (go_at_call 9; ((with_reducible refine (P.spec_hexDigit.calls 1 e v false _ HV.out).mono ?_); rintro x w6 ⟨rfl, ⟨nd, rfl⟩⟩))
                      go_meet
                      case rel => exact ⟨j, HJJ.out.1, HJJ.out.2, ⟨KW.drewN HKJ.out⟩, HGJ⟩
                  · have cj1 : ((j : Int) < (s.size : Int)) = False := eq_false (by omega)
                    have cj2 : (j < s.size) = False := eq_false (by omega)

                    clear hjl hj0 hj1
                    go_wp2
                    go_meet
                    case rel => exact ⟨j, HJJ.out.1, HJJ.out.2, HKJ, HGJ⟩
              case rest => as_aux_lemma =>
                obtain ⟨j, hj0, hj1, HKJ, HGJ⟩ := hcut
                clear hkc hfr hsc
                have hkc := HKJ.out.kcell
                have hfr := HKJ.out.kfree
                have hsc := HKJ.out.scell
                have HB4 := Aside0.mk HKJ.out.below
                cases sg with
                | true =>
                  clear hj0 hj1
                  go_upto_region 15 with fail
                  go_quiet (fail)
                  go_wp2
                  refine bodyPost_ret (results_list (rs := [.tmp 2, .tmp 3]) rfl (by simp) (.tmp (.tmp .nil))) rfl ?_
                  exact ⟨_, _, rfl, fun h => (by cases h), (by (repeat apply pw_below_drewN); exact HB4.out)⟩
                | false =>
                  obtain ⟨r1, hr1⟩ : ∃ r1, r1 = r + 1 := ⟨_, rfl⟩
                  have W1 : wrap64 ((r : Int) + 1) = (r1 : Int) := nu_succ2 hr1 HRL.out HS.out
                  have HR1 := Aside0.mk hr1
                  by_cases hjr : j = r1
                  · have m1 : ((j : Int) == (r1 : Int)) = true := beq_iff_eq.2 (by omega)
                    have m1p : ((j : Int) = (r1 : Int)) = True := eq_true (by omega)
                    have m1n : (j = r1) = True := eq_true (by omega)
                    have HJR := Aside0.mk hjr
                    clear hj0 hj1 hr1 hjr
                    go_upto_region 15 with fail
                    go_quiet (fail)
                    go_wp2
                    refine bodyPost_ret (results_list (rs := [.tmp 2, .tmp 3]) rfl (by simp) (.tmp (.tmp .nil))) rfl ?_
                    refine ⟨_, _, rfl, ?_, (by (repeat apply pw_below_drewN); exact HB4.out)⟩
                    exact fun _ hn => nt_hex HSG.out HP.out rfl HPZ.out HQ.out HR.out (HD.out.symm.trans HD120.out) HGJ.out.1 HGJ.out.2 (Int.ofNat.inj hn) (.inl (HJR.out.trans HR1.out))

                  · have m1 : ((j : Int) == (r1 : Int)) = false := beq_eq_false_iff_ne.2 (by omega)
                    have m1p : ((j : Int) = (r1 : Int)) = False := eq_false (by omega)
                    have m1n : (j = r1) = False := eq_false (by omega)
                    by_cases hjl : r < j
                    · have m2 : decide ((r : Int) < (j : Int)) = true := decide_eq_true (by omega)
                      have m2p : ((r : Int) < (j : Int)) = True := eq_true (by omega)
                      have m2n : (r < j) = True := eq_true (by omega)
                      have m2i : decide ((r : Int) < (j : Int)) = true := decide_eq_true (by omega)
                      have m2d : decide (r < j) = true := decide_eq_true (by omega)
                      have cr1 : ((r : Int) < (s.size : Int)) = True := eq_true (by omega)
                      have cr2 : (r < s.size) = True := eq_true (by omega)
                      have cr3 : ((0 : Int) ≤ (r : Int)) = True := eq_true (by omega)

                      obtain ⟨e, he⟩ : ∃ e, e = bt s (r : Int) := ⟨_, rfl⟩
                      have hxr : ∀ h : r < s.size, ((s[r]'h).toNat : Int) = e := pu_hx he
                      have HE := Aside0.mk he
                      have HJL := Aside0.mk hjl
                      clear hj0 hj1 hr1 hjr hjl he
                      cases b7 : (e != 48) with
                      | true =>
                        have HB7 := Aside0.mk (bne_iff_ne.1 b7)
                        go_upto_region 15 with fail
                        go_quiet (fail)
                        go_wp2
                        refine bodyPost_ret (results_list (rs := [.tmp 2, .tmp 3]) rfl (by simp) (.tmp (.tmp .nil))) rfl ?_
                        refine ⟨_, _, rfl, ?_, (by (repeat apply pw_below_drewN); exact HB4.out)⟩
                        exact fun _ hn => nt_hex HSG.out HP.out rfl HPZ.out HQ.out HR.out (HD.out.symm.trans HD120.out) HGJ.out.1 HGJ.out.2 (Int.ofNat.inj hn) (.inr ⟨HJL.out, by rw [← HE.out]; exact HB7.out⟩)

                      | false =>
                        go_upto_region 15 with fail
                        go_quiet (fail)
                        go_wp2
                        refine bodyPost_ret (results_list (rs := [.tmp 2, .tmp 3]) rfl (by simp) (.tmp (.tmp .nil))) rfl ?_
                        exact ⟨_, _, rfl, fun h => (by cases h), (by (repeat apply pw_below_drewN); exact HB4.out)⟩
                    · have m2 : decide ((r : Int) < (j : Int)) = false := decide_eq_false (by omega)
                      have m2p : ((r : Int) < (j : Int)) = False := eq_false (by omega)
                      have m2n : (r < j) = False := eq_false (by omega)
                      have m2i : decide ((r : Int) < (j : Int)) = false := decide_eq_false (by omega)
                      have m2d : decide (r < j) = false := decide_eq_false (by omega)
                      clear hj0 hj1 hr1 hjr hjl
                      go_upto_region 15 with fail
                      go_quiet (fail)
                      go_wp2
                      refine bodyPost_ret (results_list (rs := [.tmp 2, .tmp 3]) rfl (by simp) (.tmp (.tmp .nil))) rfl ?_
                      exact ⟨_, _, rfl, fun h => (by cases h), (by (repeat apply pw_below_drewN); exact HB4.out)⟩

            · have b1 : (d == 120) = false := beq_eq_false_iff_ne.2 hd120
              by_cases hd46 : d = 46
              · have b2 : (d == 46) = true := beq_iff_eq.2 hd46
                have HGR : Aside0 (GB s 0 r) := ⟨by rw [HR.out]; exact HGQ.out.one (by rw [← HD.out, hd46]; exact good_46)⟩
                have HD46 := Aside0.mk hd46
                clear hd120 hd46
                have HLE := HRL
                go_upto_region 18 with fail
                have HKW4 := Aside0.mk (HKW.out.set r)
                clear hkc hsc hfr
                generalize World.setCell w3 _ _ = w5 at HKW4 ⊢
                clear HKW
                have HKW := HKW4
                clear HKW4
                have hkc := HKW.out.kcell
                have hfr := HKW.out.kfree
                have hsc := HKW.out.scell
                clear W1
                go_upto_region 19 with (go_at_call 8; ((with_reducible refine (dg_calls s _ w.heap.size _ w _ HKW.out HLE.out HS.out).mono ?_); rintro x w4 ⟨k', hk0, hk1, rfl, hkw, hdg⟩; have HK4 := Aside0.mk hkw; have HDG := Aside0.mk hdg; have HKK := Aside0.mk (And.intro hk0 hk1); clear hkw hdg hk0 hk1; have hkc4 := HK4.out.kcell; have hsc4 := HK4.out.scell; clear hkc hsc hfr))
                have HB4 := Aside0.mk HK4.out.below
                by_cases hkq : r < k'
                · have m1 : decide ((0 : Int) < (k' : Int) - (r : Int)) = true := decide_eq_true (by omega)
                  have m1p : ((r : Int) < (k' : Int)) = True := eq_true (by omega)
                  have m1n : (r < k') = True := eq_true (by omega)
                  have m1i : decide ((r : Int) < (k' : Int)) = true := decide_eq_true (by omega)
                  have m1d : decide (r < k') = true := decide_eq_true (by omega)
                  clear hkq
                  by_cases hke : k' = s.size
                  · have e1 : ((k' : Int) == (s.size : Int)) = true := beq_iff_eq.2 (by omega)
                    have e1p : ((k' : Int) = (s.size : Int)) = True := eq_true (by omega)
                    have e1n : (k' = s.size) = True := eq_true (by omega)
                    have HKE := Aside0.mk hke
                    clear hke
                    go_quiet (fail)
                    go_wp2
                    refine bodyPost_ret (results_list (rs := [.tmp 2, .tmp 3]) rfl (by simp) (.tmp (.tmp .nil))) rfl ?_
                    refine ⟨_, _, rfl, ?_, (by (repeat apply pw_below_drewN); exact HB4.out)⟩
                    exact fun _ _ => nt_point HSG.out HP.out HPZ.out HQ.out HR.out HQ1.out (HD.out.symm.trans HD46.out) HGR.out HDG.out HKE.out

                  · have e1 : ((k' : Int) == (s.size : Int)) = false := beq_eq_false_iff_ne.2 (by omega)
                    have e1p : ((k' : Int) = (s.size : Int)) = False := eq_false (by omega)
                    have e1n : (k' = s.size) = False := eq_false (by omega)
                    have hkl : k' < s.size := Nat.lt_of_le_of_ne HKK.out.2 hke
                    have ck1 : ((k' : Int) < (s.size : Int)) = True := eq_true (by omega)
                    have ck2 : (k' < s.size) = True := eq_true (by omega)
                    have ck3 : ((0 : Int) ≤ (k' : Int)) = True := eq_true (by omega)

                    obtain ⟨d2, hd2⟩ : ∃ d2, d2 = bt s (k' : Int) := ⟨_, rfl⟩
                    have hxk : ∀ h : k' < s.size, ((s[k']'h).toNat : Int) = d2 := pu_hx hd2
                    have HKE := Aside0.mk hke
                    clear hke hkl hd2
                    cases b5 : (Go.bits .or .u8 d2 32 != 101) with
                    | false =>
                      go_quiet (fail)
                      go_wp2
                      refine bodyPost_ret (results_list (rs := [.tmp 2, .tmp 3]) rfl (by simp) (.tmp (.tmp .nil))) rfl ?_
                      refine ⟨_, _, rfl, ?_, (by (repeat apply pw_below_drewN); exact HB4.out)⟩
                      exact fun _ h => ne_int HKE.out h

                    | true =>
                      go_quiet (fail)
                      go_wp2
                      refine bodyPost_ret (results_list (rs := [.tmp 2, .tmp 3]) rfl (by simp) (.tmp (.tmp .nil))) rfl ?_
                      refine ⟨_, _, rfl, ?_, (by (repeat apply pw_below_drewN); exact HB4.out)⟩
                      exact fun _ h => ne_int HKE.out h

                · have m1 : decide ((0 : Int) < (k' : Int) - (r : Int)) = false := decide_eq_false (by omega)
                  have m1p : ((r : Int) < (k' : Int)) = False := eq_false (by omega)
                  have m1n : (r < k') = False := eq_false (by omega)
                  have m1i : decide ((r : Int) < (k' : Int)) = false := decide_eq_false (by omega)
                  have m1d : decide (r < k') = false := decide_eq_false (by omega)
                  clear hkq
                  go_quiet (fail)
                  go_wp2
                  refine bodyPost_ret (results_list (rs := [.tmp 2, .tmp 3]) rfl (by simp) (.tmp (.tmp .nil))) rfl ?_
                  exact ⟨_, _, rfl, fun h => (by cases h), (by (repeat apply pw_below_drewN); exact HB4.out)⟩

              · have b2 : (d == 46) = false := beq_eq_false_iff_ne.2 hd46
                clear hd120 hd46
                go_wp2
                go_meet
                case rel => exact rfl

          · have cq1 : ((q : Int) < (s.size : Int)) = False := eq_false (by omega)
            have cq2 : (q < s.size) = False := eq_false (by omega)

            clear hql
            go_wp2
            go_meet
            case rel => exact rfl
        case rest => as_aux_lemma =>
          obtain rfl := hcut
          have HLE := HQL
          go_upto_region 21 with (go_at_call 8; ((with_reducible refine (dg_calls s _ w.heap.size _ w _ HKW.out HLE.out HS.out).mono ?_); rintro x w4 ⟨k', hk0, hk1, rfl, hkw, hdg⟩; have HK4 := Aside0.mk hkw; have HDG := Aside0.mk hdg; have HKK := Aside0.mk (And.intro hk0 hk1); clear hkw hdg hk0 hk1; have hkc4 := HK4.out.kcell; have hsc4 := HK4.out.scell; clear hkc hsc hfr))
          have HB4 := Aside0.mk HK4.out.below
          by_cases hkq : k' = q
          · have m1 : ((k' : Int) - (q : Int) == 0) = true := beq_iff_eq.2 (by omega)
            have m1p : ((k' : Int) = (q : Int)) = True := eq_true (by omega)
            have m1n : (k' = q) = True := eq_true (by omega)
            have m1s : ((k' : Int) - (q : Int) = 0) = True := eq_true (by omega)
            have HKQ := Aside0.mk hkq
            clear hkq
            by_cases hke : k' = s.size
            · have e1 : ((k' : Int) == (s.size : Int)) = true := beq_iff_eq.2 (by omega)
              have e1p : ((k' : Int) = (s.size : Int)) = True := eq_true (by omega)
              have e1n : (k' = s.size) = True := eq_true (by omega)
              have HKE := Aside0.mk hke
              clear hke
              go_quiet (fail)
              go_wp2
              refine bodyPost_ret (results_list (rs := [.tmp 2, .tmp 3]) rfl (by simp) (.tmp (.tmp .nil))) rfl ?_
              refine ⟨_, _, rfl, ?_, (by (repeat apply pw_below_drewN); exact HB4.out)⟩
              exact fun _ _ => nt_zero HSG.out HP.out HPZ.out HQ.out HGQ.out HDG.out HKK.out.1 HKE.out (.inl HKQ.out)

            · have e1 : ((k' : Int) == (s.size : Int)) = false := beq_eq_false_iff_ne.2 (by omega)
              have e1p : ((k' : Int) = (s.size : Int)) = False := eq_false (by omega)
              have e1n : (k' = s.size) = False := eq_false (by omega)
              have hkl : k' < s.size := Nat.lt_of_le_of_ne HKK.out.2 hke
              have ck1 : ((k' : Int) < (s.size : Int)) = True := eq_true (by omega)
              have ck2 : (k' < s.size) = True := eq_true (by omega)
              have ck3 : ((0 : Int) ≤ (k' : Int)) = True := eq_true (by omega)

              obtain ⟨d2, hd2⟩ : ∃ d2, d2 = bt s (k' : Int) := ⟨_, rfl⟩
              have hxk : ∀ h : k' < s.size, ((s[k']'h).toNat : Int) = d2 := pu_hx hd2
              have HKE := Aside0.mk hke
              clear hke hkl hd2
              cases b5 : (Go.bits .or .u8 d2 32 != 101) with
              | false =>
                go_quiet (fail)
                go_wp2
                refine bodyPost_ret (results_list (rs := [.tmp 2, .tmp 3]) rfl (by simp) (.tmp (.tmp .nil))) rfl ?_
                refine ⟨_, _, rfl, ?_, (by (repeat apply pw_below_drewN); exact HB4.out)⟩
                exact fun _ h => ne_int HKE.out h

              | true =>
                cases b6 : (Go.bits .or .u8 d2 32 != 120) with
                | false =>
                  go_quiet (fail)
                  go_wp2
                  refine bodyPost_ret (results_list (rs := [.tmp 2, .tmp 3]) rfl (by simp) (.tmp (.tmp .nil))) rfl ?_
                  refine ⟨_, _, rfl, ?_, (by (repeat apply pw_below_drewN); exact HB4.out)⟩
                  exact fun _ h => ne_int HKE.out h

                | true =>
                  go_quiet (fail)
                  go_wp2
                  refine bodyPost_ret (results_list (rs := [.tmp 2, .tmp 3]) rfl (by simp) (.tmp (.tmp .nil))) rfl ?_
                  refine ⟨_, _, rfl, ?_, (by (repeat apply pw_below_drewN); exact HB4.out)⟩
                  exact fun _ h => ne_int HKE.out h

          · have m1 : ((k' : Int) - (q : Int) == 0) = false := beq_eq_false_iff_ne.2 (by omega)
            have m1p : ((k' : Int) = (q : Int)) = False := eq_false (by omega)
            have m1n : (k' = q) = False := eq_false (by omega)
            have m1s : ((k' : Int) - (q : Int) = 0) = False := eq_false (by omega)
            clear hkq
            cases sg with
            | true =>
              go_quiet (fail)
              go_wp2
              refine bodyPost_ret (results_list (rs := [.tmp 2, .tmp 3]) rfl (by simp) (.tmp (.tmp .nil))) rfl ?_
              exact ⟨_, _, rfl, fun h => (by cases h), (by (repeat apply pw_below_drewN); exact HB4.out)⟩
            | false =>
              by_cases hke : k' = s.size
              · have e1 : ((k' : Int) == (s.size : Int)) = true := beq_iff_eq.2 (by omega)
                have e1p : ((k' : Int) = (s.size : Int)) = True := eq_true (by omega)
                have e1n : (k' = s.size) = True := eq_true (by omega)
                have HKE := Aside0.mk hke
                clear hke
                go_quiet (fail)
                go_wp2
                refine bodyPost_ret (results_list (rs := [.tmp 2, .tmp 3]) rfl (by simp) (.tmp (.tmp .nil))) rfl ?_
                refine ⟨_, _, rfl, ?_, (by (repeat apply pw_below_drewN); exact HB4.out)⟩
                exact fun _ _ => nt_zero HSG.out HP.out HPZ.out HQ.out HGQ.out HDG.out HKK.out.1 HKE.out (.inr rfl)

              · have e1 : ((k' : Int) == (s.size : Int)) = false := beq_eq_false_iff_ne.2 (by omega)
                have e1p : ((k' : Int) = (s.size : Int)) = False := eq_false (by omega)
                have e1n : (k' = s.size) = False := eq_false (by omega)
                have hkl : k' < s.size := Nat.lt_of_le_of_ne HKK.out.2 hke
                have ck1 : ((k' : Int) < (s.size : Int)) = True := eq_true (by omega)
                have ck2 : (k' < s.size) = True := eq_true (by omega)
                have ck3 : ((0 : Int) ≤ (k' : Int)) = True := eq_true (by omega)

                obtain ⟨d2, hd2⟩ : ∃ d2, d2 = bt s (k' : Int) := ⟨_, rfl⟩
                have hxk : ∀ h : k' < s.size, ((s[k']'h).toNat : Int) = d2 := pu_hx hd2
                have HKE := Aside0.mk hke
                clear hke hkl hd2
                cases b5 : (Go.bits .or .u8 d2 32 != 101) with
                | false =>
                  go_quiet (fail)
                  go_wp2
                  refine bodyPost_ret (results_list (rs := [.tmp 2, .tmp 3]) rfl (by simp) (.tmp (.tmp .nil))) rfl ?_
                  refine ⟨_, _, rfl, ?_, (by (repeat apply pw_below_drewN); exact HB4.out)⟩
                  exact fun _ h => ne_int HKE.out h

                | true =>
                  cases b6 : (Go.bits .or .u8 d2 32 != 120) with
                  | false =>
                    go_quiet (fail)
                    go_wp2
                    refine bodyPost_ret (results_list (rs := [.tmp 2, .tmp 3]) rfl (by simp) (.tmp (.tmp .nil))) rfl ?_
                    refine ⟨_, _, rfl, ?_, (by (repeat apply pw_below_drewN); exact HB4.out)⟩
                    exact fun _ h => ne_int HKE.out h

                  | true =>
                    go_quiet (fail)
                    go_wp2
                    refine bodyPost_ret (results_list (rs := [.tmp 2, .tmp 3]) rfl (by simp) (.tmp (.tmp .nil))) rfl ?_
                    refine ⟨_, _, rfl, ?_, (by (repeat apply pw_below_drewN); exact HB4.out)⟩
                    exact fun _ h => ne_int HKE.out h

      · obtain ⟨hpl1⟩ : Aside0 (p ≤ s.size) := ⟨nu_pl HP1.out H0.out⟩
        have HPL := Aside0.mk hpl1
        have HZ := Aside0.mk hz
        go_upto_region 6 with fail
        go_cut [33] (fun v33 wc => v33 = .bool false ∧ w2 = wc)
        case first => as_aux_lemma =>
          by_cases hpl : p < s.size
          · have cp1 : ((p : Int) < (s.size : Int)) = True := eq_true (by omega)
            have cp2 : (p < s.size) = True := eq_true (by omega)
            have cp3 : ((0 : Int) ≤ (p : Int)) = True := eq_true (by omega)

            obtain ⟨c0, hc0⟩ : ∃ c0, c0 = bt s (p : Int) := ⟨_, rfl⟩
            have hxp : ∀ h : p < s.size, ((s[p]'h).toNat : Int) = c0 := pu_hx hc0
            have b1 : (c0 == 48) = false := beq_eq_false_iff_ne.2 (fun e => hz ⟨hpl, by rw [← hc0]; exact e⟩)
            clear hpl hc0 hz hpl1
            go_wp2
            go_meet
            case rel => exact ⟨rfl, rfl⟩
          · have cp1 : ((p : Int) < (s.size : Int)) = False := eq_false (by omega)
            have cp2 : (p < s.size) = False := eq_false (by omega)

            clear hpl hz hpl1
            go_wp2
            go_meet
            case rel => exact ⟨rfl, rfl⟩
        case rest => as_aux_lemma =>
          obtain ⟨rfl, rfl⟩ := hcut
          clear hz hpl1
          go_upto_if 147 with (go_at_call 8; ((with_reducible refine (dg_calls s _ w.heap.size _ w _ HKW.out HPL.out HS.out).mono ?_); rintro x w4 ⟨k', hk0, hk1, rfl, hkw, hdg⟩; have HK4 := Aside0.mk hkw; have HDG := Aside0.mk hdg; have HKK := Aside0.mk (And.intro hk0 hk1); clear hkw hdg hk0 hk1; have hkc4 := HK4.out.kcell; have hsc4 := HK4.out.scell; have hfr4 := HK4.out.kfree; clear hkc hsc hfr))
          by_cases hkp : k' = p
          · have m1 : ((k' : Int) - (p : Int) == 0) = true := beq_iff_eq.2 (by omega)
            have m1p : ((k' : Int) = (p : Int)) = True := eq_true (by omega)
            have m1n : (k' = p) = True := eq_true (by omega)
            have m1s : ((k' : Int) - (p : Int) = 0) = True := eq_true (by omega)

            have HB4 := Aside0.mk HK4.out.below
            clear hkp
            go_wp2
            refine bodyPost_ret (results_list (rs := [.tmp 2, .tmp 3]) rfl (by simp) (.tmp (.tmp .nil))) rfl ?_
            exact ⟨_, _, rfl, fun h => (by cases h), (by (repeat apply pw_below_drewN); exact HB4.out)⟩
          · have m1 : ((k' : Int) - (p : Int) == 0) = false := beq_eq_false_iff_ne.2 (by omega)
            have m1p : ((k' : Int) = (p : Int)) = False := eq_false (by omega)
            have m1n : (k' = p) = False := eq_false (by omega)
            have m1s : ((k' : Int) - (p : Int) = 0) = False := eq_false (by omega)

            have HGD : Aside0 (GB s 0 k') := ⟨HGB.out.digits HDG.out (by decide)⟩
            have HDEC : Aside0 (∀ k3, GB s 0 k3 → k3 = s.size → NT s) := ⟨fun k3 h1 h2 => nt_dec HP.out HZ.out HDG.out (Nat.lt_of_le_of_ne HKK.out.1 (fun e => hkp e.symm)) HKK.out.2 h1 h2⟩
            have HKL : Aside0 (k' ≤ s.size) := ⟨HKK.out.2⟩
            clear hkp HKK HDG HGB HKW HZ HP HP1 HPL HSG
            obtain ⟨dot, hdot⟩ : ∃ dot, dot = decide (k' < s.size ∧ bt s (k' : Int) = 46) := ⟨_, rfl⟩
            have HDOT := Aside0.mk hdot
            clear hdot
            go_upto_region 24 with fail
            clear m1 m1p m1n m1s
            go_cut [157] (fun v wc => v = .bool dot ∧ w4 = wc)
            case first => as_aux_lemma =>
              by_cases hkl : k' < s.size
              · have ck1 : ((k' : Int) < (s.size : Int)) = True := eq_true (by omega)
                have ck2 : (k' < s.size) = True := eq_true (by omega)
                have ck3 : ((0 : Int) ≤ (k' : Int)) = True := eq_true (by omega)

                obtain ⟨d, hd⟩ : ∃ d, d = bt s (k' : Int) := ⟨_, rfl⟩
                have hxk : ∀ h : k' < s.size, ((s[k']'h).toNat : Int) = d := pu_hx hd
                have HB : Aside0 ((d == 46) = dot) := ⟨by rw [HDOT.out, ← hd]; simp [hkl]; rfl⟩
                clear hkl hd
                go_wp2
                go_meet
                case rel => exact ⟨by rw [← HB.out], rfl⟩
              · have ck1 : ((k' : Int) < (s.size : Int)) = False := eq_false (by omega)
                have ck2 : (k' < s.size) = False := eq_false (by omega)

                have HB : Aside0 (false = dot) := ⟨by rw [HDOT.out]; simp [hkl]⟩
                clear hkl
                go_wp2
                go_meet
                case rel => exact ⟨by rw [← HB.out], rfl⟩
            case rest => as_aux_lemma =>
            obtain ⟨rfl, rfl⟩ := hcut
            go_upto_if 157 with fail
            go_cut [161] (fun _ wc => ∃ j : Nat, j ≤ s.size ∧ Aside0 (KW w w.heap.size s j wc) ∧ Aside0 (GB s 0 j))
            case first => as_aux_lemma =>
              cases dot with
              | false =>
                go_wp2
                go_meet
                case rel => exact ⟨k', HKL.out, HK4, HGD⟩
              | true =>
                have HD := Aside0.mk (of_decide_eq_true HDOT.out.symm)
                obtain ⟨r, hr⟩ : ∃ r, r = k' + 1 := ⟨_, rfl⟩
                have W1 : wrap64 ((k' : Int) + 1) = (r : Int) := nu_succ hr HD.out.1 HS.out
                have HRL : Aside0 (r ≤ s.size) := ⟨by rw [hr]; exact HD.out.1⟩
                have HGR : Aside0 (GB s 0 r) := ⟨by rw [hr]; exact HGD.out.one (by rw [HD.out.2]; exact good_46)⟩
                have HKR := Aside0.mk (HK4.out.set r)
                clear hr HDOT
                go_upto_region 26 with fail
                clear W1 hkc4 hsc4 hfr4
                generalize World.setCell w4 _ _ = w5 at HKR ⊢
                have hkc := HKR.out.kcell
                have hfr := HKR.out.kfree
                have hsc := HKR.out.scell
                clear HK4
                go_wp2_with (go_at_call 8; ((with_reducible refine (dg_calls s _ w.heap.size _ w _ HKR.out HRL.out HS.out).mono ?_); rintro x w4 ⟨k', hk0, hk1, rfl, hkw, hdg⟩; have HK4 := Aside0.mk hkw; have HDG := Aside0.mk hdg; have HKK := Aside0.mk (And.intro hk0 hk1); clear hkw hdg hk0 hk1; have hkc4 := HK4.out.kcell; have hsc4 := HK4.out.scell; have hfr4 := HK4.out.kfree; clear hkc hsc hfr))
                go_meet
                case rel => exact ⟨k', HKK.out.2, HK4, ⟨HGR.out.digits HDG.out (by decide)⟩⟩
            case rest => as_aux_lemma =>
            clear HK4 HGD HKL HDOT hkc4 hsc4 hfr4
            obtain ⟨j, hj, HKJ, HGJ⟩ := hcut
            have HJL := Aside0.mk hj
            clear hj
            have hkc := HKJ.out.kcell
            have hfr := HKJ.out.kfree
            have hsc := HKJ.out.scell
            generalize wc = w5 at HKJ hkc hfr hsc ⊢
            obtain ⟨ex, hex⟩ : ∃ ex, ex = decide (j < s.size ∧ Go.bits .or .u8 (bt s (j : Int)) 32 = 101) := ⟨_, rfl⟩
            have HEX := Aside0.mk hex
            clear hex
            go_upto_region 27 with fail
            go_cut [172] (fun v wc => v = .bool ex ∧ w5 = wc)
            case first => as_aux_lemma =>
              by_cases hjl : j < s.size
              · have cj1 : ((j : Int) < (s.size : Int)) = True := eq_true (by omega)
                have cj2 : (j < s.size) = True := eq_true (by omega)
                have cj3 : ((0 : Int) ≤ (j : Int)) = True := eq_true (by omega)

                obtain ⟨d, hd⟩ : ∃ d, d = bt s (j : Int) := ⟨_, rfl⟩
                have hxj : ∀ h : j < s.size, ((s[j]'h).toNat : Int) = d := pu_hx hd
                have HB : Aside0 ((Go.bits .or .u8 d 32 == 101) = ex) := ⟨by rw [HEX.out, ← hd]; simp [hjl]; rfl⟩
                clear hjl hd
                go_wp2
                go_meet
                case rel => exact ⟨by rw [← HB.out], rfl⟩
              · have cj1 : ((j : Int) < (s.size : Int)) = False := eq_false (by omega)
                have cj2 : (j < s.size) = False := eq_false (by omega)

                have HB : Aside0 (false = ex) := ⟨by rw [HEX.out]; simp [hjl]⟩
                clear hjl
                go_wp2
                go_meet
                case rel => exact ⟨by rw [← HB.out], rfl⟩
            case rest => as_aux_lemma =>
            obtain ⟨rfl, rfl⟩ := hcut
            go_upto_if 172 with fail
            go_cut [173] (fun _ wc => ∃ j : Nat, j ≤ s.size ∧ Aside0 (KW w w.heap.size s j wc) ∧ Aside0 (GB s 0 j))
            case first => as_aux_lemma =>
              cases ex with
              | false =>
                go_wp2
                go_meet
                case rel => exact ⟨j, HJL.out, HKJ, HGJ⟩
              | true =>
                have HD := Aside0.mk (of_decide_eq_true HEX.out.symm)
                obtain ⟨r, hr⟩ : ∃ r, r = j + 1 := ⟨_, rfl⟩
                have W1 : wrap64 ((j : Int) + 1) = (r : Int) := nu_succ hr HD.out.1 HS.out
                have HRL : Aside0 (r ≤ s.size) := ⟨by rw [hr]; exact HD.out.1⟩
                have HGR : Aside0 (GB s 0 r) := ⟨by rw [hr]; exact HGJ.out.one (good_e HD.out.2)⟩
                have HKR := Aside0.mk (HKJ.out.set r)
                clear hr HEX HD
                go_upto_region 29 with fail
                clear W1 hkc hsc hfr
                generalize World.setCell w5 _ _ = w6 at HKR ⊢
                have hkc := HKR.out.kcell
                have hfr := HKR.out.kfree
                have hsc := HKR.out.scell
                clear HKJ HGJ HJL
                obtain ⟨sn, hsn⟩ : ∃ sn, sn = decide (r < s.size ∧ (bt s (r : Int) = 43 ∨ bt s (r : Int) = 45)) := ⟨_, rfl⟩
                have HSN := Aside0.mk hsn
                clear hsn
                go_cut [190] (fun v wc => v = .bool sn ∧ w6 = wc)
                case first => as_aux_lemma =>
                  by_cases hrl : r < s.size
                  · have cr1 : ((r : Int) < (s.size : Int)) = True := eq_true (by omega)
                    have cr2 : (r < s.size) = True := eq_true (by omega)
                    have cr3 : ((0 : Int) ≤ (r : Int)) = True := eq_true (by omega)

                    obtain ⟨d, hd⟩ : ∃ d, d = bt s (r : Int) := ⟨_, rfl⟩
                    have hxr : ∀ h : r < s.size, ((s[r]'h).toNat : Int) = d := pu_hx hd
                    by_cases h43 : d = 43
                    · have b1 : (d == 43) = true := beq_iff_eq.2 h43
                      have HB : Aside0 (true = sn) := ⟨by rw [HSN.out, ← hd]; simp [hrl, h43]⟩
                      clear hrl hd h43
                      go_wp2
                      go_meet
                      case rel => exact ⟨by rw [← HB.out], rfl⟩
                    · have b1 : (d == 43) = false := beq_eq_false_iff_ne.2 h43
                      have HB : Aside0 ((d == 45) = sn) := ⟨by rw [HSN.out, ← hd]; simp [hrl, h43]; rfl⟩
                      clear hrl hd h43
                      go_wp2
                      go_meet
                      case rel => exact ⟨by rw [← HB.out], rfl⟩
                  · have cr1 : ((r : Int) < (s.size : Int)) = False := eq_false (by omega)
                    have cr2 : (r < s.size) = False := eq_false (by omega)

                    have HB : Aside0 (false = sn) := ⟨by rw [HSN.out]; simp [hrl]⟩
                    clear hrl
                    go_wp2
                    go_meet
                    case rel => exact ⟨by rw [← HB.out], rfl⟩
                case rest => as_aux_lemma =>
                obtain ⟨rfl, rfl⟩ := hcut
                go_upto_if 190 with fail
                go_cut [192] (fun _ wc => ∃ j : Nat, j ≤ s.size ∧ Aside0 (KW w w.heap.size s j wc) ∧ Aside0 (GB s 0 j))
                case first => as_aux_lemma =>
                  cases sn with
                  | false =>
                    go_wp2
                    go_meet
                    case rel => exact ⟨r, HRL.out, HKR, HGR⟩
                  | true =>
                    have HD := Aside0.mk (of_decide_eq_true HSN.out.symm)
                    obtain ⟨r2, hr2⟩ : ∃ r2, r2 = r + 1 := ⟨_, rfl⟩
                    have W1 : wrap64 ((r : Int) + 1) = (r2 : Int) := nu_succ hr2 HD.out.1 HS.out
                    have HRL2 : Aside0 (r2 ≤ s.size) := ⟨by rw [hr2]; exact HD.out.1⟩
                    have HGR2 : Aside0 (GB s 0 r2) := ⟨by rw [hr2]; exact HGR.out.one (by rcases HD.out.2 with h | h; rw [h]; exact good_43; rw [h]; exact good_45)⟩
                    clear hr2 HSN HD
                    go_wp2
                    go_meet
                    case rel => exact ⟨r2, HRL2.out, ⟨HKR.out.set r2⟩, HGR2⟩
                case rest => as_aux_lemma =>
                clear HKR HGR HRL HSN hkc hsc hfr
                obtain ⟨j, hj, HKJ, HGJ⟩ := hcut
                have HJL := Aside0.mk hj
                clear hj
                have hkc := HKJ.out.kcell
                have hfr := HKJ.out.kfree
                have hsc := HKJ.out.scell
                go_upto_if 195 with (go_at_call 8; ((with_reducible refine (dg_calls s _ w.heap.size _ w _ HKJ.out HJL.out HS.out).mono ?_); rintro x w4 ⟨k', hk0, hk1, rfl, hkw, hdg⟩; have HK4 := Aside0.mk hkw; have HDG := Aside0.mk hdg; have HKK := Aside0.mk (And.intro hk0 hk1); clear hkw hdg hk0 hk1; have hkc4 := HK4.out.kcell; have hsc4 := HK4.out.scell; have hfr4 := HK4.out.kfree; clear hkc hsc hfr))
                by_cases hkp : k' = j
                · have m1 : ((k' : Int) - (j : Int) == 0) = true := beq_iff_eq.2 (by omega)
                  have m1p : ((k' : Int) = (j : Int)) = True := eq_true (by omega)
                  have m1n : (k' = j) = True := eq_true (by omega)
                  have m1s : ((k' : Int) - (j : Int) = 0) = True := eq_true (by omega)

                  have HB4 := Aside0.mk HK4.out.below
                  clear hkp
                  go_wp2
                  refine bodyPost_ret (results_list (rs := [.tmp 2, .tmp 3]) rfl (by simp) (.tmp (.tmp .nil))) rfl ?_
                  exact ⟨_, _, rfl, fun h => (by cases h), (by (repeat apply pw_below_drewN); exact HB4.out)⟩
                · have m1 : ((k' : Int) - (j : Int) == 0) = false := beq_eq_false_iff_ne.2 (by omega)
                  have m1p : ((k' : Int) = (j : Int)) = False := eq_false (by omega)
                  have m1n : (k' = j) = False := eq_false (by omega)
                  have m1s : ((k' : Int) - (j : Int) = 0) = False := eq_false (by omega)

                  clear hkp
                  go_wp2
                  go_meet
                  case rel => exact ⟨k', HKK.out.2, HK4, ⟨HGJ.out.digits HDG.out (by decide)⟩⟩
            case rest => as_aux_lemma =>
            clear HKJ HGJ HJL HEX hkc hsc hfr
            obtain ⟨j, hj, HKJ, HGJ⟩ := hcut
            have hkc := HKJ.out.kcell
            have hsc := HKJ.out.scell
            clear hj
            go_wp2
            refine bodyPost_ret (results_list (rs := [.tmp 2, .tmp 3]) rfl (by simp) (.tmp (.tmp .nil))) rfl ?_
            exact ⟨_, _, rfl, fun _ h => HDEC.out j HGJ.out (Int.ofNat.inj h), HKJ.out.below⟩

end Go.Proofs.YtogikhohkbcccaaGreatDoor.De
