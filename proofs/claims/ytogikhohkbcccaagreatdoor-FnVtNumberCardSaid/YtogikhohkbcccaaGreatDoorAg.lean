import Derived.Test.YtogikhohkbcccaaGreatDoorAf
namespace Go.Proofs.YtogikhohkbcccaaGreatDoor.De
set_option linter.unusedVariables false
set_option linter.unusedSimpArgs false
open Go.RowKit Go.Proofs.YtogikhohkbcccaaGreatDoorW.PrintWords Go.Proofs.YtogikhohkbcccaaGreatDoorW.PrintLast Go.Proofs.YtogikhohkbcccaaGreatDoorW.PrintMore

theorem bu_calls (b : Bool) (w : World) : Calls Tryz.prog 51 #[.bool b] w fun e w' => e = .returned (.int .u64 (if b = true then 1 else 0)) ∧ Drawn0 w w' := by
  cases b
  · exact P.strconv_bool2_uint64.calls false _ w rfl
  · exact P.strconv_bool2_uint64.calls true _ w rfl
theorem TT.drewN {B n : Nat} {w : World} (h : TT B w) : TT B (w.drewN n) := by
  obtain ⟨h1, h2, h3, h4, h5⟩ := h
  refine ⟨h1.drewN, ⟨h2.hi, h2.mant, h2.expo, h2.bias, h2.tab⟩, h3, h4, h5⟩
def zer (i : Nat) : Value := if i < 800 then .int .u8 0 else if i < 802 then .int .i64 0 else .bool false
theorem zero134 : Tryz.zeroCells134 = (List.range 804).toArray.map zer := by kernel_rfl
theorem zero_dec (w : World) : Dec (w.alloc (Obj.cells Tryz.zeroCells134 134)) w.heap.size ⟨[], 0, false, false⟩ := by
  refine ⟨zer, ⟨Tryz.zeroCells134, by unfold World.alloc; simp, by rw [zero134]; simp, fun i hi => ?_⟩, ⟨by simp, fun i h => absurd h (by simp), rfl, rfl, rfl, rfl⟩, fun i hi => ⟨0, by unfold zer; rw [if_pos hi]⟩⟩
  rw [zero134]
  simp [hi]
/-- How atof64 ends. -/
def AP (s : ByteArray) (w : World) (e : Ending) (w' : World) : Prop :=
  e = .returned (.tuple #[.float .f64 (afV s).1, .int .i64 (afV s).2.1, errV (afV s).2.2]) ∧ Below w.heap.size w w'

set_option maxHeartbeats 4000000 in
set_option maxRecDepth 100000 in
theorem af_calls (s : ByteArray) (h : FText s) (w : World) (B : Nat) (hT : TT B w) (hB : B ≤ w.heap.size) :
    Calls Tryz.prog 36 #[.string s] w (AP s w) := by
  have HSP : Aside0 (∀ W : World, Calls Tryz.prog 42 #[.string s] W fun e w' => e = .returned (.tuple #[.float .f64 0, .int .i64 0, .bool false]) ∧ W = w') := ⟨fun W => (special_calls s h W).mono fun e w' q => ⟨q.1, q.2.symm⟩⟩
  have hrd := fun W : World => read_calls s h W
  have hg := (rfV_is h).2
  have HV : Aside0 (afV s = afR s (rfV s)) := ⟨rfl⟩
  obtain ⟨r, hr⟩ : ∃ r, r = rfV s := ⟨_, rfl⟩
  rw [← hr] at hrd hg HV
  obtain ⟨m, e, ng, tr, hx, n, ok⟩ := r
  have HRD := Aside0.mk hrd
  have HT := Aside0.mk hT
  have HB := Aside0.mk hB
  have HFT := Aside0.mk h
  clear hr hrd hT hB h
  cases ok with
  | false =>
    have HO : Aside0 (afV s = (0, n, some 2)) := ⟨by rw [HV.out]; unfold afR; rw [if_pos rfl]⟩
    go_enter Tryz.func36, Tryz.ntmps36
    go_wp2_with (first | (go_at_call 42; ((with_reducible refine (HSP.out _).mono ?_); rintro x w' ⟨rfl, rfl⟩)) | (go_at_call 43; ((with_reducible refine (HRD.out _).mono ?_); rintro x w' ⟨rfl, ⟨nd, rfl⟩⟩)))
    refine bodyPost_ret (results_list (rs := [.tmp 2, .tmp 3, .tmp 4]) rfl (by simp) (.tmp (.tmp (.tmp .nil)))) rfl ?_
    refine ⟨?_, pw_below_drewN (Below.refl _ _) _⟩
    rw [HO.out]
    rfl
  | true =>
    obtain ⟨hhx, hm, he, hn0, hn1⟩ := hg rfl
    have hhx : hx = false := hhx
    subst hhx
    obtain ⟨M, hM⟩ : ∃ M : Nat, m = (M : Int) := ⟨m.toNat, by have : 0 ≤ m := hm.1; omega⟩
    subst hM
    obtain ⟨nn, hnn⟩ : ∃ q : Nat, n = (q : Int) := ⟨n.toNat, by have : 0 ≤ n := hn0; omega⟩
    subst hnn
    have HMB : Aside0 (M < 10000000000000000000) := ⟨by have : (M : Int) < 10000000000000000000 := hm.2; omega⟩
    have HE0 : Aside0 (-1000000 ≤ e ∧ e ≤ 1000000) := ⟨he⟩
    have HN1 : Aside0 (nn ≤ s.size) := ⟨by have : (nn : Int) ≤ s.size := hn1; omega⟩
    have hopt := HT.out.opt
    clear hm he hn0 hn1 hg
    go_enter Tryz.func36, Tryz.ntmps36
    go_upto_region 11 with (first | (go_at_call 42; ((with_reducible refine (HSP.out _).mono ?_); rintro x w' ⟨rfl, rfl⟩)) | (go_at_call 43; ((with_reducible refine (HRD.out _).mono ?_); rintro x w' ⟨rfl, ⟨nd, rfl⟩⟩)))
    go_cut [16] (fun v16 wc => v16 = .int .u64 (sgV ng) ∧ Aside0 (TT B wc) ∧ Aside0 (B ≤ wc.heap.size) ∧ Aside0 (∀ W', Below wc.heap.size wc W' → Below w.heap.size w W'))
    case first => as_aux_lemma =>
      have hL : ∀ (q : Nat) (W' : World), Below (w.drewN q).heap.size (w.drewN q) W' → Below w.heap.size w W' := fun q W' hb => (pw_below_drewN (Below.refl w.heap.size w) q).trans hb
      cases ng with
      | true =>
        go_wp2_with (go_at_call 51; ((with_reducible refine (bu_calls _ _).mono ?_); rintro x w' ⟨rfl, ⟨n2, rfl⟩⟩))
        go_meet
        case rel => exact ⟨rfl, ⟨HT.out.drewN⟩, ⟨HB.out⟩, ⟨hL _⟩⟩
      | false =>
        go_wp2_with (go_at_call 51; ((with_reducible refine (bu_calls _ _).mono ?_); rintro x w' ⟨rfl, ⟨n2, rfl⟩⟩))
        go_meet
        case rel => exact ⟨rfl, ⟨HT.out.drewN⟩, ⟨HB.out⟩, ⟨hL _⟩⟩
    case rest => as_aux_lemma =>
      obtain ⟨rfl, HT1, HB1, HBL⟩ := hcut
      have hfr := frombits_run
      clear hopt HT HB HSP HRD
      obtain ⟨sg, hsg⟩ : ∃ sg, sg = sgV ng := ⟨_, rfl⟩
      rw [← hsg]
      have HSG := Aside0.mk hsg
      clear hsg
      by_cases hm0 : M = 0
      · have c1 : ((M : Int) == 0) = true := beq_iff_eq.2 (by omega)
        have HO : Aside0 (afV s = ((bits .or .u64 sg 0).toNat, (nn : Int), none)) := ⟨by rw [HV.out, HSG.out]; unfold afR; rw [if_neg (by simp), if_pos (by show (M : Int) = 0; omega)]⟩
        clear hm0
        go_wp2
        refine bodyPost_ret (results_list (rs := [.tmp 2, .tmp 3, .tmp 4]) rfl (by simp) (.tmp (.tmp (.tmp .nil)))) rfl ?_
        refine ⟨?_, HBL.out _ (Below.refl _ _)⟩
        rw [HO.out]
        rfl
      · have c1 : ((M : Int) == 0) = false := beq_eq_false_iff_ne.2 (by omega)
        have HM0 := Aside0.mk hm0
        clear hm0
        by_cases he1 : 310 < e
        · have c2 : (310 < e) = True := eq_true he1
          have HO : Aside0 (afV s = ((bits .or .u64 sg 9218868437227405312).toNat, (nn : Int), some 1)) := ⟨by rw [HV.out, HSG.out]; unfold afR; rw [if_neg (by simp), if_neg (by show ¬ (M : Int) = 0; have := HM0.out; omega), if_pos he1]⟩
          clear he1
          go_wp2
          refine bodyPost_ret (results_list (rs := [.tmp 2, .tmp 3, .tmp 4]) rfl (by simp) (.tmp (.tmp (.tmp .nil)))) rfl ?_
          refine ⟨?_, HBL.out _ (Below.refl _ _)⟩
          rw [HO.out]
          rfl
        · have c2 : (310 < e) = False := eq_false he1
          by_cases he2 : e < -345
          · have c3 : (e < -345) = True := eq_true he2
            have HO : Aside0 (afV s = ((bits .or .u64 sg 0).toNat, (nn : Int), none)) := ⟨by rw [HV.out, HSG.out]; unfold afR; rw [if_neg (by simp), if_neg (by show ¬ (M : Int) = 0; have := HM0.out; omega), if_neg he1, if_pos he2]⟩
            clear he1 he2
            go_wp2
            refine bodyPost_ret (results_list (rs := [.tmp 2, .tmp 3, .tmp 4]) rfl (by simp) (.tmp (.tmp (.tmp .nil)))) rfl ?_
            refine ⟨?_, HBL.out _ (Below.refl _ _)⟩
            rw [HO.out]
            rfl
          · have c3 : (e < -345) = False := eq_false he2
            have HEB : Aside0 (-345 ≤ e ∧ e ≤ 310) := ⟨by omega⟩
            have HO1 : Aside0 (afV s = if tr = false ∧ (exO M e ng).2 = true then ((exO M e ng).1, (nn : Int), none) else if tr = false then ((pfO M e sg).1, (nn : Int), (pfO M e sg).2) else if feq (pfO M e sg).1 (pfO (M + 1) e sg).1 = true then ((pfO M e sg).1, (nn : Int), (pfO M e sg).2) else slow (s.extract 0 nn) nn) := ⟨by
              rw [HV.out, HSG.out]; unfold afR
              rw [if_neg (by simp), if_neg (by show ¬ (M : Int) = 0; have := HM0.out; omega), if_neg he1, if_neg he2]
              rfl⟩
            clear he1 he2
            have HPF : Aside0 (∀ W : World, Below wc.heap.size wc W → Calls Tryz.prog 54 #[.int .u64 M, .int .i64 e, .int .u64 sg] W fun x w' => x = .returned (.tuple #[.float .f64 (pfO M e sg).1, errV (pfO M e sg).2]) ∧ Below wc.heap.size wc w') := ⟨fun W hW => (pf_calls M e sg W (by have := HM0.out; omega) (by have := HMB.out; omega) (by have := HEB.out; omega) (by have := HEB.out; omega) (HT1.out.pt.below hW (by have := HT1.out.ft.hi; have := HB1.out; omega)) (by have := HT1.out.ft.hi; have := HB1.out; have := hW.size; omega)).mono fun x w' q => ⟨q.1, hW.trans (q.2.mono hW.size)⟩⟩
            cases tr with
            | false =>
              have HEX : Aside0 (Calls Tryz.prog 53 #[.int .u64 M, .int .i64 e, .bool ng] wc fun x w' => x = .returned (.tuple #[.float .f64 (exO M e ng).1, .bool (exO M e ng).2]) ∧ Drawn0 wc w') := ⟨ex_calls M e ng wc B (by have := HMB.out; omega) HE0.out.1 HE0.out.2 HT1.out.ft HT1.out.et⟩
              obtain ⟨X, hX⟩ : ∃ X, X = exO M e ng := ⟨_, rfl⟩
              rw [← hX] at HEX HO1
              obtain ⟨x1, x2⟩ := X
              have HX := Aside0.mk hX
              clear hX
              cases x2 with
              | true =>
                have HO : Aside0 (afV s = (x1, (nn : Int), none)) := ⟨by rw [HO1.out, if_pos ⟨rfl, rfl⟩]⟩
                go_wp2_with (go_at_call 53; ((with_reducible refine (HEX.out).mono ?_); rintro x w2 ⟨rfl, ⟨n2, rfl⟩⟩))
                refine bodyPost_ret (results_list (rs := [.tmp 2, .tmp 3, .tmp 4]) rfl (by simp) (.tmp (.tmp (.tmp .nil)))) rfl ?_
                refine ⟨?_, HBL.out _ (pw_below_drewN (Below.refl _ _) _)⟩
                rw [HO.out]
                rfl
              | false =>
                have HO : Aside0 (afV s = ((pfO M e sg).1, (nn : Int), (pfO M e sg).2)) := ⟨by rw [HO1.out, if_neg (by simp), if_pos rfl]⟩
                go_wp2_with (first | (go_at_call 53; ((with_reducible refine (HEX.out).mono ?_); rintro x w2 ⟨rfl, ⟨n2, rfl⟩⟩)) | (go_at_call 54; ((refine (HPF.out _ (pw_below_drewN (Below.refl _ _) _)).mono ?_); rintro x w3 ⟨rfl, hb3⟩; have HB3 := Aside0.mk hb3; clear hb3)))
                refine bodyPost_ret (results_list (rs := [.tmp 2, .tmp 3, .tmp 4]) rfl (by simp) (.tmp (.tmp (.tmp .nil)))) rfl ?_
                refine ⟨?_, HBL.out _ HB3.out⟩
                rw [HO.out]
                rfl
            | true =>
              have HPF2 : Aside0 (∀ W : World, Below wc.heap.size wc W → Calls Tryz.prog 54 #[.int .u64 ((M : Int) + 1), .int .i64 e, .int .u64 sg] W fun x w' => x = .returned (.tuple #[.float .f64 (pfO (M + 1) e sg).1, errV (pfO (M + 1) e sg).2]) ∧ Below wc.heap.size wc w') := ⟨fun W hW => (pf_calls (M + 1) e sg W (by omega) (by have := HMB.out; omega) (by have := HEB.out; omega) (by have := HEB.out; omega) (HT1.out.pt.below hW (by have := HT1.out.ft.hi; have := HB1.out; omega)) (by have := HT1.out.ft.hi; have := HB1.out; have := hW.size; omega)).mono fun x w' q => ⟨q.1, hW.trans (q.2.mono hW.size)⟩⟩
              have WM : Aside0 (IntKind.u64.wrap ((M : Int) + 1) = (M : Int) + 1) := ⟨by have := HMB.out; simp only [IntKind.wrap_u64]; omega⟩
              obtain ⟨P, hP⟩ : ∃ P, P = pfO M e sg := ⟨_, rfl⟩
              obtain ⟨Q, hQ⟩ : ∃ Q, Q = pfO (M + 1) e sg := ⟨_, rfl⟩
              rw [← hP] at HPF HO1
              rw [← hQ] at HPF2 HO1
              obtain ⟨p1, p2⟩ := P
              obtain ⟨q1, q2⟩ := Q
              have HPQ := Aside0.mk (And.intro hP hQ)
              clear hP hQ
              obtain ⟨G, hG⟩ : ∃ G, G = feq p1 q1 := ⟨_, rfl⟩
              have HO2 : Aside0 (afV s = if G = true then (p1, (nn : Int), p2) else slow (s.extract 0 nn) nn) := ⟨by rw [HO1.out, if_neg (by simp), if_neg (by simp), hG]⟩
              unfold feq at hG
              replace hG := Aside0.mk hG.symm
              cases G with
              | true =>
                have HO : Aside0 (afV s = (p1, (nn : Int), p2)) := ⟨by rw [HO2.out, if_pos rfl]⟩
                go_upto_region 25 with (go_at_call 54; ((refine (HPF.out _ (by first | exact Below.refl _ _ | exact pw_below_drewN (Below.refl _ _) _)).mono ?_); rintro x w3 ⟨rfl, hb3⟩; have HB3 := Aside0.mk hb3; clear hb3))
                have WM := WM.out
                go_upto_region 26 with (go_at_call 54; ((refine (HPF2.out _ HB3.out).mono ?_); rintro x w4 ⟨rfl, hb4⟩; have HB4 := Aside0.mk hb4; clear hb4))
                have hG := hG.out
                clear WM
                go_wp2
                refine bodyPost_ret (results_list (rs := [.tmp 2, .tmp 3, .tmp 4]) rfl (by simp) (.tmp (.tmp (.tmp .nil)))) rfl ?_
                refine ⟨?_, HBL.out _ HB4.out⟩
                rw [HO.out]
                rfl
              | false =>
                have HO : Aside0 (afV s = slow (s.extract 0 nn) nn) := ⟨by rw [HO2.out, if_neg (by simp)]⟩
                go_upto_region 25 with (go_at_call 54; ((refine (HPF.out _ (by first | exact Below.refl _ _ | exact pw_below_drewN (Below.refl _ _) _)).mono ?_); rintro x w3 ⟨rfl, hb3⟩; have HB3 := Aside0.mk hb3; clear hb3))
                have WM := WM.out
                go_upto_region 26 with (go_at_call 54; ((refine (HPF2.out _ HB3.out).mono ?_); rintro x w4 ⟨rfl, hb4⟩; have HB4 := Aside0.mk hb4; clear hb4))
                have hG := hG.out
                clear WM
                go_upto_region 29 with fail
                clear hG hfr
                obtain ⟨g, hg⟩ : ∃ g, g = w4.heap.size := ⟨_, rfl⟩
                have HD5 := zero_dec w4
                have HB5 : Below wc.heap.size wc (w4.alloc (Obj.cells Tryz.zeroCells134 134)) := HB4.out.trans ((below_alloc (Below.refl w4.heap.size w4) _).mono HB4.out.size)
                rw [← hg] at HD5 ⊢
                have HGS : Aside0 (wc.heap.size ≤ g) := ⟨by rw [hg]; exact HB4.out.size⟩
                generalize (w4.alloc (Obj.cells Tryz.zeroCells134 134)) = w5 at HD5 HB5 ⊢
                obtain ⟨t, ht⟩ : ∃ t, t = s.extract 0 nn := ⟨_, rfl⟩
                have htz : t.size = nn := by rw [ht, ByteArray.size_extract]; have := HN1.out; omega
                have HST := set_calls g t w5 HD5 (by have := HN1.out; have := HFT.out.len; omega) (fun i hi => by rw [ht, cut_bt HN1.out (by omega)]; exact HFT.out.und i (by have := HN1.out; omega))
                rw [← ht] at HO
                have HB5 := Aside0.mk HB5
                have q1 : ((nn : Int) ≤ (s.size : Int)) = True := eq_true (by have := HN1.out; omega)
                have q1n : (nn ≤ s.size) = True := eq_true HN1.out
                have q2 : ((0 : Int) ≤ (nn : Int)) = True := eq_true (by omega)
                cases hS : setF t with
                | none =>
                  have HO : Aside0 (afV s = (0, (nn : Int), some 2)) := ⟨by rw [HO.out]; unfold slow; rw [hS]⟩
                  have HST : Aside0 (Calls Tryz.prog 49 #[.pointer (some ⟨g, 0, none⟩), .string t] w5 fun x w' => x = .returned (.bool false) ∧ Below g w5 w') := ⟨HST.mono fun x w' q => ⟨q.2.1 hS, q.2.2.1⟩⟩
                  rw [ht] at HST
                  clear hg HD5 ht htz hS
                  go_wp2_with (go_at_call 49; ((with_reducible refine (HST.out).mono ?_); rintro x w6 ⟨rfl, hb6⟩; have HB6 := Aside0.mk hb6; clear hb6))
                  refine bodyPost_ret (results_list (rs := [.tmp 2, .tmp 3, .tmp 4]) rfl (by simp) (.tmp (.tmp (.tmp .nil)))) rfl ?_
                  refine ⟨?_, HBL.out _ (HB5.out.trans (HB6.out.mono HGS.out))⟩
                  rw [HO.out]
                  rfl
                | some x =>
                  have HST : Aside0 (Calls Tryz.prog 49 #[.pointer (some ⟨g, 0, none⟩), .string t] w5 fun e w' => e = .returned (.bool true) ∧ Dec w' g x ∧ Below g w5 w') := ⟨HST.mono fun e w' q => ⟨(q.1 x hS).1, (q.1 x hS).2, q.2.2.1⟩⟩
                  have hsx := setF_is hS (by have := HN1.out; have := HFT.out.len; omega)
                  have HFB : Aside0 (∀ W : World, Below g w5 W → Dec W g x → Calls Tryz.prog 50 #[.pointer (some ⟨g, 0, none⟩), .pointer (some ⟨5, 0, none⟩)] W fun e w' => e = .returned (.tuple #[.int .u64 (fbO x).1, .bool (fbO x).2]) ∧ Below g w5 w') := ⟨fun W hW hD => (floatBits_calls g x W B (Nat.le_trans HB1.out HGS.out) (HT1.out.below (HB5.out.trans (hW.mono HGS.out)) HB1.out) hD hsx.1).mono fun e w' q => ⟨q.1, hW.trans q.2.1⟩⟩
                  have HO3 : Aside0 (afV s = ((fbO x).1.toNat, (nn : Int), if (fbO x).2 = true then some 1 else none)) := ⟨by rw [HO.out]; unfold slow; rw [hS]⟩
                  obtain ⟨R, hR⟩ : ∃ R, R = fbO x := ⟨_, rfl⟩
                  rw [← hR] at HFB HO3
                  obtain ⟨rb, ro⟩ := R
                  rw [ht] at HST
                  have hfr := frombits_run
                  clear hg HD5 ht htz hS hR hsx HO
                  cases ro with
                  | true =>
                    have HO : Aside0 (afV s = (rb.toNat, (nn : Int), some 1)) := ⟨by rw [HO3.out]; rfl⟩
                    go_wp2_with (first | (go_at_call 49; ((with_reducible refine (HST.out).mono ?_); rintro y w6 ⟨rfl, hd6, hb6⟩; have HB6 := Aside0.mk hb6; have HD6 := Aside0.mk hd6; clear hb6 hd6)) | (go_at_call 50; ((refine (HFB.out _ HB6.out HD6.out).mono ?_); rintro y w7 ⟨rfl, hb7⟩; have HB7 := Aside0.mk hb7; clear hb7)))
                    refine bodyPost_ret (results_list (rs := [.tmp 2, .tmp 3, .tmp 4]) rfl (by simp) (.tmp (.tmp (.tmp .nil)))) rfl ?_
                    refine ⟨?_, HBL.out _ (HB5.out.trans (HB7.out.mono HGS.out))⟩
                    rw [HO.out]
                    rfl
                  | false =>
                    have HO : Aside0 (afV s = (rb.toNat, (nn : Int), none)) := ⟨by rw [HO3.out]; rfl⟩
                    go_wp2_with (first | (go_at_call 49; ((with_reducible refine (HST.out).mono ?_); rintro y w6 ⟨rfl, hd6, hb6⟩; have HB6 := Aside0.mk hb6; have HD6 := Aside0.mk hd6; clear hb6 hd6)) | (go_at_call 50; ((refine (HFB.out _ HB6.out HD6.out).mono ?_); rintro y w7 ⟨rfl, hb7⟩; have HB7 := Aside0.mk hb7; clear hb7)))
                    refine bodyPost_ret (results_list (rs := [.tmp 2, .tmp 3, .tmp 4]) rfl (by simp) (.tmp (.tmp (.tmp .nil)))) rfl ?_
                    refine ⟨?_, HBL.out _ (HB5.out.trans (HB7.out.mono HGS.out))⟩
                    rw [HO.out]
                    rfl
end Go.Proofs.YtogikhohkbcccaaGreatDoor.De
