import Derived.Test.YtogikhohkbcccaaGreatDoorSe
import Derived.StillTailTactics
namespace Go.Proofs.YtogikhohkbcccaaGreatDoor.De
set_option linter.unusedVariables false
set_option linter.unusedSimpArgs false
open Go.RowKit Go.Proofs.YtogikhohkbcccaaGreatDoorW.PrintWords Go.Proofs.YtogikhohkbcccaaGreatDoorW.PrintLast Go.Proofs.YtogikhohkbcccaaGreatDoorW.PrintMore

theorem Dec.frozen {w : World} {g : Nat} {x : Dc} (h : Dec w g x) (i : Nat) : w.frozen? ⟨g, i, none⟩ = false := by
  obtain ⟨c, hd, _⟩ := h; exact hd.frozen i
theorem Dec.any {w : World} {g : Nat} {x : Dc} (h : Dec w g x) (i : Nat) (hi : i < 800) : ∃ n : Int, w.cell? ⟨g, i, none⟩ = some (.int .u8 n) := by
  obtain ⟨c, hd, _, ha⟩ := h
  obtain ⟨n, hn⟩ := ha i hi
  exact ⟨n, by rw [← hn]; exact hd.cell i (by omega)⟩
theorem Dec.setDp {w : World} {g : Nat} {x : Dc} (h : Dec w g x) (p : Int) : Dec (w.setCell ⟨g, 801, none⟩ (.int .i64 p)) g ⟨x.D, p, x.neg, x.tr⟩ := by
  obtain ⟨c, hd, hi, ha⟩ := h
  have hl := hi.len
  refine ⟨_, hd.set 801 (by omega) _, ⟨hl, fun i h => ?_, ?_, upd_same _ _ _, ?_, ?_⟩, fun i h => ?_⟩
  · have h' : i < x.D.length := h
    rw [upd_other _ _ (by omega)]; exact hi.dig i h
  · rw [upd_other _ _ (by omega)]; exact hi.nd
  · rw [upd_other _ _ (by omega)]; exact hi.neg
  · rw [upd_other _ _ (by omega)]; exact hi.tr
  · rw [upd_other _ _ (by omega)]; exact ha i h
theorem Dec.setNeg {w : World} {g : Nat} {x : Dc} (h : Dec w g x) (b : Bool) : Dec (w.setCell ⟨g, 802, none⟩ (.bool b)) g ⟨x.D, x.dp, b, x.tr⟩ := by
  obtain ⟨c, hd, hi, ha⟩ := h
  have hl := hi.len
  refine ⟨_, hd.set 802 (by omega) _, ⟨hl, fun i h => ?_, ?_, ?_, upd_same _ _ _, ?_⟩, fun i h => ?_⟩
  · have h' : i < x.D.length := h
    rw [upd_other _ _ (by omega)]; exact hi.dig i h
  · rw [upd_other _ _ (by omega)]; exact hi.nd
  · rw [upd_other _ _ (by omega)]; exact hi.dp
  · rw [upd_other _ _ (by omega)]; exact hi.tr
  · rw [upd_other _ _ (by omega)]; exact ha i h
theorem Dec.setTr {w : World} {g : Nat} {x : Dc} (h : Dec w g x) (b : Bool) : Dec (w.setCell ⟨g, 803, none⟩ (.bool b)) g ⟨x.D, x.dp, x.neg, b⟩ := by
  obtain ⟨c, hd, hi, ha⟩ := h
  have hl := hi.len
  refine ⟨_, hd.set 803 (by omega) _, ⟨hl, fun i h => ?_, ?_, ?_, ?_, upd_same _ _ _⟩, fun i h => ?_⟩
  · have h' : i < x.D.length := h
    rw [upd_other _ _ (by omega)]; exact hi.dig i h
  · rw [upd_other _ _ (by omega)]; exact hi.nd
  · rw [upd_other _ _ (by omega)]; exact hi.dp
  · rw [upd_other _ _ (by omega)]; exact hi.neg
  · rw [upd_other _ _ (by omega)]; exact ha i h
theorem Dec.push {w : World} {g : Nat} {x : Dc} (h : Dec w g x) (hl : x.D.length < 800) (d : Nat) (h9 : d ≤ 9) : Dec ((w.setCell ⟨g, x.D.length, none⟩ (.int .u8 ((d : Int) + 48))).setCell ⟨g, 800, none⟩ (.int .i64 ((x.D.length : Int) + 1))) g ⟨x.D ++ [d], x.dp, x.neg, x.tr⟩ := by
  obtain ⟨c, hd, hi, ha⟩ := h
  refine ⟨_, (hd.set x.D.length (by omega) _).set 800 (by omega) _, ⟨by rw [List.length_append]; simp; omega, fun i h => ?_, ?_, ?_, ?_, ?_⟩, fun i h => ?_⟩
  · have h' : i < x.D.length + 1 := by simpa using h
    rw [upd_other _ _ (by omega)]
    by_cases hil : i = x.D.length
    · subst hil
      rw [upd_same]
      refine ⟨?_, ?_⟩
      · congr 2
        rw [List.getElem_append_right (by omega)]; simp
      · rw [List.getElem_append_right (by omega)]; simpa using h9
    · rw [upd_other _ _ hil, List.getElem_append_left (by omega)]
      exact hi.dig i (by omega)
  · rw [upd_same]
    congr 1
    show (x.D.length : Int) + 1 = ((x.D ++ [d]).length : Int)
    rw [List.length_append]; simp
  · rw [upd_other _ _ (by omega), upd_other _ _ (by omega)]; exact hi.dp
  · rw [upd_other _ _ (by omega), upd_other _ _ (by omega)]; exact hi.neg
  · rw [upd_other _ _ (by omega), upd_other _ _ (by omega)]; exact hi.tr
  · rw [upd_other _ _ (by omega)]
    by_cases hil : i = x.D.length
    · subst hil; exact ⟨_, upd_same _ _ _⟩
    · rw [upd_other _ _ hil]; exact ha i h

theorem sw_dec {w : World} {g N : Nat} {D : List Nat} {dp c : Int} {ng tr : Bool} (h : Dec w g ⟨D, dp, ng, tr⟩) (hN : N = D.length) (h8 : N < 800) (hc : (c - 48).toNat ≤ 9 ∧ (((c - 48).toNat : Nat) : Int) + 48 = c) :
    Aside0 (Dec ((w.setCell ⟨g, N, none⟩ (.int .u8 c)).setCell ⟨g, 800, none⟩ (.int .i64 ((N : Int) + 1))) g ⟨D ++ [(c - 48).toNat], dp, ng, tr⟩) := by
  have := h.push (by show D.length < 800; omega) (c - 48).toNat hc.1
  rw [hc.2] at this
  subst hN
  exact ⟨this⟩
/-- How set ends. -/
def SP (s : ByteArray) (g : Nat) (w : World) (e : Ending) (w' : World) : Prop :=
  (∀ x, setF s = some x → e = .returned (.bool true) ∧ Dec w' g x) ∧ (setF s = none → e = .returned (.bool false)) ∧ Below g w w' ∧ w'.heap.size = w.heap.size
theorem SP.none {s : ByteArray} {g : Nat} {w w' : World} (h : setF s = none) (hb : Below g w w' ∧ w'.heap.size = w.heap.size) : SP s g w (.returned (.bool false)) w' :=
  ⟨fun x hx => (by rw [h] at hx; cases hx), fun _ => rfl, hb.1, hb.2⟩
theorem SP.some {s : ByteArray} {g : Nat} {w w' : World} {x : Dc} (h : setF s = Option.some x) (hd : Dec w' g x) (hb : Below g w w' ∧ w'.heap.size = w.heap.size) : SP s g w (.returned (.bool true)) w' :=
  ⟨fun y hy => (by rw [h] at hy; obtain rfl := Option.some.inj hy; exact ⟨rfl, hd⟩), fun hn => (by rw [h] at hn; cases hn), hb.1, hb.2⟩
theorem hx_at {s : ByteArray} {i : Nat} {c : Int} (hc : c = bt s i) : ∀ h : i < s.size, ((s[i]'h).toNat : Int) = c := fun h => by rw [hc]; exact bt_at s i h
def setR (s : ByteArray) (ng : Bool) : Option (Nat × Bool × Bool × List Nat × Int) → Option Dc
  | Option.none => Option.none
  | Option.some (i, dot, dig, D, dp) => if dig = false then Option.none else
    match sx s i with
    | Option.none => Option.none
    | Option.some (j, e) => if j = s.size then Option.some ⟨D, (if dot = true then dp else (D.length : Int)) + e, ng, false⟩ else Option.none
theorem setF_of {s : ByteArray} (h0 : ¬ s.size = 0) : setF s = setR s (bt s 0 == 45) (s1 s (s.size - sgn s) (sgn s) false false [] 0) := by
  unfold setF; rw [if_neg h0]
  cases s1 s (s.size - sgn s) (sgn s) false false [] 0 <;> rfl
theorem sw_bd {s : ByteArray} {i m : Nat} {D : List Nat} {dp : Int} (hs : s.size ≤ 400) (him : i + m = s.size) (hl : D.length ≤ i) (h0 : -(i : Int) ≤ dp) (h1 : dp ≤ i) : D.length ≤ 400 ∧ -400 ≤ dp ∧ dp ≤ 400 := by omega
theorem sw_dp {n i : Nat} {dp : Int} (hs : n ≤ 400) (h0 : -(i : Int) ≤ dp) (h1 : dp ≤ i) (hi : i < n) : wrap64 (dp - 1) = dp - 1 := by unfold wrap64; omega
theorem sw_push {i : Nat} {D : List Nat} {d : Nat} {dp : Int} (hl : D.length ≤ i) (h0 : -(i : Int) ≤ dp) (h1 : dp ≤ i) : (D ++ [d]).length ≤ i + 1 ∧ -((i + 1 : Nat) : Int) ≤ dp ∧ dp ≤ ((i + 1 : Nat) : Int) := by
  rw [List.length_append]; simp only [List.length_cons, List.length_nil]; omega
theorem sw_nil {N : Nat} {D : List Nat} (hN : N = D.length) (e : (N : Int) = 0) : D = [] := List.length_eq_zero_iff.1 (by omega)
theorem sw_num {N i n : Nat} {D : List Nat} {c : Int} (hN : N = D.length) (hl : D.length ≤ i) (hi : i < n) (hs : n ≤ 400) (hc : 48 ≤ c ∧ c ≤ 57) : N ≤ 400 ∧ (c - 48).toNat ≤ 9 ∧ (((c - 48).toNat : Nat) : Int) + 48 = c := by omega
theorem sw_800 {N : Nat} (h : N ≤ 400) : (((N : Int) < 800) = True) ∧ ((N < 800) = True) ∧ (((0 : Int) ≤ (N : Int)) = True) := ⟨eq_true (by omega), eq_true (by omega), eq_true (by omega)⟩
def sxJ (s : ByteArray) (i : Nat) : Nat := if bt s ((i + 1 : Nat) : Int) = 43 ∨ bt s ((i + 1 : Nat) : Int) = 45 then i + 2 else i + 1
def sxG (s : ByteArray) (i : Nat) : Int := if bt s ((i + 1 : Nat) : Int) = 45 then -1 else 1
theorem sx_E {s : ByteArray} {i : Nat} (h : i < s.size ∧ isE (bt s i) = true) : sx s i = if s.size ≤ i + 1 then Option.none else if s.size ≤ sxJ s i then Option.none else if bt s (sxJ s i) < 48 ∨ 57 < bt s (sxJ s i) then Option.none else Option.some ((s2 s (s.size - sxJ s i) (sxJ s i) 0).1, (s2 s (s.size - sxJ s i) (sxJ s i) 0).2 * sxG s i) := by
  unfold sx; rw [if_pos h]; rfl
theorem sx_N {s : ByteArray} {i : Nat} (h : ¬ (i < s.size ∧ isE (bt s i) = true)) : sx s i = Option.some (i, 0) := by
  unfold sx; rw [if_neg h]
theorem setR_none {s : ByteArray} {ng dot : Bool} {i : Nat} {D : List Nat} {dp : Int} (h : sx s i = Option.none) : setR s ng (Option.some (i, dot, true, D, dp)) = Option.none := by
  simp only [setR, h]; rfl
theorem setR_some {s : ByteArray} {ng dot : Bool} {i j : Nat} {D : List Nat} {dp e : Int} (h : sx s i = Option.some (j, e)) : setR s ng (Option.some (i, dot, true, D, dp)) = if j = s.size then Option.some ⟨D, (if dot = true then dp else (D.length : Int)) + e, ng, false⟩ else Option.none := by
  simp only [setR, h]; rfl
theorem lower_calls (c : Int) (w : World) : Calls Tryz.prog 27 #[.int .u8 c] w fun e w' => e = .returned (.int .u8 (Go.bits .or .u8 c 32)) ∧ Drawn0 w w' := P.strconv_lower.calls c _ w rfl
theorem sw_E {i n : Nat} {c : Int} (h : i < n) : Value.bool (Go.bits .or .u8 c 32 == 101) = Value.bool (decide (i < n ∧ isE c = true)) := by
  unfold isE
  cases (Go.bits .or .u8 c 32 == 101) <;> simp [h]
theorem w_nx {i i1 : Nat} (h : i1 = i + 1) (hb : i ≤ 1000) : wrap64 ((i : Int) + 1) = (i1 : Int) := by unfold wrap64; omega
theorem sw_num2 {c e : Int} (h0 : 0 ≤ e) (h1 : e < 10000) (hc : 48 ≤ c ∧ c ≤ 57) : wrap64 (e * 10) = e * 10 ∧ wrap64 c = c ∧ wrap64 (e * 10 + c) = e * 10 + c ∧ wrap64 (e * 10 + c - 48) = e * 10 + c - 48 ∧ 0 ≤ e * 10 + c - 48 ∧ e * 10 + c - 48 ≤ 100000 := by
  unfold wrap64; omega
theorem sw_exp {s : ByteArray} {i : Nat} {p e : Int} (hp : -400 ≤ p ∧ p ≤ 400) (h0 : 0 ≤ e) (h1 : e ≤ 100000) : wrap64 (e * sxG s i) = e * sxG s i ∧ wrap64 (p + e * sxG s i) = p + e * sxG s i := by
  have hg : sxG s i = 1 ∨ sxG s i = -1 := by unfold sxG; split <;> omega
  unfold wrap64
  rcases hg with hg | hg <;> rw [hg] <;> omega
theorem s2_nil {s : ByteArray} {i : Nat} {e : Int} {R : Nat × Int} (h : s2 s 0 i e = R) : R = (i, e) := h.symm
theorem s2_end {s : ByteArray} {m i : Nat} {e c : Int} {R : Nat × Int} (h : s2 s m i e = R) (hc : c = bt s i) (hn : ¬ (48 ≤ c ∧ c ≤ 57)) : R = (i, e) := by
  cases m with
  | zero => exact h.symm
  | succ m => rw [s2, ← hc, if_neg hn] at h; exact h.symm
theorem s2_lo {s : ByteArray} {m i : Nat} {e c : Int} {R : Nat × Int} (h : s2 s (m + 1) i e = R) (hc : c = bt s i) (hn : 48 ≤ c ∧ c ≤ 57) (he : e < 10000) : s2 s m (i + 1) (e * 10 + c - 48) = R := by
  rw [s2, ← hc, if_pos hn, if_pos he] at h; exact h
theorem s2_hi {s : ByteArray} {m i : Nat} {e c : Int} {R : Nat × Int} (h : s2 s (m + 1) i e = R) (hc : c = bt s i) (hn : 48 ≤ c ∧ c ≤ 57) (he : ¬ e < 10000) : s2 s m (i + 1) e = R := by
  rw [s2, ← hc, if_pos hn, if_neg he] at h; exact h
theorem sw_meas {n i : Nat} (h : i < n) (hw : wrap64 ((i : Int) + 1) = (i : Int) + 1) : n - (intOf (.int .i64 (wrap64 ((i : Int) + 1)))).toNat < n - (intOf (.int .i64 (i : Int))).toNat := by
  rw [hw]; show n - ((i : Int) + 1).toNat < n - (i : Int).toNat; omega

set_option maxHeartbeats 4000000 in
set_option maxRecDepth 100000 in
theorem set_calls (g : Nat) (s : ByteArray) (w : World) (h : Dec w g ⟨[], 0, false, false⟩) (hs : s.size ≤ 400) (hu : ∀ i : Nat, i < s.size → bt s i ≠ 95) :
    Calls Tryz.prog 49 #[.pointer (some ⟨g, 0, none⟩), .string s] w (SP s g w) := by
  have h802 := h.neg
  have h803 := h.tr
  have hf802 := h.frozen 802
  have hf803 := h.frozen 803
  have HD1 : Aside0 (Dec ((w.setCell ⟨g, 802, none⟩ (.bool false)).setCell ⟨g, 803, none⟩ (.bool false)) g ⟨[], 0, false, false⟩) := ⟨(h.setNeg false).setTr false⟩
  have HB1 : Aside0 (Below g w ((w.setCell ⟨g, 802, none⟩ (.bool false)).setCell ⟨g, 803, none⟩ (.bool false)) ∧ ((w.setCell ⟨g, 802, none⟩ (.bool false)).setCell ⟨g, 803, none⟩ (.bool false)).heap.size = w.heap.size) := ⟨((Below.refl g w).setCell (Nat.le_refl _) _).setCell (Nat.le_refl _) _, by rw [size_set, size_set]⟩
  have HU := Aside0.mk hu
  clear h hu
  by_cases h0 : s.size = 0
  · have c1 : decide ((s.size : Int) ≤ 0) = true := decide_eq_true (by omega)
    have c2 : (s = ByteArray.empty) = True := eq_true (by simpa using h0)
    have HS : Aside0 (setF s = none) := ⟨by unfold setF; rw [if_pos h0]⟩
    clear h0 hs
    go_enter Tryz.func49, Tryz.ntmps49
    go_wp2
    go_ret
    exact SP.none HS.out HB1.out
  · have c1 : decide ((s.size : Int) ≤ 0) = false := decide_eq_false (by omega)
    have c2 : (s = ByteArray.empty) = False := eq_false (fun e => h0 (by rw [e]; rfl))
    have hp : 0 < s.size := Nat.pos_of_ne_zero h0
    obtain ⟨c0, hc0⟩ : ∃ c0, c0 = bt s 0 := ⟨_, rfl⟩
    have hx : ∀ h : 0 < s.size, ((s[0]'h).toNat : Int) = c0 := hx_at (i := 0) hc0
    have q1 : (0 < s.size) = True := eq_true hp
    have q2 : (0 < (s.size : Int)) = True := eq_true (by omega)
    have HC0 := Aside0.mk hc0
    have H0 := Aside0.mk h0
    clear hc0 h0 hp
    go_enter Tryz.func49, Tryz.ntmps49
    go_upto_block 0 with fail
    go_cut [5] (fun v5 wc => v5 = .int .i64 (sgn s : Nat) ∧ Aside0 (Dec wc g ⟨[], 0, bt s 0 == 45, false⟩) ∧ Aside0 (Below g w wc ∧ wc.heap.size = w.heap.size))
    case first => as_aux_lemma =>
      by_cases hplus : c0 = 43
      · have b1 : (c0 == 43) = true := beq_iff_eq.2 hplus
        have HE : Aside0 (sgn s = 1 ∧ (bt s 0 == 45) = false) := ⟨by unfold sgn; rw [if_pos (.inl (HC0.out.symm.trans hplus))], by rw [← HC0.out, hplus]; rfl⟩
        clear hplus
        go_wp2
        go_meet
        case rel => exact ⟨by rw [HE.out.1]; rfl, ⟨by rw [HE.out.2]; exact HD1.out⟩, HB1⟩
      · have b1 : (c0 == 43) = false := beq_eq_false_iff_ne.2 hplus
        by_cases hminus : c0 = 45
        · have b2 : (c0 == 45) = true := beq_iff_eq.2 hminus
          have HE : Aside0 (sgn s = 1 ∧ (bt s 0 == 45) = true) := ⟨by unfold sgn; rw [if_pos (.inr (HC0.out.symm.trans hminus))], by rw [← HC0.out, hminus]; rfl⟩
          have h802 := HD1.out.neg
          have hf802 := HD1.out.frozen 802
          clear hplus hminus
          go_wp2
          go_meet
          case rel => exact ⟨by rw [HE.out.1]; rfl, ⟨by rw [HE.out.2]; exact HD1.out.setNeg true⟩, ⟨HB1.out.1.setCell (Nat.le_refl _) _, by rw [size_set]; exact HB1.out.2⟩⟩
        · have b2 : (c0 == 45) = false := beq_eq_false_iff_ne.2 hminus
          have HE : Aside0 (sgn s = 0 ∧ (bt s 0 == 45) = false) := ⟨by unfold sgn; rw [if_neg (by rw [← HC0.out]; rintro (h | h); exact hplus h; exact hminus h)], by rw [← HC0.out]; exact b2⟩
          clear hplus hminus
          go_wp2
          go_meet
          case rel => exact ⟨by rw [HE.out.1]; rfl, ⟨by rw [HE.out.2]; exact HD1.out⟩, HB1⟩
    case rest => as_aux_lemma =>
      obtain ⟨rfl, HD2, HB2⟩ := hcut
      clear h802 h803 hf802 hf803 HD1 HB1 hx q1 q2 c1 c2
      obtain ⟨ng, hng⟩ : ∃ ng, ng = (bt s 0 == 45) := ⟨_, rfl⟩
      rw [← hng] at HD2
      have HNG := Aside0.mk hng
      obtain ⟨i0, hi0⟩ : ∃ i0, i0 = sgn s := ⟨_, rfl⟩
      have hi01 : i0 ≤ 1 := by rw [hi0]; unfold sgn; split <;> omega
      rw [← hi0]
      obtain ⟨R1, hR1⟩ : ∃ R1, R1 = s1 s (s.size - i0) i0 false false [] 0 := ⟨_, rfl⟩
      have HS : Aside0 (setF s = setR s ng R1) := ⟨by rw [setF_of H0.out, hng, hR1, hi0]⟩
      have HR1 := Aside0.mk hR1
      have hsz : i0 + (s.size - i0) = s.size := by have := H0.out; omega
      have HSZ := Aside0.mk hsz
      clear hng hi0 hR1 HC0 hsz
      generalize wc = w2 at HD2 HB2 ⊢
      go_upto_block 1 with fail
      go_cut [5, 6, 7] (fun v5 v6 v7 wc => ∃ (i : Nat) (dot dig : Bool) (D : List Nat) (dp : Int), v5 = .int .i64 (i : Int) ∧ v6 = .bool dot ∧ v7 = .bool dig ∧ i ≤ s.size ∧ Aside0 (R1 = Option.some (i, dot, dig, D, dp)) ∧ Aside0 (Dec wc g ⟨D, dp, ng, false⟩) ∧ Aside0 (D.length ≤ 400 ∧ -400 ≤ dp ∧ dp ≤ 400) ∧ Aside0 (Below g w wc ∧ wc.heap.size = w.heap.size))
      case first => as_aux_lemma =>
        go_wp2_with fail
        go_loopw [5, 6, 7] (fun v5 v6 v7 wr => ∃ (i m : Nat) (dot dig : Bool) (D : List Nat) (dp : Int), v5 = .int .i64 (i : Int) ∧ v6 = .bool dot ∧ v7 = .bool dig ∧ i + m = s.size ∧ Aside0 (s1 s m i dot dig D dp = R1) ∧ Aside0 (Dec wr g ⟨D, dp, ng, false⟩) ∧ D.length ≤ i ∧ -(i : Int) ≤ dp ∧ dp ≤ i ∧ Aside0 (Below g w wr ∧ wr.heap.size = w.heap.size)) (fun v5 _ _ _ => s.size - (intOf v5).toNat)
        case atStart => exact ⟨i0, s.size - i0, false, false, [], 0, rfl, rfl, rfl, HSZ.out, ⟨HR1.out.symm⟩, HD2, by simp, by omega, by omega, HB2⟩
        case round =>
          clear HD2 HB2 HR1
          obtain ⟨i, m, dot, dig, D, dp, rfl, rfl, rfl, him, HR, HD, hl, hd0, hd1, HB⟩ := hrel
          have HL := Aside0.mk (sw_bd hs him hl hd0 hd1)
          cases m with
          | zero =>
            have c1 : ((i : Int) < (s.size : Int)) = False := eq_false (by omega)
            have c1n : (i < s.size) = False := eq_false (by omega)
            have HI : Aside0 (i ≤ s.size) := ⟨by omega⟩
            clear him hl hd0 hd1
            go_wp2
            go_meet
            case rel => exact ⟨i, dot, dig, D, dp, rfl, rfl, rfl, HI.out, ⟨HR.out.symm⟩, HD, HL, HB⟩
          | succ m =>
            have hi : i < s.size := by omega
            have c1 : ((i : Int) < (s.size : Int)) = True := eq_true (by omega)
            have c1n : (i < s.size) = True := eq_true hi
            have p1 : ((0 : Int) ≤ (i : Int)) = True := eq_true (by omega)
            obtain ⟨c, hc⟩ : ∃ c, c = bt s i := ⟨_, rfl⟩
            have hx : ∀ h : i < s.size, ((s[i]'h).toNat : Int) = c := hx_at hc
            have hc95 : (c == 95) = false := beq_eq_false_iff_ne.2 (by rw [hc]; exact HU.out i hi)
            have W1 : wrap64 ((i : Int) + 1) = (i : Int) + 1 := w_succ (by omega)
            have HX := HR.out
            rw [s1, ← hc] at HX
            have HC := Aside0.mk hc
            have HI := Aside0.mk hi
            have HIM : Aside0 (i + 1 + m = s.size) := ⟨by omega⟩
            have HMS := Aside0.mk (sw_meas hi W1)
            clear hc hi
            by_cases hdot : c = 46
            · have b1 : (c == 46) = true := beq_iff_eq.2 hdot
              rw [if_pos hdot] at HX
              cases dot with
              | true =>
                have HN : Aside0 (setF s = Option.none) := ⟨by rw [HS.out]; rw [if_pos rfl] at HX; rw [← HX]; rfl⟩
                clear HX hdot hl hd0 hd1 him
                go_wp2
                go_ret
                exact SP.none HN.out HB.out
              | false =>
                rw [if_neg (by simp)] at HX
                have HX := Aside0.mk HX
                have h800 := HD.out.nd.1
                have h801 := HD.out.dp
                have hf801 := HD.out.frozen 801
                have HLL : Aside0 (D.length ≤ i + 1 ∧ -((i + 1 : Nat) : Int) ≤ (D.length : Int) ∧ (D.length : Int) ≤ ((i + 1 : Nat) : Int)) := ⟨by omega⟩
                clear hdot hl hd0 hd1 him HR
                go_wp2
                go_roundw
                case measure => exact HMS.out
                case rel => exact ⟨i + 1, m, true, dig, D, D.length, ri_next W1, rfl, rfl, HIM.out, HX, ⟨HD.out.setDp _⟩, HLL.out.1, HLL.out.2.1, HLL.out.2.2, ⟨HB.out.1.setCell (Nat.le_refl _) _, by rw [size_set]; exact HB.out.2⟩⟩
            · have b1 : (c == 46) = false := beq_eq_false_iff_ne.2 hdot
              rw [if_neg hdot] at HX
              by_cases hdig : 48 ≤ c ∧ c ≤ 57
              · have b2 : decide (48 ≤ c) = true := decide_eq_true hdig.1
                have b3 : decide (c ≤ 57) = true := decide_eq_true hdig.2
                rw [if_pos hdig] at HX
                have h800 := HD.out.nd.1
                have h801 := HD.out.dp
                have hf801 := HD.out.frozen 801
                have hf800 := HD.out.frozen 800
                by_cases hlz : c = 48 ∧ D = []
                · have b4 : (c == 48) = true := beq_iff_eq.2 hlz.1
                  have h8 : wr.cell? ⟨g, 800, none⟩ = some (.int .i64 0) := by rw [h800, hlz.2]; rfl
                  have h81 : wr.cell? ⟨g, 801, none⟩ = some (.int .i64 dp) := h801
                  have W2 : wrap64 (dp - 1) = dp - 1 := sw_dp hs hd0 hd1 HI.out
                  rw [if_pos hlz] at HX
                  have HX := Aside0.mk HX
                  have HLL : Aside0 (D.length ≤ i + 1 ∧ -((i + 1 : Nat) : Int) ≤ dp - 1 ∧ dp - 1 ≤ ((i + 1 : Nat) : Int)) := ⟨by omega⟩
                  clear hdot hl hd0 hd1 him HR hlz h800 h801 hdig
                  go_wp2
                  go_roundw
                  case measure => exact HMS.out
                  case rel => exact ⟨i + 1, m, dot, true, D, dp - 1, ri_next W1, rfl, rfl, HIM.out, HX, ⟨HD.out.setDp _⟩, HLL.out.1, HLL.out.2.1, HLL.out.2.2, ⟨HB.out.1.setCell (Nat.le_refl _) _, by rw [size_set]; exact HB.out.2⟩⟩
                · rw [if_neg hlz] at HX
                  have HX := Aside0.mk HX
                  obtain ⟨N, hN⟩ : ∃ N, N = D.length := ⟨_, rfl⟩
                  obtain ⟨hN4, hd9, hdd⟩ := sw_num hN hl HI.out hs hdig
                  obtain ⟨g1, g1n, g2⟩ := sw_800 hN4
                  have hN8 : N < 800 := Nat.lt_of_le_of_lt hN4 (by decide)
                  have W3 : wrap64 ((N : Int) + 1) = (N : Int) + 1 := w_succ (Nat.le_trans hN4 (by decide))
                  have HX : Aside0 (s1 s m (i + 1) dot true (D ++ [(c - 48).toNat]) dp = R1) := HX
                  have HLL : Aside0 ((D ++ [(c - 48).toNat]).length ≤ i + 1 ∧ -((i + 1 : Nat) : Int) ≤ dp ∧ dp ≤ ((i + 1 : Nat) : Int)) := ⟨sw_push hl hd0 hd1⟩
                  have h8 : wr.cell? ⟨g, 800, none⟩ = some (.int .i64 (N : Int)) := by rw [hN]; exact h800
                  have HDW := Aside0.mk (HD.out.drewN 1)
                  have HBW : Aside0 (Below g w (wr.drewN 1) ∧ (wr.drewN 1).heap.size = w.heap.size) := ⟨pw_below_drewN HB.out.1 1, HB.out.2⟩
                  have HNN := Aside0.mk hN
                  have HDD := Aside0.mk (And.intro hd9 hdd)
                  have H48 : Aside0 ((c == 48) = false ∨ (c == 48) = true ∧ ((N : Int) == 0) = false) := ⟨by
                    by_cases h48 : c = 48
                    · exact .inr ⟨beq_iff_eq.2 h48, beq_eq_false_iff_ne.2 (fun e => hlz ⟨h48, sw_nil hN e⟩)⟩
                    · exact .inl (beq_eq_false_iff_ne.2 h48)⟩
                  obtain ⟨v, hcN⟩ := HD.out.any N hN8
                  clear hdot hl hd0 hd1 him HR hlz h800 h801 hdig hN hdd hd9 HB hN4 hf800 hf801
                  rcases H48.out with b4 | ⟨b4, b5⟩
                  · go_wp2
                    go_still_tail 11, (by kernel_rfl)
                    change wpList _ _ _ _ _ (wr.drewN 1)
                    clear h8 hcN
                    generalize wr.drewN 1 = w2 at HDW HBW ⊢
                    have h8 := HDW.out.nd.1
                    rw [← HNN.out] at h8
                    obtain ⟨v2, hcN2⟩ := HDW.out.any N hN8
                    have hfN := HDW.out.frozen N
                    have hf800 := HDW.out.frozen 800
                    go_wp2
                    go_roundw
                    case measure => exact HMS.out
                    case rel => exact ⟨i + 1, m, dot, true, D ++ [(c - 48).toNat], dp, ri_next W1, rfl, rfl, HIM.out, HX, sw_dec HDW.out HNN.out hN8 HDD.out, HLL.out.1, HLL.out.2.1, HLL.out.2.2, ⟨(HBW.out.1.setCell (Nat.le_refl _) _).setCell (Nat.le_refl _) _, by rw [size_set, size_set]; exact HBW.out.2⟩⟩
                  · go_wp2
                    go_still_tail 11, (by kernel_rfl)
                    change wpList _ _ _ _ _ (wr.drewN 1)
                    clear h8 hcN
                    generalize wr.drewN 1 = w2 at HDW HBW ⊢
                    have h8 := HDW.out.nd.1
                    rw [← HNN.out] at h8
                    obtain ⟨v2, hcN2⟩ := HDW.out.any N hN8
                    have hfN := HDW.out.frozen N
                    have hf800 := HDW.out.frozen 800
                    go_wp2
                    go_roundw
                    case measure => exact HMS.out
                    case rel => exact ⟨i + 1, m, dot, true, D ++ [(c - 48).toNat], dp, ri_next W1, rfl, rfl, HIM.out, HX, sw_dec HDW.out HNN.out hN8 HDD.out, HLL.out.1, HLL.out.2.1, HLL.out.2.2, ⟨(HBW.out.1.setCell (Nat.le_refl _) _).setCell (Nat.le_refl _) _, by rw [size_set, size_set]; exact HBW.out.2⟩⟩
              · rw [if_neg hdig] at HX
                have HI2 := Aside0.mk (Nat.le_of_lt HI.out)
                have HX := Aside0.mk HX.symm
                by_cases h48 : 48 ≤ c
                · have b2 : decide (48 ≤ c) = true := decide_eq_true h48
                  have b3 : decide (c ≤ 57) = false := decide_eq_false (fun h => hdig ⟨h48, h⟩)
                  clear hdot hl hd0 hd1 him HR h48 hdig
                  go_wp2
                  go_meet
                  case rel => exact ⟨i, dot, dig, D, dp, rfl, rfl, rfl, HI2.out, HX, HD, HL, HB⟩
                · have b2 : decide (48 ≤ c) = false := decide_eq_false h48
                  clear hdot hl hd0 hd1 him HR h48 hdig
                  go_wp2
                  go_meet
                  case rel => exact ⟨i, dot, dig, D, dp, rfl, rfl, rfl, HI2.out, HX, HD, HL, HB⟩
      case rest => as_aux_lemma =>
        obtain ⟨i, dot, dig, D, dp, rfl, rfl, rfl, hi, HR, HD, HL, HB⟩ := hcut
        have HS := Aside0.mk (HS.out.trans (congrArg (setR s ng) HR.out))
        clear HR HD2 HB2 HR1 HSZ
        cases dig with
        | false =>
          go_wp2
          go_ret
          exact SP.none HS.out HB.out
        | true =>
          obtain ⟨p, hp⟩ : ∃ p, p = if dot = true then dp else (D.length : Int) := ⟨_, rfl⟩
          have HP := Aside0.mk hp
          have HPB : Aside0 (-400 ≤ p ∧ p ≤ 400) := ⟨by have := HL.out; rw [hp]; split <;> omega⟩
          clear hp
          generalize wc = w3 at HD HB ⊢
          go_upto_if 120 with fail
          go_cut [] (fun wc => Aside0 (Dec wc g ⟨D, p, ng, false⟩) ∧ Aside0 (Below g w wc ∧ wc.heap.size = w.heap.size))
          case first => as_aux_lemma =>
            cases dot with
            | true =>
              go_wp2
              go_meet
              case rel => exact ⟨⟨by rw [HP.out]; exact HD.out⟩, HB⟩
            | false =>
              have h800 := HD.out.nd.1
              have h801 := HD.out.dp
              have hf801 := HD.out.frozen 801
              have HD3 : Aside0 (Dec (w3.setCell ⟨g, 801, none⟩ (.int .i64 (D.length : Int))) g ⟨D, p, ng, false⟩) := ⟨by rw [HP.out]; exact HD.out.setDp _⟩
              go_wp2
              go_meet
              case rel => exact ⟨HD3, ⟨HB.out.1.setCell (Nat.le_refl _) _, by rw [size_set]; exact HB.out.2⟩⟩
          case rest => as_aux_lemma =>
            obtain ⟨HD3, HB3⟩ := hcut
            clear HD HB
            generalize wc = w4 at HD3 HB3 ⊢
            go_upto_region 32 with fail
            go_cut [138] (fun v138 wc => v138 = .bool (decide (i < s.size ∧ isE (bt s i) = true)) ∧ Aside0 (Dec wc g ⟨D, p, ng, false⟩) ∧ Aside0 (Below g w wc ∧ wc.heap.size = w.heap.size))
            case first => as_aux_lemma =>
              by_cases hil : i < s.size
              · have c1 : ((i : Int) < (s.size : Int)) = True := eq_true (by omega)
                have c1n : (i < s.size) = True := eq_true hil
                have p1 : ((0 : Int) ≤ (i : Int)) = True := eq_true (by omega)
                obtain ⟨c, hc⟩ : ∃ c, c = bt s i := ⟨_, rfl⟩
                have hx : ∀ h : i < s.size, ((s[i]'h).toNat : Int) = c := hx_at hc
                have HE : Aside0 (Value.bool (Go.bits .or .u8 c 32 == 101) = Value.bool (decide (i < s.size ∧ isE (bt s i) = true))) := ⟨by rw [← hc]; exact sw_E hil⟩
                clear hil hc hi
                go_wp2_with (go_at_call 27; ((with_reducible refine (lower_calls c _).mono ?_); rintro e w' ⟨rfl, ⟨nd, rfl⟩⟩))
                go_meet
                case rel => exact ⟨HE.out, ⟨HD3.out.drewN _⟩, ⟨pw_below_drewN HB3.out.1 _, HB3.out.2⟩⟩
              · have c1 : ((i : Int) < (s.size : Int)) = False := eq_false (by omega)
                have c1n : (i < s.size) = False := eq_false hil
                have HE : Aside0 (Value.bool false = Value.bool (decide (i < s.size ∧ isE (bt s i) = true))) := ⟨by simp [hil]⟩
                clear hil hi
                go_wp2
                go_meet
                case rel => exact ⟨HE.out, HD3, HB3⟩
            case rest =>
            obtain ⟨rfl, HD3b, HB3b⟩ := hcut
            clear HD3 HB3
            generalize wc = w5 at HD3b HB3b ⊢
            go_upto_if 138 with fail
            go_cut [5] (fun v5 wc => ∃ (j : Nat) (e : Int), v5 = .int .i64 (j : Int) ∧ Aside0 (sx s i = Option.some (j, e)) ∧ Aside0 (Dec wc g ⟨D, p + e, ng, false⟩) ∧ Aside0 (Below g w wc ∧ wc.heap.size = w.heap.size))
            case first => as_aux_lemma =>
              by_cases hE : i < s.size ∧ isE (bt s i) = true
              · rw [decide_eq_true hE]
                have HX := Aside0.mk (sx_E hE)
                have hi400 : i ≤ 1000 := by omega
                obtain ⟨i1, hi1⟩ : ∃ i1, i1 = i + 1 := ⟨_, rfl⟩
                have W1 := w_nx hi1 hi400
                have HI1 := Aside0.mk hi1
                clear hi hE hi400
                by_cases h1 : s.size ≤ i1
                · have b1 : ((s.size : Int) ≤ (i1 : Int)) = True := eq_true (by omega)
                  have b1n : (s.size ≤ i1) = True := eq_true h1
                  have HN : Aside0 (setF s = Option.none) := ⟨HS.out.trans (setR_none (HX.out.trans (if_pos (by rw [← HI1.out]; exact h1))))⟩
                  clear h1 hi1
                  go_wp2
                  go_ret
                  exact SP.none HN.out HB3b.out
                · have b1 : ((s.size : Int) ≤ (i1 : Int)) = False := eq_false (by omega)
                  have b1n : (s.size ≤ i1) = False := eq_false h1
                  have b2 : ((i1 : Int) < (s.size : Int)) = True := eq_true (by omega)
                  have b2n : (i1 < s.size) = True := eq_true (by omega)
                  have p1 : ((0 : Int) ≤ (i1 : Int)) = True := eq_true (by omega)
                  obtain ⟨c1, hc1⟩ : ∃ c1, c1 = bt s i1 := ⟨_, rfl⟩
                  have hx1 : ∀ h : i1 < s.size, ((s[i1]'h).toNat : Int) = c1 := hx_at hc1
                  have HX := Aside0.mk (HX.out.trans (if_neg (by rw [← HI1.out]; exact h1)))
                  have HC1 : Aside0 (c1 = bt s ((i + 1 : Nat) : Int)) := ⟨by rw [hc1, hi1]⟩
                  have hi400 : i1 ≤ 1000 := by omega
                  obtain ⟨i2, hi2⟩ : ∃ i2, i2 = i1 + 1 := ⟨_, rfl⟩
                  have W2 := w_nx hi2 hi400
                  have HI2 : Aside0 (i2 = i + 2) := ⟨by omega⟩
                  have HIB : Aside0 (i1 ≤ 400) := ⟨by omega⟩
                  clear h1 hi1 hc1 hi2 hi400
                  go_upto_block 4 with fail
                  go_cut [5, 8] (fun v5 v8 wc => v5 = .int .i64 (sxJ s i : Nat) ∧ v8 = .int .i64 (sxG s i) ∧ wc = w5)
                  case first => as_aux_lemma =>
                    by_cases hplus : c1 = 43
                    · have a1 : (c1 == 43) = true := beq_iff_eq.2 hplus
                      have HE : Aside0 (sxJ s i = i2 ∧ sxG s i = 1) := ⟨by unfold sxJ sxG; rw [← HC1.out, HI2.out, if_pos (.inl hplus), if_neg (by omega)]; exact ⟨rfl, rfl⟩⟩
                      clear hplus
                      go_wp2
                      go_meet
                      case rel => exact ⟨by rw [HE.out.1]; exact congrArg (Value.int .i64) W2, by rw [HE.out.2], rfl⟩
                    · have a1 : (c1 == 43) = false := beq_eq_false_iff_ne.2 hplus
                      by_cases hminus : c1 = 45
                      · have a2 : (c1 == 45) = true := beq_iff_eq.2 hminus
                        have HE : Aside0 (sxJ s i = i2 ∧ sxG s i = -1) := ⟨by unfold sxJ sxG; rw [← HC1.out, HI2.out, if_pos (.inr hminus), if_pos hminus]; exact ⟨rfl, rfl⟩⟩
                        clear hplus hminus
                        go_wp2
                        go_meet
                        case rel => exact ⟨by rw [HE.out.1]; exact congrArg (Value.int .i64) W2, by rw [HE.out.2], rfl⟩
                      · have a2 : (c1 == 45) = false := beq_eq_false_iff_ne.2 hminus
                        have HE : Aside0 (sxJ s i = i1 ∧ sxG s i = 1) := ⟨by unfold sxJ sxG; rw [← HC1.out, HI1.out, if_neg (by rintro (h | h); exact hplus h; exact hminus h), if_neg hminus]; exact ⟨rfl, rfl⟩⟩
                        clear hplus hminus
                        go_wp2
                        go_meet
                        case rel => exact ⟨by rw [HE.out.1]; exact congrArg (Value.int .i64) W1, by rw [HE.out.2], rfl⟩
                  case rest => as_aux_lemma =>
                    obtain ⟨rfl, rfl, rfl⟩ := hcut
                    obtain ⟨j, hj⟩ : ∃ j, j = sxJ s i := ⟨_, rfl⟩
                    rw [← hj] at HX ⊢
                    have HJ : Aside0 (j = i1 ∨ j = i1 + 1) := ⟨by rw [hj, HI1.out]; unfold sxJ; split; exact .inr rfl; exact .inl rfl⟩
                    clear hx1 W1 W2 b1 b1n p1 hj
                    have hj400 : j ≤ 402 := by have := HJ.out; have := HIB.out; omega
                    by_cases h2 : s.size ≤ j
                    · have b3 : ((s.size : Int) ≤ (j : Int)) = True := eq_true (by omega)
                      have b3n : (s.size ≤ j) = True := eq_true h2
                      have HN : Aside0 (setF s = Option.none) := ⟨HS.out.trans (setR_none (HX.out.trans (if_pos h2)))⟩
                      clear h2 b2 b2n
                      go_wp2
                      go_ret
                      exact SP.none HN.out HB3b.out
                    · have b3 : ((s.size : Int) ≤ (j : Int)) = False := eq_false (by omega)
                      have b3n : (s.size ≤ j) = False := eq_false h2
                      have b4 : ((j : Int) < (s.size : Int)) = True := eq_true (by omega)
                      have b4n : (j < s.size) = True := eq_true (by omega)
                      have p3 : ((0 : Int) ≤ (j : Int)) = True := eq_true (by omega)
                      obtain ⟨c2, hc2⟩ : ∃ c2, c2 = bt s j := ⟨_, rfl⟩
                      have hx2 : ∀ h : j < s.size, ((s[j]'h).toNat : Int) = c2 := hx_at hc2
                      have HX := Aside0.mk (HX.out.trans (if_neg h2))
                      have HC2 := Aside0.mk hc2
                      have HJ2 : Aside0 (j + (s.size - j) = s.size) := ⟨by omega⟩
                      clear h2 hc2 b2 b2n
                      by_cases h3 : c2 < 48
                      · have a1 : decide (c2 < 48) = true := decide_eq_true h3
                        have HN : Aside0 (setF s = Option.none) := ⟨HS.out.trans (setR_none (HX.out.trans (if_pos (.inl (by rw [← HC2.out]; exact h3)))))⟩
                        clear h3
                        go_wp2
                        go_ret
                        exact SP.none HN.out HB3b.out
                      · have a1 : decide (c2 < 48) = false := decide_eq_false h3
                        by_cases h4 : 57 < c2
                        · have a2 : decide (57 < c2) = true := decide_eq_true h4
                          have HN : Aside0 (setF s = Option.none) := ⟨HS.out.trans (setR_none (HX.out.trans (if_pos (.inr (by rw [← HC2.out]; exact h4)))))⟩
                          clear h3 h4
                          go_wp2
                          go_ret
                          exact SP.none HN.out HB3b.out
                        · have a2 : decide (57 < c2) = false := decide_eq_false h4
                          obtain ⟨R2, hR2⟩ : ∃ R2, R2 = s2 s (s.size - j) j 0 := ⟨_, rfl⟩
                          have HX := HX.out.trans (if_neg (by rw [← HC2.out]; rintro (h | h); exact h3 h; exact h4 h))
                          rw [← hR2] at HX
                          have HX := Aside0.mk HX
                          have HR2 := Aside0.mk hR2
                          clear h3 h4 hR2
                          go_upto_block 5 with fail
                          go_cut [5, 9] (fun v5 v9 wx => v5 = .int .i64 (R2.1 : Nat) ∧ v9 = .int .i64 R2.2 ∧ 0 ≤ R2.2 ∧ R2.2 ≤ 100000 ∧ wx = wc)
                          case first => as_aux_lemma =>
                            go_wp2_with fail
                            go_loop [5, 9] (fun v5 v9 => ∃ (i m : Nat) (e : Int), v5 = .int .i64 (i : Int) ∧ v9 = .int .i64 e ∧ i + m = s.size ∧ Aside0 (s2 s m i e = R2) ∧ 0 ≤ e ∧ e ≤ 100000) (fun v5 _ => s.size - (intOf v5).toNat)
                            case atStart => exact ⟨j, s.size - j, 0, rfl, rfl, HJ2.out, ⟨HR2.out.symm⟩, by omega, by omega⟩
                            case round =>
                              clear hj400 hx2 a1 a2 b3 b3n b4 b4n p3
                              obtain ⟨i, m, e, rfl, rfl, him, HRE, he0, he1⟩ := hrel
                              have HEE : Aside0 (0 ≤ e ∧ e ≤ 100000) := ⟨he0, he1⟩
                              cases m with
                              | zero =>
                                have b5 : ((i : Int) < (s.size : Int)) = False := eq_false (by omega)
                                have b5n : (i < s.size) = False := eq_false (by omega)
                                have HRR := Aside0.mk (s2_nil HRE.out)
                                clear him he0 he1
                                go_wp2
                                go_meet
                                case rel => exact ⟨by rw [HRR.out], by rw [HRR.out], by rw [HRR.out]; exact HEE.out.1, by rw [HRR.out]; exact HEE.out.2, rfl⟩
                              | succ m =>
                                have hi : i < s.size := by omega
                                have b5 : ((i : Int) < (s.size : Int)) = True := eq_true (by omega)
                                have b5n : (i < s.size) = True := eq_true hi
                                have p4 : ((0 : Int) ≤ (i : Int)) = True := eq_true (by omega)
                                obtain ⟨c, hc⟩ : ∃ c, c = bt s i := ⟨_, rfl⟩
                                have hx : ∀ h : i < s.size, ((s[i]'h).toNat : Int) = c := hx_at hc
                                have hc95 : (c == 95) = false := beq_eq_false_iff_ne.2 (by rw [hc]; exact HU.out i hi)
                                have W1 : wrap64 ((i : Int) + 1) = (i : Int) + 1 := w_succ (by omega)
                                have HMS := Aside0.mk (sw_meas hi W1)
                                have HIM : Aside0 (i + 1 + m = s.size) := ⟨by omega⟩
                                have HC := Aside0.mk hc
                                by_cases hdig : 48 ≤ c ∧ c ≤ 57
                                · have a3 : decide (48 ≤ c) = true := decide_eq_true hdig.1
                                  have a4 : decide (c ≤ 57) = true := decide_eq_true hdig.2
                                  by_cases hel : e < 10000
                                  · have a5 : decide (e < 10000) = true := decide_eq_true hel
                                    have HS2 := Aside0.mk (s2_lo HRE.out hc hdig hel)
                                    obtain ⟨E1, E2, E3, E4, E5, E6⟩ := sw_num2 he0 hel hdig
                                    have HEB := Aside0.mk (And.intro E5 E6)
                                    clear hc hi hdig hel he0 he1 him E5 E6
                                    go_wp2
                                    go_round
                                    case measure => exact HMS.out
                                    case rel => exact ⟨i + 1, m, e * 10 + c - 48, ri_next W1, congrArg (Value.int .i64) E4, HIM.out, HS2, HEB.out.1, HEB.out.2⟩
                                  · have a5 : decide (e < 10000) = false := decide_eq_false hel
                                    have HS2 := Aside0.mk (s2_hi HRE.out hc hdig hel)
                                    clear hc hi hdig hel he0 he1 him
                                    go_wp2
                                    go_round
                                    case measure => exact HMS.out
                                    case rel => exact ⟨i + 1, m, e, ri_next W1, rfl, HIM.out, HS2, HEE.out.1, HEE.out.2⟩
                                · have HRR := Aside0.mk (s2_end HRE.out hc hdig)
                                  by_cases h48 : 48 ≤ c
                                  · have a3 : decide (48 ≤ c) = true := decide_eq_true h48
                                    have a4 : decide (c ≤ 57) = false := decide_eq_false (fun h => hdig ⟨h48, h⟩)
                                    clear hc hi hdig h48 he0 he1 him HRE
                                    go_wp2
                                    go_meet
                                    case rel => exact ⟨by rw [HRR.out], by rw [HRR.out], by rw [HRR.out]; exact HEE.out.1, by rw [HRR.out]; exact HEE.out.2, rfl⟩
                                  · have a3 : decide (48 ≤ c) = false := decide_eq_false h48
                                    clear hc hi hdig h48 he0 he1 him HRE
                                    go_wp2
                                    go_meet
                                    case rel => exact ⟨by rw [HRR.out], by rw [HRR.out], by rw [HRR.out]; exact HEE.out.1, by rw [HRR.out]; exact HEE.out.2, rfl⟩
                          case rest => as_aux_lemma =>
                            obtain ⟨rfl, rfl, hr0, hr1, hwx⟩ := hcut
                            subst hwx
                            have h801 : wc.cell? ⟨g, 801, none⟩ = some (.int .i64 p) := HD3b.out.dp
                            have hf801 := HD3b.out.frozen 801
                            obtain ⟨E1, E2⟩ := sw_exp (s := s) (i := i) HPB.out hr0 hr1
                            go_wp2
                            go_meet
                            case rel => exact ⟨R2.1, R2.2 * sxG s i, rfl, HX, ⟨HD3b.out.setDp _⟩, ⟨HB3b.out.1.setCell (Nat.le_refl _) _, by rw [size_set]; exact HB3b.out.2⟩⟩
              · have HX := Aside0.mk (sx_N hE)
                rw [decide_eq_false hE]
                clear hE hi
                go_wp2
                go_meet
                case rel => exact ⟨i, 0, rfl, HX, ⟨by rw [Int.add_zero]; exact HD3b.out⟩, HB3b⟩
            case rest => as_aux_lemma =>
              obtain ⟨j, e, rfl, HX, HD4, HB4⟩ := hcut
              have HS2 := HS.out.trans (setR_some HX.out)
              by_cases hje : j = s.size
              · have b1 : ((j : Int) != (s.size : Int)) = false := bne_eq_false_iff_eq.2 (by rw [hje])
                have b1n : ((j : Int) == (s.size : Int)) = true := beq_iff_eq.2 (by rw [hje])
                rw [if_pos hje, ← HP.out] at HS2
                have HS2 := Aside0.mk HS2
                clear hje HD3b HB3b
                go_wp2
                go_ret
                exact SP.some HS2.out HD4.out HB4.out
              · have b1 : ((j : Int) != (s.size : Int)) = true := bne_iff_ne.2 (fun e => hje (Int.ofNat.inj e))
                have b1n : ((j : Int) == (s.size : Int)) = false := beq_eq_false_iff_ne.2 (fun e => hje (Int.ofNat.inj e))
                rw [if_neg hje] at HS2
                have HS2 := Aside0.mk HS2
                clear hje HD3b HB3b
                go_wp2
                go_ret
                exact SP.none HS2.out HB4.out
end Go.Proofs.YtogikhohkbcccaaGreatDoor.De
