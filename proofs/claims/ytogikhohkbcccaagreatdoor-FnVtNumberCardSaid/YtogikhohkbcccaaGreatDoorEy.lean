import Derived.Test.YtogikhohkbcccaaGreatDoorUq
import Derived.Laws.FloatArith
namespace Go.Proofs.YtogikhohkbcccaaGreatDoor.De
set_option linter.unusedVariables false
set_option linter.unusedSimpArgs false
open Go.RowKit Go.Proofs.YtogikhohkbcccaaGreatDoorW.PrintWords Go.Proofs.YtogikhohkbcccaaGreatDoorW.PrintLast Go.Proofs.YtogikhohkbcccaaGreatDoorW.PrintMore

/-- No NaN. -/
def NN (x : Nat) : Prop := x % 9223372036854775808 ≤ 9218868437227405312
def dbl : Ieee.Format := Ieee.double
theorem sw_is : dbl.signWeight = 9223372036854775808 := by decide
theorem ir_is : dbl.infRung = 9218868437227405312 := by decide
theorem NN.read {x : Nat} (h : NN x) : (dbl.read x).isNaN = false := by
  unfold Ieee.Format.read
  simp only [sw_is, ir_is]
  split
  · rfl
  · split
    · rfl
    · split
      · rfl
      · unfold NN at h; omega
theorem word_NN (n : Bool) {r : Nat} (h : r ≤ 9218868437227405312) : NN (dbl.word n r) := by
  unfold NN Ieee.Format.word
  rw [sw_is]
  cases n <;> simp <;> omega
theorem write_NN {d : Ieee.Datum} (h : d.isNaN = false) : NN (dbl.write d) := by
  cases d with
  | number s m e =>
    unfold Ieee.Format.write Ieee.Format.nearest
    simp only
    split
    · exact word_NN _ (Nat.zero_le _)
    · exact word_NN _ (by rw [ir_is]; exact Nat.min_le_right _ _)
  | infinity s => exact word_NN _ (by rw [ir_is]; exact Nat.le_refl _)
  | nan s f => simp [Ieee.Datum.isNaN] at h
theorem prod_some {d : Ieee.Datum} {t : Bool} {n : Nat} {j : Int} (h : d.isNaN = false) (hn : n ≠ 0) : ∃ r, d.product (.number t n j) = some r ∧ r.isNaN = false := by
  cases d with
  | number s m e => exact ⟨_, rfl, rfl⟩
  | infinity s => exact ⟨.infinity (s ^^ t), by simp [Ieee.Datum.product, hn], rfl⟩
  | nan s f => simp [Ieee.Datum.isNaN] at h
theorem quot_some {d : Ieee.Datum} {t : Bool} {n k : Nat} {j : Int} (h : d.isNaN = false) (hn : n ≠ 0) : ∃ r, d.quotient k (.number t n j) = some r ∧ r.isNaN = false := by
  cases d with
  | number s m e => exact ⟨_, by simp only [Ieee.Datum.quotient, if_neg hn]; rfl, rfl⟩
  | infinity s => exact ⟨.infinity (s ^^ t), rfl, rfl⟩
  | nan s f => simp [Ieee.Datum.isNaN] at h
/-- A number that is not nought. -/
def NZ (x : Nat) : Prop := ∃ t n j, dbl.read x = .number t n j ∧ n ≠ 0
theorem mul_NN {x y : Nat} (hx : NN x) (hy : NZ y) : ∃ r, floatBits .mul .f64 x y = some r ∧ NN r := by
  obtain ⟨t, n, j, e, hn⟩ := hy
  obtain ⟨r, h1, h2⟩ := prod_some (t := t) (j := j) hx.read hn
  refine ⟨dbl.write r, ?_, write_NN h2⟩
  show ((dbl.read x).product (dbl.read y)).map dbl.write = _
  rw [e, h1]; rfl
theorem div_NN {x y : Nat} (hx : NN x) (hy : NZ y) : ∃ r, floatBits .quo .f64 x y = some r ∧ NN r := by
  obtain ⟨t, n, j, e, hn⟩ := hy
  obtain ⟨r, h1, h2⟩ := quot_some (t := t) (j := j) (k := dbl.fractionBits + 2) hx.read hn
  refine ⟨dbl.write r, ?_, write_NN h2⟩
  show ((dbl.read x).quotient (dbl.fractionBits + 2) (dbl.read y)).map dbl.write = _
  rw [e, h1]; rfl
theorem near_NN (n : Int) : NN (FloatKind.f64.nearest n) := write_NN (d := .number (n < 0) n.natAbs 0) rfl
theorem neg_NN {x : Nat} (h : NN x) : NN (Op.negFloat .f64 x) := by
  unfold NN at h ⊢
  have e : Op.negFloat .f64 x = x ^^^ 2 ^ 63 := rfl
  rw [e, show (9223372036854775808 : Nat) = 2 ^ 63 by decide, Nat.xor_mod_two_pow]
  simpa using h
def fpow : List Nat := [4607182418800017408, 4621819117588971520, 4636737291354636288, 4652007308841189376, 4666723172467343360, 4681608360884174848, 4696837146684686336, 4711630319722168320, 4726483295884279808, 4741671816366391296, 4756540486875873280, 4771362005757984768, 4786511204640096256, 4801453603149578240, 4816244402031689728, 4831355200913801216, 4846369599423283200, 4861130398305394688, 4876203697187506176, 4891288408196988160, 4906019910204099648, 4921056587992461136, 4936209963552724370]
def fpw (k : Nat) : Nat := fpow.getD k 4607182418800017408
theorem fpw_NZ (k : Nat) : NZ (fpw k) := by
  have H : (fpow.all fun x => match dbl.read x with | .number _ n _ => n != 0 | _ => false) = true := by decide
  have h1 : (match dbl.read (fpw k) with | .number _ n _ => n != 0 | _ => false) = true := by
    unfold fpw
    rw [List.getD_eq_getElem?_getD]
    by_cases h : k < fpow.length
    · rw [List.getElem?_eq_getElem h]
      exact List.all_eq_true.1 H _ (List.getElem_mem h)
    · rw [List.getElem?_eq_none (by omega)]
      decide
  unfold NZ
  revert h1
  cases dbl.read (fpw k) with
  | number t n j => intro h; exact ⟨t, n, j, rfl, by simpa using h⟩
  | infinity s => intro h; cases h
  | nan s f => intro h; cases h
def fm (x y : Nat) : Nat := (floatBits .mul .f64 x y).getD 0
def fd (x y : Nat) : Nat := (floatBits .quo .f64 x y).getD 0
theorem fm_is {x : Nat} (k : Nat) (hx : NN x) : floatBits .mul .f64 x (fpw k) = some (fm x (fpw k)) ∧ NN (fm x (fpw k)) := by
  obtain ⟨r, h, hn⟩ := mul_NN hx (fpw_NZ k)
  unfold fm
  rw [h]; exact ⟨rfl, hn⟩
theorem fd_is {x : Nat} (k : Nat) (hx : NN x) : floatBits .quo .f64 x (fpw k) = some (fd x (fpw k)) := by
  obtain ⟨r, h, hn⟩ := div_NN hx (fpw_NZ k)
  unfold fd
  rw [h]; rfl
end Go.Proofs.YtogikhohkbcccaaGreatDoor.De

namespace Go.Proofs.YtogikhohkbcccaaGreatDoor.De
set_option linter.unusedVariables false
set_option linter.unusedSimpArgs false
open Go.RowKit Go.Proofs.YtogikhohkbcccaaGreatDoorW.PrintWords Go.Proofs.YtogikhohkbcccaaGreatDoorW.PrintLast Go.Proofs.YtogikhohkbcccaaGreatDoorW.PrintMore

def exF (m : Nat) (ng : Bool) : Nat := if ng = true then Op.negFloat .f64 (floatOfInt .f64 (m : Int)) else floatOfInt .f64 (m : Int)
theorem exF_t (m : Nat) : exF m true = Op.negFloat .f64 (floatOfInt .f64 (m : Int)) := if_pos rfl
theorem exF_f (m : Nat) : exF m false = floatOfInt .f64 (m : Int) := if_neg (by simp)
theorem unary_neg (f : Nat) (W : World) : (Op.unary .neg (.float .f64 f)).run Tryz.prog W = .ok (.float .f64 (Op.negFloat .f64 f)) W := by
  unfold Op.unary
  simp only [Sem.run_pure]
theorem exF_NN (m : Nat) (ng : Bool) : NN (exF m ng) := by
  unfold exF; split
  · exact neg_NN (near_NN _)
  · exact near_NN _
def fgt (x : Nat) : Bool := FloatKind.f64.format.order x 4831355200913801216 == some .gt
def flt (x : Nat) : Bool := FloatKind.f64.format.order x 14054727237768577024 == some .lt
/-- What atof64exact answers. -/
def exO (m : Nat) (e : Int) (ng : Bool) : Nat × Bool :=
  if ¬ m / 4503599627370496 = 0 then (0, false)
  else if e = 0 then (exF m ng, true)
  else if 0 < e ∧ e ≤ 22 then (if (fgt (exF m ng) || flt (exF m ng)) = true then (exF m ng, false) else (fm (exF m ng) (fpw e.toNat), true))
  else if 22 < e ∧ e ≤ 37 then (if (fgt (fm (exF m ng) (fpw (e - 22).toNat)) || flt (fm (exF m ng) (fpw (e - 22).toNat))) = true then (fm (exF m ng) (fpw (e - 22).toNat), false) else (fm (fm (exF m ng) (fpw (e - 22).toNat)) (fpw 22), true))
  else if e < 0 ∧ -22 ≤ e then (fd (exF m ng) (fpw (-e).toNat), true)
  else (exF m ng, false)
theorem fgt_p {F : Nat} {G : Bool} (h : G = fgt F) : (G = true → (FloatKind.f64.format.order F 4831355200913801216 == some Ordering.gt) = true) ∧ (G = false → (FloatKind.f64.format.order F 4831355200913801216 == some Ordering.gt) = false) := by
  subst h; unfold fgt
  exact ⟨fun h => h, fun h => h⟩
theorem flt_p {F : Nat} {G : Bool} (h : G = flt F) : (G = true → (FloatKind.f64.format.order F 14054727237768577024 == some Ordering.lt) = true) ∧ (G = false → (FloatKind.f64.format.order F 14054727237768577024 == some Ordering.lt) = false) := by
  subst h; unfold flt
  exact ⟨fun h => h, fun h => h⟩
theorem ex_e0 {m : Nat} {ng : Bool} (h : m / 4503599627370496 = 0) : exO m 0 ng = (exF m ng, true) := by
  unfold exO; rw [if_neg (by simpa using h), if_pos rfl]
theorem ex_lo {m n : Nat} {ng : Bool} (h : m / 4503599627370496 = 0) (h0 : 0 < n) (h1 : n ≤ 22) : exO m (n : Int) ng = if (fgt (exF m ng) || flt (exF m ng)) = true then (exF m ng, false) else (fm (exF m ng) (fpw n), true) := by
  unfold exO; rw [if_neg (by simpa using h), if_neg (by omega), if_pos (by omega), Int.toNat_natCast]
theorem ex_mid {m n k : Nat} {ng : Bool} (h : m / 4503599627370496 = 0) (h0 : 22 < n) (h1 : n ≤ 37) (hk : k = n - 22) : exO m (n : Int) ng = if (fgt (fm (exF m ng) (fpw k)) || flt (fm (exF m ng) (fpw k))) = true then (fm (exF m ng) (fpw k), false) else (fm (fm (exF m ng) (fpw k)) (fpw 22), true) := by
  have e : ((n : Int) - 22).toNat = k := by omega
  unfold exO; rw [if_neg (by simpa using h), if_neg (by omega), if_neg (by omega), if_pos (by omega), e]
theorem ex_hi {m n : Nat} {ng : Bool} (h : m / 4503599627370496 = 0) (h1 : ¬ n ≤ 37) : exO m (n : Int) ng = (exF m ng, false) := by
  unfold exO; rw [if_neg (by simpa using h), if_neg (by omega), if_neg (by omega), if_neg (by omega), if_neg (by omega)]
theorem ex_neg {m n : Nat} {ng : Bool} (h : m / 4503599627370496 = 0) (h0 : 0 < n) (h1 : n ≤ 22) : exO m (-(n : Int)) ng = (fd (exF m ng) (fpw n), true) := by
  have e : (- -(n : Int)).toNat = n := by omega
  unfold exO; rw [if_neg (by simpa using h), if_neg (by omega), if_neg (by omega), if_neg (by omega), if_pos (by omega), e]
theorem ex_neg' {m n : Nat} {ng : Bool} (h : m / 4503599627370496 = 0) (h0 : 0 < n) (h1 : ¬ n ≤ 22) : exO m (-(n : Int)) ng = (exF m ng, false) := by
  unfold exO; rw [if_neg (by simpa using h), if_neg (by omega), if_neg (by omega), if_neg (by omega), if_neg (by omega)]
theorem ex_w {n : Nat} (h : n ≤ 37) (h2 : 22 < n) : wrap64 ((n : Int) - 22) = ((n - 22 : Nat) : Int) := by unfold wrap64; omega

/-- The table of the exact powers. -/
def ET (B : Nat) (w : World) : Prop := ∃ (b o cap : Nat), b < B ∧ 10 < B ∧ w.cell? ⟨8, 0, none⟩ = some (.slice (some ⟨b, o, none⟩) 23 cap) ∧ ∀ k, k < 23 → w.cell? ⟨b, o + k, none⟩ = some (.float .f64 (fpw k))

set_option maxHeartbeats 4000000 in
set_option maxRecDepth 100000 in
theorem ex_calls (m : Nat) (e : Int) (ng : Bool) (w : World) (B : Nat) (hm : m < 18446744073709551616) (he0 : -1000000 ≤ e) (he1 : e ≤ 1000000) (hF : FT B w) (hE : ET B w) :
    Calls Tryz.prog 53 #[.int .u64 m, .int .i64 e, .bool ng] w fun x w' => x = .returned (.tuple #[.float .f64 (exO m e ng).1, .bool (exO m e ng).2]) ∧ Drawn0 w w' := by
  have h50 := hF.mant
  obtain ⟨b, o, cap, hb, hB, ht1, ht2⟩ := hE
  have HT2 := Aside0.mk ht2
  have HNN := Aside0.mk (exF_NN m ng)
  clear hF ht2 hb hB
  by_cases hbig : m / 4503599627370496 = 0
  · have c1 : ((m : Int) / 4503599627370496 != 0) = false := bne_eq_false_iff_eq.2 (by omega)
    have c2 : ((m : Int) / 4503599627370496 == 0) = true := beq_iff_eq.2 (by omega)
    have HBG := Aside0.mk hbig
    clear hbig
    go_enter Tryz.func53, Tryz.ntmps53
    go_upto_if 15 with fail
    obtain ⟨f, hf⟩ : ∃ f, f = floatOfInt FloatKind.f64 (m : Int) := ⟨_, rfl⟩
    obtain ⟨f2, hf2⟩ : ∃ f2, f2 = Op.negFloat .f64 f := ⟨_, rfl⟩
    have hneg : ∀ W : World, (Op.unary .neg (.float .f64 f)).run Tryz.prog W = .ok (.float .f64 f2) W := fun W => by rw [hf2]; exact unary_neg f W
    have HF1 : Aside0 (exF m false = f ∧ exF m true = f2) := ⟨by rw [hf2, hf]; exact ⟨exF_f m, exF_t m⟩⟩
    rw [← hf]
    clear hf hf2
    go_cut [6] (fun v6 wc => v6 = .float .f64 (exF m ng) ∧ wc = w)
    case first =>
      cases ng with
      | true =>
        go_wp2
        go_meet
        case rel => exact ⟨by rw [HF1.out.2], rfl⟩
      | false =>
        go_wp2
        go_meet
        case rel => exact ⟨by rw [HF1.out.1], rfl⟩
    case rest =>
      obtain ⟨rfl, rfl⟩ := hcut
      clear h50 hneg c1 c2
      have hb := HBG.out
      by_cases h0 : e = 0
      · subst h0
        have HO := Aside0.mk (ex_e0 (ng := ng) hb)
        clear hb HF1
        generalize exF m ng = F at HO HNN ⊢
        go_wp2
        refine bodyPost_ret (results_list (rs := [.tmp 6, .tmp 7]) rfl (by simp) (.tmp (.tmp .nil))) rfl ?_
        refine ⟨?_, by exact Drawn0.refl _⟩
        rw [HO.out]
        rfl
      · have c0 : (e == 0) = false := beq_eq_false_iff_ne.2 h0
        by_cases hpos : 0 < e
        · obtain ⟨n, rfl⟩ : ∃ n : Nat, e = (n : Int) := ⟨e.toNat, by omega⟩
          have hn0 : 0 < n := by omega
          have c3 : ((0 : Int) < (n : Int)) = True := eq_true hpos
          have c3n : (0 < n) = True := eq_true hn0
          have p1 : ((0 : Int) ≤ (n : Int)) = True := eq_true (by omega)
          by_cases h22 : n ≤ 22
          · have HO := ex_lo (ng := ng) hb hn0 h22
            have c4 : ((n : Int) ≤ 37) = True := eq_true (by omega)
            have c4n : (n ≤ 37) = True := eq_true (by omega)
            have c5 : ((22 : Int) < (n : Int)) = False := eq_false (by omega)
            have c5n : (22 < n) = False := eq_false (by omega)
            have p2 : ((n : Int) < 23) = True := eq_true (by omega)
            have p2n : (n < 23) = True := eq_true (by omega)
            have hc := HT2.out n (by omega)
            obtain ⟨hm1, _⟩ := fm_is n HNN.out
            have hmul := fun W : World => run_float_arith (P := Tryz.prog) W .mul 37 .f64 _ _ _ hm1
            clear hb HF1 hn0 h22 hpos h0 he0 he1 hm1
            generalize exF m ng = F at HO HNN hmul ⊢
            generalize fm F (fpw n) = R at HO hmul
            generalize fpw n = T at hc hmul
            obtain ⟨G, hG0⟩ : ∃ G, G = fgt F := ⟨_, rfl⟩
            obtain ⟨K, hK0⟩ : ∃ K, K = flt F := ⟨_, rfl⟩
            rw [← hG0, ← hK0] at HO
            have hG := fgt_p hG0
            have hK := flt_p hK0
            clear hG0 hK0
            cases G with
            | true =>
              have HO := Aside0.mk HO
              have hg1 := hG.1 rfl
              clear hG hK
              go_wp2
              refine bodyPost_ret (results_list (rs := [.tmp 6, .tmp 7]) rfl (by simp) (.tmp (.tmp .nil))) rfl ?_
              refine ⟨?_, by exact Drawn0.refl _⟩
              rw [HO.out]
              rfl
            | false =>
              have hg1 := hG.2 rfl
              cases K with
              | true =>
                have HO := Aside0.mk HO
                have hk1 := hK.1 rfl
                clear hG hK
                go_wp2
                refine bodyPost_ret (results_list (rs := [.tmp 6, .tmp 7]) rfl (by simp) (.tmp (.tmp .nil))) rfl ?_
                refine ⟨?_, by exact Drawn0.refl _⟩
                rw [HO.out]
                rfl
              | false =>
                have HO := Aside0.mk HO
                have hk1 := hK.2 rfl
                clear hG hK
                go_wp2
                refine bodyPost_ret (results_list (rs := [.tmp 6, .tmp 7]) rfl (by simp) (.tmp (.tmp .nil))) rfl ?_
                refine ⟨?_, by exact Drawn0.refl _⟩
                rw [HO.out]
                rfl
          · by_cases h37 : n ≤ 37
            · obtain ⟨k, hk⟩ : ∃ k, k = n - 22 := ⟨_, rfl⟩
              have HO := ex_mid (ng := ng) hb (by omega) h37 hk
              have c4 : ((n : Int) ≤ 37) = True := eq_true (by omega)
              have c4n : (n ≤ 37) = True := eq_true (by omega)
              have c5 : ((22 : Int) < (n : Int)) = True := eq_true (by omega)
              have c5n : (22 < n) = True := eq_true (by omega)
              have W1 : wrap64 ((n : Int) - 22) = (k : Int) := by rw [ex_w h37 (by omega), hk]
              have p2 : ((k : Int) < 23) = True := eq_true (by omega)
              have p2n : (k < 23) = True := eq_true (by omega)
              have p3 : ((0 : Int) ≤ (k : Int)) = True := eq_true (by omega)
              have hc := HT2.out k (by omega)
              have hc22 := HT2.out 22 (by omega)
              obtain ⟨hm1, hn1⟩ := fm_is k HNN.out
              obtain ⟨hm2, _⟩ := fm_is 22 hn1
              have hmul := fun W : World => run_float_arith (P := Tryz.prog) W .mul 37 .f64 _ _ _ hm1
              have hmul2 := fun W : World => run_float_arith (P := Tryz.prog) W .mul 37 .f64 _ _ _ hm2
              clear hb HF1 hn0 h22 hpos h0 he0 he1 hm1 hm2 hn1 h37 hk
              generalize exF m ng = F at HO HNN hmul hmul2 ⊢
              generalize fm F (fpw k) = F1 at HO hmul hmul2
              generalize fm F1 (fpw 22) = R at HO hmul2
              generalize fpw k = T at hc hmul
              generalize fpw 22 = T2 at hc22 hmul2
              obtain ⟨G, hG0⟩ : ∃ G, G = fgt F1 := ⟨_, rfl⟩
              obtain ⟨K, hK0⟩ : ∃ K, K = flt F1 := ⟨_, rfl⟩
              rw [← hG0, ← hK0] at HO
              have hG := fgt_p hG0
              have hK := flt_p hK0
              clear hG0 hK0
              cases G with
              | true =>
                have HO := Aside0.mk HO
                have hg1 := hG.1 rfl
                clear hG hK
                go_wp2
                refine bodyPost_ret (results_list (rs := [.tmp 6, .tmp 7]) rfl (by simp) (.tmp (.tmp .nil))) rfl ?_
                refine ⟨?_, by exact Drawn0.refl _⟩
                rw [HO.out]
                rfl
              | false =>
                have hg1 := hG.2 rfl
                cases K with
                | true =>
                  have HO := Aside0.mk HO
                  have hk1 := hK.1 rfl
                  clear hG hK
                  go_wp2
                  refine bodyPost_ret (results_list (rs := [.tmp 6, .tmp 7]) rfl (by simp) (.tmp (.tmp .nil))) rfl ?_
                  refine ⟨?_, by exact Drawn0.refl _⟩
                  rw [HO.out]
                  rfl
                | false =>
                  have HO := Aside0.mk HO
                  have hk1 := hK.2 rfl
                  clear hG hK
                  go_wp2
                  refine bodyPost_ret (results_list (rs := [.tmp 6, .tmp 7]) rfl (by simp) (.tmp (.tmp .nil))) rfl ?_
                  refine ⟨?_, by exact Drawn0.refl _⟩
                  rw [HO.out]
                  rfl
            · have HO := Aside0.mk (ex_hi (ng := ng) hb h37)
              have c4 : ((n : Int) ≤ 37) = False := eq_false (by omega)
              have c4n : (n ≤ 37) = False := eq_false h37
              have c6 : ((n : Int) < 0) = False := eq_false (by omega)
              clear hb HF1 hn0 h22 hpos h0 he0 he1 h37
              generalize exF m ng = F at HO HNN ⊢
              go_wp2
              refine bodyPost_ret (results_list (rs := [.tmp 6, .tmp 7]) rfl (by simp) (.tmp (.tmp .nil))) rfl ?_
              refine ⟨?_, by exact Drawn0.refl _⟩
              rw [HO.out]
              rfl
        · obtain ⟨n, hn⟩ : ∃ n : Nat, -e = (n : Int) := ⟨(-e).toNat, by omega⟩
          obtain rfl : e = -(n : Int) := by omega
          have hn0 : 0 < n := by omega
          have c3 : ((0 : Int) < -(n : Int)) = False := eq_false hpos
          have c6 : (-(n : Int) < 0) = True := eq_true (by omega)
          have c6n : (0 < n) = True := eq_true hn0
          by_cases h22 : n ≤ 22
          · have HO := Aside0.mk (ex_neg (ng := ng) hb hn0 h22)
            have c7 : ((-22 : Int) ≤ -(n : Int)) = True := eq_true (by omega)
            have c7n : (n ≤ 22) = True := eq_true h22
            have c7m : ((n : Int) ≤ 22) = True := eq_true (by omega)
            have W1 : wrap64 (n : Int) = (n : Int) := w_self (by omega)
            have p1 : ((0 : Int) ≤ (n : Int)) = True := eq_true (by omega)
            have p2 : ((n : Int) < 23) = True := eq_true (by omega)
            have p2n : (n < 23) = True := eq_true (by omega)
            have hc := HT2.out n (by omega)
            have hm1 := fd_is n HNN.out
            have hquo := fun W : World => run_float_arith (P := Tryz.prog) W .quo 37 .f64 _ _ _ hm1
            clear hb HF1 hn0 h22 hpos h0 he0 he1 hm1 hn
            generalize exF m ng = F at HO HNN hquo ⊢
            generalize fd F (fpw n) = R at HO hquo
            generalize fpw n = T at hc hquo
            go_wp2
            refine bodyPost_ret (results_list (rs := [.tmp 6, .tmp 7]) rfl (by simp) (.tmp (.tmp .nil))) rfl ?_
            refine ⟨?_, by exact Drawn0.refl _⟩
            rw [HO.out]
            rfl
          · have HO := Aside0.mk (ex_neg' (ng := ng) hb hn0 h22)
            have c7 : ((-22 : Int) ≤ -(n : Int)) = False := eq_false (by omega)
            have c7n : (n ≤ 22) = False := eq_false h22
            have c7m : ((n : Int) ≤ 22) = False := eq_false (by omega)
            clear hb HF1 hn0 h22 hpos h0 he0 he1 hn
            generalize exF m ng = F at HO HNN ⊢
            go_wp2
            refine bodyPost_ret (results_list (rs := [.tmp 6, .tmp 7]) rfl (by simp) (.tmp (.tmp .nil))) rfl ?_
            refine ⟨?_, by exact Drawn0.refl _⟩
            rw [HO.out]
            rfl
  · have c1 : ((m : Int) / 4503599627370496 != 0) = true := bne_iff_ne.2 (by omega)
    have c2 : ((m : Int) / 4503599627370496 == 0) = false := beq_eq_false_iff_ne.2 (by omega)
    have HO : Aside0 (exO m e ng = (0, false)) := ⟨by unfold exO; rw [if_pos hbig]⟩
    clear hbig
    go_enter Tryz.func53, Tryz.ntmps53
    go_wp2
    refine bodyPost_ret (results_list (rs := [.tmp 6, .tmp 7]) rfl (by simp) (.tmp (.tmp .nil))) rfl ?_
    refine ⟨?_, by exact Drawn0.refl _⟩
    rw [HO.out]
    rfl
end Go.Proofs.YtogikhohkbcccaaGreatDoor.De
