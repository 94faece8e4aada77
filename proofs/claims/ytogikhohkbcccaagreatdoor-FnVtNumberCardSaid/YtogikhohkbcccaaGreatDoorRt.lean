import Derived.Test.YtogikhohkbcccaaGreatDoorF3
namespace Go.Proofs.YtogikhohkbcccaaGreatDoor.F
set_option linter.unusedVariables false
set_option linter.unusedSimpArgs false
open Go.RowKit Go.Proofs.YtogikhohkbcccaaGreatDoorW.PrintWords Go.Proofs.YtogikhohkbcccaaGreatDoorW.PrintLast Go.Proofs.YtogikhohkbcccaaGreatDoorW.PrintMore

abbrev RFR := Int × Int × Bool × Bool × Bool × Int × Bool
/-- What a good answer keeps. -/
def RGood (s : ByteArray) (r : RFR) : Prop := r.2.2.2.2.2.2 = true → r.2.2.2.2.1 = false ∧ (0 ≤ r.1 ∧ r.1 < 10000000000000000000) ∧ (-1000000 ≤ r.2.1 ∧ r.2.1 ≤ 1000000) ∧ 0 ≤ r.2.2.2.2.2.1 ∧ r.2.2.2.2.2.1 ≤ s.size
def RT (s : ByteArray) (g : Nat → Option RFR) : Prop := ∃ r, Ev g r ∧ RGood s r
theorem RT.step {s : ByteArray} {g f : Nat → Option RFR} (h : ∀ k, g (k + 1) = f k) (t : RT s f) : RT s g := by
  obtain ⟨r, h1, h2⟩ := t; exact ⟨r, Ev.step h h1, h2⟩
theorem RT.now {s : ByteArray} {r : RFR} (h : RGood s r) : RT s (fun _ => some r) := ⟨r, Ev.now r, h⟩
theorem RT.no {s : ByteArray} {a b : Int} {c d e : Bool} {n : Int} : RT s (fun _ => some (a, b, c, d, e, n, false)) := RT.now (fun h => by cases h)
theorem wrap_nx {n : Nat} (h : n ≤ 1000) : wrap64 ((n : Int) + 1) = ((n + 1 : Nat) : Int) := by unfold wrap64; omega

theorem lt19 {t : Nat} (h : t < 19) : (t : Int) < 19 := by omega
theorem lt19' {t : Nat} (h : ¬ t < 19) : ¬ (t : Int) < 19 := by omega
section
variable {s : ByteArray} (hs : s.size ≤ 400) (hu : ∀ i : Nat, i < s.size → bt s i ≠ 95) (hp : ∀ i : Nat, i < s.size → Go.bits .or .u8 (bt s i) 32 ≠ 112)
include hs
theorem e15 (x2 : Int) (x4 x5 x8 : Bool) (i : Nat) (x16 x17 : Int) (h2 : 0 ≤ x2 ∧ x2 < 10000000000000000000) (hi : i ≤ s.size) (h17 : -900000 ≤ x17 - x16 ∧ x17 - x16 ≤ 900000) : RT s (fun k => strconv_readFloat.j15 k s x2 0 x4 x5 false i x8 false x16 x17) := by
  have _ := hs
  have hw : wrap64 (x17 - x16) = x17 - x16 := by unfold wrap64; omega
  by_cases h0 : x2 = 0
  · refine RT.step (f := fun _ => some (x2, 0, x4, x5, false, (i : Int), true)) (fun k => ?_) (RT.now fun _ => ⟨rfl, h2, ⟨by show (-1000000 : Int) ≤ 0; decide, by show (0 : Int) ≤ 1000000; decide⟩, by show (0 : Int) ≤ (i : Int); omega, by show (i : Int) ≤ _; omega⟩)
    rw [strconv_readFloat.j15, if_pos h0, if_neg (by simp)]
  · refine RT.step (f := fun _ => some (x2, x17 - x16, x4, x5, false, (i : Int), true)) (fun k => ?_) (RT.now fun _ => ⟨rfl, h2, ⟨by show -1000000 ≤ x17 - x16; omega, by show x17 - x16 ≤ 1000000; omega⟩, by show (0 : Int) ≤ (i : Int); omega, by show (i : Int) ≤ _; omega⟩)
    rw [strconv_readFloat.j15, if_neg h0, if_neg (by simp), hw]
include hu
theorem e1 (x2 : Int) (x4 x5 : Bool) (x16 x17 x19 : Int) (h2 : 0 ≤ x2 ∧ x2 < 10000000000000000000) (h17 : -1000 ≤ x17 ∧ x17 ≤ 1000) (h16 : 0 ≤ x16 ∧ x16 ≤ 1000) (h19 : x19 = 1 ∨ x19 = -1) : ∀ (m i : Nat) (e : Int), i + m = s.size → 0 ≤ e → e ≤ 100000 → RT s (fun k => strconv_readFloat.l1 k s x2 0 x4 x5 false i false false x16 x17 x19 e) := by
  have hend : ∀ (i : Nat) (e : Int), i ≤ s.size → 0 ≤ e → e ≤ 100000 → RT s (fun k => strconv_readFloat.j14 k s x2 0 x4 x5 false i false false x16 x17 x19 e false) := by
    intro i e hi h0 h1
    refine RT.step (f := fun k => strconv_readFloat.j15 k s x2 0 x4 x5 false i false false x16 (wrap64 (x17 + (wrap64 (e * x19))))) (fun k => ?_) ?_
    · rw [strconv_readFloat.j14, if_neg (by simp)]
    · have hw : wrap64 (x17 + (wrap64 (e * x19))) = x17 + e * x19 := by
        rcases h19 with rfl | rfl <;> unfold wrap64 <;> omega
      rw [hw]
      exact e15 hs x2 x4 x5 false i x16 _ h2 hi (by rcases h19 with rfl | rfl <;> omega)
  intro m
  induction m with
  | zero =>
    intro i e hi h0 h1
    refine RT.step (fun k => ?_) (hend i e (by omega) h0 h1)
    rw [strconv_readFloat.l1, if_neg (by omega)]
  | succ m ih =>
    intro i e hi h0 h1
    have hlt : i < s.size := by omega
    have h95 : (bt s i == 95) = false := beq_eq_false_iff_ne.2 (hu i hlt)
    have hgo : bt s i ≤ 57 → 48 ≤ bt s i → RT s (fun k => strconv_readFloat.j14 k s x2 0 x4 x5 false i false false x16 x17 x19 e true) := by
      intro hc1 hc0
      by_cases he : e < 10000
      · have hw : wrap64 ((wrap64 ((wrap64 (e * 10)) + (wrap64 (bt s i)))) - 48) = e * 10 + bt s i - 48 := by unfold wrap64; omega
        refine RT.step (fun k => ?_) (ih (i + 1) (e * 10 + bt s i - 48) (by omega) (by omega) (by omega))
        rw [strconv_readFloat.j14, if_pos rfl, if_pos (by omega), if_pos (by omega), if_neg (hu i hlt), if_pos he, hw, wrap_nx (by omega)]
      · refine RT.step (fun k => ?_) (ih (i + 1) e (by omega) h0 h1)
        rw [strconv_readFloat.j14, if_pos rfl, if_pos (by omega), if_pos (by omega), if_neg (hu i hlt), if_neg he, wrap_nx (by omega)]
    by_cases hc0 : 48 ≤ bt s i
    · by_cases hc1 : bt s i ≤ 57
      · refine RT.step (fun k => ?_) (hgo hc1 hc0)
        rw [strconv_readFloat.l1, if_pos (by omega), if_pos (by omega), if_pos hc0, if_pos hc1]
      · refine RT.step (fun k => ?_) (hend i e (by omega) h0 h1)
        rw [strconv_readFloat.l1, if_pos (by omega), if_pos (by omega), if_pos hc0, if_neg hc1, h95]
    · refine RT.step (fun k => ?_) (hend i e (by omega) h0 h1)
      rw [strconv_readFloat.l1, if_pos (by omega), if_pos (by omega), if_neg hc0, h95]
theorem e12 (x2 : Int) (x4 x5 : Bool) (x16 x17 x19 : Int) (h2 : 0 ≤ x2 ∧ x2 < 10000000000000000000) (h17 : -1000 ≤ x17 ∧ x17 ≤ 1000) (h16 : 0 ≤ x16 ∧ x16 ≤ 1000) (h19 : x19 = 1 ∨ x19 = -1) (i : Nat) (hi : i ≤ s.size) (b : Bool) : RT s (fun k => strconv_readFloat.j12 k s x2 0 x4 x5 false i false false x16 x17 x19 b) := by
  cases b with
  | true =>
    refine RT.step (f := fun _ => some (x2, 0, x4, x5, false, (i : Int), false)) (fun k => ?_) RT.no
    rw [strconv_readFloat.j12, if_pos rfl]
  | false =>
    refine RT.step (fun k => ?_) (e1 hs hu x2 x4 x5 x16 x17 x19 h2 h17 h16 h19 (s.size - i) i 0 (by omega) (by omega) (by omega))
    rw [strconv_readFloat.j12, if_neg (by simp)]
theorem e11 (x2 : Int) (x4 x5 : Bool) (x16 x17 x19 : Int) (h2 : 0 ≤ x2 ∧ x2 < 10000000000000000000) (h17 : -1000 ≤ x17 ∧ x17 ≤ 1000) (h16 : 0 ≤ x16 ∧ x16 ≤ 1000) (h19 : x19 = 1 ∨ x19 = -1) (i : Nat) (hi : i ≤ s.size) : RT s (fun k => strconv_readFloat.j11 k s x2 0 x4 x5 false i false false x16 x17 x19) := by
  have H := e12 hs hu x2 x4 x5 x16 x17 x19 h2 h17 h16 h19 i hi
  by_cases h : s.size ≤ i
  · refine RT.step (fun k => ?_) (H true)
    rw [strconv_readFloat.j11, if_pos (by omega)]
  · by_cases hc : bt s i < 48
    · refine RT.step (fun k => ?_) (H true)
      rw [strconv_readFloat.j11, if_neg (by omega), if_pos (by omega), if_pos (by omega), if_pos hc]
    · refine RT.step (fun k => ?_) (H (decide (bt s i > 57)))
      rw [strconv_readFloat.j11, if_neg (by omega), if_pos (by omega), if_pos (by omega), if_neg hc]
theorem e10 (x2 : Int) (x4 x5 : Bool) (x16 x17 : Int) (h2 : 0 ≤ x2 ∧ x2 < 10000000000000000000) (h17 : -1000 ≤ x17 ∧ x17 ≤ 1000) (h16 : 0 ≤ x16 ∧ x16 ≤ 1000) (i : Nat) (b : Bool) (hi : i ≤ s.size) (hb : b = true → i < s.size) : RT s (fun k => strconv_readFloat.j10 k s x2 0 x4 x5 false i false false 10 x16 x17 b) := by
  cases b with
  | false =>
    refine RT.step (fun k => ?_) (e15 hs x2 x4 x5 false i x16 x17 h2 hi (by omega))
    rw [strconv_readFloat.j10, if_neg (by simp), if_neg (by omega)]
  | true =>
    have hlt := hb rfl
    have w1 := wrap_nx (n := i) (by omega)
    by_cases h : s.size ≤ i + 1
    · refine RT.step (f := fun _ => some (x2, 0, x4, x5, false, ((i + 1 : Nat) : Int), false)) (fun k => ?_) RT.no
      rw [strconv_readFloat.j10, if_pos rfl, w1, if_pos (by omega)]
    · have w2 := wrap_nx (n := i + 1) (by omega)
      by_cases c1 : bt s ((i + 1 : Nat) : Int) = 43
      · refine RT.step (fun k => ?_) (e11 hs hu x2 x4 x5 x16 x17 1 h2 h17 h16 (.inl rfl) (i + 1 + 1) (by omega))
        rw [strconv_readFloat.j10, if_pos rfl, w1, if_neg (by omega), if_pos (by omega), if_pos (by omega), if_pos c1, w2]
      · by_cases c2 : bt s ((i + 1 : Nat) : Int) = 45
        · refine RT.step (fun k => ?_) (e11 hs hu x2 x4 x5 x16 x17 (-1) h2 h17 h16 (.inr rfl) (i + 1 + 1) (by omega))
          rw [strconv_readFloat.j10, if_pos rfl, w1, if_neg (by omega), if_pos (by omega), if_pos (by omega), if_neg c1, if_pos c2, w2]
        · refine RT.step (fun k => ?_) (e11 hs hu x2 x4 x5 x16 x17 1 h2 h17 h16 (.inl rfl) (i + 1) (by omega))
          rw [strconv_readFloat.j10, if_pos rfl, w1, if_neg (by omega), if_pos (by omega), if_pos (by omega), if_neg c1, if_neg c2]
theorem e9 (x2 : Int) (x4 x5 : Bool) (x16 x17 : Int) (h2 : 0 ≤ x2 ∧ x2 < 10000000000000000000) (h17 : -1000 ≤ x17 ∧ x17 ≤ 1000) (h16 : 0 ≤ x16 ∧ x16 ≤ 1000) (i : Nat) (hi : i ≤ s.size) : RT s (fun k => strconv_readFloat.j9 k s x2 0 x4 x5 false i false false 10 101 x16 x17) := by
  by_cases h : i < s.size
  · refine RT.step (fun k => ?_) (e10 hs hu x2 x4 x5 x16 x17 h2 h17 h16 i (Go.bits .or .u8 (bt s i) 32 == 101) hi (fun _ => h))
    rw [strconv_readFloat.j9, if_pos (by omega), if_pos (by omega)]
    rfl
  · refine RT.step (fun k => ?_) (e10 hs hu x2 x4 x5 x16 x17 h2 h17 h16 i false hi (fun h => by cases h))
    rw [strconv_readFloat.j9, if_neg (by omega)]
theorem e7 (x2 : Int) (x4 x5 x13 x14 : Bool) (x15 x16 x17 : Int) (h2 : 0 ≤ x2 ∧ x2 < 10000000000000000000) (h15 : 0 ≤ x15 ∧ x15 ≤ 1000) (h17 : -1000 ≤ x17 ∧ x17 ≤ 1000) (h16 : 0 ≤ x16 ∧ x16 ≤ 1000) (i : Nat) (hi : i ≤ s.size) : RT s (fun k => strconv_readFloat.j7 k s x2 0 x4 x5 false i false false 10 101 x13 x14 x15 x16 x17) := by
  have H8 : ∀ x17 : Int, -1000 ≤ x17 ∧ x17 ≤ 1000 → RT s (fun k => strconv_readFloat.j8 k s x2 0 x4 x5 false i false false 10 101 x16 x17) := fun x17 h17 => by
    refine RT.step (fun k => ?_) (e9 hs hu x2 x4 x5 x16 x17 h2 h17 h16 i hi)
    rw [strconv_readFloat.j8, if_neg (by omega)]
  cases x14 with
  | false =>
    refine RT.step (f := fun _ => some (x2, 0, x4, x5, false, (i : Int), false)) (fun k => ?_) RT.no
    rw [strconv_readFloat.j7, if_neg (by simp)]
  | true =>
    cases x13 with
    | true =>
      refine RT.step (fun k => ?_) (H8 x17 h17)
      rw [strconv_readFloat.j7, if_pos rfl, if_pos rfl]
    | false =>
      refine RT.step (fun k => ?_) (H8 x15 (by omega))
      rw [strconv_readFloat.j7, if_pos rfl, if_neg (by simp)]
theorem dig_step {x2 c : Int} {t : Nat} (ht : t < 19) (h2 : 0 ≤ x2 ∧ x2 < (10 : Int) ^ t) (hc : 48 ≤ c ∧ c ≤ 57) : IntKind.u64.wrap ((IntKind.u64.wrap (x2 * 10)) + ((c - 48) % 256)) = x2 * 10 + (c - 48) ∧ 0 ≤ x2 * 10 + (c - 48) ∧ x2 * 10 + (c - 48) < (10 : Int) ^ (t + 1) := by
  have _ := hs
  have _ := hu
  have h1 : (10 : Int) ^ t ≤ 10 ^ 18 := by
    have := Nat.pow_le_pow_right (show 0 < 10 by omega) (show t ≤ 18 by omega)
    have e : ((10 ^ t : Nat) : Int) = (10 : Int) ^ t := by simp
    have e2 : ((10 ^ 18 : Nat) : Int) = (10 : Int) ^ 18 := by simp
    omega
  have e3 : (10 : Int) ^ (t + 1) = 10 ^ t * 10 := Int.pow_succ _ _
  simp only [IntKind.wrap_u64]
  rw [e3]
  omega
theorem pow_le19 {x2 : Int} {t : Nat} (ht : t ≤ 19) (h2 : 0 ≤ x2 ∧ x2 < (10 : Int) ^ t) : 0 ≤ x2 ∧ x2 < 10000000000000000000 := by
  have _ := hs
  have _ := hu
  have := Nat.pow_le_pow_right (show 0 < 10 by omega) ht
  have e : ((10 ^ t : Nat) : Int) = (10 : Int) ^ t := by simp
  omega
theorem e0 (x4 : Bool) : ∀ (m i t : Nat) (x2 : Int) (x5 x13 x14 : Bool) (x15 x17 : Int), i + m = s.size → t ≤ 19 → 0 ≤ x2 ∧ x2 < (10 : Int) ^ t → 0 ≤ x15 ∧ x15 ≤ i → -(i : Int) ≤ x17 ∧ x17 ≤ i → RT s (fun k => strconv_readFloat.l0 k s x2 0 x4 x5 false i false false 10 19 101 x13 x14 x15 (t : Int) x17) := by
  have hend : ∀ (i t : Nat) (x2 : Int) (x5 x13 x14 : Bool) (x15 x17 : Int), i ≤ s.size → t ≤ 19 → 0 ≤ x2 ∧ x2 < (10 : Int) ^ t → 0 ≤ x15 ∧ x15 ≤ i → -(i : Int) ≤ x17 ∧ x17 ≤ i → RT s (fun k => strconv_readFloat.j7 k s x2 0 x4 x5 false i false false 10 101 x13 x14 x15 (t : Int) x17) := fun i t x2 x5 x13 x14 x15 x17 hi ht h2 h15 h17 =>
    e7 hs hu x2 x4 x5 x13 x14 x15 t x17 (pow_le19 hs hu ht h2) (by omega) (by omega) (by omega) i hi
  intro m
  induction m with
  | zero =>
    intro i t x2 x5 x13 x14 x15 x17 hi ht h2 h15 h17
    refine RT.step (fun k => ?_) (hend i t x2 x5 x13 x14 x15 x17 (by omega) ht h2 h15 h17)
    rw [strconv_readFloat.l0, if_neg (by omega)]
  | succ m ih =>
    intro i t x2 x5 x13 x14 x15 x17 hi ht h2 h15 h17
    have hlt : i < s.size := by omega
    have h95 : (bt s i == 95) = false := beq_eq_false_iff_ne.2 (hu i hlt)
    have w1 := wrap_nx (n := i) (by omega)
    have w15 : wrap64 (x15 + 1) = x15 + 1 := by unfold wrap64; omega
    have w17 : wrap64 (x17 - 1) = x17 - 1 := by unfold wrap64; omega
    have w16 := wrap_nx (n := t) (by omega)
    have k1 : i + 1 + m = s.size := by omega
    have k2 : 0 ≤ x15 ∧ x15 ≤ ((i + 1 : Nat) : Int) := by omega
    have k3 : 0 ≤ x15 + 1 ∧ x15 + 1 ≤ ((i + 1 : Nat) : Int) := by omega
    have k4 : -((i + 1 : Nat) : Int) ≤ x17 ∧ x17 ≤ ((i + 1 : Nat) : Int) := by omega
    have k5 : -((i + 1 : Nat) : Int) ≤ x17 - 1 ∧ x17 - 1 ≤ ((i + 1 : Nat) : Int) := by omega
    have k6 : -((i + 1 : Nat) : Int) ≤ x15 ∧ x15 ≤ ((i + 1 : Nat) : Int) := by omega
    have k7 : (i : Int) < (s.size : Int) := by omega
    have k8 : (0 : Int) ≤ (i : Int) := by omega
    have k9 : i ≤ s.size := by omega
    obtain ⟨c, hc⟩ : ∃ c, c = bt s i := ⟨_, rfl⟩
    -- no digit
    have hno : RT s (fun k => strconv_readFloat.j4 k s x2 0 x4 x5 false i false false 10 19 101 x13 x14 x15 (t : Int) x17 c false) := by
      refine RT.step (f := fun k => strconv_readFloat.j6 k s x2 0 x4 x5 false i false false 10 19 101 x13 x14 x15 (t : Int) x17 c false) (fun k => ?_) ?_
      · rw [strconv_readFloat.j4, if_neg (by simp), if_neg (by decide)]; rfl
      · refine RT.step (fun k => ?_) (hend i t x2 x5 x13 x14 x15 x17 k9 ht h2 h15 h17)
        rw [strconv_readFloat.j6, if_neg (by simp)]
    by_cases hdot : c = 46
    · have b1 : (true == (bt s i == 46)) = true := by rw [← hc, hdot]; rfl
      cases x13 with
      | true =>
        refine RT.step (fun k => ?_) (hend i t x2 x5 true x14 x15 x17 k9 ht h2 h15 h17)
        rw [strconv_readFloat.l0, if_pos k7, if_pos k8, h95, if_neg (by simp), if_pos b1, if_pos rfl]
      | false =>
        refine RT.step (fun k => ?_) (ih (i + 1) t x2 x5 true x14 x15 x15 k1 ht h2 k2 k6)
        rw [strconv_readFloat.l0, if_pos k7, if_pos k8, h95, if_neg (by simp), if_pos b1, if_neg (by simp), w1]
    · have b1 : (true == (bt s i == 46)) = false := by rw [← hc]; simpa using hdot
      by_cases h48 : 48 ≤ c
      · by_cases h57 : c ≤ 57
        · -- a digit
          have H5 : ∀ b : Bool, RT s (fun k => strconv_readFloat.j5 k s x2 0 x4 x5 false i false false 10 19 101 x13 true x15 (t : Int) x17 c b) := by
            intro b
            cases b with
            | true =>
              refine RT.step (fun k => ?_) (ih (i + 1) t x2 x5 x13 true x15 (x17 - 1) k1 ht h2 k2 k5)
              rw [strconv_readFloat.j5, if_pos rfl, w1, w17]
            | false =>
              by_cases h19 : t < 19
              · obtain ⟨d1, d2, d3⟩ := dig_step hs hu h19 h2 ⟨h48, h57⟩
                refine RT.step (fun k => ?_) (ih (i + 1) (t + 1) (x2 * 10 + (c - 48)) x5 x13 true (x15 + 1) x17 k1 h19 ⟨d2, d3⟩ k3 k4)
                rw [strconv_readFloat.j5, if_neg (by simp), if_pos (lt19 h19), d1, w1, w15, w16]
              · by_cases hz : c = 48
                · refine RT.step (fun k => ?_) (ih (i + 1) t x2 x5 x13 true (x15 + 1) x17 k1 ht h2 k3 k4)
                  rw [strconv_readFloat.j5, if_neg (by simp), if_neg (lt19' h19), if_pos hz, w1, w15]
                · refine RT.step (fun k => ?_) (ih (i + 1) t x2 true x13 true (x15 + 1) x17 k1 ht h2 k3 k4)
                  rw [strconv_readFloat.j5, if_neg (by simp), if_neg (lt19' h19), if_neg hz, w1, w15]
          refine RT.step (f := fun k => strconv_readFloat.j4 k s x2 0 x4 x5 false i false false 10 19 101 x13 x14 x15 (t : Int) x17 c true) (fun k => ?_) ?_
          · rw [strconv_readFloat.l0, if_pos k7, if_pos k8, h95, if_neg (by simp), b1, if_neg (by simp), ← hc, if_pos h48, decide_eq_true h57]
            rfl
          · by_cases hz : c = 48
            · refine RT.step (fun k => ?_) (H5 (x15 == 0))
              rw [strconv_readFloat.j4, if_pos rfl, if_pos hz]
            · refine RT.step (fun k => ?_) (H5 false)
              rw [strconv_readFloat.j4, if_pos rfl, if_neg hz]
        · refine RT.step (fun k => ?_) hno
          rw [strconv_readFloat.l0, if_pos k7, if_pos k8, h95, if_neg (by simp), b1, if_neg (by simp), ← hc, if_pos h48, decide_eq_false h57]
          rfl
      · refine RT.step (fun k => ?_) hno
        rw [strconv_readFloat.l0, if_pos k7, if_pos k8, h95, if_neg (by simp), b1, if_neg (by simp), ← hc, if_neg h48]
        rfl
theorem x10 (x2 x3 : Int) (x4 x5 : Bool) (x16 x17 : Int) (i : Nat) : RT s (fun k => strconv_readFloat.j10 k s x2 x3 x4 x5 true i false false 16 x16 x17 false) := by
  have _ := hs
  have _ := hu
  refine RT.step (f := fun _ => some (x2, x3, x4, x5, true, (i : Int), false)) (fun k => ?_) RT.no
  rw [strconv_readFloat.j10, if_neg (by simp), if_pos rfl]
include hp
theorem x9 (x2 x3 : Int) (x4 x5 : Bool) (x16 x17 : Int) (i : Nat) : RT s (fun k => strconv_readFloat.j9 k s x2 x3 x4 x5 true i false false 16 112 x16 x17) := by
  by_cases h : i < s.size
  · refine RT.step (fun k => ?_) (x10 hs hu x2 x3 x4 x5 x16 x17 i)
    have e : (Go.bits .or .u8 (bt s i) 32 == 112) = false := beq_eq_false_iff_ne.2 (hp i h)
    rw [strconv_readFloat.j9, if_pos (by omega), if_pos (by omega)]
    show strconv_readFloat.j10 k s x2 x3 x4 x5 true i false false 16 x16 x17 (Go.bits .or .u8 (bt s i) 32 == 112) = _
    rw [e]
  · refine RT.step (fun k => ?_) (x10 hs hu x2 x3 x4 x5 x16 x17 i)
    rw [strconv_readFloat.j9, if_neg (by omega)]
theorem x7 (x2 x3 : Int) (x4 x5 x13 x14 : Bool) (x15 x16 x17 : Int) (i : Nat) : RT s (fun k => strconv_readFloat.j7 k s x2 x3 x4 x5 true i false false 16 112 x13 x14 x15 x16 x17) := by
  have H8 : ∀ x17 : Int, RT s (fun k => strconv_readFloat.j8 k s x2 x3 x4 x5 true i false false 16 112 x16 x17) := fun x17 => by
    refine RT.step (fun k => ?_) (x9 hs hu hp x2 x3 x4 x5 (wrap64 (x16 * 4)) (wrap64 (x17 * 4)) i)
    rw [strconv_readFloat.j8, if_pos rfl]
  cases x14 with
  | false =>
    refine RT.step (f := fun _ => some (x2, x3, x4, x5, true, (i : Int), false)) (fun k => ?_) RT.no
    rw [strconv_readFloat.j7, if_neg (by simp)]
  | true =>
    cases x13 with
    | true =>
      refine RT.step (fun k => ?_) (H8 x17)
      rw [strconv_readFloat.j7, if_pos rfl, if_pos rfl]
    | false =>
      refine RT.step (fun k => ?_) (H8 x15)
      rw [strconv_readFloat.j7, if_pos rfl, if_neg (by simp)]
theorem x0 (x3 : Int) (x4 : Bool) : ∀ (m i : Nat) (x2 : Int) (x5 x13 x14 : Bool) (x15 x16 x17 : Int), i + m = s.size → RT s (fun k => strconv_readFloat.l0 k s x2 x3 x4 x5 true i false false 16 16 112 x13 x14 x15 x16 x17) := by
  have hend := x7 hs hu hp
  intro m
  induction m with
  | zero =>
    intro i x2 x5 x13 x14 x15 x16 x17 hi
    refine RT.step (fun k => ?_) (hend x2 x3 x4 x5 x13 x14 x15 x16 x17 i)
    rw [strconv_readFloat.l0, if_neg (by omega)]
  | succ m ih =>
    intro i x2 x5 x13 x14 x15 x16 x17 hi
    have hlt : i < s.size := by omega
    have h95 : (bt s i == 95) = false := beq_eq_false_iff_ne.2 (hu i hlt)
    have w1 := wrap_nx (n := i) (by omega)
    have k1 : i + 1 + m = s.size := by omega
    have k7 : (i : Int) < (s.size : Int) := by omega
    have k8 : (0 : Int) ≤ (i : Int) := by omega
    obtain ⟨c, hc⟩ : ∃ c, c = bt s i := ⟨_, rfl⟩
    have H6 : ∀ b : Bool, RT s (fun k => strconv_readFloat.j6 k s x2 x3 x4 x5 true i false false 16 16 112 x13 x14 x15 x16 x17 c b) := by
      intro b
      cases b with
      | false =>
        refine RT.step (fun k => ?_) (hend x2 x3 x4 x5 x13 x14 x15 x16 x17 i)
        rw [strconv_readFloat.j6, if_neg (by simp)]
      | true =>
        by_cases hl : x16 < 16
        · refine RT.step (fun k => ?_) (ih (i + 1) (IntKind.u64.wrap ((IntKind.u64.wrap (x2 * 16)) + ((((Go.bits .or .u8 c 32 - 97) % 256) + 10) % 256))) x5 x13 true (wrap64 (x15 + 1)) (wrap64 (x16 + 1)) x17 k1)
          rw [strconv_readFloat.j6, if_pos rfl, if_pos hl, w1]
          rfl
        · refine RT.step (fun k => ?_) (ih (i + 1) x2 true x13 true (wrap64 (x15 + 1)) x16 x17 k1)
          rw [strconv_readFloat.j6, if_pos rfl, if_neg hl, w1]
    have H4 : RT s (fun k => strconv_readFloat.j4 k s x2 x3 x4 x5 true i false false 16 16 112 x13 x14 x15 x16 x17 c false) := by
      by_cases h97 : 97 ≤ Go.bits .or .u8 c 32
      · refine RT.step (fun k => ?_) (H6 (true == (decide (Go.bits .or .u8 c 32 ≤ 102))))
        rw [strconv_readFloat.j4, if_neg (by simp), if_pos rfl]
        show (if 97 ≤ Go.bits .or .u8 c 32 then _ else _) = _
        rw [if_pos h97]
        rfl
      · refine RT.step (fun k => ?_) (H6 false)
        rw [strconv_readFloat.j4, if_neg (by simp), if_pos rfl]
        show (if 97 ≤ Go.bits .or .u8 c 32 then _ else _) = _
        rw [if_neg h97]
        rfl
    have H5 : ∀ b : Bool, RT s (fun k => strconv_readFloat.j5 k s x2 x3 x4 x5 true i false false 16 16 112 x13 true x15 x16 x17 c b) := by
      intro b
      cases b with
      | true =>
        refine RT.step (fun k => ?_) (ih (i + 1) x2 x5 x13 true x15 x16 (wrap64 (x17 - 1)) k1)
        rw [strconv_readFloat.j5, if_pos rfl, w1]
      | false =>
        by_cases hl : x16 < 16
        · refine RT.step (fun k => ?_) (ih (i + 1) (IntKind.u64.wrap ((IntKind.u64.wrap (x2 * 16)) + ((c - 48) % 256))) x5 x13 true (wrap64 (x15 + 1)) (wrap64 (x16 + 1)) x17 k1)
          rw [strconv_readFloat.j5, if_neg (by simp), if_pos hl, w1]
        · by_cases hz : c = 48
          · refine RT.step (fun k => ?_) (ih (i + 1) x2 x5 x13 true (wrap64 (x15 + 1)) x16 x17 k1)
            rw [strconv_readFloat.j5, if_neg (by simp), if_neg hl, if_pos hz, w1]
          · refine RT.step (fun k => ?_) (ih (i + 1) x2 true x13 true (wrap64 (x15 + 1)) x16 x17 k1)
            rw [strconv_readFloat.j5, if_neg (by simp), if_neg hl, if_neg hz, w1]
    have H4t : RT s (fun k => strconv_readFloat.j4 k s x2 x3 x4 x5 true i false false 16 16 112 x13 x14 x15 x16 x17 c true) := by
      by_cases hz : c = 48
      · refine RT.step (fun k => ?_) (H5 (x15 == 0))
        rw [strconv_readFloat.j4, if_pos rfl, if_pos hz]
      · refine RT.step (fun k => ?_) (H5 false)
        rw [strconv_readFloat.j4, if_pos rfl, if_neg hz]
    by_cases hdot : c = 46
    · have b1 : (true == (bt s i == 46)) = true := by rw [← hc, hdot]; rfl
      cases x13 with
      | true =>
        refine RT.step (fun k => ?_) (hend x2 x3 x4 x5 true x14 x15 x16 x17 i)
        rw [strconv_readFloat.l0, if_pos k7, if_pos k8, h95, if_neg (by simp), if_pos b1, if_pos rfl]
      | false =>
        refine RT.step (fun k => ?_) (ih (i + 1) x2 x5 true x14 x15 x16 x15 k1)
        rw [strconv_readFloat.l0, if_pos k7, if_pos k8, h95, if_neg (by simp), if_pos b1, if_neg (by simp), w1]
    · have b1 : (true == (bt s i == 46)) = false := by rw [← hc]; simpa using hdot
      by_cases h48 : 48 ≤ c
      · by_cases h57 : c ≤ 57
        · refine RT.step (fun k => ?_) H4t
          rw [strconv_readFloat.l0, if_pos k7, if_pos k8, h95, if_neg (by simp), b1, if_neg (by simp), ← hc, if_pos h48, decide_eq_true h57]
          rfl
        · refine RT.step (fun k => ?_) H4
          rw [strconv_readFloat.l0, if_pos k7, if_pos k8, h95, if_neg (by simp), b1, if_neg (by simp), ← hc, if_pos h48, decide_eq_false h57]
          rfl
      · refine RT.step (fun k => ?_) H4
        rw [strconv_readFloat.l0, if_pos k7, if_pos k8, h95, if_neg (by simp), b1, if_neg (by simp), ← hc, if_neg h48]
        rfl
theorem y2 (x4 : Bool) (i : Nat) (hi : i ≤ s.size) : RT s (fun k => strconv_readFloat.j2 k s 0 0 x4 false false i false false 10 19 101) := by
  have _ := hp
  refine RT.step (fun k => ?_) (e0 hs hu x4 (s.size - i) i 0 0 false false false 0 0 (by omega) (by omega) (by decide) (by omega) (by omega))
  rw [strconv_readFloat.j2]
  rfl
theorem y1 (x4 : Bool) (i : Nat) (hi : i ≤ s.size) (b : Bool) (hb : b = true → i + 2 ≤ s.size) : RT s (fun k => strconv_readFloat.j1 k s 0 0 x4 false false i false false 10 19 101 b) := by
  cases b with
  | false =>
    refine RT.step (fun k => ?_) (y2 hs hu hp x4 i hi)
    rw [strconv_readFloat.j1, if_neg (by simp)]
  | true =>
    have h2 := hb rfl
    have w2 : wrap64 ((i : Int) + 2) = ((i + 2 : Nat) : Int) := by unfold wrap64; omega
    refine RT.step (f := fun k => strconv_readFloat.j2 k s 0 0 x4 false true ((i + 2 : Nat) : Int) false false 16 16 112) (fun k => ?_) ?_
    · rw [strconv_readFloat.j1, if_pos rfl, w2]
    · refine RT.step (fun k => ?_) (x0 hs hu hp 0 x4 (s.size - (i + 2)) (i + 2) 0 false false false 0 0 0 (by omega))
      rw [strconv_readFloat.j2]
theorem y0 (x4 : Bool) (i : Nat) (hi : i ≤ s.size) : RT s (fun k => strconv_readFloat.j0 k s 0 0 x4 false false i false false) := by
  have w2 : wrap64 ((i : Int) + 2) = ((i + 2 : Nat) : Int) := by unfold wrap64; omega
  have w1 := wrap_nx (n := i) (by omega)
  by_cases h : i + 2 < s.size
  · by_cases hz : bt s i = 48
    · refine RT.step (fun k => ?_) (y1 hs hu hp x4 i hi (Go.bits .or .u8 (bt s ((i + 1 : Nat) : Int)) 32 == 120) (fun _ => by omega))
      rw [strconv_readFloat.j0, w2, if_pos (by omega), if_pos (by omega), if_pos (by omega), if_pos hz, w1, if_pos (by omega), if_pos (by omega)]
      rfl
    · refine RT.step (fun k => ?_) (y1 hs hu hp x4 i hi false (fun h => by cases h))
      rw [strconv_readFloat.j0, w2, if_pos (by omega), if_pos (by omega), if_pos (by omega), if_neg hz]
  · refine RT.step (fun k => ?_) (y1 hs hu hp x4 i hi false (fun h => by cases h))
    rw [strconv_readFloat.j0, w2, if_neg (by omega)]
/-- readFloat ends. -/
theorem readFloat_ends (h0 : 0 < s.size) : RT s (fun k => strconv_readFloat.f k s) := by
  by_cases h43 : bt s 0 = 43
  · obtain ⟨r, h1, h2⟩ := y0 hs hu hp false 1 (by omega)
    refine ⟨r, ?_, h2⟩
    refine Ev.congr (fun k => ?_) h1
    rw [strconv_readFloat.f, if_neg (by omega), if_pos (by omega), if_pos h43]
    rfl
  · by_cases h45 : bt s 0 = 45
    · obtain ⟨r, h1, h2⟩ := y0 hs hu hp true 1 (by omega)
      refine ⟨r, ?_, h2⟩
      refine Ev.congr (fun k => ?_) h1
      rw [strconv_readFloat.f, if_neg (by omega), if_pos (by omega), if_neg h43, if_pos h45]
      rfl
    · obtain ⟨r, h1, h2⟩ := y0 hs hu hp false 0 (by omega)
      refine ⟨r, ?_, h2⟩
      refine Ev.congr (fun k => ?_) h1
      rw [strconv_readFloat.f, if_neg (by omega), if_pos (by omega), if_neg h43, if_neg h45]
      rfl
end
end Go.Proofs.YtogikhohkbcccaaGreatDoor.F
