import Derived.Test.YtogikhohkbcccaaGreatDoorLw
namespace Go.Proofs.YtogikhohkbcccaaGreatDoor.De
set_option linter.unusedVariables false
set_option linter.unusedSimpArgs false
open Go.RowKit Go.Proofs.YtogikhohkbcccaaGreatDoorW.PrintWords Go.Proofs.YtogikhohkbcccaaGreatDoorW.PrintLast Go.Proofs.YtogikhohkbcccaaGreatDoorW.PrintMore

theorem dg_ne {D : List Nat} (h : 0 < dg D 0) : D ≠ [] := fun e => by rw [e] at h; exact absurd h (by simp [dg])
theorem tz_lead : ∀ {D : List Nat}, 0 < dg D 0 → dg (tz D) 0 = dg D 0 ∧ tz D ≠ []
  | [], h => absurd h (by simp [dg])
  | d :: l, h => by
    have hd : d ≠ 0 := fun e => by subst e; simp [dg] at h
    rw [tz]
    cases tz l with
    | nil => simp only [if_neg hd]; exact ⟨rfl, by simp⟩
    | cons a q => exact ⟨rfl, by simp⟩
theorem trimD_lead {x : Dc} (h : 0 < dg x.D 0) : dg (trimD x).D 0 = dg x.D 0 ∧ (trimD x).dp = x.dp ∧ (trimD x).neg = x.neg := by
  obtain ⟨a, b⟩ := tz_lead h
  exact ⟨a, if_neg b, rfl⟩
theorem dg_take {D : List Nat} : dg (D.take 800) 0 = dg D 0 := by
  cases D <;> rfl
theorem dg_map_range {f : Nat → Nat} {n : Nat} (h : 0 < n) : dg ((List.range n).map f) 0 = f 0 := by
  obtain ⟨m, rfl⟩ : ∃ m, n = m + 1 := ⟨n - 1, by omega⟩
  rw [List.range_succ_eq_map]; rfl
theorem num_one (D : List Nat) : num D 1 = dg D 0 := by rw [num, num]; omega

/-- What rightShift leaves: its first digit, its point. -/
theorem rsh_lead {k : Nat} {x : Dc} (hk : k ≤ 60) (h : 0 < dg x.D 0) : dg (rshD k x).D 0 = num x.D (rs0 x.D k) / 2 ^ k ∧ 0 < dg (rshD k x).D 0 ∧ (rshD k x).dp = x.dp - ((rs0 x.D k : Int) - 1) ∧ (rshD k x).neg = x.neg := by
  obtain ⟨a, b, c, d⟩ := rs0_is hk h
  have hp : 0 < 2 ^ k := Nat.pos_of_ne_zero (by simp)
  have hJ := rsJ_is (D := x.D) (k := k) (r0 := rs0 x.D k)
  have hJ0 : 0 < rsJ x.D k (rs0 x.D k) := by
    refine Nat.pos_of_ne_zero fun e => ?_
    have := hJ.2.1
    rw [e, rsn] at this
    omega
  have e1 : dg ((rsOut x.D k).take 800) 0 = num x.D (rs0 x.D k) / 2 ^ k := by
    rw [dg_take]; unfold rsOut; rw [dg_map_range hJ0, rsn]
  have e2 : 0 < num x.D (rs0 x.D k) / 2 ^ k := Nat.div_pos a hp
  obtain ⟨t1, t2, t3⟩ := trimD_lead (x := ⟨(rsOut x.D k).take 800, x.dp - ((rs0 x.D k : Int) - 1), x.neg, x.tr || ((rsOut x.D k).drop 800).any (· != 0)⟩) (by show 0 < dg ((rsOut x.D k).take 800) 0; rw [e1]; exact e2)
  have e3 : dg (rshD k x).D 0 = num x.D (rs0 x.D k) / 2 ^ k := t1.trans e1
  exact ⟨e3, by rw [e3]; exact e2, t2, t3⟩
theorem rsh_dp {k : Nat} {x : Dc} (hk : k ≤ 60) (h : 0 < dg x.D 0) : x.dp - 61 ≤ (rshD k x).dp ∧ (rshD k x).dp ≤ x.dp := by
  obtain ⟨_, _, e, _⟩ := rsh_lead hk h
  obtain ⟨a, b, c, d⟩ := rs0_is hk h
  rw [e]; omega
/-- A shift to the right by three or more. -/
theorem rsh_meas {k : Nat} {x : Dc} (hk : k ≤ 60) (h3 : 3 ≤ k) (h : 0 < dg x.D 0) (h9 : dg x.D 0 ≤ 9) :
    2 * (rshD k x).dp + (if 8 ≤ dg (rshD k x).D 0 then 1 else 0) < 2 * x.dp + (if 8 ≤ dg x.D 0 then 1 else 0) := by
  obtain ⟨e0, e1, e, _⟩ := rsh_lead hk h
  obtain ⟨a, b, c, d⟩ := rs0_is hk h
  by_cases hr : rs0 x.D k = 1
  · rw [hr, num_one] at a e0
    have h8 : 8 ≤ 2 ^ k := Nat.le_trans (by decide) (Nat.pow_le_pow_right (show 0 < 2 by omega) h3)
    have : dg x.D 0 / 2 ^ k ≤ dg x.D 0 / 8 := Nat.div_le_div_left h8 (by omega)
    rw [e0, e, hr, if_neg (by omega), if_pos (by omega)]
    omega
  · rw [e]
    split <;> split <;> omega

/-- What leftShift leaves: its first digit, its point. -/
theorem lsh_lead {k : Nat} {x : Dc} (hk1 : 1 ≤ k) (hk : k ≤ 60) (h : 0 < dg x.D 0) (h9 : ∀ d ∈ x.D, d ≤ 9) :
    0 < dg (lshD k x).D 0 ∧ x.dp ≤ (lshD k x).dp ∧ (lshD k x).dp ≤ x.dp + 20 ∧ (lshD k x).neg = x.neg ∧ ((lshD k x).dp = x.dp → dg x.D 0 < dg (lshD k x).D 0) := by
  have hne := dg_ne h
  obtain ⟨hch, _⟩ := cheat_is hk1 hk
  obtain ⟨d1, d2, d3⟩ := digits_of hch h9 h hne
  obtain ⟨m, hm⟩ : ∃ m, m = x.D.length + (cheat k).1 - (if pl x.D (cutD k) = true then 1 else 0) := ⟨_, rfl⟩
  rw [← hm] at d1 d2 d3
  have hT : num x.D x.D.length * 2 ^ k = val x.D * 2 ^ k := by rw [num_val x.D _ (Nat.le_refl _), List.take_length]
  have hl := lw_len (k := k) rfl (val_lt h9) hk d2
  have hN := nds_is d1 d2 hl
  have hN0 : 0 < x.D.length := List.length_pos_iff.2 hne
  obtain ⟨T, hTe⟩ : ∃ T, T = val x.D * 2 ^ k := ⟨_, rfl⟩
  have hlen : (lsOut T m).length = m := by unfold lsOut; rw [List.length_map, List.length_range]
  have hm0 : 0 < m := by omega
  have e10 : 10 ^ m = 10 ^ (m - 1) * 10 := by rw [← Nat.pow_succ]; congr 1; omega
  have hdiv : T / 10 ^ (m - 1) < 10 := Nat.div_lt_of_lt_mul (by rw [hTe, ← e10]; exact d1)
  have hdiv1 : 0 < T / 10 ^ (m - 1) := Nat.div_pos (by rw [hTe]; exact d2) (Nat.pos_of_ne_zero (by simp))
  have e1 : dg ((lsOut T m).take 800) 0 = T / 10 ^ (m - 1) := by
    rw [dg_take]; unfold lsOut; rw [dg_map_range hm0, Nat.sub_zero]; exact Nat.mod_eq_of_lt hdiv
  have eL : lshD k x = trimD ⟨(lsOut T m).take 800, x.dp + ((m : Int) - x.D.length), x.neg, x.tr || ((lsOut T m).drop 800).any (· != 0)⟩ := by
    unfold lshD
    rw [← hTe] at hN
    simp only [hT, ← hTe, hN]
  obtain ⟨t1, t2, t3⟩ := trimD_lead (x := ⟨(lsOut T m).take 800, x.dp + ((m : Int) - x.D.length), x.neg, x.tr || ((lsOut T m).drop 800).any (· != 0)⟩) (by show 0 < dg ((lsOut T m).take 800) 0; rw [e1]; exact hdiv1)
  rw [eL]
  have t1' := t1.trans e1
  rw [t1', t2, t3]
  refine ⟨hdiv1, by show x.dp ≤ x.dp + ((m : Int) - x.D.length); omega, by show x.dp + ((m : Int) - x.D.length) ≤ x.dp + 20; omega, rfl, fun he => ?_⟩
  have he' : x.dp + ((m : Int) - x.D.length) = x.dp := he
  have hmN : m = x.D.length := by omega
  have hlo : dg x.D 0 * 10 ^ (m - 1) ≤ val x.D := by
    have hq : ∀ r, dg x.D 0 * 10 ^ r ≤ num x.D (r + 1) := by
      intro r
      induction r with
      | zero => rw [num_one]; simp
      | succ r ih => rw [num, Nat.pow_succ]; have : dg x.D 0 * (10 ^ r * 10) = dg x.D 0 * 10 ^ r * 10 := by rw [Nat.mul_assoc]
                     omega
    have := hq (m - 1)
    rw [show m - 1 + 1 = x.D.length by omega, num_val x.D _ (Nat.le_refl _), List.take_length] at this
    exact this
  have h2 : 2 ≤ 2 ^ k := Nat.le_trans (by decide) (Nat.pow_le_pow_right (show 0 < 2 by omega) hk1)
  have h3 : 2 * dg x.D 0 * 10 ^ (m - 1) ≤ T := by
    rw [hTe]
    have : val x.D * 2 ≤ val x.D * 2 ^ k := Nat.mul_le_mul_left _ h2
    have e : 2 * dg x.D 0 * 10 ^ (m - 1) = dg x.D 0 * 10 ^ (m - 1) * 2 := by ac_rfl
    omega
  have := (Nat.le_div_iff_mul_le (Nat.pos_of_ne_zero (by simp) : 0 < 10 ^ (m - 1))).2 h3
  omega

/-- Shifts to the right by sixty, one behind the other. -/
def itR : Nat → Dc → Dc
  | 0, x => x
  | j + 1, x => rshD 60 (itR j x)
theorem itR_lead {x : Dc} (h : 0 < dg x.D 0) : ∀ j, 0 < dg (itR j x).D 0 ∧ x.dp - 61 * j ≤ (itR j x).dp ∧ (itR j x).dp ≤ x.dp ∧ (itR j x).neg = x.neg
  | 0 => ⟨h, by simp [itR], Int.le_refl _, rfl⟩
  | j + 1 => by
    obtain ⟨a, b, c, d⟩ := itR_lead h j
    have h1 := rsh_lead (k := 60) (by omega) a
    have h2 := rsh_dp (k := 60) (by omega) a
    refine ⟨h1.2.1, ?_, ?_, h1.2.2.2.trans d⟩
    · show _ ≤ (rshD 60 (itR j x)).dp; omega
    · show (rshD 60 (itR j x)).dp ≤ _; omega
/-- A shift to the right. -/
def shR (k : Nat) (x : Dc) : Dc := rshD (k - 60 * ((k - 1) / 60)) (itR ((k - 1) / 60) x)
theorem shR_lead {x : Dc} {k : Nat} (hk : 1 ≤ k) (h : 0 < dg x.D 0) : 0 < dg (shR k x).D 0 ∧ x.dp - 61 * (k + 1) ≤ (shR k x).dp ∧ (shR k x).dp ≤ x.dp ∧ (shR k x).neg = x.neg := by
  obtain ⟨a, b, c, d⟩ := itR_lead h ((k - 1) / 60)
  have h1 := rsh_lead (k := k - 60 * ((k - 1) / 60)) (by omega) a
  have h2 := rsh_dp (k := k - 60 * ((k - 1) / 60)) (by omega) a
  refine ⟨h1.2.1, ?_, ?_, h1.2.2.2.trans d⟩ <;> unfold shR <;> omega
theorem shR_small {x : Dc} {k : Nat} (h1 : 1 ≤ k) (hk : k ≤ 60) : shR k x = rshD k x := by
  unfold shR; rw [show (k - 1) / 60 = 0 by omega]; rfl
end Go.Proofs.YtogikhohkbcccaaGreatDoor.De
