import Derived.Test.YtogikhohkbcccaaGreatDoorRj
namespace Go.Proofs.YtogikhohkbcccaaGreatDoor.De
set_option linter.unusedVariables false
set_option linter.unusedSimpArgs false
open Go.RowKit Go.Proofs.YtogikhohkbcccaaGreatDoorW.PrintWords Go.Proofs.YtogikhohkbcccaaGreatDoorW.PrintLast Go.Proofs.YtogikhohkbcccaaGreatDoorW.PrintMore

def pwTab (k : Nat) : Nat := [1, 3, 6, 9, 13, 16, 19, 23, 26].getD k 27
theorem pwTab_ge : ∀ k, 1 ≤ pwTab k ∧ pwTab k ≤ 27 ∧ (0 < k → 3 ≤ pwTab k)
  | 0 => by decide
  | 1 => by decide
  | 2 => by decide
  | 3 => by decide
  | 4 => by decide
  | 5 => by decide
  | 6 => by decide
  | 7 => by decide
  | 8 => by decide
  | k + 9 => by
    have : pwTab (k + 9) = 27 := rfl
    rw [this]; omega
theorem pwTab_hi {k : Nat} (h : 9 ≤ k) : pwTab k = 27 := by
  obtain ⟨m, rfl⟩ : ∃ m, k = m + 9 := ⟨k - 9, by omega⟩
  rfl
/-- The first loop: to the right until the point is at the front. -/
def fb1 : Nat → Dc → Int → Dc × Int
  | 0, x, e => (x, e)
  | f + 1, x, e => if 0 < x.dp then fb1 f (rshD (pwTab x.dp.toNat) x) (e + pwTab x.dp.toNat) else (x, e)
/-- The second loop: to the left until the first digit stands behind the point. -/
def fb2 : Nat → Dc → Int → Dc × Int
  | 0, x, e => (x, e)
  | f + 1, x, e => if x.dp < 0 ∨ x.dp = 0 ∧ dg x.D 0 < 5 then fb2 f (lshD (pwTab (-x.dp).toNat) x) (e - pwTab (-x.dp).toNat) else (x, e)
def me1 (x : Dc) : Nat := (2 * x.dp + (if 8 ≤ dg x.D 0 then 1 else 0)).toNat
def me2 (x : Dc) : Nat := (10 * -x.dp + 9 - dg x.D 0).toNat
theorem fb1_stop {f : Nat} {x : Dc} {e : Int} (h : ¬ 0 < x.dp) : fb1 f x e = (x, e) := by
  cases f with
  | zero => rfl
  | succ f => rw [fb1, if_neg h]
theorem fb1_go {f : Nat} {x : Dc} {e : Int} (h : 0 < x.dp) : fb1 (f + 1) x e = fb1 f (rshD (pwTab x.dp.toNat) x) (e + pwTab x.dp.toNat) := by
  rw [fb1, if_pos h]
theorem fb2_stop {f : Nat} {x : Dc} {e : Int} (h : ¬ (x.dp < 0 ∨ x.dp = 0 ∧ dg x.D 0 < 5)) : fb2 f x e = (x, e) := by
  cases f with
  | zero => rfl
  | succ f => rw [fb2, if_neg h]
theorem fb2_go {f : Nat} {x : Dc} {e : Int} (h : x.dp < 0 ∨ x.dp = 0 ∧ dg x.D 0 < 5) : fb2 (f + 1) x e = fb2 f (lshD (pwTab (-x.dp).toNat) x) (e - pwTab (-x.dp).toNat) := by
  rw [fb2, if_pos h]
/-- A round of the first loop. -/
theorem fb1_round {x : Dc} (h : 0 < x.dp) (hl : 0 < dg x.D 0) (h9 : dg x.D 0 ≤ 9) : 0 < dg (rshD (pwTab x.dp.toNat) x).D 0 ∧ me1 (rshD (pwTab x.dp.toNat) x) + 1 ≤ me1 x ∧ -330 ≤ (rshD (pwTab x.dp.toNat) x).dp ∧ (rshD (pwTab x.dp.toNat) x).dp ≤ x.dp ∧ (rshD (pwTab x.dp.toNat) x).neg = x.neg ∧ 1 ≤ me1 x := by
  obtain ⟨a, b, c⟩ := pwTab_ge x.dp.toNat
  have h3 := c (by omega)
  have hk : pwTab x.dp.toNat ≤ 60 := by omega
  have h1 := rsh_lead (x := x) hk hl
  have h2 := rsh_dp (x := x) hk hl
  have h4 := rsh_meas (x := x) hk h3 hl h9
  have m0 : 1 ≤ me1 x := by unfold me1; split <;> omega
  refine ⟨h1.2.1, ?_, by omega, h2.2, h1.2.2.2, m0⟩
  unfold me1 at m0 ⊢
  revert h4 m0
  generalize (if 8 ≤ dg (rshD (pwTab x.dp.toNat) x).D 0 then (1 : Int) else 0) = A
  generalize (if 8 ≤ dg x.D 0 then (1 : Int) else 0) = B
  intro h4 m0
  omega
/-- A round of the second loop. -/
theorem fb2_round {x : Dc} (h : x.dp < 0 ∨ x.dp = 0 ∧ dg x.D 0 < 5) (hl : 0 < dg x.D 0) (h9 : ∀ d ∈ x.D, d ≤ 9) (h9' : dg x.D 0 ≤ 9) (h9'' : dg (lshD (pwTab (-x.dp).toNat) x).D 0 ≤ 9) : 0 < dg (lshD (pwTab (-x.dp).toNat) x).D 0 ∧ me2 (lshD (pwTab (-x.dp).toNat) x) + 1 ≤ me2 x ∧ x.dp ≤ (lshD (pwTab (-x.dp).toNat) x).dp ∧ (lshD (pwTab (-x.dp).toNat) x).dp ≤ 20 ∧ (lshD (pwTab (-x.dp).toNat) x).neg = x.neg ∧ 1 ≤ me2 x := by
  obtain ⟨a, b, c⟩ := pwTab_ge (-x.dp).toNat
  have hk : pwTab (-x.dp).toNat ≤ 60 := by omega
  obtain ⟨l1, l2, l3, l4, l5⟩ := lsh_lead (x := x) a hk hl h9
  have m0 : 1 ≤ me2 x := by unfold me2; omega
  refine ⟨l1, ?_, l2, by omega, l4, m0⟩
  unfold me2 at m0 ⊢
  by_cases e : (lshD (pwTab (-x.dp).toNat) x).dp = x.dp
  · have := l5 e
    rw [e]; omega
  · omega

/-- The power behind the two loops, and the decimal. -/
def fbA (x : Dc) : Dc × Int := fb1 (me1 x) x 0
def fbB (x : Dc) : Dc × Int := fb2 (me2 (fbA x).1) (fbA x).1 (fbA x).2
/-- Then: not below the least power. -/
def fbC (x : Dc) : Dc × Int := if (fbB x).2 - 1 < -1022 then (shR (-1022 - ((fbB x).2 - 1)).toNat (fbB x).1, -1022) else ((fbB x).1, (fbB x).2 - 1)
end Go.Proofs.YtogikhohkbcccaaGreatDoor.De
