import Derived.Test.YtogikhohkbcccaaGreatDoorRj
namespace Go.Proofs.YtogikhohkbcccaaGreatDoor.De
set_option linter.unusedVariables false
set_option linter.unusedSimpArgs false
open Go.RowKit Go.Proofs.YtogikhohkbcccaaGreatDoorW.PrintWords Go.Proofs.YtogikhohkbcccaaGreatDoorW.PrintLast Go.Proofs.YtogikhohkbcccaaGreatDoorW.PrintMore

/-- The digits and the point. -/
def s1 (s : ByteArray) : Nat → Nat → Bool → Bool → List Nat → Int → Option (Nat × Bool × Bool × List Nat × Int)
  | 0, i, dot, dig, D, dp => some (i, dot, dig, D, dp)
  | m + 1, i, dot, dig, D, dp =>
    if bt s i = 46 then (if dot = true then none else s1 s m (i + 1) true dig D D.length)
    else if 48 ≤ bt s i ∧ bt s i ≤ 57 then
      (if bt s i = 48 ∧ D = [] then s1 s m (i + 1) dot true D (dp - 1) else s1 s m (i + 1) dot true (D ++ [(bt s i - 48).toNat]) dp)
    else some (i, dot, dig, D, dp)
/-- The power's digits. -/
def s2 (s : ByteArray) : Nat → Nat → Int → Nat × Int
  | 0, i, e => (i, e)
  | m + 1, i, e => if 48 ≤ bt s i ∧ bt s i ≤ 57 then s2 s m (i + 1) (if e < 10000 then e * 10 + bt s i - 48 else e) else (i, e)
def isE (c : Int) : Bool := Go.bits .or .u8 c 32 == 101
/-- The power. -/
def sx (s : ByteArray) (i : Nat) : Option (Nat × Int) :=
  if i < s.size ∧ isE (bt s i) = true then
    (if s.size ≤ i + 1 then none else
      let j := if bt s ((i + 1 : Nat) : Int) = 43 ∨ bt s ((i + 1 : Nat) : Int) = 45 then i + 2 else i + 1
      let g : Int := if bt s ((i + 1 : Nat) : Int) = 45 then -1 else 1
      if s.size ≤ j then none else if bt s j < 48 ∨ 57 < bt s j then none else
        some ((s2 s (s.size - j) j 0).1, (s2 s (s.size - j) j 0).2 * g))
  else some (i, 0)
def sgn (s : ByteArray) : Nat := if bt s 0 = 43 ∨ bt s 0 = 45 then 1 else 0
/-- What set reads. -/
def setF (s : ByteArray) : Option Dc :=
  if s.size = 0 then none else
  match s1 s (s.size - sgn s) (sgn s) false false [] 0 with
  | none => none
  | some (i, dot, dig, D, dp) => if dig = false then none else
    match sx s i with
    | none => none
    | some (j, e) => if j = s.size then some ⟨D, (if dot = true then dp else (D.length : Int)) + e, bt s 0 == 45, false⟩ else none

theorem s1_le (s : ByteArray) : ∀ (m i : Nat) (dot dig : Bool) (D : List Nat) (dp : Int) {r : Nat × Bool × Bool × List Nat × Int}, s1 s m i dot dig D dp = some r → i + m ≤ 400 → D.length ≤ i → (D = [] ∨ 0 < dg D 0) → (∀ d ∈ D, d ≤ 9) → -(i : Int) ≤ dp → dp ≤ i → r.1 ≤ i + m ∧ i ≤ r.1 ∧ r.2.2.2.1.length ≤ 400 ∧ (r.2.2.2.1 = [] ∨ 0 < dg r.2.2.2.1 0) ∧ (∀ d ∈ r.2.2.2.1, d ≤ 9) ∧ -400 ≤ r.2.2.2.2 ∧ r.2.2.2.2 ≤ 400 := by
  intro m
  induction m with
  | zero =>
    intro i dot dig D dp r h hi hl hz h9 hd hd2
    obtain rfl := Option.some.inj h
    exact ⟨Nat.le_refl _, Nat.le_refl _, by show D.length ≤ 400; omega, hz, h9, by show -400 ≤ dp; omega, by show dp ≤ 400; omega⟩
  | succ m ih =>
    intro i dot dig D dp r h hi hl hz h9 hd hd2
    rw [s1] at h
    by_cases h1 : bt s i = 46
    · rw [if_pos h1] at h
      cases dot with
      | true => exact absurd h (by simp)
      | false =>
        simp only [Bool.false_eq_true, if_false] at h
        have := ih _ _ _ _ _ h (by omega) (by omega) hz h9 (by omega) (by omega)
        exact ⟨by omega, by omega, this.2.2⟩
    · rw [if_neg h1] at h
      by_cases h2 : 48 ≤ bt s i ∧ bt s i ≤ 57
      · rw [if_pos h2] at h
        by_cases h3 : bt s i = 48 ∧ D = []
        · rw [if_pos h3] at h
          have := ih _ _ _ _ _ h (by omega) (by omega) hz h9 (by omega) (by omega)
          exact ⟨by omega, by omega, this.2.2⟩
        · rw [if_neg h3] at h
          have := ih _ _ _ _ _ h (by omega) (by rw [List.length_append]; simp; omega) (by
            right
            rcases hz with hz | hz
            · rw [hz]; simp [dg]
              have : bt s i ≠ 48 := fun e => h3 ⟨e, hz⟩
              omega
            · cases D with
              | nil => exact absurd hz (by simp [dg])
              | cons a q => exact hz) (by
            intro d hd
            rw [List.mem_append] at hd
            rcases hd with hd | hd
            · exact h9 d hd
            · simp at hd; omega) (by omega) (by omega)
          exact ⟨by omega, by omega, this.2.2⟩
      · rw [if_neg h2] at h
        obtain rfl := Option.some.inj h
        exact ⟨by show i ≤ _; omega, Nat.le_refl _, by show D.length ≤ 400; omega, hz, h9, by show -400 ≤ dp; omega, by show dp ≤ 400; omega⟩
theorem s2_le (s : ByteArray) : ∀ (m i : Nat) (e : Int), 0 ≤ e → e ≤ 100000 → 0 ≤ (s2 s m i e).2 ∧ (s2 s m i e).2 ≤ 100000 ∧ (s2 s m i e).1 ≤ i + m ∧ i ≤ (s2 s m i e).1
  | 0, i, e, h0, h1 => ⟨h0, h1, Nat.le_refl _, Nat.le_refl _⟩
  | m + 1, i, e, h0, h1 => by
    rw [s2]
    split
    · rename_i h
      have := s2_le s m (i + 1) (if e < 10000 then e * 10 + bt s i - 48 else e) (by split <;> omega) (by split <;> omega)
      omega
    · exact ⟨h0, h1, by show i ≤ _; omega, Nat.le_refl _⟩
theorem sx_le {s : ByteArray} {i j : Nat} {e : Int} (h : sx s i = some (j, e)) : -100000 ≤ e ∧ e ≤ 100000 := by
  unfold sx at h
  split at h
  · split at h
    · exact absurd h (by simp)
    · obtain ⟨J, hJ⟩ : ∃ J, J = if bt s ((i + 1 : Nat) : Int) = 43 ∨ bt s ((i + 1 : Nat) : Int) = 45 then i + 2 else i + 1 := ⟨_, rfl⟩
      obtain ⟨G, hG⟩ : ∃ G : Int, G = if bt s ((i + 1 : Nat) : Int) = 45 then -1 else 1 := ⟨_, rfl⟩
      have hg : G = 1 ∨ G = -1 := by rw [hG]; split <;> omega
      simp only [← hJ, ← hG] at h
      have := s2_le s (s.size - J) J 0 (by omega) (by omega)
      by_cases c1 : s.size ≤ J
      · rw [if_pos c1] at h; exact absurd h (by simp)
      · rw [if_neg c1] at h
        by_cases c2 : bt s J < 48 ∨ 57 < bt s J
        · rw [if_pos c2] at h; exact absurd h (by simp)
        · rw [if_neg c2] at h
          simp only [Option.some.injEq, Prod.mk.injEq] at h
          obtain ⟨_, rfl⟩ := h
          rcases hg with rfl | rfl <;> omega
  · simp only [Option.some.injEq, Prod.mk.injEq] at h
    omega
/-- What is read has a first digit that is not nought. -/
theorem setF_is {s : ByteArray} {x : Dc} (h : setF s = some x) (hs : s.size ≤ 400) : (x.D = [] ∨ 0 < dg x.D 0) ∧ x.D.length ≤ 400 ∧ -200000 ≤ x.dp ∧ x.dp ≤ 200000 ∧ x.tr = false := by
  unfold setF at h
  split at h
  · exact absurd h (by simp)
  · rename_i h0
    have hg : sgn s ≤ 1 := by unfold sgn; split <;> omega
    cases e : s1 s (s.size - sgn s) (sgn s) false false [] 0 with
    | none => rw [e] at h; exact absurd h (by simp)
    | some r =>
      obtain ⟨i, dot, dig, D, dp⟩ := r
      rw [e] at h
      have h1 := s1_le s _ _ _ _ _ _ e (by omega) (by simp) (.inl rfl) (by simp) (by omega) (by omega)
      simp only at h h1
      split at h
      · exact absurd h (by simp)
      · cases e2 : sx s i with
        | none => rw [e2] at h; exact absurd h (by simp)
        | some q =>
          obtain ⟨j, ee⟩ := q
          rw [e2] at h
          simp only at h
          split at h
          · obtain rfl := Option.some.inj h
            have h2 := sx_le e2
            refine ⟨h1.2.2.2.1, h1.2.2.1, ?_, ?_, rfl⟩
            · show -200000 ≤ (if dot = true then dp else (D.length : Int)) + ee
              split <;> omega
            · show (if dot = true then dp else (D.length : Int)) + ee ≤ 200000
              split <;> omega
          · exact absurd h (by simp)
end Go.Proofs.YtogikhohkbcccaaGreatDoor.De
