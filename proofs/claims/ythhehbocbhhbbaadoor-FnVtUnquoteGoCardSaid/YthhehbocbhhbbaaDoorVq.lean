/-
What varParseString computes, in plain words; small facts about it.
-/
import Derived.Test.YthhehbocbhhbbaaDoorVp
namespace Go.Proofs.YthhehbocbhhbbaaDoor.Vq
set_option linter.unusedVariables false
set_option linter.unusedSimpArgs false
open Go.RowKit Go.Proofs.YthhehbocbhhbbaaDoor.Pn Go.Proofs.YthhehbocbhhbbaaDoor.Vp

/-- The letter behind a backslash, as a character. -/
def ech (r : Nat) : Nat := if r = 97 then 7 else if r = 98 then 8 else if r = 102 then 12 else if r = 110 then 10 else if r = 114 then 13 else if r = 116 then 9 else r
/-- A number of 32 bits as a rune. -/
def i32 (v : Nat) : Int := if v < 2147483648 then (v : Int) else (v : Int) - 4294967296
/-- The characters of a string's inside, behind those read already. -/
def vp : Nat → ByteArray → List UInt8 → Option (List UInt8)
  | 0, _, _ => none
  | k + 1, t, acc =>
    if t.size = 0 then some acc
    else if (Lib.decodeGo t).1 = 65533 ∧ (Lib.decodeGo t).2 = 1 then none
    else if (Lib.decodeGo t).1 ≠ 92 then vp k (t.extract (Lib.decodeGo t).2 t.size) (acc ++ Lib.encodeRune (Lib.decodeGo t).1)
    else
      let t1 := t.extract (Lib.decodeGo t).2 t.size
      if (Lib.decodeGo t1).1 = 65533 ∧ (Lib.decodeGo t1).2 = 1 then none
      else
        let t2 := t1.extract (Lib.decodeGo t1).2 t1.size
        let r := (Lib.decodeGo t1).1
        if r = 10 then vp k t2 acc
        else if r = 117 ∨ r = 85 then
          let n := if r = 117 then 4 else 8
          if t2.size < n then none
          else match px 0 (t2.extract 0 n).data.toList with
            | none => none
            | some v => vp k (t2.extract n t2.size) (acc ++ Lib.encodeRune (i32 v))
        else vp k t2 (acc ++ Lib.encodeRune (ech r))

theorem ech_id (r : Nat) (a : r ≠ 97) (b : r ≠ 98) (c : r ≠ 102) (d : r ≠ 110) (e : r ≠ 114) (f : r ≠ 116) : ech r = r := by simp [ech, a, b, c, d, e, f]
theorem dg_le (t : ByteArray) : (Lib.decodeGo t).2 ≤ t.size := by
  unfold Lib.decodeGo
  split
  · omega
  · rw [Lib.decode_at]
    unfold Lib.decodeN
    repeat' split
    all_goals (simp only; omega)
theorem dg_pos (t : ByteArray) (h : t.size ≠ 0) : 1 ≤ (Lib.decodeGo t).2 := by
  unfold Lib.decodeGo
  rw [if_neg h]
  exact Lib.width_pos t 0
theorem dg_lt (t : ByteArray) : (Lib.decodeGo t).1 ≤ 1114111 := by
  unfold Lib.decodeGo
  split
  · decide
  · exact Lib.rune_le t 0
theorem px_lt : ∀ (l : List UInt8) (acc k v : Nat), acc < 16 ^ k → px acc l = some v → v < 16 ^ (k + l.length)
  | [], acc, k, v, h, hp => by
    obtain rfl : acc = v := by simpa [px] using hp
    simpa using h
  | c :: r, acc, k, v, h, hp => by
    simp only [px] at hp
    cases hx : hexv c with
    | none => rw [hx] at hp; cases hp
    | some d =>
      rw [hx] at hp
      have hd : d < 16 := by
        unfold hexv at hx
        split at hx
        · obtain rfl := Option.some.inj hx; omega
        · split at hx
          · obtain rfl := Option.some.inj hx; omega
          · cases hx
      have := px_lt r (acc * 16 + d) (k + 1) v (by rw [Nat.pow_succ]; omega) hp
      rw [List.length_cons, Nat.add_comm r.length 1, ← Nat.add_assoc]
      exact this
theorem px_u32 (t : ByteArray) (h : t.size ≤ 8) (v : Nat) (hp : px 0 t.data.toList = some v) : v < 4294967296 := by
  have := px_lt t.data.toList 0 0 v (by decide) hp
  have hl : t.data.toList.length ≤ 8 := by rw [Array.length_toList]; exact h
  have h2 : (16 : Nat) ^ (0 + t.data.toList.length) ≤ 16 ^ 8 := Nat.pow_le_pow_right (by decide) (by omega)
  omega
theorem i32_range (v : Nat) (h : v < 4294967296) : -2147483648 ≤ i32 v ∧ i32 v ≤ 2147483647 := by
  unfold i32; split <;> omega
theorem enc_le (r : Int) : 1 ≤ (Lib.encodeRune r).length ∧ (Lib.encodeRune r).length ≤ 4 := by
  rw [← Lib.runeCells_length]; exact Lib.runeCells_le r

section
variable {k : Nat} {t : ByteArray} {acc : List UInt8} {R : Option (List UInt8)}
theorem vp_end (h : vp (k + 1) t acc = R) (h0 : t.size = 0) : R = some acc := by rw [← h]; simp [vp, h0]
theorem vp_bad {r n : Nat} (hd : Lib.decodeGo t = (r, n)) (h : vp (k + 1) t acc = R) (h0 : t.size ≠ 0) (h1 : r = 65533 ∧ n = 1) : R = none := by
  rw [← h]; simp [vp, h0, hd, h1]
theorem vp_char {r n : Nat} (hd : Lib.decodeGo t = (r, n)) (h : vp (k + 1) t acc = R) (h0 : t.size ≠ 0) (h1 : ¬ (r = 65533 ∧ n = 1)) (h2 : r ≠ 92) : vp k (t.extract n t.size) (acc ++ Lib.encodeRune r) = R := by
  rw [← h]; simp only [vp, hd]; rw [if_neg h0, if_neg h1, if_pos h2]
variable {n : Nat} {t1 : ByteArray} {r2 n2 : Nat} (hd : Lib.decodeGo t = (92, n)) (h : vp (k + 1) t acc = R) (h0 : t.size ≠ 0) (e1 : t.extract n t.size = t1) (hd2 : Lib.decodeGo t1 = (r2, n2))
include hd h h0 e1 hd2
theorem vp_bad2 (h1 : r2 = 65533 ∧ n2 = 1) : R = none := by
  rw [← h]; simp only [vp, hd, e1, hd2]; rw [if_neg h0, if_neg (by simp), if_neg (by simp), if_pos h1]
theorem vp_nl (h1 : ¬ (r2 = 65533 ∧ n2 = 1)) (h2 : r2 = 10) : vp k (t1.extract n2 t1.size) acc = R := by
  rw [← h]; simp only [vp, hd, e1, hd2]; rw [if_neg h0, if_neg (by simp), if_neg (by simp), if_neg h1, if_pos h2]
theorem vp_esc (h1 : ¬ (r2 = 65533 ∧ n2 = 1)) (h2 : r2 ≠ 10) (h3 : r2 ≠ 117) (h4 : r2 ≠ 85) : vp k (t1.extract n2 t1.size) (acc ++ Lib.encodeRune (ech r2)) = R := by
  rw [← h]; simp only [vp, hd, e1, hd2]; rw [if_neg h0, if_neg (by simp), if_neg (by simp), if_neg h1, if_neg h2, if_neg (by omega)]
theorem vp_short (m : Nat) (hm : (r2 = 117 ∧ m = 4) ∨ (r2 = 85 ∧ m = 8)) (h5 : (t1.extract n2 t1.size).size < m) : R = none := by
  rw [← h]; simp only [vp, hd, e1, hd2]
  rcases hm with ⟨rfl, rfl⟩ | ⟨rfl, rfl⟩
  · rw [if_neg h0, if_neg (by simp), if_neg (by simp), if_neg (by simp), if_neg (by simp), if_pos (by simp)]
    simp only [if_true]
    rw [if_pos h5]
  · rw [if_neg h0, if_neg (by simp), if_neg (by simp), if_neg (by simp), if_neg (by simp), if_pos (by simp)]
    simp only [show ((85 : Nat) = 117) = False from by simp, if_false]
    rw [if_pos h5]
theorem vp_nohex (m : Nat) (hm : (r2 = 117 ∧ m = 4) ∨ (r2 = 85 ∧ m = 8)) (h5 : ¬ (t1.extract n2 t1.size).size < m) (hp : px 0 ((t1.extract n2 t1.size).extract 0 m).data.toList = none) : R = none := by
  rw [← h]; simp only [vp, hd, e1, hd2]
  rcases hm with ⟨rfl, rfl⟩ | ⟨rfl, rfl⟩
  · rw [if_neg h0, if_neg (by simp), if_neg (by simp), if_neg (by simp), if_neg (by simp), if_pos (by simp)]
    simp only [if_true]
    rw [if_neg h5, hp]
  · rw [if_neg h0, if_neg (by simp), if_neg (by simp), if_neg (by simp), if_neg (by simp), if_pos (by simp)]
    simp only [show ((85 : Nat) = 117) = False from by simp, if_false]
    rw [if_neg h5, hp]
theorem vp_hex (m v : Nat) (hm : (r2 = 117 ∧ m = 4) ∨ (r2 = 85 ∧ m = 8)) (h5 : ¬ (t1.extract n2 t1.size).size < m) (hp : px 0 ((t1.extract n2 t1.size).extract 0 m).data.toList = some v) :
    vp k ((t1.extract n2 t1.size).extract m (t1.extract n2 t1.size).size) (acc ++ Lib.encodeRune (i32 v)) = R := by
  rw [← h]; simp only [vp, hd, e1, hd2]
  rcases hm with ⟨rfl, rfl⟩ | ⟨rfl, rfl⟩
  · rw [if_neg h0, if_neg (by simp), if_neg (by simp), if_neg (by simp), if_neg (by simp), if_pos (by simp)]
    simp only [if_true]
    rw [if_neg h5, hp]
  · rw [if_neg h0, if_neg (by simp), if_neg (by simp), if_neg (by simp), if_neg (by simp), if_pos (by simp)]
    simp only [show ((85 : Nat) = 117) = False from by simp, if_false]
    rw [if_neg h5, hp]
end
end Go.Proofs.YthhehbocbhhbbaaDoor.Vq
