/-
The padding that the encoder leaves is that of the sum of a place and an offset, from either of them alone, and one more with each byte less ahead of a multiple: for places and offsets of at most 2^40 and alignments 2^0 to 2^20; for all other inputs the law returns true at once.
-/
import Derived.Test.YtpndgbiaomglpaaQ1
namespace Go.Proofs.Ytpndgbiaomglpaa.Pure
open Go.RowKit Go.Proofs.Ytpndgbiaomglpaa.Ext Go.Proofs.Ytpndgbiaomglpaa.Q Go.Proofs.YtpndgbiaomglpaaW.PrintWords Go.Proofs.YtpndgbiaomglpaaW.PrintLast Go.Proofs.YtpndgbiaomglpaaW.PrintMore

theorem pad_eq (p q a : Int) (h1 : 0 ≤ p) (h2 : p ≤ 2199023255552) (h3 : 0 ≤ q) (h4 : q ≤ 2199023255552) (h5 : isPow a = true) : impl_WrPad.f p q a = some ((-(p + q)) % a) := by
  unfold impl_WrPad.f dbus_DoorPad.f
  rw [if_pos ⟨h1, h2, h3, h4, h5⟩]

theorem shl_pow (n : Int) (h0 : 0 ≤ n) (h1 : n ≤ 20) : isPow (shl .i64 1 n) = true := by
  obtain rfl | rfl | rfl | rfl | rfl | rfl | rfl | rfl | rfl | rfl | rfl | rfl | rfl | rfl | rfl | rfl | rfl | rfl | rfl | rfl | rfl : n = 0 ∨ n = 1 ∨ n = 2 ∨ n = 3 ∨ n = 4 ∨ n = 5 ∨ n = 6 ∨ n = 7 ∨ n = 8 ∨ n = 9 ∨ n = 10 ∨ n = 11 ∨ n = 12 ∨ n = 13 ∨ n = 14 ∨ n = 15 ∨ n = 16 ∨ n = 17 ∨ n = 18 ∨ n = 19 ∨ n = 20 := by omega
  all_goals decide +kernel

theorem next_pad (s a : Int) : (-(s + 1)) % a = ((-s) % a + a - 1) % a := by
  have e : (-s) % a + a - 1 = (-s) % a + (a - 1) := by omega
  rw [e, Int.emod_add_emod]
  have e2 : -s + (a - 1) = -(s + 1) + a := by omega
  rw [e2, Int.add_emod_right]

theorem FnWrPadSum : laws_FnWrPadSum.Pure := by
  intro p q n hp hq hn
  have wp : 0 ≤ p ∧ p ≤ 18446744073709551615 := by simpa [Lit.wf, IntKind.min, IntKind.max, IntKind.bits, IntKind.signed] using hp
  have wq : 0 ≤ q ∧ q ≤ 18446744073709551615 := by simpa [Lit.wf, IntKind.min, IntKind.max, IntKind.bits, IntKind.signed] using hq
  have wn : 0 ≤ n ∧ n ≤ 255 := by simpa [Lit.wf, IntKind.min, IntKind.max, IntKind.bits, IntKind.signed] using hn
  refine ⟨0 + 1, ?_⟩
  unfold laws_FnWrPadSum.f
  by_cases g1 : p > 1099511627776
  · rw [if_pos g1]; rfl
  rw [if_neg g1]
  by_cases g2 : q > 1099511627776
  · rw [if_pos g2]; rfl
  rw [if_neg g2]
  by_cases g3 : n > 20
  · rw [decide_eq_true g3]; rfl
  rw [decide_eq_false g3]
  have en : IntKind.u64.wrap n = n := by simp [IntKind.wrap, IntKind.bits, IntKind.signed]; omega
  have es : IntKind.u64.wrap (p + q) = p + q := by simp [IntKind.wrap, IntKind.bits, IntKind.signed]; omega
  have w1 : wrap64 p = p := by unfold wrap64; omega
  have w2 : wrap64 q = q := by unfold wrap64; omega
  have w3 : wrap64 (p + q) = p + q := by unfold wrap64; omega
  have w4 : wrap64 (p + 1) = p + 1 := by unfold wrap64; omega
  simp only [laws_FnWrPadSum.j0]
  rw [if_neg (by decide), en, if_pos wn.1, w1, w2, es, w3, w4]
  have hpow := shl_pow n wn.1 (by omega)
  generalize shl .i64 1 n = a at *
  obtain ⟨m, hm, e⟩ := isPow_of hpow
  obtain ⟨l1, l2⟩ := pow_le m hm
  rw [← e] at l1 l2
  rw [pad_eq p q a wp.1 (by omega) wq.1 (by omega) hpow, pad_eq (p + 1) q a (by omega) (by omega) wq.1 (by omega) hpow, pad_eq (p + q) 0 a (by omega) (by omega) (by omega) (by omega) hpow, pad_eq 0 (p + q) a (by omega) (by omega) (by omega) (by omega) hpow, pad_eq 1 0 4 (by omega) (by omega) (by omega) (by omega) (by decide +kernel)]
  simp only [Option.bind_some, Int.add_zero, Int.zero_add, if_true]
  have hb1 := Int.emod_nonneg (-(p + q)) (show a ≠ 0 by omega)
  have hb2 := Int.emod_lt_of_pos (-(p + q)) (show 0 < a by omega)
  have hnx := next_pad (p + q) a
  have e3 : p + 1 + q = p + q + 1 := by omega
  rw [e3, hnx]
  generalize (-(p + q)) % a = z at *
  rw [if_neg (by omega)]
  have w5 : wrap64 (z + a) = z + a := by unfold wrap64; omega
  have w6 : wrap64 (z + a - 1) = z + a - 1 := by unfold wrap64; omega
  rw [w5, w6, Int.tmod_eq_emod_of_nonneg (by omega), if_pos rfl]
  rfl

end Go.Proofs.Ytpndgbiaomglpaa.Pure
