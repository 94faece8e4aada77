import Derived.Test.YtpndgbiaomglpaaProg
import Derived.Below
import Derived.Deep.Draws
import Derived.OwnWalk
import Derived.Tactics
import Derived.WalkKit
import Derived.KernelRfl
import Derived.RowKit3
import Derived.Deep.LoopGhost
import Derived.Deep.QuietTactic
import Derived.BigQuiet
import Derived.WideLaws
import Derived.Laws.RangeAny
import Derived.Test.YtpndgbiaomglpaaWWords
import Derived.Test.YtpndgbiaomglpaaWLast
import Derived.Test.YtpndgbiaomglpaaWMore
namespace Go.Proofs.Ytpndgbiaomglpaa.Ext
open Go.RowKit Go.Proofs.YtpndgbiaomglpaaW.PrintWords Go.Proofs.YtpndgbiaomglpaaW.PrintLast Go.Proofs.YtpndgbiaomglpaaW.PrintMore

theorem nat_and_high (x p : Nat) (hp : p ≤ 64) (hx : x < 2 ^ 64) : x &&& (2 ^ 64 - 2 ^ p) = 2 ^ p * (x / 2 ^ p) := by
  have e : 2 ^ 64 - 2 ^ p = 2 ^ p * (2 ^ (64 - p) - 1) := by
    rw [Nat.mul_sub, ← Nat.pow_add, Nat.mul_one]
    congr 2; omega
  rw [e]
  apply Nat.eq_of_testBit_eq
  intro i
  rw [Nat.testBit_and, Nat.testBit_two_pow_mul, Nat.testBit_two_pow_mul, Nat.testBit_two_pow_sub_one, Nat.testBit_div_two_pow]
  by_cases hi : p ≤ i
  · have h2 : i - p + p = i := by omega
    rw [h2]
    by_cases h : i - p < 64 - p
    · simp [hi, h]
    · have : x.testBit i = false := Nat.testBit_lt_two_pow (Nat.lt_of_lt_of_le hx (Nat.pow_le_pow_right (by omega) (by omega)))
      simp [this]
  · have : ¬ i ≥ p := hi
    simp [this]

theorem xor_ones (p : Nat) (hp : p ≤ 20) : bits .xor .i64 (-1) (2 ^ p - 1) = -(2 ^ p : Int) := by
  obtain rfl | rfl | rfl | rfl | rfl | rfl | rfl | rfl | rfl | rfl | rfl | rfl | rfl | rfl | rfl | rfl | rfl | rfl | rfl | rfl | rfl : p = 0 ∨ p = 1 ∨ p = 2 ∨ p = 3 ∨ p = 4 ∨ p = 5 ∨ p = 6 ∨ p = 7 ∨ p = 8 ∨ p = 9 ∨ p = 10 ∨ p = 11 ∨ p = 12 ∨ p = 13 ∨ p = 14 ∨ p = 15 ∨ p = 16 ∨ p = 17 ∨ p = 18 ∨ p = 19 ∨ p = 20 := by omega
  all_goals decide +kernel

theorem and_high (x : Int) (p : Nat) (hp : p ≤ 20) (h0 : 0 ≤ x) (h1 : x < 9223372036854775808) : bits .and .i64 x (-(2 ^ p : Int)) = 2 ^ p * (x / 2 ^ p) := by
  obtain ⟨n, rfl⟩ := Int.eq_ofNat_of_zero_le h0
  have hn : n < 9223372036854775808 := by omega
  have hpp : (2 : Nat) ^ p ≤ 2 ^ 20 := Nat.pow_le_pow_right (by omega) hp
  have hp1 : 1 ≤ (2 : Nat) ^ p := Nat.one_le_two_pow
  have ea : (BitVec.ofInt 64 (n : Int)).toNat = n := by
    rw [BitVec.toNat_ofInt]; simp; omega
  have eb : (BitVec.ofInt 64 (-(2 ^ p : Int))).toNat = 2 ^ 64 - 2 ^ p := by
    rw [BitVec.toNat_ofInt]
    have : ((2 : Int) ^ p) = ((2 ^ p : Nat) : Int) := by simp
    rw [this]
    have hz : -((2 ^ p : Nat) : Int) % (2 ^ 64 : Nat) = ((2 ^ 64 - 2 ^ p : Nat) : Int) := by
      simp only [Nat.reducePow] at *
      omega
    rw [hz]; rfl
  have hd : 2 ^ p * (n / 2 ^ p) ≤ n := Nat.mul_div_le n (2 ^ p)
  show IntKind.i64.wrap (((BitVec.ofInt 64 (n : Int)) &&& (BitVec.ofInt 64 (-(2 ^ p : Int)))).toNat : Int) = _
  rw [BitVec.toNat_and, ea, eb, nat_and_high n p (by omega) (by omega)]
  have e2 : (2 : Int) ^ p * ((n : Int) / 2 ^ p) = ((2 ^ p * (n / 2 ^ p) : Nat) : Int) := by simp
  rw [e2]
  generalize 2 ^ p * (n / 2 ^ p) = m at *
  simp [IntKind.wrap, IntKind.bits, IntKind.signed]
  omega

def isPow (a : Int) : Bool := (List.range 21).any fun p => a == (2 : Int) ^ p
theorem isPow_of {a : Int} (h : isPow a = true) : ∃ p : Nat, p ≤ 20 ∧ a = 2 ^ p := by
  simp only [isPow, List.any_eq_true, List.mem_range, beq_iff_eq] at h
  obtain ⟨p, hp, e⟩ := h
  exact ⟨p, by omega, e⟩
theorem pow_le (p : Nat) (hp : p ≤ 20) : (1 : Int) ≤ 2 ^ p ∧ (2 : Int) ^ p ≤ 1048576 := by
  have hpp : (2 : Nat) ^ p ≤ 2 ^ 20 := Nat.pow_le_pow_right (by omega) hp
  have hp1 : 1 ≤ (2 : Nat) ^ p := Nat.one_le_two_pow
  have : ((2 : Int) ^ p) = ((2 ^ p : Nat) : Int) := by simp
  rw [this]; simp only [Nat.reducePow] at hpp; omega

theorem pad_val (s a : Int) (p : Nat) (hp : p ≤ 20) (e : a = 2 ^ p) (h0 : 0 ≤ s) (h1 : s ≤ 8796093022208) :
    bits .and .i64 (s + a - 1) (bits .xor .i64 (-1) (a - 1)) - s = (-s) % a := by
  obtain ⟨l1, l2⟩ := pow_le p hp
  subst e
  rw [xor_ones p hp, and_high _ p hp (by omega) (by omega)]
  generalize (2 : Int) ^ p = a at *
  have h3 := Int.mul_ediv_add_emod (s + a - 1) a
  have h4 := Int.emod_nonneg (s + a - 1) (show a ≠ 0 by omega)
  have h5 := Int.emod_lt_of_pos (s + a - 1) (show 0 < a by omega)
  have h6 : (-s) % a = (-s + a * ((s + a - 1) / a)) % a := by rw [Int.add_mul_emod_self_left]
  rw [h6, Int.emod_eq_of_lt (by omega) (by omega)]
  omega

theorem ret_int {k : IntKind} {a b : Int} (h : a = b) : Ending.returned (.int k a) = .returned (.int k b) := by rw [h]

theorem pad_low (b : Nat) (q a : Int) (p : Int) (n : Nat) (w : World) (hc : w.cell? ⟨b, 3, none⟩ = some (.int .i64 p))
   (hp : 0 ≤ p) (hp' : p ≤ 2199023255552) (hq : 0 ≤ q) (hq' : q ≤ 2199023255552) (hn : n ≤ 20) (e : a = 2 ^ n) :
    Calls Try.prog 27 #[.pointer (some ⟨b, 0, none⟩), .int .i64 q, .int .i64 a] w fun e w' => e = .returned (.int .i64 ((-(p + q)) % a)) ∧ Drawn0 w w' := by
  obtain ⟨ha, ha'⟩ : 1 ≤ a ∧ a ≤ 1048576 := e ▸ pow_le n hn
  have hv := Aside0.mk (pad_val (p + q) a n hn e (by omega) (by omega))
  clear e
  by_cases hm : (p + q) % a = 0
  · have hm1 : ((p + q) % a != 0) = false := by simp [hm]
    have Hm := Aside0.mk hm
    clear hm
    go_enter Try.func27, Try.ntmps27
    go_wp2
    go_ret
    refine ⟨ret_int ?_, Drawn0.refl _⟩
    have := Hm.out
    have h2 : (-(p + q)) % a = 0 := Int.emod_eq_zero_of_dvd (Int.dvd_neg.2 (Int.dvd_of_emod_eq_zero this))
    rw [h2]
  · have hm1 : ((p + q) % a != 0) = true := by simp [hm]
    clear hm
    go_enter Try.func27, Try.ntmps27
    go_wp2
    go_ret
    refine ⟨ret_int ?_, Drawn0.refl _⟩
    rw [hv.out]
    have h3 := Int.emod_nonneg (-(p + q)) (show a ≠ 0 by omega)
    have h4 := Int.emod_lt_of_pos (-(p + q)) (show 0 < a by omega)
    generalize (-(p + q)) % a = z at *
    have : wrap64 z = z := by unfold wrap64; omega
    rw [this]

def dbus_DoorPad.f (a0 a1 a2 : Int) : Option Int :=
  if 0 ≤ a0 ∧ a0 ≤ 2199023255552 ∧ 0 ≤ a1 ∧ a1 ≤ 2199023255552 ∧ isPow a2 = true then some ((-(a0 + a1)) % a2) else none

theorem dbus_DoorPad.calls (a0 a1 a2 : Int) (r : Int) (w : World) (h : dbus_DoorPad.f a0 a1 a2 = some r) :
    Calls Try.prog 19 #[.int .i64 a0, .int .i64 a1, .int .i64 a2] w fun e w' => e = .returned (.int .i64 r) ∧ Below w.heap.size w w' := by
  unfold dbus_DoorPad.f at h
  split at h
  case isFalse => simp at h
  case isTrue hh =>
    obtain ⟨h1, h2, h3, h4, h5⟩ := hh
    obtain ⟨n, hn, e⟩ := isPow_of h5
    have E := Aside0.mk e
    obtain rfl := Option.some.inj h
    clear h5 e h
    go_enter Try.func19, Try.ntmps19
    go_wp2_with fail
    refine (pad_low w.heap.size a1 a2 a0 n _ (by go_simp) h1 h2 h3 h4 hn E.out).mono ?_
    rintro e w' ⟨rfl, ⟨nd, rfl⟩⟩
    go_wp2
    go_ret
    exact ⟨rfl, by apply pw_below_drewN; apply below_alloc; exact Below.refl _ _⟩

def impl_WrPad.f (a0 a1 a2 : Int) : Option Int := dbus_DoorPad.f a0 a1 a2
theorem impl_WrPad.calls (a0 a1 a2 : Int) (r : Int) (w : World) (h : impl_WrPad.f a0 a1 a2 = some r) :
    Calls Try.prog 9 #[.int .i64 a0, .int .i64 a1, .int .i64 a2] w fun e w' => e = .returned (.int .i64 r) ∧ Below w.heap.size w w' := by
  have H := Aside0.mk h
  clear h
  go_enter Try.func9, Try.ntmps9
  go_wp2_with fail
  refine (dbus_DoorPad.calls a0 a1 a2 r _ H.out).mono ?_
  rintro e w' ⟨rfl, hb⟩
  go_wp2
  go_ret
  exact ⟨rfl, hb⟩
end Go.Proofs.Ytpndgbiaomglpaa.Ext
