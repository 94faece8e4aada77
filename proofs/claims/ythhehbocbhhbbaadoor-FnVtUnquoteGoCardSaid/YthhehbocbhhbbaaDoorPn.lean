/-
What is proved: strconv.ParseUint of at most 8 bytes, not none, at base 16 and 32 bits, reads hexadecimal digits; else it is an error.
-/
import Derived.Test.YthhehbocbhhbbaaDoorProg
import Derived.Lib.ConvBytes
import Derived.Lib.Hide
import Derived.Lib.Strings
import Derived.Lib.Walk
import Derived.Laws.Strings3
import Derived.Laws.Closers25
import Derived.Laws.Closers25b
import Derived.WalkKit
import Derived.BigCall
import Derived.BigGuard
namespace Go.Proofs.YthhehbocbhhbbaaDoor.Pn
set_option linter.unusedVariables false
set_option linter.unusedSimpArgs false
open Go.RowKit

/-- A letter made small. -/
def lw (c : UInt8) : Nat := (c ||| 32).toNat
/-- The number of a hexadecimal digit. -/
def hexv (c : UInt8) : Option Nat := if 48 ≤ c.toNat ∧ c.toNat ≤ 57 then some (c.toNat - 48) else if 97 ≤ lw c ∧ lw c ≤ 102 then some (lw c - 87) else none
/-- The number of some hexadecimal digits behind others. -/
def px : Nat → List UInt8 → Option Nat
  | acc, [] => some acc
  | acc, c :: r => match hexv c with
    | none => none
    | some d => px (acc * 16 + d) r
/-- What the inner ParseUint answers. -/
def ansI : Option Nat → Value
  | some v => .tuple #[.int .u64 v, .nilIface]
  | none => .tuple #[.int .u64 0, .iface 75 (.int .i64 2)]

theorem lw_bits (c : UInt8) : bits .or .u8 (c.toNat : Int) 32 = (lw c : Int) := by
  have h : ∀ n : Fin 256, bits .or .u8 ((UInt8.ofNat n.val).toNat : Int) 32 = (lw (UInt8.ofNat n.val) : Int) := by decide +kernel
  have := h ⟨c.toNat, c.toNat_lt⟩
  simpa using this
theorem lw_lt (c : UInt8) : lw c < 256 := (c ||| 32).toNat_lt
theorem lw_not (c : UInt8) (h : c.toNat = 95) : lw c = 127 := by
  have : c = 95 := by apply UInt8.toNat_inj.1; rw [h]; rfl
  subst this; rfl

theorem lower (c m : Int) (hm : bits .or .u8 c 32 = m) (w : World) : Calls Tryd.prog 41 #[.int .u8 c] w fun e w' => e = .returned (.int .u8 m) ∧ w' = w := by
  subst hm
  go_enter Tryd.func41, Tryd.ntmps41
  go_wp2
  go_ret
  exact ⟨rfl, rfl⟩

set_option maxHeartbeats 32000000 in
set_option maxRecDepth 100000 in
theorem inner (t : ByteArray) (hne : t.size ≠ 0) (hmax : t.size ≤ 8) (w : World) :
    Calls Tryd.prog 32 #[.string t, .int .i64 16, .int .i64 32] w fun e w' => e = .returned (ansI (px 0 t.data.toList)) ∧ w' = Lib.bytesWorld w 5 t := by
  have hemp : t.toList.isEmpty = false := by
    rw [← decide_eq_emptyBytes]
    exact decide_eq_false (fun h => hne (by rw [h]; rfl))
  have hcv := Lib.run_convert_string_bytes (P := Tryd.prog) w 9 31 5 t (u := .string) (Tryd.underlying9) (Tryd.underlying31) (Tryd.underlying5)
  have hB : ∀ j, j < t.size → (Lib.bytesWorld w 5 t).cell? ⟨w.heap.size, j, none⟩ = some (.int .u8 (t.data.toList.getD j 0).toNat) := fun j hj => Lib.bytesWorld_cell w 5 t j hj
  obtain ⟨W1, hW1⟩ : ∃ W1, W1 = Lib.bytesWorld w 5 t := ⟨_, rfl⟩
  rw [← hW1] at hcv hB ⊢
  clear hW1
  obtain ⟨bs, hL⟩ : ∃ bs, bs = t.data.toList := ⟨_, rfl⟩
  have hLn : bs.length = t.size := by rw [hL, Lib.size_eq]
  rw [← hL] at hB ⊢
  clear hL
  have hmv : IntKind.u64.wrap (IntKind.u64.wrap 4294967296 - 1) = 4294967295 := by
    rw [IntKind.wrap_u64, IntKind.wrap_u64]
    decide
  go_enter Tryd.func32, Tryd.ntmps32
  go_wp2
  go_loop [12, 13, 101] (fun vu vn vi => ∃ (k acc : Nat) (a : Int), vu = .bool false ∧ vn = .int .u64 a ∧ vi = .int .i64 k ∧ k ≤ t.size ∧ Hid (a = (acc : Int) ∧ acc < 16 ^ k ∧ px 0 bs = px acc (bs.drop k)))
    (fun _ _ vi => t.size - (intOf vi).toNat)
  case atStart => exact ⟨0, 0, 0, rfl, rfl, rfl, by omega, rfl, by omega, rfl⟩
  case round =>
    obtain ⟨k, acc, a, rfl, rfl, rfl, hk, hh⟩ := hrel
    obtain ⟨ha, hacc, hdec⟩ := hh.out
    clear hh
    have a0 : 0 ≤ a := by omega
    by_cases hkn : k < t.size
    · have hc := hB k hkn
      have hdrop : bs.drop k = bs[k]'(by omega) :: bs.drop (k + 1) := List.drop_eq_getElem_cons (by omega)
      have hget : bs.getD k 0 = bs[k]'(by omega) := by simp [List.getD, List.getElem?_eq_getElem (show k < bs.length by omega)]
      rw [hdrop] at hdec
      rw [hget] at hc
      generalize bs[k]'(by omega) = c at hc hdec
      have hc256 : c.toNat < 256 := c.toNat_lt
      have hl256 := lw_lt c
      have hlw := lw_bits c
      have h95 := lw_not c
      clear hB hdrop hget
      have hp : (16 : Nat) ^ (k + 1) = 16 * 16 ^ k := by rw [Nat.pow_succ, Nat.mul_comm]
      have hp8 : (16 : Nat) ^ (k + 1) ≤ 4294967296 := by
        have : (16 : Nat) ^ (k + 1) ≤ 16 ^ 8 := Nat.pow_le_pow_right (by decide) (by omega)
        simpa using this
      have acut : a < 268435456 := by omega
      by_cases hdig : 48 ≤ c.toNat ∧ c.toNat ≤ 57
      · obtain ⟨hd0, hd1⟩ := hdig
        have hF : px acc (c :: bs.drop (k + 1)) = px (acc * 16 + (c.toNat - 48)) (bs.drop (k + 1)) := by simp [px, hexv, hd0, hd1]
        have HN : Hid (a * 16 + ((c.toNat : Int) - 48) = ((acc * 16 + (c.toNat - 48) : Nat) : Int) ∧ acc * 16 + (c.toNat - 48) < 16 ^ (k + 1) ∧ px 0 bs = px (acc * 16 + (c.toNat - 48)) (bs.drop (k + 1))) := Lib.hid ⟨by omega, by omega, hdec.trans hF⟩
        have iov : a * 16 + ((c.toNat : Int) - 48) ≤ 4294967295 := by omega
        clear hacc hF hdec ha hp hp8 h95 hlw hl256
        go_wp2
        refine ⟨⟨k + 1, acc * 16 + (c.toNat - 48), a * 16 + ((c.toNat : Int) - 48), rfl, (by first | rfl | (congr 1; omega)), (by first | rfl | (congr 1; omega)), by omega, HN⟩, by simp [intOf]; omega⟩
      · by_cases hlet : 97 ≤ lw c ∧ lw c ≤ 102
        · obtain ⟨hd0, hd1⟩ := hlet
          have hF : px acc (c :: bs.drop (k + 1)) = px (acc * 16 + (lw c - 87)) (bs.drop (k + 1)) := by simp [px, hexv, hdig, hd0, hd1]
          have hn95 : c.toNat ≠ 95 := fun h => by have := h95 h; omega
          generalize lw c = m at *
          have HN : Hid (a * 16 + ((m : Int) - 97 + 10) = ((acc * 16 + (m - 87) : Nat) : Int) ∧ acc * 16 + (m - 87) < 16 ^ (k + 1) ∧ px 0 bs = px (acc * 16 + (m - 87)) (bs.drop (k + 1))) := Lib.hid ⟨by omega, by omega, hdec.trans hF⟩
          have iov : a * 16 + ((m : Int) - 97 + 10) ≤ 4294967295 := by omega
          have hlow := fun w => lower (c.toNat : Int) (m : Int) hlw w
          clear hacc hF hdec ha hp hp8 h95 hlw
          go_wp2_with (go_at_call 41; refine (hlow _).mono ?_; rintro e w' ⟨rfl, rfl⟩)
          all_goals refine ⟨⟨k + 1, acc * 16 + (m - 87), a * 16 + ((m : Int) - 97 + 10), rfl, (by first | rfl | (congr 1; omega)), (by first | rfl | (congr 1; omega)), by omega, HN⟩, by simp [intOf]; omega⟩
        · have hF : px acc (c :: bs.drop (k + 1)) = none := by simp [px, hexv, hdig, hlet]
          rw [hF] at hdec
          generalize lw c = m at *
          have hlow := fun w => lower (c.toNat : Int) (m : Int) hlw w
          have hlow95 := fun w => lower 95 127 (by decide) w
          clear hacc hF ha hp hp8 hlw
          go_wp2_with (go_at_call 41; first | (refine (hlow _).mono ?_; rintro e w' ⟨rfl, rfl⟩) | (refine (hlow95 _).mono ?_; rintro e w' ⟨rfl, rfl⟩))
          all_goals go_ret2
          all_goals first | exact ⟨rfl, rfl⟩ | exact ⟨by rw [hdec]; rfl, rfl⟩
    · have hkk : k = t.size := by omega
      subst hkk
      have hF : px acc (bs.drop t.size) = some acc := by rw [List.drop_eq_nil_of_le (by omega)]; rfl
      rw [hF] at hdec
      subst ha
      clear hacc hF a0
      go_wp2
      go_ret2
      exact ⟨rfl, rfl⟩
end Go.Proofs.YthhehbocbhhbbaaDoor.Pn
