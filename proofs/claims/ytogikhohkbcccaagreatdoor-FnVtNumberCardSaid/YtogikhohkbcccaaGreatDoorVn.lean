import Derived.Test.YtogikhohkbcccaaGreatDoorPu
import Derived.Test.YtogikhohkbcccaaGreatDoorPb
namespace Go.Proofs.YtogikhohkbcccaaGreatDoor.De
set_option linter.unusedVariables false
set_option linter.unusedSimpArgs false
open Go.RowKit Go.Proofs.YtogikhohkbcccaaGreatDoorW.PrintWords Go.Proofs.YtogikhohkbcccaaGreatDoorW.PrintLast Go.Proofs.YtogikhohkbcccaaGreatDoorW.PrintMore

theorem cp_long (s p : ByteArray) (w : World) (h : s.size < p.size) :
    Calls Tryz.prog 29 #[.string s, .string p] w fun e w' => e = .returned (.tuple #[.string s, .bool false]) ∧ w' = w := by
  have c1 : decide ((s.size : Int) < (p.size : Int)) = true := decide_eq_true (by omega)
  have c1' : decide (s.size < p.size) = true := decide_eq_true h
  clear h
  go_enter Tryz.func29, Tryz.ntmps29
  go_wp2
  refine bodyPost_ret (results_list (rs := [.tmp 4, .tmp 5]) rfl (by simp) (.tmp (.tmp .nil))) rfl ?_
  exact ⟨rfl, rfl⟩
theorem cp_short (s p : ByteArray) (b : Bool) (w : World) (h : p.size ≤ s.size) (hb : ((s.extract 0 p.size).toList == p.toList) = b) :
    Calls Tryz.prog 29 #[.string s, .string p] w fun e w' => e = .returned (.tuple (if b = true then #[.string (s.extract p.size s.size), .bool true] else #[.string s, .bool false])) ∧ w' = w := by
  have c1 : decide ((s.size : Int) < (p.size : Int)) = false := decide_eq_false (by omega)
  have c1' : decide (s.size < p.size) = false := decide_eq_false (by omega)
  have c2 : ((p.size : Int) ≤ (s.size : Int)) = True := eq_true (by omega)
  have c2' : (p.size ≤ s.size) = True := eq_true h
  clear h
  cases b with
  | true =>
    rw [if_pos rfl]
    go_enter Tryz.func29, Tryz.ntmps29
    go_wp2
    refine bodyPost_ret (results_list (rs := [.tmp 4, .tmp 5]) rfl (by simp) (.tmp (.tmp .nil))) rfl ?_
    exact ⟨rfl, rfl⟩
  | false =>
    rw [if_neg (by simp)]
    go_enter Tryz.func29, Tryz.ntmps29
    go_wp2
    refine bodyPost_ret (results_list (rs := [.tmp 4, .tmp 5]) rfl (by simp) (.tmp (.tmp .nil))) rfl ?_
    exact ⟨rfl, rfl⟩
/-- The two prefixes. -/
def px0 : ByteArray := ⟨#[48]⟩
def px0x : ByteArray := ⟨#[48, 120]⟩
theorem bt_is {s : ByteArray} {i : Nat} (h : i < s.size) : bt s (i : Int) = ((s[i]'h).toNat : Int) := (pu_hx rfl h).symm
theorem take_data {s : ByteArray} (n : Nat) : (s.extract 0 n).toList = s.data.toList.take n := by
  rw [ByteArray.toList_eq, ByteArray.data_extract, Array.toList_extract]
  simp [List.extract]
theorem data_at {s : ByteArray} {i : Nat} (h : i < s.size) : s.data.toList[i]? = some (s[i]'h) := by
  rw [Array.getElem?_toList, Array.getElem?_eq_getElem (by exact h)]; rfl
theorem pre_0 {s : ByteArray} (h : 1 ≤ s.size) : ((s.extract 0 px0.size).toList == px0.toList) = decide (bt s 0 = 48) := by
  have h0 := data_at (s := s) (i := 0) (by omega)
  rw [show px0.size = 1 from rfl, take_data, show px0.toList = [48] by decide +kernel, show bt s 0 = _ from bt_is (i := 0) (by omega)]
  generalize s[0] = c at h0
  cases hl : s.data.toList with
  | nil => rw [hl] at h0; cases h0
  | cons a r =>
    rw [hl] at h0
    obtain rfl : a = c := by simpa using h0
    simp only [List.take_succ_cons, List.take_zero]
    rw [Bool.eq_iff_iff]
    simp only [beq_iff_eq, List.cons.injEq, and_true, decide_eq_true_eq]
    constructor
    · rintro rfl; rfl
    · intro h; exact UInt8.toNat_inj.1 (by show a.toNat = 48; omega)
theorem pre_0x {s : ByteArray} (h : 2 ≤ s.size) : ((s.extract 0 px0x.size).toList == px0x.toList) = decide (bt s 0 = 48 ∧ bt s 1 = 120) := by
  have h0 := data_at (s := s) (i := 0) (by omega)
  have h1 := data_at (s := s) (i := 1) (by omega)
  rw [show px0x.size = 2 from rfl, take_data, show px0x.toList = [48, 120] by decide +kernel, show bt s 0 = _ from bt_is (i := 0) (by omega), show bt s 1 = _ from bt_is (i := 1) (by omega)]
  generalize s[0] = c at h0
  generalize s[1] = d at h1
  cases hl : s.data.toList with
  | nil => rw [hl] at h0; cases h0
  | cons a r =>
    cases r with
    | nil => rw [hl] at h1; cases h1
    | cons b r =>
      rw [hl] at h0 h1
      obtain rfl : a = c := by simpa using h0
      obtain rfl : b = d := by simpa using h1
      simp only [List.take_succ_cons, List.take_zero]
      rw [Bool.eq_iff_iff]
      simp only [beq_iff_eq, List.cons.injEq, and_true, decide_eq_true_eq]
      constructor
      · rintro ⟨rfl, rfl⟩; exact ⟨rfl, rfl⟩
      · rintro ⟨h, g⟩; exact ⟨UInt8.toNat_inj.1 (by show a.toNat = 48; omega), UInt8.toNat_inj.1 (by show b.toNat = 120; omega)⟩
theorem cp_0 (s : ByteArray) (w : World) (h : 1 ≤ s.size) :
    Calls Tryz.prog 29 #[.string s, .string px0] w fun e w' => e = .returned (.tuple (if bt s 0 = 48 then #[.string (s.extract 1 s.size), .bool true] else #[.string s, .bool false])) ∧ w' = w := by
  have := cp_short s px0 _ w h (pre_0 h)
  simpa only [decide_eq_true_eq, show px0.size = 1 from rfl] using this
theorem cp_0x (s : ByteArray) (w : World) :
    Calls Tryz.prog 29 #[.string s, .string px0x] w fun e w' => e = .returned (.tuple (if 2 ≤ s.size ∧ bt s 0 = 48 ∧ bt s 1 = 120 then #[.string (s.extract 2 s.size), .bool true] else #[.string s, .bool false])) ∧ w' = w := by
  by_cases h : 2 ≤ s.size
  · have := cp_short s px0x _ w h (pre_0x h)
    simp only [decide_eq_true_eq, show px0x.size = 2 from rfl] at this
    simpa only [h, true_and] using this
  · rw [if_neg (fun e => h e.1)]
    exact cp_long s px0x w (by show s.size < 2; omega)
end Go.Proofs.YtogikhohkbcccaaGreatDoor.De

namespace Go.Proofs.YtogikhohkbcccaaGreatDoor.De
set_option linter.unusedVariables false
set_option linter.unusedSimpArgs false
open Go.RowKit Go.Proofs.YtogikhohkbcccaaGreatDoorW.PrintWords Go.Proofs.YtogikhohkbcccaaGreatDoorW.PrintLast Go.Proofs.YtogikhohkbcccaaGreatDoorW.PrintMore

def C29 (s p a : ByteArray) (b : Bool) : Prop := ∀ W, Calls Tryz.prog 29 #[.string s, .string p] W fun e w' => e = .returned (.tuple #[.string a, .bool b]) ∧ W = w'
/-- How a text is cut: five ways. -/
def CutC (s s2 : ByteArray) (β : Int) : Prop :=
  (∃ a, C29 s px0x s2 true ∧ C29 s2 px0 a true ∧ s2.size = 1 ∧ β = 16) ∨
  (C29 s px0x s2 true ∧ C29 s2 px0 s2 false ∧ β = 16) ∨
  (C29 s px0x s false ∧ C29 s px0 s2 true ∧ s.size ≠ 1 ∧ β = 8) ∨
  (∃ a, C29 s px0x s false ∧ C29 s px0 a true ∧ s.size = 1 ∧ s2 = s ∧ β = 10) ∨
  (C29 s px0x s false ∧ C29 s px0 s false ∧ s2 = s ∧ β = 10)
/-- What a number's answer is. -/
def NAns (r : Int × Option Int) (mk : Int → Value) (e : Ending) : Prop :=
  (r.2 = none ∧ e = .returned (.tuple #[mk r.1, .nilIface])) ∨ (r.2 ≠ none ∧ ∃ N, e = .returned (.tuple #[.nilIface, .iface 62 (.pointer (some ⟨N, 0, none⟩))]))
theorem sz_ne {n : Nat} (h : n ≠ 1) : ((n : Int) != 1) = true ∧ ((n : Int) == 1) = false ∧ (((n : Int) = 1) = False) ∧ ((n = 1) = False) :=
  ⟨bne_iff_ne.2 (by omega), beq_eq_false_iff_ne.2 (by omega), eq_false (by omega), eq_false h⟩
theorem sz_eq {n : Nat} (h : n = 1) : ((n : Int) != 1) = false ∧ ((n : Int) == 1) = true ∧ (((n : Int) = 1) = True) ∧ ((n = 1) = True) :=
  ⟨bne_eq_false_iff_eq.2 (by omega), beq_iff_eq.2 (by omega), eq_true (by omega), eq_true h⟩
/-- A world with the signature's block. -/
structure VW (w W : World) (K : ByteArray) : Prop where
  below : Below w.heap.size w W
  ev : EV W
  size : w.heap.size < W.heap.size
  cell : W.cell? ⟨w.heap.size, 0, none⟩ = some (.string K)
theorem VW.mk' {w : World} (K : ByteArray) (hE : EV w) (hg : 2 < w.heap.size) : VW w (w.alloc (Obj.cells #[.string K] 57)) K := by
  have hb : Below w.heap.size w (w.alloc (Obj.cells #[.string K] 57)) := below_alloc (Below.refl _ _) _
  exact ⟨hb, hE.below hb hg, by simp [World.alloc, -World.alloc_eq], by simp [World.cell?, World.alloc, -World.alloc_eq]⟩
theorem VW.step {w W W' : World} {K : ByteArray} (h : VW w W K) (hb : Below W.heap.size W W') (hg : 2 < w.heap.size) : VW w W' K :=
  ⟨h.below.trans (hb.mono h.below.size), h.ev.below hb (by have := h.size; omega), Nat.lt_of_lt_of_le h.size hb.size, by rw [hb.cell (by show w.heap.size < W.heap.size; exact h.size)]; exact h.cell⟩
end Go.Proofs.YtogikhohkbcccaaGreatDoor.De
