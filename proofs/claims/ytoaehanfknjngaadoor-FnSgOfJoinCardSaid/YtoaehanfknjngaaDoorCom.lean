import Derived.Test.YtoaehanfknjngaaDoorWWords
namespace Go.Proofs.YtoaehanfknjngaaDoor.Com
set_option linter.unusedVariables false
set_option linter.unusedSimpArgs false
open Go.RowKit Go.Proofs.YtoaehanfknjngaaDoorW.PrintWords

/-- The bytes of a string. -/
def B (s : ByteArray) : List UInt8 := s.data.toList
theorem B_append (a b : ByteArray) : B (a ++ b) = B a ++ B b := by simp [B]
theorem B_length (s : ByteArray) : (B s).length = s.size := by unfold B; rw [Array.length_toList]; rfl
theorem B_extract (s : ByteArray) (i j : Nat) : B (s.extract i j) = ((B s).drop i).take (j - i) := by simp [B]
theorem B_from (s : ByteArray) (i : Nat) : B (s.extract i s.size) = (B s).drop i := by
  rw [B_extract, List.take_of_length_le]
  rw [List.length_drop, B_length]; omega
theorem B_to (s : ByteArray) (j : Nat) : B (s.extract 0 j) = (B s).take j := by
  rw [B_extract]; simp
theorem B_inj {a b : ByteArray} (h : B a = B b) : a = b := by
  cases a; cases b; simp only [B] at h; congr; exact Array.toList_inj.1 h
theorem B_toList (s : ByteArray) : s.toList = B s := ByteArray.toList_eq s
theorem B_nil {s : ByteArray} : s.toList = ([] : List UInt8) ↔ B s = [] := by rw [B_toList]
theorem bt_get (s : ByteArray) (i : Nat) (h : i < (B s).length) : bt s i = ((B s)[i].toNat : Int) := by
  have h' : i < s.size := by rw [B_length] at h; exact h
  rw [← bt_at s i (by simpa using h')]; rfl
theorem bt_drop {s : ByteArray} {i : Nat} {c : UInt8} {t : List UInt8} (h : (B s).drop i = c :: t) : bt s i = (c.toNat : Int) ∧ i < s.size ∧ (B s).drop (i + 1) = t := by
  have hl : i < (B s).length := by
    have := congrArg List.length h
    simp at this; omega
  rw [List.drop_eq_getElem_cons hl] at h
  injection h with h1 h2
  refine ⟨by rw [bt_get s i hl, h1], by rw [B_length] at hl; exact hl, h2⟩
theorem drop_end {s : ByteArray} {i : Nat} (h : (B s).drop i = []) : s.size ≤ i := by
  have := congrArg List.length h
  simp [B_length] at this; omega
theorem drop_size {s : ByteArray} {i : Nat} {c : UInt8} {t : List UInt8} (h : (B s).drop i = c :: t) : t.length + i + 1 = s.size := by
  have := congrArg List.length h
  simp [B_length] at this; omega

theorem wrap_of {a : Int} (h0 : -9223372036854775808 ≤ a) (h1 : a ≤ 9223372036854775807) : wrap64 a = a := by
  unfold wrap64; omega

/-- An answer that comes with enough rounds, under a test that is known. -/
theorem Ev.yes {α : Type} {c : Prop} [Decidable c] {f g : Nat → Option α} {r : α} (h : c) (k : Ev f r) : Ev (fun n => if c then f n else g n) r := Ev.congr (fun _ => if_pos h) k
theorem Ev.no {α : Type} {c : Prop} [Decidable c] {f g : Nat → Option α} {r : α} (h : ¬ c) (k : Ev g r) : Ev (fun n => if c then f n else g n) r := Ev.congr (fun _ => if_neg h) k
theorem Ev.both {α : Type} {c : Prop} [Decidable c] {f g : Nat → Option α} {r : α} (k : c → Ev f r) (k' : ¬ c → Ev g r) : Ev (fun n => if c then f n else g n) r := by
  by_cases h : c
  · exact Ev.yes h (k h)
  · exact Ev.no h (k' h)
theorem Ev.let {α β : Type} {a : α} {f : Nat → α → Option β} {r : β} (k : Ev (fun n => f n a) r) : Ev (fun n => (some a).bind (f n)) r := k
theorem Ev.is {α : Type} {a r : α} (h : a = r) : Ev (fun _ => some a) r := h ▸ Ev.now r
/-- A call that takes no rounds. -/
theorem Ev.call {α β : Type} {o : Option α} {f : Nat → α → Option β} {a : α} {r : β} (h : o = some a) (k : Ev (fun n => f n a) r) : Ev (fun n => o.bind (f n)) r := by subst h; exact k

end Go.Proofs.YtoaehanfknjngaaDoor.Com
