import Derived.Test.YtoaehanfknjngaaDoorProg
import Derived.Below
import Derived.Deep.Draws
import Derived.OwnWalk
import Derived.Tactics
import Derived.WalkKit
import Derived.KernelRfl
import Derived.RowKit3
import Derived.Deep.LoopGhost
import Derived.Deep.QuietTactic
import Derived.BigQuiet
import Derived.WideLaws
import Derived.Laws.RangeAny
import Derived.Test.YtoaehanfknjngaaDoorWWords
import Derived.Test.YtoaehanfknjngaaDoorWMore
import Derived.Deep.RegionHeld3
import Derived.Test.YtoaehanfknjngaaDoorCom
namespace Go.Proofs.YtoaehanfknjngaaDoor.Ext
set_option linter.unusedVariables false
set_option linter.unusedSimpArgs false
open Go.RowKit Go.Proofs.YtoaehanfknjngaaDoorW.PrintWords Go.Proofs.YtoaehanfknjngaaDoorW.PrintLast Go.Proofs.YtoaehanfknjngaaDoorW.PrintMore

theorem ret_int {k : IntKind} {a b : Int} (h : a = b) : Ending.returned (.int k a) = .returned (.int k b) := by rw [h]

theorem get_bang (s : ByteArray) (i : Nat) (h : i < s.size) : s.get! i = s[i]'h := by
  show s.get! i = _
  simp [ByteArray.get!, getElem!_pos, h]
  rfl

/-- Where a character begins with a byte of 128 or more, each of its bytes lies in the text and is 128 or more. -/
theorem decode_bytes (s : ByteArray) (pos : Nat) (h : pos < s.size) (ha : 128 ≤ (s[pos]'h).toNat) (j : Nat) (hj : j < (Utf8.decode s pos).2) :
    ∃ h' : pos + j < s.size, 128 ≤ (s[pos + j]'h').toNat := by
  have hn : ¬ (s[pos]'h).toNat < 128 := by omega
  have hc : ∀ k, (decide (pos + k < s.size) && (s.get! (pos + k)).toNat / 64 == 2) = true → ∃ h' : pos + k < s.size, 128 ≤ (s[pos + k]'h').toNat := by
    intro k hk
    simp only [Bool.and_eq_true, decide_eq_true_eq, beq_iff_eq] at hk
    refine ⟨hk.1, ?_⟩
    rw [get_bang s _ hk.1] at hk
    omega
  have h0 : ∃ h' : pos + 0 < s.size, 128 ≤ (s[pos + 0]'h').toNat := ⟨h, ha⟩
  by_cases j0 : j = 0
  · subst j0; exact h0
  simp only [Utf8.decode, get_at s pos h, hn, if_false] at hj
  have one : ∀ x : Nat, ¬ j < (x, 1).2 := by intro x; show ¬ j < 1; omega
  split at hj
  · rename_i hb
    simp only [Bool.and_eq_true] at hb
    split at hj
    · have : j = 1 := by simp at hj; omega
      subst this; exact hc 1 (by simpa using hb.2)
    · exact absurd hj (one _)
  split at hj
  · rename_i hb
    simp only [Bool.and_eq_true] at hb
    split at hj
    · have : j = 1 ∨ j = 2 := by simp at hj; omega
      rcases this with rfl | rfl
      · exact hc 1 (by simpa using hb.1.2)
      · exact hc 2 (by simpa using hb.2)
    · exact absurd hj (one _)
  split at hj
  · rename_i hb
    simp only [Bool.and_eq_true] at hb
    split at hj
    · have : j = 1 ∨ j = 2 ∨ j = 3 := by simp at hj; omega
      rcases this with rfl | rfl | rfl
      · exact hc 1 (by simpa using hb.1.1.2)
      · exact hc 2 (by simpa using hb.1.2)
      · exact hc 3 (by simpa using hb.2)
    · exact absurd hj (one _)
  · exact absurd hj (one _)

/-- The search for the mark that closes the first one, byte by byte. -/
def fm (l r : Int) : List UInt8 → Int → Int → Int
  | [], _, _ => -1
  | c :: t, n, i => let m := if (c.toNat : Int) = l then n + 1 else if (c.toNat : Int) = r then n - 1 else n; if m = 0 then i else fm l r t m (i + 1)

theorem drop_cons (s : ByteArray) (pos : Nat) (h : pos < s.size) : s.data.toList.drop pos = (s[pos]'h) :: s.data.toList.drop (pos + 1) := by
  rw [List.drop_eq_getElem_cons (by simpa using h)]; rfl

theorem fm_skip (s : ByteArray) (l r : Int) (hl : l < 128) (hr : r < 128) (n : Int) (hn : n ≠ 0) (pos j : Nat) (hj : ∀ i < j, ∃ h' : pos + i < s.size, 128 ≤ (s[pos + i]'h').toNat) :
    fm l r (s.data.toList.drop pos) n pos = fm l r (s.data.toList.drop (pos + j)) n (pos + j : Nat) := by
  induction j with
  | zero => rfl
  | succ j ih =>
    rw [ih (fun i hi => hj i (by omega))]
    obtain ⟨h', hb⟩ := hj j (by omega)
    rw [drop_cons s (pos + j) h', fm]
    have h1 : ¬ ((s[pos + j]'h').toNat : Int) = l := by omega
    have h2 : ¬ ((s[pos + j]'h').toNat : Int) = r := by omega
    simp only [h1, h2, if_false, hn]
    rfl

theorem fm_step (s : ByteArray) (l r : Int) (hl : l < 128) (hr : r < 128) (n : Int) (pos : Nat) (h : pos < s.size) :
    fm l r (s.data.toList.drop pos) n pos = (let m := if ((Utf8.decode s pos).1 : Int) = l then n + 1 else if ((Utf8.decode s pos).1 : Int) = r then n - 1 else n; if m = 0 then (pos : Int) else fm l r (s.data.toList.drop (pos + (Utf8.decode s pos).2)) m (pos + (Utf8.decode s pos).2 : Nat)) := by
  by_cases ha : (s[pos]'h).toNat < 128
  · rw [decode_ascii s pos h ha, drop_cons s pos h, fm]
    rfl
  · have hd := decode_high s pos h (by omega)
    have h1 : ¬ ((Utf8.decode s pos).1 : Int) = l := by omega
    have h2 : ¬ ((Utf8.decode s pos).1 : Int) = r := by omega
    have h3 : ¬ ((s[pos]'h).toNat : Int) = l := by omega
    have h4 : ¬ ((s[pos]'h).toNat : Int) = r := by omega
    simp only [h1, h2, if_false]
    by_cases hn : n = 0
    · subst hn
      rw [drop_cons s pos h, fm]
      simp only [h3, h4, if_false, if_true]
    · rw [if_neg hn]
      exact fm_skip s l r hl hr n hn pos _ (fun i hi => decode_bytes s pos h (by omega) i hi)

def dbus_findMatching.f (a0 : ByteArray) (a1 a2 : Int) : Option Int :=
  if a0.size ≤ 4611686018427387904 ∧ 0 ≤ a1 ∧ a1 < 128 ∧ 0 ≤ a2 ∧ a2 < 128 then some (fm a1 a2 a0.data.toList 0 0) else none

theorem width_pos (s : ByteArray) (pos : Nat) (h : pos < s.size) : 1 ≤ (Utf8.decode s pos).2 := by
  by_cases ha : (s[pos]'h).toNat < 128
  · rw [decode_ascii s pos h ha]
    exact Nat.le_refl _
  · exact (decode_high s pos h (by omega)).2

theorem width_le (s : ByteArray) (pos : Nat) (h : pos < s.size) : pos + (Utf8.decode s pos).2 ≤ s.size := by
  by_cases ha : (s[pos]'h).toNat < 128
  · rw [decode_ascii s pos h ha]; exact h
  · have h1 := (decode_high s pos h (by omega)).2
    obtain ⟨h', _⟩ := decode_bytes s pos h (by omega) ((Utf8.decode s pos).2 - 1) (by omega)
    omega

theorem below_iter (w : World) (s : ByteArray) (pos : Nat) : Below w.heap.size w (w.iter s pos) := by
  show Below _ w (w.alloc _)
  apply below_alloc
  exact Below.refl _ _

set_option maxRecDepth 100000 in
theorem dbus_findMatching.calls (a0 : ByteArray) (a1 a2 : Int) (r : Int) (w : World) (h : dbus_findMatching.f a0 a1 a2 = some r) :
    Calls Tryd.prog 61 #[.string a0, .int .i32 a1, .int .i32 a2] w fun e w' => e = .returned (.int .i64 r) ∧ Below w.heap.size w w' := by
  unfold dbus_findMatching.f at h
  split at h
  case isFalse => simp at h
  case isTrue hh =>
    obtain ⟨h1, h2, h3, h4, h5⟩ := hh
    have H0 := Aside0.mk (Option.some.inj h)
    clear h
    go_enter Tryd.func61, Tryd.ntmps61
    go_wp2
    go_loopw [7] (fun v w' => ∃ (pos : Nat) (n : Int), w' = w.iter a0 pos ∧ v = .int .i64 n ∧ pos ≤ a0.size ∧ -(pos : Int) ≤ n ∧ n ≤ pos ∧ Aside0 (fm a1 a2 (a0.data.toList.drop pos) n pos = r)) (fun _ w' => a0.size - w'.iterPos w.heap.size)
    case atStart => exact ⟨0, 0, rfl, rfl, by omega, by omega, by omega, H0⟩
    case round =>
      clear H0
      obtain ⟨pos, n, rfl, rfl, hp, hn1, hn2, HF⟩ := hrel
      by_cases hlt : pos < a0.size
      · have hw1 := width_pos a0 pos hlt
        have hw2 := width_le a0 pos hlt
        have HS := Aside0.mk ((fm_step a0 a1 a2 h3 h5 n pos hlt).symm.trans HF.out)
        have hnx : ∀ ty, (Instr.next (.pointer (some ⟨w.heap.size, 0, none⟩)) true ty).run Tryd.prog (w.iter a0 pos) = _ := fun ty => run_next_any w a0 pos ty hlt
        clear HF
        generalize (Utf8.decode a0 pos).2 = wd at *
        generalize (Utf8.decode a0 pos).1 = c at *
        by_cases hl : (c : Int) = a1
        · have hl1 : ((c : Int) == a1) = true := beq_iff_eq.2 hl
          by_cases h0 : n + 1 = 0
          · have h01 : (n + 1 == 0) = true := beq_iff_eq.2 h0
            have HR : Aside0 ((pos : Int) = r) := ⟨by have := HS.out; simp only [hl, if_true, h0] at this; exact this⟩
            clear h0 hl
            go_wp2
            go_ret
            exact ⟨ret_int HR.out, below_iter _ _ _⟩
          · have h01 : (n + 1 == 0) = false := beq_eq_false_iff_ne.2 h0
            have HR : Aside0 (fm a1 a2 (a0.data.toList.drop (pos + wd)) (n + 1) ((pos + wd : Nat) : Int) = r) := ⟨by have := HS.out; simp only [hl, if_true, h0, if_false] at this; exact this⟩
            clear h0 hl
            go_wp2
            go_roundw
            case rel => exact ⟨pos + wd, n + 1, rfl, rfl, by omega, by omega, by omega, HR⟩
            case measure => simp; omega
        · have hl1 : ((c : Int) == a1) = false := beq_eq_false_iff_ne.2 hl
          by_cases hr : (c : Int) = a2
          · have hr1 : ((c : Int) == a2) = true := beq_iff_eq.2 hr
            by_cases h0 : n - 1 = 0
            · have h01 : (n - 1 == 0) = true := beq_iff_eq.2 h0
              have HR : Aside0 ((pos : Int) = r) := ⟨by have := HS.out; rw [if_neg hl, if_pos hr] at this; simp only [h0, if_true] at this; exact this⟩
              clear h0 hl hr
              go_wp2
              go_ret
              exact ⟨ret_int HR.out, below_iter _ _ _⟩
            · have h01 : (n - 1 == 0) = false := beq_eq_false_iff_ne.2 h0
              have HR : Aside0 (fm a1 a2 (a0.data.toList.drop (pos + wd)) (n - 1) ((pos + wd : Nat) : Int) = r) := ⟨by have := HS.out; rw [if_neg hl, if_pos hr] at this; simp only [h0, if_false] at this; exact this⟩
              clear h0 hl hr
              go_wp2
              go_roundw
              case rel => exact ⟨pos + wd, n - 1, rfl, rfl, by omega, by omega, by omega, HR⟩
              case measure => simp; omega
          · have hr1 : ((c : Int) == a2) = false := beq_eq_false_iff_ne.2 hr
            by_cases h0 : n = 0
            · have h01 : (n == 0) = true := beq_iff_eq.2 h0
              have HR : Aside0 ((pos : Int) = r) := ⟨by have := HS.out; rw [if_neg hl, if_neg hr] at this; simp only [h0, if_true] at this; exact this⟩
              clear h0 hl hr
              go_wp2
              go_ret
              exact ⟨ret_int HR.out, below_iter _ _ _⟩
            · have h01 : (n == 0) = false := beq_eq_false_iff_ne.2 h0
              have HR : Aside0 (fm a1 a2 (a0.data.toList.drop (pos + wd)) n ((pos + wd : Nat) : Int) = r) := ⟨by have := HS.out; rw [if_neg hl, if_neg hr] at this; simp only [h0, if_false] at this; exact this⟩
              clear h0 hl hr
              go_wp2
              go_roundw
              case rel => exact ⟨pos + wd, n, rfl, rfl, by omega, by omega, by omega, HR⟩
              case measure => simp; omega
      · have hnx : ∀ ty, (Instr.next (.pointer (some ⟨w.heap.size, 0, none⟩)) true ty).run Tryd.prog (w.iter a0 pos) = _ := fun ty => run_next_end w a0 pos ty hlt
        have HR : Aside0 (-1 = r) := ⟨by have := HF.out; rw [List.drop_eq_nil_of_le (by simp; omega)] at this; exact this⟩
        clear HF
        go_wp2
        go_ret
        exact ⟨ret_int HR.out, below_iter _ _ _⟩

end Go.Proofs.YtoaehanfknjngaaDoor.Ext

namespace Go.Proofs.YtoaehanfknjngaaDoor.Ext
set_option linter.unusedVariables false
set_option linter.unusedSimpArgs false
open Go.RowKit Go.Proofs.YtoaehanfknjngaaDoorW.PrintWords Go.Proofs.YtoaehanfknjngaaDoorW.PrintLast Go.Proofs.YtoaehanfknjngaaDoorW.PrintMore

/-- What is told of an error: is it nil? -/
def EB (v : Value) (b : Bool) : Prop := match b with | true => v = .nilIface | false => ∃ t u, v = .iface t u
theorem EB_nil : EB .nilIface true := rfl
theorem EB_err (t : TypeId) (u : Value) : EB (.iface t u) false := ⟨t, u, rfl⟩

/-- A depth counter in memory. -/
def Dep (w : World) (g : Nat) (x y z : Int) : Prop :=
  w.cell? ⟨g, 0, none⟩ = some (.int .i64 x) ∧ w.cell? ⟨g, 1, none⟩ = some (.int .i64 y) ∧ w.cell? ⟨g, 2, none⟩ = some (.int .i64 z)

def deep (x y z : Int) : Bool := decide (x ≤ 32) && (decide (y ≤ 32) && decide (z ≤ 32))

theorem valid_call (g : Nat) (x y z : Int) (w : World) (h : Dep w g x y z) :
    Calls Tryd.prog 32 #[.pointer (some ⟨g, 0, none⟩)] w fun e w' => e = .returned (.bool (deep x y z)) ∧ Drawn0 w w' := by
  obtain ⟨h0, h1, h2⟩ := h
  by_cases a : x ≤ 32
  · have a1 : decide (x ≤ 32) = true := by simp [a]
    by_cases b : y ≤ 32
    · have b1 : decide (y ≤ 32) = true := by simp [b]
      by_cases c : z ≤ 32
      · have c1 : decide (z ≤ 32) = true := by simp [c]
        have hd : deep x y z = true := by simp [deep, a, b, c]
        rw [hd]; clear a b c hd
        go_enter Tryd.func32, Tryd.ntmps32
        go_wp2_with fail
        try go_quiet (fail)
        go_wp2
        go_ret
        exact ⟨rfl, by repeat (first | exact Drawn0.refl _ | apply Drawn0.step)⟩
      · have c1 : decide (z ≤ 32) = false := by simp; omega
        have hd : deep x y z = false := by simp [deep, c]
        rw [hd]; clear a b c hd
        go_enter Tryd.func32, Tryd.ntmps32
        go_wp2_with fail
        try go_quiet (fail)
        go_wp2
        go_ret
        exact ⟨rfl, by repeat (first | exact Drawn0.refl _ | apply Drawn0.step)⟩
    · have b1 : decide (y ≤ 32) = false := by simp; omega
      have hd : deep x y z = false := by simp [deep, b]
      rw [hd]; clear a b hd
      go_enter Tryd.func32, Tryd.ntmps32
      go_wp2_with fail
      try go_quiet (fail)
      go_wp2
      go_ret
      exact ⟨rfl, by repeat (first | exact Drawn0.refl _ | apply Drawn0.step)⟩
  · have a1 : decide (x ≤ 32) = false := by simp; omega
    have hd : deep x y z = false := by simp [deep, a]
    rw [hd]; clear a hd
    go_enter Tryd.func32, Tryd.ntmps32
    go_wp2_with fail
    try go_quiet (fail)
    go_wp2
    go_ret
    exact ⟨rfl, by repeat (first | exact Drawn0.refl _ | apply Drawn0.step)⟩

theorem arr_call (x y z : Int) (w : World) (h0 : -1000 ≤ x) (h1 : x ≤ 1000) :
    Calls Tryd.prog 40 #[.agg #[.int .i64 x, .int .i64 y, .int .i64 z]] w fun e w' => e = .returned (.pointer (some ⟨w.heap.size, 0, none⟩)) ∧ w' = w.alloc (.cells #[.int .i64 (x + 1), .int .i64 y, .int .i64 z] 62) := by
  go_enter Tryd.func40, Tryd.ntmps40
  go_wp2
  go_ret
  exact ⟨rfl, rfl⟩
theorem ent_call (x y z : Int) (w : World) (h0 : -1000 ≤ z) (h1 : z ≤ 1000) :
    Calls Tryd.prog 43 #[.agg #[.int .i64 x, .int .i64 y, .int .i64 z]] w fun e w' => e = .returned (.pointer (some ⟨w.heap.size, 0, none⟩)) ∧ w' = w.alloc (.cells #[.int .i64 x, .int .i64 y, .int .i64 (z + 1)] 62) := by
  go_enter Tryd.func43, Tryd.ntmps43
  go_wp2
  go_ret
  exact ⟨rfl, rfl⟩
theorem str_call (x y z : Int) (w : World) (h0 : -1000 ≤ y) (h1 : y ≤ 1000) :
    Calls Tryd.prog 39 #[.agg #[.int .i64 x, .int .i64 y, .int .i64 z]] w fun e w' => e = .returned (.pointer (some ⟨w.heap.size, 0, none⟩)) ∧ w' = w.alloc (.cells #[.int .i64 x, .int .i64 (y + 1), .int .i64 z] 62) := by
  go_enter Tryd.func39, Tryd.ntmps39
  go_wp2
  go_ret
  exact ⟨rfl, rfl⟩
end Go.Proofs.YtoaehanfknjngaaDoor.Ext

namespace Go.Proofs.YtoaehanfknjngaaDoor.Ext
set_option linter.unusedVariables false
set_option linter.unusedSimpArgs false
open Go.RowKit Go.Proofs.YtoaehanfknjngaaDoorW.PrintWords Go.Proofs.YtoaehanfknjngaaDoorW.PrintLast Go.Proofs.YtoaehanfknjngaaDoorW.PrintMore Go.Proofs.YtoaehanfknjngaaDoor.Com

abbrev E0 : ByteArray := ⟨#[]⟩

/-- A letter of a type by itself. -/
def one (c : Int) : Bool := c == 121 || (c == 98 || (c == 110 || (c == 113 || (c == 105 || (c == 117 || (c == 120 || (c == 116 || (c == 100 || (c == 115 || (c == 103 || (c == 111 || (c == 118 || c == 104))))))))))))

mutual
/-- The program's reader of a type: whether there is one, and what stands behind it; so many arrays, structs and entries stand about it. -/
def vs : Nat → ByteArray → Int → Int → Int → Option (Bool × ByteArray)
 | 0, _, _, _, _ => none
 | k + 1, s, x, y, z =>
  if s.size = 0 then some (false, E0)
  else if deep x y z = false then some (false, E0)
  else if one (bt s 0) = true then some (true, s.extract 1 s.size)
  else if bt s 0 = 97 then
   (if 1 < s.size then (if bt s 1 = 123 then vd k s (fm 123 125 (B (s.extract 1 s.size)) 0 0) x y z else vs k (s.extract 1 s.size) (x + 1) y z)
   else vs k (s.extract 1 s.size) (x + 1) y z)
  else if bt s 0 = 40 then
   (if fm 40 41 (B s) 0 0 = -1 then some (false, E0)
   else if 1 ≤ fm 40 41 (B s) 0 0 then
    (if fm 40 41 (B s) 0 0 < (s.size : Int) then vl k (s.extract 1 (fm 40 41 (B s) 0 0).toNat) (s.extract (fm 40 41 (B s) 0 0 + 1).toNat s.size) x y z else none) else none)
  else some (false, E0)
/-- An entry of a dict; i: where the brace that closes it stands behind the one that opens it. -/
def vd : Nat → ByteArray → Int → Int → Int → Int → Option (Bool × ByteArray)
 | 0, _, _, _, _, _ => none
 | k + 1, s, i, x, y, z =>
  if i = -1 then some (false, E0)
  else if 1 ≤ i then (if i + 1 < (s.size : Int) then
   (if (s.extract 2 (i + 1).toNat).size = 0 then some (false, E0)
   else (vs k ((s.extract 2 (i + 1).toNat).extract 0 1) (x + 1) y (z + 1)).bind fun p =>
    if p.1 = true then (vs k ((s.extract 2 (i + 1).toNat).extract 1 (s.extract 2 (i + 1).toNat).size) (x + 1) y (z + 1)).bind fun q =>
     if q.1 = true then (if q.2.size = 0 then some (true, s.extract (i + 2).toNat s.size) else some (false, E0)) else some (false, E0)
    else some (false, E0)) else none)
  else none
/-- The types within brackets; r: what stands behind them. -/
def vl : Nat → ByteArray → ByteArray → Int → Int → Int → Option (Bool × ByteArray)
 | 0, _, _, _, _, _ => none
 | k + 1, s, r, x, y, z =>
  if s.size = 0 then some (true, r)
  else (vs k s x (y + 1) z).bind fun p => if p.1 = true then vl k p.2 r x y z else some (false, E0)
end

/-- What a call of the reader comes to. -/
def VPost (b : Bool) (r : ByteArray) (w : World) (e : Ending) (w' : World) : Prop := ∃ ev, e = .returned (.tuple #[ev, .string r]) ∧ EB ev b ∧ Below w.heap.size w w'

theorem Dep.lt {w : World} {g : Nat} {x y z : Int} (h : Dep w g x y z) : g < w.heap.size := by
 have h0 := h.1
 by_cases hl : g < w.heap.size
 ·exact hl
 ·have : w.heap[g]? = none := Array.getElem?_eq_none (by omega)
  simp [World.cell?, this] at h0
theorem Dep.below {w w' : World} {g : Nat} {x y z : Int} (h : Dep w g x y z) (hb : Below w.heap.size w w') : Dep w' g x y z := by
 have hl := h.lt
 exact ⟨(hb.cell (p := ⟨g, 0, none⟩) hl).trans h.1, (hb.cell (p := ⟨g, 1, none⟩) hl).trans h.2.1, (hb.cell (p := ⟨g, 2, none⟩) hl).trans h.2.2⟩
theorem Dep.new (w : World) (x y z : Int) : Dep (w.alloc (.cells #[.int .i64 x, .int .i64 y, .int .i64 z] 62)) w.heap.size x y z := by
 refine ⟨?_, ?_, ?_⟩ <;> go_simp

/-- The reader at so many rounds. -/
def Reads (k : Nat) : Prop := ∀ (a : ByteArray) (x y z : Int) (g : Nat) (b : Bool) (r : ByteArray) (w : World), vs k a x y z = some (b, r) → Dep w g x y z → -1 ≤ x → x ≤ 1000 → -1 ≤ y → y ≤ 1000 → -1 ≤ z → z ≤ 1000 → a.size ≤ 4294967296 →
 Calls Tryd.prog 60 #[.string a, .pointer (some ⟨g, 0, none⟩)] w (VPost b r w)

theorem first_byte (a : ByteArray) (c : Int) (h : bt a 0 = c) : ∀ (h : 0 < a.size), ((a[0]'h).toNat : Int) = c := fun h' => (bt_at a 0 h').trans h
theorem second_byte (a : ByteArray) : ∀ (h : 1 < a.size), ((a[1]'h).toNat : Int) = bt a 1 := fun h' => bt_at a 1 h'
theorem ne_str {a : ByteArray} (hs : a.size ≠ 0) : (a.toList == ([] : List UInt8)) = false := by
 rw [beq_eq_false_iff_ne]; intro h; have := B_length a; rw [B_nil.1 h] at this; exact hs this.symm
theorem ne_str2 {a : ByteArray} (hs : a.size ≠ 0) : (a.toList != ([] : List UInt8)) = true := by
 rw [bne, ne_str hs]; rfl

/-- The nested call behind an array's mark. -/
theorem VPost.of {b : Bool} {r : ByteArray} {w W w' : World} {ev : Value} (he : EB ev b) (h : Below w.heap.size w W) (hb : Below W.heap.size W w') : VPost b r w (.returned (.tuple #[ev, .string r])) w' := ⟨ev, rfl, he, below_step h hb⟩

set_option maxRecDepth 100000 in
theorem vs_arr (k : Nat) (ih : Reads k) (a : ByteArray) (x y z : Int) (g : Nat) (b : Bool) (r : ByteArray) (w : World) (hs : a.size ≠ 0) (hd : deep x y z = true) (h97 : bt a 0 = 97) (h123 : 1 < a.size → bt a 1 ≠ 123)
  (H : vs k (a.extract 1 a.size) (x + 1) y z = some (b, r)) (hD : Dep w g x y z) (hx : -1 ≤ x) (hy : -1 ≤ y) (hz : -1 ≤ z) (hsz : a.size ≤ 4294967296) :
  Calls Tryd.prog 60 #[.string a, .pointer (some ⟨g, 0, none⟩)] w (VPost b r w) := by
 obtain ⟨hx2, hy2, hz2⟩ : x ≤ 32 ∧ y ≤ 32 ∧ z ≤ 32 := by simpa [deep] using hd
 have IH := Aside0.mk ih
 have AH := Aside0.mk H
 have AD := Aside0.mk hD
 have HD := Aside0.mk hd
 have hne := ne_str hs
 have hne2 := ne_str2 hs
 have hpos : 0 < a.size := by omega
 have hx0 := first_byte a 97 h97
 have hlt := hD.lt
 have hnew : w.heap.size ≠ g := by omega
 have q1 : ((1 : Int) ≤ (a.size : Int)) = True := eq_true (by omega)
 have q2 : (1 ≤ a.size) = True := eq_true (by omega)
 by_cases h1 : 1 < a.size
 ·have hx1 := second_byte a
  have b1 : ((bt a 1 == 123) = false) := beq_eq_false_iff_ne.2 (h123 h1)
  clear ih H hd h123 hs h97
  obtain ⟨h0, hc1, hc2⟩ := hD
  go_enter Tryd.func60, Tryd.ntmps60
  go_wp2_with (first | (go_at_call 32; refine (valid_call g x y z _ ?_).mono ?_; exact AD.out; rintro e w' ⟨rfl, ⟨nd, rfl⟩⟩; rw [HD.out]))
  go_region_held3 (fun w' => w'.cell? ⟨g, 0, none⟩ = some (.int .i64 x) ∧ w'.cell? ⟨g, 1, none⟩ = some (.int .i64 y) ∧ w'.cell? ⟨g, 2, none⟩ = some (.int .i64 z)) (first | go_keep)
   (first
    | (go_at_call 40; refine (arr_call x y z _ (by omega) (by omega)).mono ?_; rintro e w' ⟨rfl, rfl⟩)
    | (go_at_call 60; refine (IH.out _ (x + 1) y z _ b r _ AH.out (Dep.new _ _ _ _) (by omega) (by omega) (by omega) (by omega) (by omega) (by omega) (by rw [ByteArray.size_extract]; omega)).mono ?_; rintro e w' ⟨ev, rfl, he, hb⟩; have HE := Aside0.mk he; clear he; have HB := Aside0.mk hb; obtain ⟨k0, k1, k2⟩ := Dep.below (g := g) (x := x) (y := y) (z := z) (by refine ⟨?_, ?_, ?_⟩ <;> go_simp) hb; clear hb))
  go_wp2
  go_ret2
  exact VPost.of HE.out (by repeat (first | exact Below.refl _ _ | apply below_alloc | apply pw_below_drewN | apply below_drew1)) HB.out
 ·have hx1 : decide (1 < a.size) = false := by simpa using h1
  clear ih H hd h123 hs h97
  obtain ⟨h0, hc1, hc2⟩ := hD
  go_enter Tryd.func60, Tryd.ntmps60
  go_wp2_with (first | (go_at_call 32; refine (valid_call g x y z _ ?_).mono ?_; exact AD.out; rintro e w' ⟨rfl, ⟨nd, rfl⟩⟩; rw [HD.out]))
  go_region_held3 (fun w' => w'.cell? ⟨g, 0, none⟩ = some (.int .i64 x) ∧ w'.cell? ⟨g, 1, none⟩ = some (.int .i64 y) ∧ w'.cell? ⟨g, 2, none⟩ = some (.int .i64 z)) (first | go_keep)
   (first
    | (go_at_call 40; refine (arr_call x y z _ (by omega) (by omega)).mono ?_; rintro e w' ⟨rfl, rfl⟩)
    | (go_at_call 60; refine (IH.out _ (x + 1) y z _ b r _ AH.out (Dep.new _ _ _ _) (by omega) (by omega) (by omega) (by omega) (by omega) (by omega) (by rw [ByteArray.size_extract]; omega)).mono ?_; rintro e w' ⟨ev, rfl, he, hb⟩; have HE := Aside0.mk he; clear he; have HB := Aside0.mk hb; obtain ⟨k0, k1, k2⟩ := Dep.below (g := g) (x := x) (y := y) (z := z) (by refine ⟨?_, ?_, ?_⟩ <;> go_simp) hb; clear hb))
  go_wp2
  go_ret2
  exact VPost.of HE.out (by repeat (first | exact Below.refl _ _ | apply below_alloc | apply pw_below_drewN | apply below_drew1)) HB.out

set_option maxRecDepth 100000 in
theorem vs_empty (a : ByteArray) (g : Nat) (w : World) (hs : a.size = 0) :
  Calls Tryd.prog 60 #[.string a, .pointer (some ⟨g, 0, none⟩)] w (VPost false E0 w) := by
 have hn : a.toList = [] := B_nil.2 (List.eq_nil_of_length_eq_zero (by rw [B_length]; exact hs))
 have hne : (a.toList == ([] : List UInt8)) = true := beq_iff_eq.2 hn
 have hne2 : (a.toList != ([] : List UInt8)) = false := by rw [bne, hne]; rfl
 clear hn hs
 go_enter Tryd.func60, Tryd.ntmps60
 go_wp2
 go_ret2
 exact ⟨_, rfl, EB_err _ _, Below.refl _ _⟩

set_option maxRecDepth 100000 in
theorem vs_deep (a : ByteArray) (x y z : Int) (g : Nat) (w : World) (hs : a.size ≠ 0) (hd : deep x y z = false) (hD : Dep w g x y z) :
  Calls Tryd.prog 60 #[.string a, .pointer (some ⟨g, 0, none⟩)] w (VPost false E0 w) := by
 have hne := ne_str hs
 have hne2 := ne_str2 hs
 have AD := Aside0.mk hD
 have HD := Aside0.mk hd
 clear hs hD hd
 go_enter Tryd.func60, Tryd.ntmps60
 go_wp2_with (first | (go_at_call 32; refine (valid_call g x y z _ ?_).mono ?_; exact AD.out; rintro e w' ⟨rfl, ⟨nd, rfl⟩⟩; rw [HD.out]))
 go_ret2
 exact ⟨_, rfl, EB_err _ _, by repeat (first | exact Below.refl _ _ | apply below_alloc | apply pw_below_drewN | apply below_drew1)⟩

set_option maxRecDepth 100000 in
theorem vs_one (a : ByteArray) (x y z : Int) (g : Nat) (w : World) (hs : a.size ≠ 0) (hd : deep x y z = true) (h1 : one (bt a 0) = true) (hD : Dep w g x y z) :
  Calls Tryd.prog 60 #[.string a, .pointer (some ⟨g, 0, none⟩)] w (VPost true (a.extract 1 a.size) w) := by
 have hne := ne_str hs
 have hne2 := ne_str2 hs
 have AD := Aside0.mk hD
 have HD := Aside0.mk hd
 have hpos : 0 < a.size := by omega
 have q1 : ((1 : Int) ≤ (a.size : Int)) = True := eq_true (by omega)
 have q2 : (1 ≤ a.size) = True := eq_true (by omega)
 clear hs hD hd
 simp only [one, Bool.or_eq_true, beq_iff_eq] at h1
 rcases h1 with h | h | h | h | h | h | h | h | h | h | h | h | h | h
 all_goals
  have hx0 := first_byte a _ h
  clear h
  go_enter Tryd.func60, Tryd.ntmps60
  go_wp2_with (first | (go_at_call 32; refine (valid_call g x y z _ ?_).mono ?_; exact AD.out; rintro e w' ⟨rfl, ⟨nd, rfl⟩⟩; rw [HD.out]))
  go_quiet (fail)
  go_wp2
  go_ret2
  exact ⟨_, rfl, EB_nil, by repeat (first | exact Below.refl _ _ | apply below_alloc | apply pw_below_drewN | apply below_drew1)⟩

theorem one_no (c : Int) (h : one c = false) : (c == 121) = false ∧ (c == 98) = false ∧ (c == 110) = false ∧ (c == 113) = false ∧ (c == 105) = false ∧ (c == 117) = false ∧ (c == 120) = false ∧ (c == 116) = false ∧ (c == 100) = false ∧ (c == 115) = false ∧ (c == 103) = false ∧ (c == 111) = false ∧ (c == 118) = false ∧ (c == 104) = false := by
 simpa only [one, Bool.or_eq_false_iff] using h

set_option maxRecDepth 100000 in
theorem vs_else (a : ByteArray) (x y z : Int) (g : Nat) (w : World) (hs : a.size ≠ 0) (hd : deep x y z = true) (h1 : one (bt a 0) = false) (h2 : bt a 0 ≠ 97) (h3 : bt a 0 ≠ 40) (hD : Dep w g x y z) :
  Calls Tryd.prog 60 #[.string a, .pointer (some ⟨g, 0, none⟩)] w (VPost false E0 w) := by
 have hne := ne_str hs
 have hne2 := ne_str2 hs
 have AD := Aside0.mk hD
 have HD := Aside0.mk hd
 have hpos : 0 < a.size := by omega
 obtain ⟨c0, c1, c2, c3, c4, c5, c6, c7, c8, c9, c10, c11, c12, c13⟩ := one_no _ h1
 have hx0 := first_byte a _ rfl
 have e1 : (bt a 0 == 97) = false := beq_eq_false_iff_ne.2 h2
 have e2 : (bt a 0 == 40) = false := beq_eq_false_iff_ne.2 h3
 clear hs hD hd h1 h2 h3
 go_enter Tryd.func60, Tryd.ntmps60
 go_wp2_with (first | (go_at_call 32; refine (valid_call g x y z _ ?_).mono ?_; exact AD.out; rintro e w' ⟨rfl, ⟨nd, rfl⟩⟩; rw [HD.out]))
 go_ret2
 exact ⟨_, rfl, EB_err _ _, by repeat (first | exact Below.refl _ _ | apply below_alloc | apply pw_below_drewN | apply below_drew1)⟩
end Go.Proofs.YtoaehanfknjngaaDoor.Ext
