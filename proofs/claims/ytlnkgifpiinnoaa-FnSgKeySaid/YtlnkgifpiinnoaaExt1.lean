import Derived.Test.YtlnkgifpiinnoaaProg
import Derived.Below
import Derived.Deep.Draws
import Derived.OwnWalk
import Derived.Tactics
import Derived.WalkKit
import Derived.KernelRfl
import Derived.RowKit3
import Derived.Deep.LoopGhost
import Derived.Deep.QuietTactic
import Derived.BigQuiet
import Derived.WideLaws
import Derived.Laws.RangeAny
import Derived.Test.YtlnkgifpiinnoaaWWords
import Derived.Test.YtlnkgifpiinnoaaWLast
import Derived.Test.YtlnkgifpiinnoaaWMore
namespace Go.Proofs.Ytlnkgifpiinnoaa.Ext
set_option linter.unusedVariables false
set_option linter.unusedSimpArgs false
open Go.RowKit Go.Proofs.YtlnkgifpiinnoaaW.PrintWords Go.Proofs.YtlnkgifpiinnoaaW.PrintLast Go.Proofs.YtlnkgifpiinnoaaW.PrintMore

theorem ret_int {k : IntKind} {a b : Int} (h : a = b) : Ending.returned (.int k a) = .returned (.int k b) := by rw [h]

theorem get_bang (s : ByteArray) (i : Nat) (h : i < s.size) : s.get! i = s[i]'h := by
  show s.get! i = _
  simp [ByteArray.get!, getElem!_pos, h]
  rfl

/-- Where a character begins with a byte of 128 or more, each of its bytes lies in the text and is 128 or more. -/
theorem decode_bytes (s : ByteArray) (pos : Nat) (h : pos < s.size) (ha : 128 ≤ (s[pos]'h).toNat) (j : Nat) (hj : j < (Utf8.decode s pos).2) :
    ∃ h' : pos + j < s.size, 128 ≤ (s[pos + j]'h').toNat := by
  have hn : ¬ (s[pos]'h).toNat < 128 := by omega
  have hc : ∀ k, (decide (pos + k < s.size) && (s.get! (pos + k)).toNat / 64 == 2) = true → ∃ h' : pos + k < s.size, 128 ≤ (s[pos + k]'h').toNat := by
    intro k hk
    simp only [Bool.and_eq_true, decide_eq_true_eq, beq_iff_eq] at hk
    refine ⟨hk.1, ?_⟩
    rw [get_bang s _ hk.1] at hk
    omega
  have h0 : ∃ h' : pos + 0 < s.size, 128 ≤ (s[pos + 0]'h').toNat := ⟨h, ha⟩
  by_cases j0 : j = 0
  · subst j0; exact h0
  simp only [Utf8.decode, get_at s pos h, hn, if_false] at hj
  have one : ∀ x : Nat, ¬ j < (x, 1).2 := by intro x; show ¬ j < 1; omega
  split at hj
  · rename_i hb
    simp only [Bool.and_eq_true] at hb
    split at hj
    · have : j = 1 := by simp at hj; omega
      subst this; exact hc 1 (by simpa using hb.2)
    · exact absurd hj (one _)
  split at hj
  · rename_i hb
    simp only [Bool.and_eq_true] at hb
    split at hj
    · have : j = 1 ∨ j = 2 := by simp at hj; omega
      rcases this with rfl | rfl
      · exact hc 1 (by simpa using hb.1.2)
      · exact hc 2 (by simpa using hb.2)
    · exact absurd hj (one _)
  split at hj
  · rename_i hb
    simp only [Bool.and_eq_true] at hb
    split at hj
    · have : j = 1 ∨ j = 2 ∨ j = 3 := by simp at hj; omega
      rcases this with rfl | rfl | rfl
      · exact hc 1 (by simpa using hb.1.1.2)
      · exact hc 2 (by simpa using hb.1.2)
      · exact hc 3 (by simpa using hb.2)
    · exact absurd hj (one _)
  · exact absurd hj (one _)

/-- The search for the mark that closes the first one, byte by byte. -/
def fm (l r : Int) : List UInt8 → Int → Int → Int
  | [], _, _ => -1
  | c :: t, n, i => let m := if (c.toNat : Int) = l then n + 1 else if (c.toNat : Int) = r then n - 1 else n; if m = 0 then i else fm l r t m (i + 1)

theorem drop_cons (s : ByteArray) (pos : Nat) (h : pos < s.size) : s.data.toList.drop pos = (s[pos]'h) :: s.data.toList.drop (pos + 1) := by
  rw [List.drop_eq_getElem_cons (by simpa using h)]; rfl

theorem fm_skip (s : ByteArray) (l r : Int) (hl : l < 128) (hr : r < 128) (n : Int) (hn : n ≠ 0) (pos j : Nat) (hj : ∀ i < j, ∃ h' : pos + i < s.size, 128 ≤ (s[pos + i]'h').toNat) :
    fm l r (s.data.toList.drop pos) n pos = fm l r (s.data.toList.drop (pos + j)) n (pos + j : Nat) := by
  induction j with
  | zero => rfl
  | succ j ih =>
    rw [ih (fun i hi => hj i (by omega))]
    obtain ⟨h', hb⟩ := hj j (by omega)
    rw [drop_cons s (pos + j) h', fm]
    have h1 : ¬ ((s[pos + j]'h').toNat : Int) = l := by omega
    have h2 : ¬ ((s[pos + j]'h').toNat : Int) = r := by omega
    simp only [h1, h2, if_false, hn]
    rfl

theorem fm_step (s : ByteArray) (l r : Int) (hl : l < 128) (hr : r < 128) (n : Int) (pos : Nat) (h : pos < s.size) :
    fm l r (s.data.toList.drop pos) n pos = (let m := if ((Utf8.decode s pos).1 : Int) = l then n + 1 else if ((Utf8.decode s pos).1 : Int) = r then n - 1 else n; if m = 0 then (pos : Int) else fm l r (s.data.toList.drop (pos + (Utf8.decode s pos).2)) m (pos + (Utf8.decode s pos).2 : Nat)) := by
  by_cases ha : (s[pos]'h).toNat < 128
  · rw [decode_ascii s pos h ha, drop_cons s pos h, fm]
    rfl
  · have hd := decode_high s pos h (by omega)
    have h1 : ¬ ((Utf8.decode s pos).1 : Int) = l := by omega
    have h2 : ¬ ((Utf8.decode s pos).1 : Int) = r := by omega
    have h3 : ¬ ((s[pos]'h).toNat : Int) = l := by omega
    have h4 : ¬ ((s[pos]'h).toNat : Int) = r := by omega
    simp only [h1, h2, if_false]
    by_cases hn : n = 0
    · subst hn
      rw [drop_cons s pos h, fm]
      simp only [h3, h4, if_false, if_true]
    · rw [if_neg hn]
      exact fm_skip s l r hl hr n hn pos _ (fun i hi => decode_bytes s pos h (by omega) i hi)

def dbus_findMatching.f (a0 : ByteArray) (a1 a2 : Int) : Option Int :=
  if a0.size ≤ 4611686018427387904 ∧ 0 ≤ a1 ∧ a1 < 128 ∧ 0 ≤ a2 ∧ a2 < 128 then some (fm a1 a2 a0.data.toList 0 0) else none

theorem width_pos (s : ByteArray) (pos : Nat) (h : pos < s.size) : 1 ≤ (Utf8.decode s pos).2 := by
  by_cases ha : (s[pos]'h).toNat < 128
  · rw [decode_ascii s pos h ha]
    exact Nat.le_refl _
  · exact (decode_high s pos h (by omega)).2

theorem width_le (s : ByteArray) (pos : Nat) (h : pos < s.size) : pos + (Utf8.decode s pos).2 ≤ s.size := by
  by_cases ha : (s[pos]'h).toNat < 128
  · rw [decode_ascii s pos h ha]; exact h
  · have h1 := (decode_high s pos h (by omega)).2
    obtain ⟨h', _⟩ := decode_bytes s pos h (by omega) ((Utf8.decode s pos).2 - 1) (by omega)
    omega

theorem below_iter (w : World) (s : ByteArray) (pos : Nat) : Below w.heap.size w (w.iter s pos) := by
  show Below _ w (w.alloc _)
  apply below_alloc
  exact Below.refl _ _

set_option maxRecDepth 100000 in
theorem dbus_findMatching.calls (a0 : ByteArray) (a1 a2 : Int) (r : Int) (w : World) (h : dbus_findMatching.f a0 a1 a2 = some r) :
    Calls Try.prog 35 #[.string a0, .int .i32 a1, .int .i32 a2] w fun e w' => e = .returned (.int .i64 r) ∧ Below w.heap.size w w' := by
  unfold dbus_findMatching.f at h
  split at h
  case isFalse => simp at h
  case isTrue hh =>
    obtain ⟨h1, h2, h3, h4, h5⟩ := hh
    have H0 := Aside0.mk (Option.some.inj h)
    clear h
    go_enter Try.func35, Try.ntmps35
    go_wp2
    go_loopw [7] (fun v w' => ∃ (pos : Nat) (n : Int), w' = w.iter a0 pos ∧ v = .int .i64 n ∧ pos ≤ a0.size ∧ -(pos : Int) ≤ n ∧ n ≤ pos ∧ Aside0 (fm a1 a2 (a0.data.toList.drop pos) n pos = r)) (fun _ w' => a0.size - w'.iterPos w.heap.size)
    case atStart => exact ⟨0, 0, rfl, rfl, by omega, by omega, by omega, H0⟩
    case round =>
      clear H0
      obtain ⟨pos, n, rfl, rfl, hp, hn1, hn2, HF⟩ := hrel
      by_cases hlt : pos < a0.size
      · have hw1 := width_pos a0 pos hlt
        have hw2 := width_le a0 pos hlt
        have HS := Aside0.mk ((fm_step a0 a1 a2 h3 h5 n pos hlt).symm.trans HF.out)
        have hnx : ∀ ty, (Instr.next (.pointer (some ⟨w.heap.size, 0, none⟩)) true ty).run Try.prog (w.iter a0 pos) = _ := fun ty => run_next_any w a0 pos ty hlt
        clear HF
        generalize (Utf8.decode a0 pos).2 = wd at *
        generalize (Utf8.decode a0 pos).1 = c at *
        by_cases hl : (c : Int) = a1
        · have hl1 : ((c : Int) == a1) = true := beq_iff_eq.2 hl
          by_cases h0 : n + 1 = 0
          · have h01 : (n + 1 == 0) = true := beq_iff_eq.2 h0
            have HR : Aside0 ((pos : Int) = r) := ⟨by have := HS.out; simp only [hl, if_true, h0] at this; exact this⟩
            clear h0 hl
            go_wp2
            go_ret
            exact ⟨ret_int HR.out, below_iter _ _ _⟩
          · have h01 : (n + 1 == 0) = false := beq_eq_false_iff_ne.2 h0
            have HR : Aside0 (fm a1 a2 (a0.data.toList.drop (pos + wd)) (n + 1) ((pos + wd : Nat) : Int) = r) := ⟨by have := HS.out; simp only [hl, if_true, h0, if_false] at this; exact this⟩
            clear h0 hl
            go_wp2
            go_roundw
            case rel => exact ⟨pos + wd, n + 1, rfl, rfl, by omega, by omega, by omega, HR⟩
            case measure => simp; omega
        · have hl1 : ((c : Int) == a1) = false := beq_eq_false_iff_ne.2 hl
          by_cases hr : (c : Int) = a2
          · have hr1 : ((c : Int) == a2) = true := beq_iff_eq.2 hr
            by_cases h0 : n - 1 = 0
            · have h01 : (n - 1 == 0) = true := beq_iff_eq.2 h0
              have HR : Aside0 ((pos : Int) = r) := ⟨by have := HS.out; rw [if_neg hl, if_pos hr] at this; simp only [h0, if_true] at this; exact this⟩
              clear h0 hl hr
              go_wp2
              go_ret
              exact ⟨ret_int HR.out, below_iter _ _ _⟩
            · have h01 : (n - 1 == 0) = false := beq_eq_false_iff_ne.2 h0
              have HR : Aside0 (fm a1 a2 (a0.data.toList.drop (pos + wd)) (n - 1) ((pos + wd : Nat) : Int) = r) := ⟨by have := HS.out; rw [if_neg hl, if_pos hr] at this; simp only [h0, if_false] at this; exact this⟩
              clear h0 hl hr
              go_wp2
              go_roundw
              case rel => exact ⟨pos + wd, n - 1, rfl, rfl, by omega, by omega, by omega, HR⟩
              case measure => simp; omega
          · have hr1 : ((c : Int) == a2) = false := beq_eq_false_iff_ne.2 hr
            by_cases h0 : n = 0
            · have h01 : (n == 0) = true := beq_iff_eq.2 h0
              have HR : Aside0 ((pos : Int) = r) := ⟨by have := HS.out; rw [if_neg hl, if_neg hr] at this; simp only [h0, if_true] at this; exact this⟩
              clear h0 hl hr
              go_wp2
              go_ret
              exact ⟨ret_int HR.out, below_iter _ _ _⟩
            · have h01 : (n == 0) = false := beq_eq_false_iff_ne.2 h0
              have HR : Aside0 (fm a1 a2 (a0.data.toList.drop (pos + wd)) n ((pos + wd : Nat) : Int) = r) := ⟨by have := HS.out; rw [if_neg hl, if_neg hr] at this; simp only [h0, if_false] at this; exact this⟩
              clear h0 hl hr
              go_wp2
              go_roundw
              case rel => exact ⟨pos + wd, n, rfl, rfl, by omega, by omega, by omega, HR⟩
              case measure => simp; omega
      · have hnx : ∀ ty, (Instr.next (.pointer (some ⟨w.heap.size, 0, none⟩)) true ty).run Try.prog (w.iter a0 pos) = _ := fun ty => run_next_end w a0 pos ty hlt
        have HR : Aside0 (-1 = r) := ⟨by have := HF.out; rw [List.drop_eq_nil_of_le (by simp; omega)] at this; exact this⟩
        clear HF
        go_wp2
        go_ret
        exact ⟨ret_int HR.out, below_iter _ _ _⟩

end Go.Proofs.Ytlnkgifpiinnoaa.Ext
