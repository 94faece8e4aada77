import Derived.Test.YtheopfecoakhnaaProg
import Derived.Below
import Derived.Deep.Draws
import Derived.OwnWalk
import Derived.Tactics
import Derived.WalkKit
import Derived.KernelRfl
import Derived.RowKit3
import Derived.Deep.LoopGhost
import Derived.Deep.QuietTactic
import Derived.BigQuiet
import Derived.WideLaws
import Derived.Laws.RangeAny
import Derived.Test.YtheopfecoakhnaaWWords
import Derived.Test.YtheopfecoakhnaaWLast
import Derived.Test.YtheopfecoakhnaaWMore
import Derived.Test.YtheopfecoakhnaaCom
import Derived.Test.YtheopfecoakhnaaL1
namespace Go.Proofs.Ytheopfecoakhnaa.Ext
set_option linter.unusedVariables false
set_option linter.unusedSimpArgs false
open Go.RowKit Go.Proofs.YtheopfecoakhnaaW.PrintWords Go.Proofs.YtheopfecoakhnaaW.PrintLast Go.Proofs.YtheopfecoakhnaaW.PrintMore Go.Proofs.Ytheopfecoakhnaa.L Go.Proofs.Ytheopfecoakhnaa.Com

theorem ret_int {k : IntKind} {a b : Int} (h : a = b) : Ending.returned (.int k a) = .returned (.int k b) := by rw [h]

theorem get_bang (s : ByteArray) (i : Nat) (h : i < s.size) : s.get! i = s[i]'h := by
  show s.get! i = _
  simp [ByteArray.get!, getElem!_pos, h]
  rfl

/-- Where a character begins with a byte of 128 or more, each of its bytes lies in the text and is 128 or more. -/
theorem decode_bytes (s : ByteArray) (pos : Nat) (h : pos < s.size) (ha : 128 ≤ (s[pos]'h).toNat) (j : Nat) (hj : j < (Utf8.decode s pos).2) :
    ∃ h' : pos + j < s.size, 128 ≤ (s[pos + j]'h').toNat := by
  have hn : ¬ (s[pos]'h).toNat < 128 := by omega
  have hc : ∀ k, (decide (pos + k < s.size) && (s.get! (pos + k)).toNat / 64 == 2) = true → ∃ h' : pos + k < s.size, 128 ≤ (s[pos + k]'h').toNat := by
    intro k hk
    simp only [Bool.and_eq_true, decide_eq_true_eq, beq_iff_eq] at hk
    refine ⟨hk.1, ?_⟩
    rw [get_bang s _ hk.1] at hk
    omega
  have h0 : ∃ h' : pos + 0 < s.size, 128 ≤ (s[pos + 0]'h').toNat := ⟨h, ha⟩
  by_cases j0 : j = 0
  · subst j0; exact h0
  simp only [Utf8.decode, get_at s pos h, hn, if_false] at hj
  have one : ∀ x : Nat, ¬ j < (x, 1).2 := by intro x; show ¬ j < 1; omega
  split at hj
  · rename_i hb
    simp only [Bool.and_eq_true] at hb
    split at hj
    · have : j = 1 := by simp at hj; omega
      subst this; exact hc 1 (by simpa using hb.2)
    · exact absurd hj (one _)
  split at hj
  · rename_i hb
    simp only [Bool.and_eq_true] at hb
    split at hj
    · have : j = 1 ∨ j = 2 := by simp at hj; omega
      rcases this with rfl | rfl
      · exact hc 1 (by simpa using hb.1.2)
      · exact hc 2 (by simpa using hb.2)
    · exact absurd hj (one _)
  split at hj
  · rename_i hb
    simp only [Bool.and_eq_true] at hb
    split at hj
    · have : j = 1 ∨ j = 2 ∨ j = 3 := by simp at hj; omega
      rcases this with rfl | rfl | rfl
      · exact hc 1 (by simpa using hb.1.1.2)
      · exact hc 2 (by simpa using hb.1.2)
      · exact hc 3 (by simpa using hb.2)
    · exact absurd hj (one _)
  · exact absurd hj (one _)

theorem drop_cons (s : ByteArray) (pos : Nat) (h : pos < s.size) : s.data.toList.drop pos = (s[pos]'h) :: s.data.toList.drop (pos + 1) := by
  rw [List.drop_eq_getElem_cons (by simpa using h)]; rfl

theorem width_pos (s : ByteArray) (pos : Nat) (h : pos < s.size) : 1 ≤ (Utf8.decode s pos).2 := by
  by_cases ha : (s[pos]'h).toNat < 128
  · rw [decode_ascii s pos h ha]
    exact Nat.le_refl _
  · exact (decode_high s pos h (by omega)).2

theorem width_le (s : ByteArray) (pos : Nat) (h : pos < s.size) : pos + (Utf8.decode s pos).2 ≤ s.size := by
  by_cases ha : (s[pos]'h).toNat < 128
  · rw [decode_ascii s pos h ha]; exact h
  · have h1 := (decode_high s pos h (by omega)).2
    obtain ⟨h', _⟩ := decode_bytes s pos h (by omega) ((Utf8.decode s pos).2 - 1) (by omega)
    omega

theorem below_iter (w : World) (s : ByteArray) (pos : Nat) : Below w.heap.size w (w.iter s pos) := by
  show Below _ w (w.alloc _)
  apply below_alloc
  exact Below.refl _ _


/-- The letters of names. -/
def mi (c : Int) : Bool := (decide (48 ≤ c) && decide (c ≤ 57)) || ((decide (65 ≤ c) && decide (c ≤ 90)) || ((decide (97 ≤ c) && decide (c ≤ 122)) || (c == 95)))
def mc (c : UInt8) : Bool := mi (c.toNat : Int)

theorem member_is (c : Int) : dbus_isMemberChar.f c = some (mi c) := by
  unfold dbus_isMemberChar.f mi
  repeat' split
  all_goals (simp only [Option.some.injEq]; rw [Bool.eq_iff_iff]; simp only [Bool.or_eq_true, Bool.and_eq_true, decide_eq_true_eq, beq_iff_eq, true_iff]; omega)

theorem mi_high (c : Int) (h : 128 ≤ c) : mi c = false := by
  rw [Bool.eq_false_iff]
  unfold mi
  simp only [ne_eq, Bool.or_eq_true, Bool.and_eq_true, decide_eq_true_eq, beq_iff_eq]; omega

theorem all_skip (s : ByteArray) (pos j : Nat) (hj : ∀ i < j, ∃ h' : pos + i < s.size, 128 ≤ (s[pos + i]'h').toNat) (h1 : 1 ≤ j) : ((B s).drop pos).all mc = false := by
  obtain ⟨h', hb⟩ := hj 0 (by omega)
  have := drop_cons s (pos + 0) h'
  show (s.data.toList.drop pos).all mc = false
  rw [show pos = pos + 0 from rfl, this, List.all_cons]
  have : mc (s[pos + 0]'h') = false := mi_high _ (by omega)
  rw [this]; rfl

/-- One character further. -/
theorem all_step (s : ByteArray) (pos : Nat) (h : pos < s.size) :
    ((B s).drop pos).all mc = (mi ((Utf8.decode s pos).1 : Int) && ((B s).drop (pos + (Utf8.decode s pos).2)).all mc) := by
  by_cases ha : (s[pos]'h).toNat < 128
  · rw [decode_ascii s pos h ha]
    show (s.data.toList.drop pos).all mc = _
    rw [drop_cons s pos h, List.all_cons]
    rfl
  · have hd := decode_high s pos h (by omega)
    rw [mi_high _ (by omega), Bool.false_and]
    exact all_skip s pos (Utf8.decode s pos).2 (fun i hi => decode_bytes s pos h (by omega) i hi) hd.2

theorem iter_drewN (w : World) (s : ByteArray) (p n : Nat) : (w.iter s p).drewN n = (w.drewN n).iter s p := rfl

theorem iterPos_d (w : World) (m : Nat) (s : ByteArray) (p : Nat) : ((w.drewN m).iter s p).iterPos w.heap.size = p := World.iterPos_iter (w.drewN m) s p

def dbus_isValidMember.f (k : Nat) (s : ByteArray) : Option Bool :=
  if s.size = 0 then some false else if 255 < s.size then some false else (dbus_zzIndex.f k s (⟨#[46]⟩ : ByteArray)).bind fun i =>
    if i = -1 then (if 48 ≤ bt s 0 ∧ bt s 0 ≤ 57 then some false else some ((B s).all mc)) else some false

theorem dbus_isValidMember.mono : ∀ a0 k, LeO (dbus_isValidMember.f k a0) (dbus_isValidMember.f (k + 1) a0) := by
  intro a0 k
  unfold dbus_isValidMember.f
  repeat' first
      | (with_reducible exact dbus_zzIndex.mono _ _ _)
      | (with_reducible exact LeO.refl _)
      | (with_reducible refine LeO.ite ?_ ?_)
      | (with_reducible refine LeO.bind ?_ (fun _ => ?_))

theorem first_byte (a : ByteArray) : ∀ (h : 0 < a.size), ((a[0]'h).toNat : Int) = bt a 0 := fun h' => bt_at a 0 h'

theorem below_it (w : World) (m : Nat) (s : ByteArray) (p : Nat) : Below w.heap.size w ((w.drewN m).iter s p) := by
  show Below _ w ((w.drewN m).alloc _)
  apply below_alloc
  exact pw_below_drewN (Below.refl _ _) _

set_option maxRecDepth 100000 in
theorem dbus_isValidMember.calls (k : Nat) (a0 : ByteArray) (r : Bool) (w : World) (h : dbus_isValidMember.f k a0 = some r) :
    Calls Try.prog 22 #[.string a0] w fun e w' => e = .returned (.bool r) ∧ Below w.heap.size w w' := by
  unfold dbus_isValidMember.f at h
  by_cases c0 : a0.size = 0
  · rw [if_pos c0] at h
    obtain rfl := Option.some.inj h
    clear h
    have e0 : ((a0.size : Int) == 0) = true := beq_iff_eq.2 (by omega)
    clear c0
    go_enter Try.func22, Try.ntmps22
    go_wp2
    go_ret
    exact ⟨rfl, by repeat (first | exact Below.refl _ _ | apply pw_below_drewN | apply below_drew1)⟩
  rw [if_neg c0] at h
  have e0 : ((a0.size : Int) == 0) = false := beq_eq_false_iff_ne.2 (by omega)
  have p0 : 0 < a0.size := by omega
  clear c0
  by_cases c1 : 255 < a0.size
  · rw [if_pos c1] at h
    obtain rfl := Option.some.inj h
    clear h
    have e1 : decide (255 < (a0.size : Int)) = true := decide_eq_true (by omega)
    clear c1
    go_enter Try.func22, Try.ntmps22
    go_wp2
    go_ret
    exact ⟨rfl, by repeat (first | exact Below.refl _ _ | apply pw_below_drewN | apply below_drew1)⟩
  rw [if_neg c1] at h
  have e1 : decide (255 < (a0.size : Int)) = false := decide_eq_false (by omega)
  clear c1
  obtain ⟨i, hi, h⟩ := Option.bind_eq_some_iff.mp h
  have HI := Aside0.mk hi
  clear hi
  by_cases c2 : i = -1
  · rw [if_pos c2] at h
    have e2 : (i != -1) = false := bne_eq_false_iff_eq.2 c2
    have hx := first_byte a0
    by_cases c3 : 48 ≤ bt a0 0 ∧ bt a0 0 ≤ 57
    · rw [if_pos c3] at h
      obtain rfl := Option.some.inj h
      clear h
      have e3 : decide (48 ≤ bt a0 0) = true := decide_eq_true c3.1
      have e4 : decide (bt a0 0 ≤ 57) = true := decide_eq_true c3.2
      clear c3 c2
      go_enter Try.func22, Try.ntmps22
      go_wp2_with (first | (go_at_call 25; (with_reducible refine (dbus_zzIndex.calls k a0 (⟨#[46]⟩ : ByteArray) i _ HI.out).mono ?_); rintro e w3 ⟨rfl, ⟨n1, rfl⟩⟩; refine ⟨_, rfl, ?_⟩) | ((with_reducible refine gate_callee (f := 25) rfl ?_); refine goesL_ (some 15) rfl rfl Try.func25 (by kernel_rfl) rfl #[.string a0, .string (⟨#[46]⟩ : ByteArray)] rfl (by (try simp only [List.map_toArray, List.map_cons, List.map_nil]); first | done | rfl) ?_; (with_reducible refine (dbus_zzIndex.calls k a0 (⟨#[46]⟩ : ByteArray) i _ HI.out).mono ?_); rintro e w3 ⟨rfl, ⟨n1, rfl⟩⟩; refine ⟨_, rfl, ?_⟩))
      go_ret
      exact ⟨rfl, by repeat (first | exact Below.refl _ _ | apply pw_below_drewN | apply below_drew1)⟩
    · rw [if_neg c3] at h
      have H0 : Aside0 (((B a0).drop 0).all mc = r) := ⟨Option.some.inj h⟩
      clear h
      by_cases c4 : 48 ≤ bt a0 0
      · have e3 : decide (48 ≤ bt a0 0) = true := decide_eq_true c4
        have e4 : decide (bt a0 0 ≤ 57) = false := decide_eq_false (by omega)
        clear c3 c4 c2
        go_enter Try.func22, Try.ntmps22
        go_wp2_with (first | (go_at_call 25; (with_reducible refine (dbus_zzIndex.calls k a0 (⟨#[46]⟩ : ByteArray) i _ HI.out).mono ?_); rintro e w3 ⟨rfl, ⟨n1, rfl⟩⟩; refine ⟨_, rfl, ?_⟩) | ((with_reducible refine gate_callee (f := 25) rfl ?_); refine goesL_ (some 15) rfl rfl Try.func25 (by kernel_rfl) rfl #[.string a0, .string (⟨#[46]⟩ : ByteArray)] rfl (by (try simp only [List.map_toArray, List.map_cons, List.map_nil]); first | done | rfl) ?_; (with_reducible refine (dbus_zzIndex.calls k a0 (⟨#[46]⟩ : ByteArray) i _ HI.out).mono ?_); rintro e w3 ⟨rfl, ⟨n1, rfl⟩⟩; refine ⟨_, rfl, ?_⟩))
        go_loopw [] (fun w' => ∃ (m pos : Nat), w' = (w.drewN m).iter a0 pos ∧ pos ≤ a0.size ∧ Aside0 (((B a0).drop pos).all mc = r)) (fun w' => a0.size - w'.iterPos w.heap.size)
        case atStart => exact ⟨n1, 0, rfl, by omega, H0⟩
        case round =>
          obtain ⟨m, pos, rfl, hp, HF⟩ := hrel
          by_cases hlt : pos < a0.size
          · have hw1 := width_pos a0 pos hlt
            have hw2 := width_le a0 pos hlt
            have HS := Aside0.mk ((all_step a0 pos hlt).symm.trans HF.out)
            have hnx : ∀ ty, (Instr.next (.pointer (some ⟨w.heap.size, 0, none⟩)) true ty).run Try.prog ((w.drewN m).iter a0 pos) = _ := fun ty => run_next_any (w.drewN m) a0 pos ty hlt
            clear HF
            generalize (Utf8.decode a0 pos).2 = wd at *
            generalize (Utf8.decode a0 pos).1 = c at *
            obtain ⟨bb, hbb⟩ : ∃ bb, mi (c : Int) = bb := ⟨_, rfl⟩
            have HC := Aside0.mk (member_is (c : Int))
            rw [hbb] at HC HS
            clear hbb
            cases bb with
            | false =>
              have HR : Aside0 (false = r) := ⟨by have := HS.out; simpa using this⟩
              clear HS
              obtain rfl := HR.out
              clear HR
              go_wp2_with (first | (go_at_call 21; (with_reducible refine (dbus_isMemberChar.calls (c : Int) _ _ HC.out).mono ?_); rintro e w3 ⟨rfl, ⟨n2, rfl⟩⟩; refine ⟨_, rfl, ?_⟩) | ((with_reducible refine gate_callee (f := 21) rfl ?_); refine goesL_ (some 32) rfl rfl Try.func21 (by kernel_rfl) rfl #[.int .i32 (c : Int)] rfl (by (try simp only [List.map_toArray, List.map_cons, List.map_nil]); first | done | rfl) ?_; (with_reducible refine (dbus_isMemberChar.calls (c : Int) _ _ HC.out).mono ?_); rintro e w3 ⟨rfl, ⟨n2, rfl⟩⟩; refine ⟨_, rfl, ?_⟩))
              go_ret
              exact ⟨rfl, by repeat (first | exact below_it _ _ _ _ | apply pw_below_drewN | apply below_drew1)⟩
            | true =>
              have HR : Aside0 (((B a0).drop (pos + wd)).all mc = r) := ⟨by have := HS.out; simpa using this⟩
              clear HS
              go_wp2_with (first | (go_at_call 21; (with_reducible refine (dbus_isMemberChar.calls (c : Int) _ _ HC.out).mono ?_); rintro e w3 ⟨rfl, ⟨n2, rfl⟩⟩; refine ⟨_, rfl, ?_⟩) | ((with_reducible refine gate_callee (f := 21) rfl ?_); refine goesL_ (some 32) rfl rfl Try.func21 (by kernel_rfl) rfl #[.int .i32 (c : Int)] rfl (by (try simp only [List.map_toArray, List.map_cons, List.map_nil]); first | done | rfl) ?_; (with_reducible refine (dbus_isMemberChar.calls (c : Int) _ _ HC.out).mono ?_); rintro e w3 ⟨rfl, ⟨n2, rfl⟩⟩; refine ⟨_, rfl, ?_⟩))
              go_roundw
              case rel => exact ⟨m + n2, pos + wd, by rw [iter_drewN, World.drewN_drewN], by omega, HR⟩
              case measure => simp only [iter_drewN, World.drewN_drewN, iterPos_d]; omega
          · have hnx : ∀ ty, (Instr.next (.pointer (some ⟨w.heap.size, 0, none⟩)) true ty).run Try.prog ((w.drewN m).iter a0 pos) = _ := fun ty => run_next_end (w.drewN m) a0 pos ty hlt
            have HR : Aside0 (true = r) := ⟨by have := HF.out; rw [List.drop_eq_nil_of_le (by rw [B_length]; omega)] at this; exact this⟩
            clear HF
            obtain rfl := HR.out
            clear HR
            go_wp2
            go_ret
            exact ⟨rfl, by repeat (first | exact below_it _ _ _ _ | apply pw_below_drewN | apply below_drew1)⟩
      · have e3 : decide (48 ≤ bt a0 0) = false := decide_eq_false c4
        clear c3 c4 c2
        go_enter Try.func22, Try.ntmps22
        go_wp2_with (first | (go_at_call 25; (with_reducible refine (dbus_zzIndex.calls k a0 (⟨#[46]⟩ : ByteArray) i _ HI.out).mono ?_); rintro e w3 ⟨rfl, ⟨n1, rfl⟩⟩; refine ⟨_, rfl, ?_⟩) | ((with_reducible refine gate_callee (f := 25) rfl ?_); refine goesL_ (some 15) rfl rfl Try.func25 (by kernel_rfl) rfl #[.string a0, .string (⟨#[46]⟩ : ByteArray)] rfl (by (try simp only [List.map_toArray, List.map_cons, List.map_nil]); first | done | rfl) ?_; (with_reducible refine (dbus_zzIndex.calls k a0 (⟨#[46]⟩ : ByteArray) i _ HI.out).mono ?_); rintro e w3 ⟨rfl, ⟨n1, rfl⟩⟩; refine ⟨_, rfl, ?_⟩))
        go_loopw [] (fun w' => ∃ (m pos : Nat), w' = (w.drewN m).iter a0 pos ∧ pos ≤ a0.size ∧ Aside0 (((B a0).drop pos).all mc = r)) (fun w' => a0.size - w'.iterPos w.heap.size)
        case atStart => exact ⟨n1, 0, rfl, by omega, H0⟩
        case round =>
          obtain ⟨m, pos, rfl, hp, HF⟩ := hrel
          by_cases hlt : pos < a0.size
          · have hw1 := width_pos a0 pos hlt
            have hw2 := width_le a0 pos hlt
            have HS := Aside0.mk ((all_step a0 pos hlt).symm.trans HF.out)
            have hnx : ∀ ty, (Instr.next (.pointer (some ⟨w.heap.size, 0, none⟩)) true ty).run Try.prog ((w.drewN m).iter a0 pos) = _ := fun ty => run_next_any (w.drewN m) a0 pos ty hlt
            clear HF
            generalize (Utf8.decode a0 pos).2 = wd at *
            generalize (Utf8.decode a0 pos).1 = c at *
            obtain ⟨bb, hbb⟩ : ∃ bb, mi (c : Int) = bb := ⟨_, rfl⟩
            have HC := Aside0.mk (member_is (c : Int))
            rw [hbb] at HC HS
            clear hbb
            cases bb with
            | false =>
              have HR : Aside0 (false = r) := ⟨by have := HS.out; simpa using this⟩
              clear HS
              obtain rfl := HR.out
              clear HR
              go_wp2_with (first | (go_at_call 21; (with_reducible refine (dbus_isMemberChar.calls (c : Int) _ _ HC.out).mono ?_); rintro e w3 ⟨rfl, ⟨n2, rfl⟩⟩; refine ⟨_, rfl, ?_⟩) | ((with_reducible refine gate_callee (f := 21) rfl ?_); refine goesL_ (some 32) rfl rfl Try.func21 (by kernel_rfl) rfl #[.int .i32 (c : Int)] rfl (by (try simp only [List.map_toArray, List.map_cons, List.map_nil]); first | done | rfl) ?_; (with_reducible refine (dbus_isMemberChar.calls (c : Int) _ _ HC.out).mono ?_); rintro e w3 ⟨rfl, ⟨n2, rfl⟩⟩; refine ⟨_, rfl, ?_⟩))
              go_ret
              exact ⟨rfl, by repeat (first | exact below_it _ _ _ _ | apply pw_below_drewN | apply below_drew1)⟩
            | true =>
              have HR : Aside0 (((B a0).drop (pos + wd)).all mc = r) := ⟨by have := HS.out; simpa using this⟩
              clear HS
              go_wp2_with (first | (go_at_call 21; (with_reducible refine (dbus_isMemberChar.calls (c : Int) _ _ HC.out).mono ?_); rintro e w3 ⟨rfl, ⟨n2, rfl⟩⟩; refine ⟨_, rfl, ?_⟩) | ((with_reducible refine gate_callee (f := 21) rfl ?_); refine goesL_ (some 32) rfl rfl Try.func21 (by kernel_rfl) rfl #[.int .i32 (c : Int)] rfl (by (try simp only [List.map_toArray, List.map_cons, List.map_nil]); first | done | rfl) ?_; (with_reducible refine (dbus_isMemberChar.calls (c : Int) _ _ HC.out).mono ?_); rintro e w3 ⟨rfl, ⟨n2, rfl⟩⟩; refine ⟨_, rfl, ?_⟩))
              go_roundw
              case rel => exact ⟨m + n2, pos + wd, by rw [iter_drewN, World.drewN_drewN], by omega, HR⟩
              case measure => simp only [iter_drewN, World.drewN_drewN, iterPos_d]; omega
          · have hnx : ∀ ty, (Instr.next (.pointer (some ⟨w.heap.size, 0, none⟩)) true ty).run Try.prog ((w.drewN m).iter a0 pos) = _ := fun ty => run_next_end (w.drewN m) a0 pos ty hlt
            have HR : Aside0 (true = r) := ⟨by have := HF.out; rw [List.drop_eq_nil_of_le (by rw [B_length]; omega)] at this; exact this⟩
            clear HF
            obtain rfl := HR.out
            clear HR
            go_wp2
            go_ret
            exact ⟨rfl, by repeat (first | exact below_it _ _ _ _ | apply pw_below_drewN | apply below_drew1)⟩
  · rw [if_neg c2] at h
    obtain rfl := Option.some.inj h
    clear h
    have e2 : (i != -1) = true := bne_iff_ne.2 c2
    clear c2
    go_enter Try.func22, Try.ntmps22
    go_wp2_with (first | (go_at_call 25; (with_reducible refine (dbus_zzIndex.calls k a0 (⟨#[46]⟩ : ByteArray) i _ HI.out).mono ?_); rintro e w3 ⟨rfl, ⟨n1, rfl⟩⟩; refine ⟨_, rfl, ?_⟩) | ((with_reducible refine gate_callee (f := 25) rfl ?_); refine goesL_ (some 15) rfl rfl Try.func25 (by kernel_rfl) rfl #[.string a0, .string (⟨#[46]⟩ : ByteArray)] rfl (by (try simp only [List.map_toArray, List.map_cons, List.map_nil]); first | done | rfl) ?_; (with_reducible refine (dbus_zzIndex.calls k a0 (⟨#[46]⟩ : ByteArray) i _ HI.out).mono ?_); rintro e w3 ⟨rfl, ⟨n1, rfl⟩⟩; refine ⟨_, rfl, ?_⟩))
    go_ret
    exact ⟨rfl, by repeat (first | exact Below.refl _ _ | apply pw_below_drewN | apply below_drew1)⟩

end Go.Proofs.Ytheopfecoakhnaa.Ext
