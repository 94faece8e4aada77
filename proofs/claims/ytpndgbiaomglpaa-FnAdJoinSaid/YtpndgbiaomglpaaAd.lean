/-
What an escaped address value reads as, byte by byte; the reference's reader and the program's come to it.
-/
import Derived.Test.YtpndgbiaomglpaaR1
import Derived.Test.YtpndgbiaomglpaaExt3
import Derived.Test.YtpndgbiaomglpaaCom
namespace Go.Proofs.Ytpndgbiaomglpaa.Ad
set_option linter.unusedVariables false
set_option linter.unusedSimpArgs false
open Go.RowKit Go.Proofs.Ytpndgbiaomglpaa.Ext Go.Proofs.YtpndgbiaomglpaaW.PrintWords Go.Proofs.YtpndgbiaomglpaaW.PrintLast Go.Proofs.Ytpndgbiaomglpaa.Com

/-- A hexadecimal digit's value, and whether it is one. -/
def hx (c : UInt8) : Int × Bool :=
  if 48 ≤ c.toNat ∧ c.toNat ≤ 57 then ((c.toNat : Int) - 48, true)
  else if 97 ≤ c.toNat ∧ c.toNat ≤ 102 then ((c.toNat : Int) - 87, true)
  else if 65 ≤ c.toNat ∧ c.toNat ≤ 70 then ((c.toNat : Int) - 55, true) else (0, false)

/-- The bytes that a text stands for, behind those that have been read. -/
def un (acc : List Int) : List UInt8 → Option (List Int)
  | [] => some acc
  | c :: r => if c = 37 then (match r with
      | a :: b :: t => if (hx a).2 = true then (if (hx b).2 = true then un (acc ++ [Go.bits .or .u8 (((hx a).1 * 16) % 256) (hx b).1]) t else none) else none
      | _ => none) else un (acc ++ [(c.toNat : Int)]) r
def got (o : Option (List Int)) : ByteArray × Bool := match o with
  | none => ((⟨#[]⟩ : ByteArray), false)
  | some l => (strOfNums l, true)

theorem un_0 (acc : List Int) : un acc [37] = none := by simp [un]
theorem un_1 (acc : List Int) (x : UInt8) : un acc [37, x] = none := by simp [un]
theorem un_2 (acc : List Int) (a b : UInt8) (t : List UInt8) : un acc (37 :: a :: b :: t) = if (hx a).2 = true then (if (hx b).2 = true then un (acc ++ [Go.bits .or .u8 (((hx a).1 * 16) % 256) (hx b).1]) t else none) else none := by simp [un]
theorem un_c (acc : List Int) (c : UInt8) (r : List UInt8) (h : c ≠ 37) : un acc (c :: r) = un (acc ++ [(c.toNat : Int)]) r := by
  match r with
  | [] => simp [un, h]
  | [_] => simp [un, h]
  | _ :: _ :: _ => simp [un, h]

theorem hex_dbus (c : UInt8) : Ev (fun k => dbus_zzHexDigit.f k (c.toNat : Int)) (hx c) := by
  have H : ∀ n : Fin 256, dbus_zzHexDigit.f 2 (n.val : Int) = some (hx (UInt8.ofNat n.val)) := by decide +kernel
  have := H ⟨c.toNat, c.toNat_lt⟩
  exact Ev.of (dbus_zzHexDigit.mono _) (k := 2) (by simpa using this)
theorem hex_spec (c : UInt8) : Ev (fun k => R.spec_hexDigit.f k (c.toNat : Int)) (hx c) := by
  have H : ∀ n : Fin 256, R.spec_hexDigit.f 1 (n.val : Int) = some (hx (UInt8.ofNat n.val)) := by decide +kernel
  have := H ⟨c.toNat, c.toNat_lt⟩
  exact Ev.of (R.spec_hexDigit.mono _) (k := 1) (by simpa using this)

theorem pct (c : UInt8) : ((c.toNat : Int) = 37) ↔ c = 37 := by
  constructor
  · intro e
    apply UInt8.toNat_inj.1
    show c.toNat = 37
    omega
  · rintro rfl; rfl

theorem dbus_loop (s : ByteArray) (hs : s.size ≤ 1048576) : ∀ (f : Nat) (l : List UInt8) (i : Nat) (acc : List Int), l.length ≤ f → (B s).drop i = l → acc.length ≤ i →
    Ev (fun k => dbus_zzPathUnescape.l0 k s acc i) (got (un acc l)) := by
  intro f
  induction f with
  | zero =>
    intro l i acc hf hl ha
    have : l = [] := List.eq_nil_of_length_eq_zero (by omega)
    subst this
    have := drop_end hl
    refine Ev.step (fun k => by simp only [dbus_zzPathUnescape.l0]; rfl) ?_
    exact Ev.no (by omega) (Ev.now _)
  | succ f ih =>
    intro l i acc hf hl ha
    cases l with
    | nil =>
      have := drop_end hl
      refine Ev.step (fun k => by simp only [dbus_zzPathUnescape.l0]; rfl) ?_
      exact Ev.no (by omega) (Ev.now _)
    | cons c r =>
      obtain ⟨hb, hi, hd⟩ := bt_drop hl
      have hlen := drop_size hl
      simp only [List.length_cons] at hf
      refine Ev.step (fun k => by simp only [dbus_zzPathUnescape.l0]; rfl) ?_
      have e1 : wrap64 ((i : Int) + 1) = ((i + 1 : Nat) : Int) := by rw [wrap_of (by omega) (by omega)]; omega
      have e2 : wrap64 ((i : Int) + 2) = ((i + 2 : Nat) : Int) := by rw [wrap_of (by omega) (by omega)]; omega
      have e3 : wrap64 (((i + 2 : Nat) : Int) + 1) = ((i + 3 : Nat) : Int) := by rw [wrap_of (by omega) (by omega)]; omega
      rw [hb, e1, e2, e3]
      clear e1 e2 e3
      refine Ev.yes (by omega) (Ev.yes (by omega) ?_)
      by_cases h37 : c = 37
      · refine Ev.yes ((pct c).2 h37) ?_
        subst h37
        match r, hd, hlen, hf with
        | [], hd, hlen, hf => rw [un_0]; exact Ev.yes (by simp only [List.length_nil] at hlen; omega) (Ev.now _)
        | [_], hd, hlen, hf => rw [un_1]; exact Ev.yes (by simp only [List.length_cons, List.length_nil] at hlen; omega) (Ev.now _)
        | a :: b :: t, hd, hlen, hf =>
          simp only [List.length_cons] at hlen hf
          rw [un_2]
          obtain ⟨hb1, _, hd1⟩ := bt_drop hd
          obtain ⟨hb2, _, hd2⟩ := bt_drop hd1
          refine Ev.no (by omega) (Ev.yes (by omega) (Ev.yes (by omega) ?_))
          have hb1' : bt s ((i + 1 : Nat) : Int) = (a.toNat : Int) := hb1
          have hb2' : bt s ((i + 2 : Nat) : Int) = (b.toNat : Int) := hb2
          rw [hb1', hb2']
          refine Ev.bind (hex_dbus a) (Ev.yes (by omega) (Ev.yes (by omega) (Ev.bind (hex_dbus b) ?_)))
          by_cases ha2 : (hx a).2 = true
          · refine Ev.yes ha2 ?_
            by_cases hb3 : (hx b).2 = true
            · refine Ev.yes hb3 (Ev.yes (by omega) ?_)
              rw [if_pos ha2, if_pos hb3]
              exact ih t (i + 3) _ (by omega) hd2 (by simp only [List.length_append, List.length_singleton]; omega)
            ·
              rw [if_pos ha2, if_neg hb3]
              exact Ev.no hb3 (Ev.now _)
          · rw [if_neg ha2]
            exact Ev.no ha2 (Ev.now _)
      · rw [un_c _ _ _ h37]
        refine Ev.no (fun h => h37 ((pct c).1 h)) (Ev.yes (by omega) ?_)
        exact ih r (i + 1) _ (by omega) hd (by simp only [List.length_append, List.length_singleton]; omega)

theorem spec_loop (s : ByteArray) (hs : s.size ≤ 1048576) : ∀ (f : Nat) (l : List UInt8) (i : Nat) (acc : List Int), l.length ≤ f → (B s).drop i = l → acc.length ≤ i →
    Ev (fun k => R.spec_UnescapeAddress.l0 k s acc i) (got (un acc l)) := by
  intro f
  induction f with
  | zero =>
    intro l i acc hf hl ha
    have : l = [] := List.eq_nil_of_length_eq_zero (by omega)
    subst this
    have := drop_end hl
    refine Ev.step (fun k => by simp only [R.spec_UnescapeAddress.l0]; rfl) ?_
    exact Ev.no (by omega) (Ev.now _)
  | succ f ih =>
    intro l i acc hf hl ha
    cases l with
    | nil =>
      have := drop_end hl
      refine Ev.step (fun k => by simp only [R.spec_UnescapeAddress.l0]; rfl) ?_
      exact Ev.no (by omega) (Ev.now _)
    | cons c r =>
      obtain ⟨hb, hi, hd⟩ := bt_drop hl
      have hlen := drop_size hl
      simp only [List.length_cons] at hf
      refine Ev.step (fun k => by simp only [R.spec_UnescapeAddress.l0]; rfl) ?_
      have e0 : wrap64 ((s.size : Int) - i) = (s.size : Int) - i := wrap_of (by omega) (by omega)
      have e1 : wrap64 ((i : Int) + 1) = ((i + 1 : Nat) : Int) := by clear e0; rw [wrap_of (by omega) (by omega)]; omega
      have e2 : wrap64 ((i : Int) + 2) = ((i + 2 : Nat) : Int) := by clear e0 e1; rw [wrap_of (by omega) (by omega)]; omega
      have e3 : wrap64 (((i + 2 : Nat) : Int) + 1) = ((i + 3 : Nat) : Int) := by clear e0 e1 e2; rw [wrap_of (by omega) (by omega)]; omega
      rw [hb, e0, e1, e2, e3]
      clear e0 e1 e2 e3
      refine Ev.yes (by omega) (Ev.yes (by omega) ?_)
      by_cases h37 : c = 37
      · refine Ev.yes ((pct c).2 h37) ?_
        subst h37
        match r, hd, hlen, hf with
        | [], hd, hlen, hf => rw [un_0]; exact Ev.yes (by simp only [List.length_nil] at hlen; omega) (Ev.now _)
        | [_], hd, hlen, hf => rw [un_1]; exact Ev.yes (by simp only [List.length_cons, List.length_nil] at hlen; omega) (Ev.now _)
        | a :: b :: t, hd, hlen, hf =>
          simp only [List.length_cons] at hlen hf
          rw [un_2]
          obtain ⟨hb1, _, hd1⟩ := bt_drop hd
          obtain ⟨hb2, _, hd2⟩ := bt_drop hd1
          refine Ev.no (by omega) (Ev.yes (by omega) (Ev.yes (by omega) ?_))
          have hb1' : bt s ((i + 1 : Nat) : Int) = (a.toNat : Int) := hb1
          have hb2' : bt s ((i + 2 : Nat) : Int) = (b.toNat : Int) := hb2
          rw [hb1', hb2']
          refine Ev.bind (hex_spec a) (Ev.yes (by omega) (Ev.yes (by omega) (Ev.bind (hex_spec b) ?_)))
          by_cases ha2 : (hx a).2 = true
          · refine Ev.yes ha2 ?_
            by_cases hb3 : (hx b).2 = true
            · refine Ev.yes hb3 (Ev.yes (by omega) ?_)
              rw [if_pos ha2, if_pos hb3]
              exact ih t (i + 3) _ (by omega) hd2 (by simp only [List.length_append, List.length_singleton]; omega)
            ·
              rw [if_pos ha2, if_neg hb3]
              exact Ev.no hb3 (Ev.now _)
          · rw [if_neg ha2]
            exact Ev.no ha2 (Ev.now _)
      · rw [un_c _ _ _ h37]
        refine Ev.no (fun h => h37 ((pct c).1 h)) (Ev.yes (by omega) ?_)
        exact ih r (i + 1) _ (by omega) hd (by simp only [List.length_append, List.length_singleton]; omega)

theorem dbus_un (s : ByteArray) (hs : s.size ≤ 1048576) : Ev (fun k => impl_AdUnescape.f k s) (got (un [] (B s))) := by
  unfold impl_AdUnescape.f dbus_zzPathUnescape.f
  exact dbus_loop s hs _ (B s) 0 [] (Nat.le_refl _) (by simp) (by simp)
theorem spec_un (s : ByteArray) (hs : s.size ≤ 1048576) : Ev (fun k => R.spec_UnescapeAddress.f k s) (got (un [] (B s))) := by
  unfold R.spec_UnescapeAddress.f
  exact spec_loop s hs _ (B s) 0 [] (Nat.le_refl _) (by simp) (by simp)

end Go.Proofs.Ytpndgbiaomglpaa.Ad
