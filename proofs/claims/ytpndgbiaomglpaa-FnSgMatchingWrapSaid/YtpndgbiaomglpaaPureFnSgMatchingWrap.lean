/-
Between two marks of brackets or braces a text in which they are balanced is closed by the second mark, whatever stands behind it, and without it nothing closes the first: for texts of at most 2^12 bytes; for all other inputs the law returns true at once.
-/
import Derived.Test.YtpndgbiaomglpaaQ2
import Derived.Test.YtpndgbiaomglpaaCom
namespace Go.Proofs.Ytpndgbiaomglpaa.Pure
open Go.RowKit Go.Proofs.Ytpndgbiaomglpaa.Ext Go.Proofs.Ytpndgbiaomglpaa.Q Go.Proofs.YtpndgbiaomglpaaW.PrintWords Go.Proofs.YtpndgbiaomglpaaW.PrintLast Go.Proofs.Ytpndgbiaomglpaa.Com

/-- How deep one stands behind a byte. -/
def dep (o e : Int) (c : UInt8) (n : Int) : Int := if (c.toNat : Int) = o then n + 1 else if (c.toNat : Int) = e then n - 1 else n
/-- Balanced, from a depth on. -/
def bal (o e : Int) : List UInt8 → Int → Bool
  | [], n => n == 0
  | c :: t, n => decide (n ≥ 0) && bal o e t (dep o e c n)

theorem bal_run (s : ByteArray) (o e : Int) (hs : s.size ≤ 4294967296) : ∀ (l : List UInt8) (i : Nat) (n : Int), (B s).drop i = l → -(i : Int) ≤ n → n ≤ i → Ev (fun k => laws_sgBalanced.l0 k s o e n i) (bal o e l n)
  | [], i, n, hl, h1, h2 => by
    have hz := drop_end hl
    refine Ev.step (fun k => by simp only [laws_sgBalanced.l0]; rfl) ?_
    refine Ev.no (by omega) ?_
    refine Ev.step (fun k => by simp only [laws_sgBalanced.j1]; rfl) ?_
    exact Ev.no (by decide) (Ev.now _)
  | c :: t, i, n, hl, h1, h2 => by
    obtain ⟨hb, hi, ht⟩ := bt_drop hl
    refine Ev.step (fun k => by simp only [laws_sgBalanced.l0]; rfl) ?_
    refine Ev.yes (by omega) ?_
    refine Ev.step (fun k => by simp only [laws_sgBalanced.j1]; rfl) ?_
    by_cases hn : n ≥ 0
    · refine Ev.yes (by simpa using hn) ?_
      refine Ev.yes (by omega) ?_
      refine Ev.yes (by omega) ?_
      have e1 : bal o e (c :: t) n = bal o e t (dep o e c n) := by simp [bal, hn]
      rw [e1, hb, wrap_of (a := n + 1) (by omega) (by omega), wrap_of (a := n - 1) (by omega) (by omega), wrap_of (a := (i : Int) + 1) (by omega) (by omega)]
      have ih := fun m h1 h2 => bal_run s o e hs t (i + 1) m ht h1 h2
      unfold dep
      by_cases c1 : (c.toNat : Int) = o
      · rw [if_pos c1]
        exact Ev.yes c1 (ih _ (by omega) (by omega))
      · rw [if_neg c1]
        refine Ev.no c1 ?_
        by_cases c2 : (c.toNat : Int) = e
        · rw [if_pos c2]
          exact Ev.yes c2 (ih _ (by omega) (by omega))
        · rw [if_neg c2]
          exact Ev.no c2 (ih _ (by omega) (by omega))
    · refine Ev.no (by simpa using hn) ?_
      refine Ev.is ?_
      have : (n == 0) = false := by simp; omega
      simp [bal, hn, this]

theorem fm_bal (o e : Int) (rest : List UInt8) : ∀ (l : List UInt8) (n i : Int), bal o e l n = true → 0 ≤ n → fm o e (l ++ rest) (n + 1) i = fm o e rest 1 (i + l.length)
  | [], n, i, h, h0 => by
    have : n = 0 := by simpa [bal] using h
    subst this; simp
  | c :: t, n, i, h, h0 => by
    simp only [bal, Bool.and_eq_true, decide_eq_true_eq] at h
    have hm : 0 ≤ dep o e c n := by
      cases t with
      | nil => have := h.2; simp [bal] at this; omega
      | cons c2 t2 => have := h.2; simp only [bal, Bool.and_eq_true, decide_eq_true_eq] at this; exact this.1
    have ih := fm_bal o e rest t (dep o e c n) (i + 1) h.2 hm
    have hd : (if (c.toNat : Int) = o then n + 1 + 1 else if (c.toNat : Int) = e then n + 1 - 1 else n + 1) = dep o e c n + 1 := by
      unfold dep; split
      · rfl
      · split
        · omega
        · rfl
    rw [List.cons_append, fm]
    simp only [hd]
    rw [if_neg (by omega), ih]
    congr 1
    simp only [List.length_cons]; omega

theorem fm_eval (s : ByteArray) (a b : Int) (hs : s.size ≤ 4611686018427387904) (h : 0 ≤ a ∧ a < 128 ∧ 0 ≤ b ∧ b < 128) : impl_SgMatching.f s a b = some (fm a b (B s) 0 0) := by
  unfold impl_SgMatching.f dbus_DoorMatching.f dbus_findMatching.f
  rw [if_pos ⟨hs, h.1, h.2.1, h.2.2.1, h.2.2.2⟩]; rfl

theorem wrap_fst (inner rest : List UInt8) (o e : UInt8) (hne : ¬ (e.toNat : Int) = (o.toNat : Int)) (hbal : bal o.toNat e.toNat inner 0 = true) :
    fm o.toNat e.toNat (o :: (inner ++ e :: rest)) 0 0 = (inner.length : Int) + 1 := by
  rw [fm]
  simp only [if_true]
  rw [if_neg (by omega), fm_bal o.toNat e.toNat _ _ 0 _ hbal (by omega), fm]
  simp only [hne, if_false, if_true]
  rw [if_pos (by omega)]; omega

theorem wrap_snd (inner : List UInt8) (o e : UInt8) (hbal : bal o.toNat e.toNat inner 0 = true) :
    fm o.toNat e.toNat (o :: inner) 0 0 = -1 := by
  have := fm_bal o.toNat e.toNat [] inner 0 (0 + 1) hbal (by omega)
  rw [fm]
  simp only [if_true]
  rw [if_neg (by omega)]
  rw [List.append_nil] at this
  rw [this, fm]

theorem wrap_one (k : Nat) (inner behind op en : ByteArray) (o e : UInt8) (ho : B op = [o]) (he : B en = [e]) (h1 : o.toNat < 128) (h2 : e.toNat < 128) (hne : o ≠ e) (hi : inner.size ≤ 4096) (hb : behind.size ≤ 4096) (hbal : bal o.toNat e.toNat (B inner) 0 = true) :
    laws_FnSgMatchingWrap.j2 (k + 1) inner behind op en false = some true := by
  have so : op.size = 1 := by rw [← B_length, ho, List.length_singleton]
  have se : en.size = 1 := by rw [← B_length, he, List.length_singleton]
  have bo : bt op 0 = (o.toNat : Int) := (bt_drop (s := op) (i := 0) (c := o) (t := []) ho).1
  have be : bt en 0 = (e.toNat : Int) := (bt_drop (s := en) (i := 0) (c := e) (t := []) he).1
  have hne' : ¬ (e.toNat : Int) = (o.toNat : Int) := by
    intro h; exact hne (UInt8.toNat_inj.1 (by omega)).symm
  have v1 : fm o.toNat e.toNat (B (((op ++ inner) ++ en) ++ behind)) 0 0 = (inner.size : Int) + 1 := by
    rw [B_append, B_append, B_append, ho, he]
    simp only [List.append_assoc, List.nil_append, List.cons_append]
    rw [wrap_fst _ _ o e hne' hbal, B_length]
  have v2 : fm o.toNat e.toNat (B (op ++ inner)) 0 0 = -1 := by
    rw [B_append, ho]
    simp only [List.nil_append, List.cons_append]
    exact wrap_snd _ o e hbal
  have z1 : (((op ++ inner) ++ en) ++ behind).size = 1 + inner.size + 1 + behind.size := by rw [ByteArray.size_append, ByteArray.size_append, ByteArray.size_append, so, se]
  have z2 : (op ++ inner).size = 1 + inner.size := by rw [ByteArray.size_append, so]
  have z3 : ((op ++ inner) ++ en).size = 1 + inner.size + 1 := by rw [ByteArray.size_append, ByteArray.size_append, so, se]
  have e1 := fm_eval (((op ++ inner) ++ en) ++ behind) o.toNat e.toNat (by rw [z1]; omega) (by omega)
  have e2 := fm_eval (op ++ inner) o.toNat e.toNat (by rw [z2]; omega) (by omega)
  rw [v1] at e1
  rw [v2] at e2
  have f1 : op.size + inner.size ≤ 9223372036854775807 := by omega
  have f2 : (op ++ inner).size + en.size ≤ 9223372036854775807 := by omega
  have f3 : ((op ++ inner) ++ en).size + behind.size ≤ 9223372036854775807 := by omega
  have f4 : 0 < (op.size : Int) := by omega
  have f5 : 0 < (en.size : Int) := by omega
  have f6 : (inner.size : Int) + 1 = wrap64 ((inner.size : Int) + 1) := (wrap_of (by omega) (by omega)).symm
  simp only [laws_FnSgMatchingWrap.j2, Bool.false_eq_true, if_false]
  rw [if_pos f1, if_pos f2, if_pos f3, if_pos f4, if_pos f5, bo, be, e1, Option.bind_some, if_pos f6, e2, Option.bind_some]
  rfl

theorem wrap_two (inner behind op en : ByteArray) (o e : UInt8) (ho : B op = [o]) (he : B en = [e]) (h1 : o.toNat < 128) (h2 : e.toNat < 128) (hne : o ≠ e) (hi : inner.size ≤ 140737488351232) (hbh : behind.size ≤ 140737488351232) :
    Ev (fun k => laws_FnSgMatchingWrap.j1 k inner behind op en) true := by
  have so : op.size = 1 := by rw [← B_length, ho]; rfl
  have se : en.size = 1 := by rw [← B_length, he]; rfl
  have bo : bt op 0 = (o.toNat : Int) := (bt_drop (s := op) (i := 0) (c := o) (t := []) ho).1
  have be : bt en 0 = (e.toNat : Int) := (bt_drop (s := en) (i := 0) (c := e) (t := []) he).1
  have quick : Ev (fun k => laws_FnSgMatchingWrap.j2 k inner behind op en true) true := by
    refine Ev.step (fun k => by simp only [laws_FnSgMatchingWrap.j2]; rfl) ?_
    exact Ev.yes trivial (Ev.now _)
  refine Ev.step (fun k => by simp only [laws_FnSgMatchingWrap.j1]; rfl) ?_
  refine Ev.both (fun _ => quick) (fun g1 => ?_)
  refine Ev.both (fun _ => quick) (fun g2 => ?_)
  refine Ev.yes (by omega) (Ev.yes (by omega) ?_)
  rw [bo, be]
  refine Ev.bind (g := fun k => laws_sgBalanced.f k inner o.toNat e.toNat) (bal_run inner o.toNat e.toNat (by omega) (B inner) 0 0 rfl (by omega) (by omega)) ?_
  cases hb : bal o.toNat e.toNat (B inner) 0 with
  | false => exact quick
  | true =>
    refine Ev.step (f := fun _ => some true) (fun k => ?_) (Ev.now _)
    exact wrap_one k inner behind op en o e ho he h1 h2 hne (by omega) (by omega) hb

theorem FnSgMatchingWrap : laws_FnSgMatchingWrap.Pure := by
  intro a b c ha hb
  have quick : Ev (fun k => laws_FnSgMatchingWrap.j0 k a b c true) true := by
    refine Ev.step (fun k => by simp only [laws_FnSgMatchingWrap.j0]; rfl) ?_
    exact Ev.yes trivial (Ev.now _)
  have main : Ev (fun k => laws_FnSgMatchingWrap.f k a b c) true := by
    unfold laws_FnSgMatchingWrap.f
    refine Ev.both (fun _ => quick) (fun g1 => ?_)
    by_cases g2 : (b.size : Int) > 2147483647
    · rw [decide_eq_true g2]; exact quick
    rw [decide_eq_false g2]
    refine Ev.step (fun k => by simp only [laws_FnSgMatchingWrap.j0]; rfl) ?_
    refine Ev.no (by decide) ?_
    refine Ev.both (fun _ => wrap_two a b _ _ 123 125 rfl rfl (by decide) (by decide) (by decide) ha hb) (fun _ => wrap_two a b _ _ 40 41 rfl rfl (by decide) (by decide) (by decide) ha hb)
  exact main.rounds

end Go.Proofs.Ytpndgbiaomglpaa.Pure
