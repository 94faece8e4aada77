import Derived.Test.YthhiijehdpchbaaQ3
import Derived.Test.YthhiijehdpchbaaSpec
import Derived.Test.YthhiijehdpchbaaSg2
namespace Go.Proofs.Ythhiijehdpchbaa.Pure
set_option linter.unusedVariables false
set_option linter.unusedSimpArgs false
open Go.RowKit Go.Proofs.Ythhiijehdpchbaa.Ext Go.Proofs.Ythhiijehdpchbaa.Q Go.Proofs.YthhiijehdpchbaaW.PrintWords Go.Proofs.YthhiijehdpchbaaW.PrintLast
open Go.Proofs.Ythhiijehdpchbaa.Com Go.Proofs.Ythhiijehdpchbaa.Tree Go.Proofs.Ythhiijehdpchbaa.Spec Go.Proofs.Ythhiijehdpchbaa.Sg

/-- n arrays about a type. -/
def arr : Nat → T → T
  | 0, t => t
  | n + 1, t => .a (arr n t)
/-- n brackets about a type. -/
def brk : Nat → T → T
  | 0, t => t
  | n + 1, t => .s (.more (brk n t) .nil)

theorem rep_last (n : Nat) (c : UInt8) : List.replicate (n + 1) c = List.replicate n c ++ [c] := List.replicate_succ'

theorem txt_arr : ∀ (n : Nat) (t : T), txt (arr n t) = List.replicate n 97 ++ txt t
  | 0, t => rfl
  | n + 1, t => by
    show 97 :: txt (arr n t) = _
    rw [txt_arr n t]; rfl
theorem txt_brk : ∀ (n : Nat) (t : T), txt (brk n t) = List.replicate n 40 ++ (txt t ++ List.replicate n 41)
  | 0, t => by simp [brk]
  | n + 1, t => by
    show 40 :: (txts (.more (brk n t) .nil) ++ [41]) = _
    simp only [txts, List.append_nil]
    rw [txt_brk n t, rep_last n 41]
    simp [List.replicate_succ]
theorem ok_arr : ∀ (n : Nat) (t : T), ok (arr n t) = ok t
  | 0, t => rfl
  | n + 1, t => ok_arr n t
theorem ok_brk : ∀ (n : Nat) (t : T), ok (brk n t) = ok t
  | 0, t => rfl
  | n + 1, t => by
    show (ne (.more (brk n t) .nil) && oks (.more (brk n t) .nil)) = _
    simp [ne, oks, ok_brk n t]
theorem fits_arr : ∀ (n : Nat) (t : T) (x y z : Int), fits (arr n t) x y z = (decide ((n : Int) ≤ x ∨ n = 0) && (decide (0 ≤ y ∨ n = 0) && (decide (0 ≤ z ∨ n = 0) && fits t (x - n) y z)))
  | 0, t, x, y, z => by simp [arr]
  | n + 1, t, x, y, z => by
    show (room x y z && fits (arr n t) (x - 1) y z) = _
    rw [fits_arr n t, Bool.eq_iff_iff]
    have e : x - 1 - (n : Int) = x - ((n + 1 : Nat) : Int) := by omega
    rw [e]
    simp only [room, Bool.and_eq_true, decide_eq_true_eq]
    constructor
    · rintro ⟨⟨h1, h2, h3⟩, h4, h5, h6, h7⟩
      have hro := fits_room _ _ _ _ h7
      simp only [room, Bool.and_eq_true, decide_eq_true_eq] at hro
      exact ⟨.inl (by omega), .inl h2, .inl h3, h7⟩
    · rintro ⟨h4, h5, h6, h7⟩
      exact ⟨⟨by omega, by omega, by omega⟩, by omega, .inl (by omega), .inl (by omega), h7⟩
theorem fits_brk : ∀ (n : Nat) (t : T) (x y z : Int), fits (brk n t) x y z = (decide ((n : Int) ≤ y ∨ n = 0) && (decide (0 ≤ x ∨ n = 0) && (decide (0 ≤ z ∨ n = 0) && fits t x (y - n) z)))
  | 0, t, x, y, z => by simp [brk]
  | n + 1, t, x, y, z => by
    show (room x y z && (fits (brk n t) x (y - 1) z && true)) = _
    rw [fits_brk n t, Bool.eq_iff_iff]
    have e : y - 1 - (n : Int) = y - ((n + 1 : Nat) : Int) := by omega
    rw [e]
    simp only [room, Bool.and_eq_true, decide_eq_true_eq, and_true]
    constructor
    · rintro ⟨⟨h1, h2, h3⟩, h4, h5, h6, h7⟩
      have hro := fits_room _ _ _ _ h7
      simp only [room, Bool.and_eq_true, decide_eq_true_eq] at hro
      exact ⟨.inl (by omega), .inl h1, .inl h3, h7⟩
    · rintro ⟨h4, h5, h6, h7⟩
      exact ⟨⟨by omega, by omega, by omega⟩, by omega, .inl (by omega), .inl (by omega), h7⟩

theorem fits_one (c : UInt8) (a b : Nat) : fits (brk b (arr a (.b c))) 32 32 32 = (decide (a ≤ 32) && decide (b ≤ 32)) := by
  rw [fits_brk, fits_arr, Bool.eq_iff_iff]
  simp only [fits, room, Bool.and_eq_true, decide_eq_true_eq]
  omega
theorem fits_two (c : UInt8) (a b : Nat) : fits (arr a (brk b (.b c))) 32 32 32 = (decide (a ≤ 32) && decide (b ≤ 32)) := by
  rw [fits_arr, fits_brk, Bool.eq_iff_iff]
  simp only [fits, room, Bool.and_eq_true, decide_eq_true_eq]
  omega

theorem rep_go (s : ByteArray) (c : UInt8) (hs : B s = [c]) : ∀ (n : Nat) (acc : ByteArray), n + acc.size ≤ 1000 →
    ∃ r, Ev (fun k => laws_sgRepeat.l0 k s (n : Int) acc) r ∧ B r = B acc ++ List.replicate n c
  | 0, acc, h => by
    refine ⟨acc, ?_, by simp⟩
    refine Ev.step (fun k => by simp only [laws_sgRepeat.l0]; rfl) ?_
    exact Ev.no (by omega) (Ev.now _)
  | n + 1, acc, h => by
    have hz : s.size = 1 := by rw [← B_length, hs]; rfl
    obtain ⟨r, hE, hr⟩ := rep_go s c hs n (acc ++ s) (by rw [ByteArray.size_append]; omega)
    have hw : wrap64 (((n + 1 : Nat) : Int) - 1) = (n : Int) := by rw [wrap_of (by omega) (by omega)]; omega
    refine ⟨r, ?_, ?_⟩
    · refine Ev.step (fun k => by simp only [laws_sgRepeat.l0]; rfl) ?_
      rw [hw]
      exact Ev.yes (by omega) (Ev.yes (by omega) hE)
    · rw [hr, B_append, hs, List.append_assoc]; rfl
theorem rep_ev (s : ByteArray) (c : UInt8) (hs : B s = [c]) (n : Nat) (h : n ≤ 100) : ∃ r, Ev (fun k => laws_sgRepeat.f k s (n : Int)) r ∧ B r = List.replicate n c := by
  obtain ⟨r, hE, hr⟩ := rep_go s c hs n (⟨#[]⟩ : ByteArray) (by show n + 0 ≤ 1000; omega)
  exact ⟨r, hE, by rw [hr]; rfl⟩

theorem FnSgDepth : laws_FnSgDepth.Pure := by
  intro a0 a1 a2 w0 w1 w2
  suffices h : Ev (fun k => laws_FnSgDepth.f k a0 a1 a2) true by
    obtain ⟨K, h⟩ := h
    exact ⟨K, h K (Nat.le_refl _)⟩
  have h0 : 0 ≤ a0 ∧ a0 ≤ 255 := by simpa [Lit.wf, IntKind.min, IntKind.max, IntKind.bits, IntKind.signed] using w0
  have h1 : 0 ≤ a1 ∧ a1 ≤ 255 := by simpa [Lit.wf, IntKind.min, IntKind.max, IntKind.bits, IntKind.signed] using w1
  have h2 : 0 ≤ a2 ∧ a2 ≤ 255 := by simpa [Lit.wf, IntKind.min, IntKind.max, IntKind.bits, IntKind.signed] using w2
  have out : Ev (fun k => laws_FnSgDepth.j0 k a0 a1 a2 true) true := by
    refine Ev.step (fun k => by simp only [laws_FnSgDepth.j0]; rfl) ?_
    exact Ev.yes trivial (Ev.now _)
  unfold laws_FnSgDepth.f
  refine Ev.both (fun _ => out) (fun hn0 => Ev.both (fun _ => out) (fun hn1 => ?_))
  obtain ⟨c, hc⟩ : ∃ c : UInt8, a2 = (c.toNat : Int) := ⟨UInt8.ofNat a2.toNat, by rw [UInt8.toNat_ofNat']; omega⟩
  obtain ⟨a, ha⟩ : ∃ a : Nat, a0 = (a : Int) := ⟨a0.toNat, by omega⟩
  obtain ⟨b, hb⟩ : ∃ b : Nat, a1 = (b : Int) := ⟨a1.toNat, by omega⟩
  have hbas := basic_eq c
  rw [← hc] at hbas
  refine Ev.call hbas ?_
  cases hq : basic c with
  | false => exact out
  | true =>
    have hw0 : wrap64 a0 = (a : Int) := by rw [wrap_of (by omega) (by omega), ha]
    have hw1 : wrap64 a1 = (b : Int) := by rw [wrap_of (by omega) (by omega), hb]
    have hcs : B (strOfNums [a2]) = [c] := by
      rw [hc]
      show [UInt8.ofNat ((c.toNat : Int)).toNat] = [c]
      rw [Int.toNat_natCast, UInt8.ofNat_toNat]
    have hcz : (strOfNums [a2]).size = 1 := by rw [← B_length, hcs]; rfl
    obtain ⟨cs, hcse⟩ : ∃ cs, strOfNums [a2] = cs := ⟨_, rfl⟩
    rw [hcse] at hcs hcz
    obtain ⟨r40, hE40, hr40⟩ := rep_ev (⟨#[40]⟩ : ByteArray) 40 rfl b (by omega)
    obtain ⟨r41, hE41, hr41⟩ := rep_ev (⟨#[41]⟩ : ByteArray) 41 rfl b (by omega)
    obtain ⟨r97, hE97, hr97⟩ := rep_ev (⟨#[97]⟩ : ByteArray) 97 rfl a (by omega)
    have z40 : r40.size = b := by rw [← B_length, hr40, List.length_replicate]
    have z41 : r41.size = b := by rw [← B_length, hr41, List.length_replicate]
    have z97 : r97.size = a := by rw [← B_length, hr97, List.length_replicate]
    have hok : ok (.b c) = true := by show (basic c || c == 118) = true; rw [hq]; rfl
    have p1 : Ev (fun k => impl_SgParse.f k (((r40 ++ r97) ++ cs) ++ r41)) (if (decide (a ≤ 32) && decide (b ≤ 32)) = true then (((r40 ++ r97) ++ cs) ++ r41) else E0, decide (a ≤ 32) && decide (b ≤ 32)) := by
      have h := parse_tree (((r40 ++ r97) ++ cs) ++ r41) (.more (brk b (arr a (.b c))) .nil) (by simp [oks, ok_brk, ok_arr, hok]) (by
        simp only [B_append, hr40, hr97, hcs, hr41, txts, txt_brk, txt_arr, txt, List.append_assoc, List.append_nil]) (by simp only [ByteArray.size_append]; omega)
      have e : fitss (.more (brk b (arr a (.b c))) .nil) 32 32 32 = (decide (a ≤ 32) && decide (b ≤ 32)) := by
        rw [← fits_one c a b]; simp [fitss]
      rw [e] at h
      exact h
    have p2 : Ev (fun k => impl_SgParse.f k (((r97 ++ r40) ++ cs) ++ r41)) (if (decide (a ≤ 32) && decide (b ≤ 32)) = true then (((r97 ++ r40) ++ cs) ++ r41) else E0, decide (a ≤ 32) && decide (b ≤ 32)) := by
      have h := parse_tree (((r97 ++ r40) ++ cs) ++ r41) (.more (arr a (brk b (.b c))) .nil) (by simp [oks, ok_brk, ok_arr, hok]) (by
        simp only [B_append, hr40, hr97, hcs, hr41, txts, txt_brk, txt_arr, txt, List.append_assoc, List.append_nil]) (by simp only [ByteArray.size_append]; omega)
      have e : fitss (.more (arr a (brk b (.b c))) .nil) 32 32 32 = (decide (a ≤ 32) && decide (b ≤ 32)) := by
        rw [← fits_two c a b]; simp [fitss]
      rw [e] at h
      exact h
    have p3 : Ev (fun k => impl_SgParse.f k cs) (cs, true) :=
      (parse_sig cs).1 ⟨.more (.b c) .nil, by simp [oks, hok], by simp [fitss, fits, room], by rw [hcs]; rfl, by rw [hcs]; simp⟩
    have go : Ev (fun k => laws_FnSgDepth.j1 k (a : Int) (b : Int) cs (decide (a ≤ 32) && decide (b ≤ 32))) true := by
      refine Ev.step (fun k => by simp only [laws_FnSgDepth.j1]; rfl) ?_
      refine Ev.bind hE40 (Ev.bind hE97 (Ev.yes (by omega) (Ev.yes (by simp only [ByteArray.size_append]; omega) (Ev.bind hE41 (Ev.yes (by simp only [ByteArray.size_append]; omega) (Ev.bind p1 (Ev.bind hE97 (Ev.bind hE40 (Ev.yes (by omega) (Ev.yes (by simp only [ByteArray.size_append]; omega) (Ev.bind hE41 (Ev.yes (by simp only [ByteArray.size_append]; omega) (Ev.bind p2 (Ev.bind p3 (Ev.yes ?_ (Ev.yes ?_ (Ev.now _)))))))))))))))))
      · exact beq_self_eq_true _
      · exact beq_self_eq_true _
    refine Ev.step (fun k => by simp only [laws_FnSgDepth.j0]; rfl) ?_
    refine Ev.no (by simp) (Ev.call rfl ?_)
    rw [hw0, hw1, hcse]
    refine Ev.both (fun ha32 => ?_) (fun ha32 => ?_)
    · have e1 : decide (a ≤ 32) = true := by simp; omega
      have e2 : decide ((b : Int) ≤ 32) = decide (b ≤ 32) := by rw [Bool.eq_iff_iff, decide_eq_true_eq, decide_eq_true_eq]; omega
      rw [e1, Bool.true_and] at go
      rw [e2]; exact go
    · have e1 : decide (a ≤ 32) = false := by simp; omega
      rw [e1, Bool.false_and] at go
      exact go

end Go.Proofs.Ythhiijehdpchbaa.Pure
