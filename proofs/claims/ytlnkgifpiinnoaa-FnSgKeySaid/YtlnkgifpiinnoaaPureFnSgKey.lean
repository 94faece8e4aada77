/-
What is proved: values of one complete type can be keys of a dict that is encoded if it is a number's, a string's, an object path's or that of an index of a file descriptor, and not if it is an array, a struct, a dict or a variant; for every input.
-/
import Derived.Test.YtlnkgifpiinnoaaQ3
import Derived.Test.YtlnkgifpiinnoaaSpec
namespace Go.Proofs.Ytlnkgifpiinnoaa.Pure
set_option linter.unusedVariables false
set_option linter.unusedSimpArgs false
open Go.RowKit Go.Proofs.Ytlnkgifpiinnoaa.Ky Go.Proofs.Ytlnkgifpiinnoaa.Q Go.Proofs.YtlnkgifpiinnoaaW.PrintWords Go.Proofs.YtlnkgifpiinnoaaW.PrintLast
open Go.Proofs.Ytlnkgifpiinnoaa.Com Go.Proofs.Ytlnkgifpiinnoaa.Tree Go.Proofs.Ytlnkgifpiinnoaa.Spec

theorem key_of (s : ByteArray) (t : T) (ho : ok t = true) (hf : fits t 32 32 32 = true) (hB : B s = txt t) (hs : s.size ≤ 255) : impl_SgKey.f s = some (kb (hd t)) := by
  unfold impl_SgKey.f dbus_DoorKey.f
  rw [tree_of ho hf hB, Option.bind_some, if_pos hs]; rfl

theorem letter_key (c : UInt8) (h : (basic c || c == 118) = true) (h1 : c ≠ 98) (h2 : c ≠ 103) : kb c = basic c := by
  have H : ∀ n : Fin 256, (basic (UInt8.ofNat n.val) || UInt8.ofNat n.val == 118) = true → UInt8.ofNat n.val ≠ 98 → UInt8.ofNat n.val ≠ 103 → kb (UInt8.ofNat n.val) = basic (UInt8.ofNat n.val) := by decide +kernel
  have := H ⟨c.toNat, c.toNat_lt⟩
  simp only [UInt8.ofNat_toNat] at this
  exact this h h1 h2

/-- The first letter, and whether its values can be keys. -/
theorem first_key (t : T) (ho : ok t = true) (h1 : txt t ≠ [98]) (h2 : txt t ≠ [103]) : ∃ c l, txt t = c :: l ∧ kb (hd t) = basic c := by
  cases t with
  | b c => exact ⟨c, [], rfl, letter_key c ho (fun e => h1 (by rw [e]; rfl)) (fun e => h2 (by rw [e]; rfl))⟩
  | a t => exact ⟨97, _, rfl, rfl⟩
  | d k t => exact ⟨97, _, rfl, rfl⟩
  | s ts => exact ⟨40, _, rfl, rfl⟩

def keys : List Int := [121, 110, 113, 105, 117, 120, 116, 100, 115, 111, 104]
theorem keys_all : ∀ j : Fin 11, impl_SgKey.f (strOfNums [rd keys (j.val : Int)]) = some true := by decide +kernel

theorem keys_go (s : ByteArray) (r : Bool) (H : Ev (fun k => (impl_SgKey.f s).bind fun t125 => (if 0 < (s.size : Int) then ((spec_Basic.f (bt s 0)).bind fun t126 => (some (t125 == t126))) else (none))) r) : ∀ (d j : Nat), j + d = 11 → Ev (fun k => laws_FnSgKey.l0 k s keys (keys.length : Int) (j : Int)) r
  | 0, j, h => by
    refine Ev.step (fun k => by rw [laws_FnSgKey.l0]) ?_
    exact Ev.no (by show ¬ (j : Int) < ((11 : Nat) : Int); omega) H
  | d + 1, j, h => by
    have hj : j < 11 := by omega
    have hk := keys_all ⟨j, hj⟩
    have hw : wrap64 ((j : Int) + 1) = ((j + 1 : Nat) : Int) := by rw [wrap_of (by omega) (by omega)]; omega
    have ih := keys_go s r H d (j + 1) (by omega)
    refine Ev.step (fun k => by rw [laws_FnSgKey.l0]) ?_
    rw [hw]
    exact Ev.yes (by show (j : Int) < ((11 : Nat) : Int); omega) (Ev.yes (by omega) (Ev.yes (by show (j : Int) < ((11 : Nat) : Int); omega) (Ev.call hk (Ev.yes rfl ih))))

theorem FnSgKey : laws_FnSgKey.Pure := by
  intro s _
  apply Ev.rounds
  unfold laws_FnSgKey.f
  refine Ev.both (fun _ => Ev.now _) (fun _ => ?_)
  have out : Ev (fun k => laws_FnSgKey.j0 k s true) true := by
    refine Ev.step (fun k => by rw [laws_FnSgKey.j0]) ?_
    exact Ev.yes rfl (Ev.now _)
  rcases types_ev s with ⟨ts, o, ft, e, hs, H⟩ | ⟨_, H⟩
  · have hS : Ev (fun k => spec_Single.f k s) (((tlist ts).length : Int) == 1) := by
      unfold spec_Single.f
      exact Ev.bind H (Ev.yes rfl (Ev.now _))
    refine Ev.bind hS (Ev.both (fun h1 => ?_) (fun _ => out))
    obtain ⟨t, rfl⟩ : ∃ t, ts = .more t .nil := by
      cases ts with
      | nil => simp [tlist] at h1
      | more t ts =>
        cases ts with
        | nil => exact ⟨t, rfl⟩
        | more t2 ts => simp [tlist] at h1; omega
    have ho : ok t = true := by simpa [oks] using o
    have hf : fits t 32 32 32 = true := by simpa [fitss] using ft
    have hB : B s = txt t := by rw [e]; simp [txts]
    refine Ev.both (fun _ => out) (fun h98 => ?_)
    by_cases h103 : s.toList = ([103] : List UInt8)
    · have : (s.toList == ([103] : List UInt8)) = true := beq_iff_eq.2 h103
      rw [this]; exact out
    · have : (s.toList == ([103] : List UInt8)) = false := beq_eq_false_iff_ne.2 h103
      rw [this]
      rw [B_toList] at h98 h103
      obtain ⟨c, l, hc, hk⟩ := first_key t ho (by rw [← hB]; exact h98) (by rw [← hB]; exact h103)
      have hkey := key_of s t ho hf hB hs
      have hb0 := Sg.first_of (s := s) (c := c) (l := l) (by rw [hB, hc])
      have hsz := Sg.size_pos (s := s) (c := c) (l := l) (by rw [hB, hc])
      refine Ev.step (fun k => by rw [laws_FnSgKey.j0]) ?_
      refine Ev.no (by simp) (Ev.let (keys_go s true (Ev.call hkey (Ev.yes (by omega) ?_)) 11 0 rfl))
      rw [hb0]
      exact Ev.call (basic_eq c) (Ev.is (by rw [hk]; simp))
  · have hS : Ev (fun k => spec_Single.f k s) false := by
      unfold spec_Single.f
      exact Ev.bind H (Ev.no (by simp) (Ev.now _))
    exact Ev.bind hS (Ev.no (by simp) out)

end Go.Proofs.Ytlnkgifpiinnoaa.Pure
