/-
What spec.Unquoted answers, in plain words.
-/
import Derived.Test.YthhehbocbhhbbaaDoorUa
import Derived.Test.YthhehbocbhhbbaaDoorQ3
import Derived.Laws.BitsLemmas
namespace Go.Proofs.YthhehbocbhhbbaaDoor.Ub
set_option linter.unusedVariables false
set_option linter.unusedSimpArgs false
open Go.RowKit Go.Proofs.YthhehbocbhhbbaaDoorW.PrintWords Go.Proofs.YthhehbocbhhbbaaDoor.Q Go.Proofs.YthhehbocbhhbbaaDoor.Com Go.Proofs.YthhehbocbhhbbaaDoor.Us Go.Proofs.YthhehbocbhhbbaaDoor.Ut Go.Proofs.YthhehbocbhhbbaaDoor.Ua Go.Proofs.YthhehbocbhhbbaaDoor.Vq Go.Proofs.YthhehbocbhhbbaaDoor.Pn

def zs (l : List UInt8) : List Int := l.map fun c => (c.toNat : Int)
theorem zs_len (l : List UInt8) : (zs l).length = l.length := List.length_map ..
theorem zs_app (a b : List UInt8) : zs a ++ zs b = zs (a ++ b) := by simp [zs]
theorem zs_str (l : List UInt8) : strOfNums (zs l) = mkb l := by
  unfold strOfNums zs mkb
  rw [List.map_map]
  congr 2
  conv => rhs; rw [← List.map_id l]
  apply List.map_congr_left
  intro c _
  show UInt8.ofNat (c.toNat : Int).toNat = c
  rw [Int.toNat_natCast, UInt8.ofNat_toNat]
/-- The answer in the program's form. -/
def ansU : Option (List UInt8) → ByteArray × Bool
  | some l => (mkb l, true)
  | none => (⟨#[]⟩, false)

theorem hex_ev (c : UInt8) : ∃ x, Ev (fun k => spec_hexDigit.f k (c.toNat : Int)) (x, (hexv c).isSome) ∧ ∀ d, hexv c = some d → x = (d : Int) := by
  have h : ∀ n : Fin 256, spec_hexDigit.f 1 ((UInt8.ofNat n.val).toNat : Int) = some ((((hexv (UInt8.ofNat n.val)).getD 0 : Nat) : Int), (hexv (UInt8.ofNat n.val)).isSome) := by decide +kernel
  have hc := h ⟨c.toNat, c.toNat_lt⟩
  simp only [UInt8.ofNat_toNat] at hc
  exact ⟨_, Ev.of (fun k => spec_hexDigit.mono _ k) hc, fun d hd => by rw [hd]; rfl⟩
theorem esc_ev (c : UInt8) : Ev (fun k => spec_escapedAs.f k (c.toNat : Int)) ((ech c.toNat : Nat) : Int) := by
  have h : ∀ n : Fin 256, spec_escapedAs.f 8 ((UInt8.ofNat n.val).toNat : Int) = some ((ech (UInt8.ofNat n.val).toNat : Nat) : Int) := by decide +kernel
  have hc := h ⟨c.toNat, c.toNat_lt⟩
  simp only [UInt8.ofNat_toNat] at hc
  exact Ev.of (fun k => spec_escapedAs.mono _ k) hc
theorem ech_256 (c : UInt8) : ech c.toNat < 256 := by
  have := c.toNat_lt
  unfold ech
  repeat' split
  all_goals omega

theorem z_cons (n : Nat) (h : n < 256) (l : List UInt8) (r : List Int) (hr : zs l = r) : zs (UInt8.ofNat n :: l) = (n : Int) :: r := by
  subst hr; show ((UInt8.ofNat n).toNat : Int) :: zs l = _; rw [ofNat_val h]
theorem ap2 (r : Nat) (h0 : 128 ≤ r) (h1 : r < 2048) : ([(wrap64 (192 + (wrap64 (Int.tdiv (r : Int) 64)))) % 256, (wrap64 (128 + (Int.tmod (r : Int) 64))) % 256] : List Int) = zs (eb r) := by
  rw [eb2 h0 h1, z_cons (192 + r / 64) (by omega) _ _ (z_cons (128 + r % 64) (by omega) [] [] rfl)]
  rw [show Int.tdiv (r : Int) 64 = ((r / 64 : Nat) : Int) from rfl, show Int.tmod (r : Int) 64 = ((r % 64 : Nat) : Int) from rfl]
  rw [wrap_of (a := ((r / 64 : Nat) : Int)) (by omega) (by omega), wrap_of (a := 192 + ((r / 64 : Nat) : Int)) (by omega) (by omega), wrap_of (a := 128 + ((r % 64 : Nat) : Int)) (by omega) (by omega)]
  congr 1
  · omega
  · congr 1; omega
theorem ap3 (r : Nat) (h0 : 2048 ≤ r) (h1 : r < 65536) (ho : okr r) : ([(wrap64 (224 + (wrap64 (Int.tdiv (r : Int) 4096)))) % 256, (wrap64 (128 + (Int.tmod (wrap64 (Int.tdiv (r : Int) 64)) 64))) % 256, (wrap64 (128 + (Int.tmod (r : Int) 64))) % 256] : List Int) = zs (eb r) := by
  rw [eb3 h0 h1 ho, z_cons (224 + r / 4096) (by omega) _ _ (z_cons (128 + r / 64 % 64) (by omega) _ _ (z_cons (128 + r % 64) (by omega) [] [] rfl))]
  rw [show Int.tdiv (r : Int) 4096 = ((r / 4096 : Nat) : Int) from rfl, show Int.tdiv (r : Int) 64 = ((r / 64 : Nat) : Int) from rfl, show Int.tmod (r : Int) 64 = ((r % 64 : Nat) : Int) from rfl]
  rw [wrap_of (a := ((r / 64 : Nat) : Int)) (by omega) (by omega), show Int.tmod ((r / 64 : Nat) : Int) 64 = ((r / 64 % 64 : Nat) : Int) from rfl]
  rw [wrap_of (a := ((r / 4096 : Nat) : Int)) (by omega) (by omega), wrap_of (a := 224 + ((r / 4096 : Nat) : Int)) (by omega) (by omega), wrap_of (a := 128 + ((r / 64 % 64 : Nat) : Int)) (by omega) (by omega), wrap_of (a := 128 + ((r % 64 : Nat) : Int)) (by omega) (by omega)]
  congr 1
  · omega
  · congr 1
    · omega
    · congr 1; omega
theorem ap4 (r : Nat) (h0 : 65536 ≤ r) (h1 : r ≤ 1114111) : ([(wrap64 (240 + (wrap64 (Int.tdiv (r : Int) 262144)))) % 256, (wrap64 (128 + (Int.tmod (wrap64 (Int.tdiv (r : Int) 4096)) 64))) % 256, (wrap64 (128 + (Int.tmod (wrap64 (Int.tdiv (r : Int) 64)) 64))) % 256, (wrap64 (128 + (Int.tmod (r : Int) 64))) % 256] : List Int) = zs (eb r) := by
  rw [eb4 h0 h1, z_cons (240 + r / 262144) (by omega) _ _ (z_cons (128 + r / 4096 % 64) (by omega) _ _ (z_cons (128 + r / 64 % 64) (by omega) _ _ (z_cons (128 + r % 64) (by omega) [] [] rfl)))]
  rw [show Int.tdiv (r : Int) 262144 = ((r / 262144 : Nat) : Int) from rfl, show Int.tdiv (r : Int) 4096 = ((r / 4096 : Nat) : Int) from rfl, show Int.tdiv (r : Int) 64 = ((r / 64 : Nat) : Int) from rfl, show Int.tmod (r : Int) 64 = ((r % 64 : Nat) : Int) from rfl]
  rw [wrap_of (a := ((r / 64 : Nat) : Int)) (by omega) (by omega), show Int.tmod ((r / 64 : Nat) : Int) 64 = ((r / 64 % 64 : Nat) : Int) from rfl]
  rw [wrap_of (a := ((r / 4096 : Nat) : Int)) (by omega) (by omega), show Int.tmod ((r / 4096 : Nat) : Int) 64 = ((r / 4096 % 64 : Nat) : Int) from rfl]
  rw [wrap_of (a := ((r / 262144 : Nat) : Int)) (by omega) (by omega), wrap_of (a := 240 + ((r / 262144 : Nat) : Int)) (by omega) (by omega), wrap_of (a := 128 + ((r / 4096 % 64 : Nat) : Int)) (by omega) (by omega), wrap_of (a := 128 + ((r / 64 % 64 : Nat) : Int)) (by omega) (by omega), wrap_of (a := 128 + ((r % 64 : Nat) : Int)) (by omega) (by omega)]
  congr 1
  · omega
  · congr 1
    · omega
    · congr 1
      · omega
      · congr 1; omega
theorem app_ev (acc : List UInt8) (r : Nat) (ho : okr r) (hl : acc.length < 1099511627776) : Ev (fun k => spec_appendUTF8.f k (zs acc) (r : Int)) (zs (acc ++ eb r)) := by
  have ho' := ho
  unfold okr at ho'
  have hz := zs_len acc
  have he := eb_len r
  have hzl : (zs (eb r)).length = (eb r).length := zs_len _
  unfold spec_appendUTF8.f
  by_cases h1 : r < 128
  · have q1 : (r : Int) < 128 := by omega
    have q2 : (zs acc).length < 140737488355328 := by omega
    refine Ev.yes q1 (Ev.yes q2 (Ev.is ?_))
    rw [eb1 h1, ← zs_app]
    rfl
  have q1 : ¬ (r : Int) < 128 := by omega
  by_cases h2 : r < 2048
  · have q2 : (r : Int) < 2048 := by omega
    refine Ev.no q1 (Ev.yes q2 ?_)
    rw [ap2 r (by omega) h2]
    have q3 : (zs acc).length + (zs (eb r)).length < 140737488355328 := by omega
    exact Ev.let (Ev.yes q3 (Ev.is (zs_app _ _)))
  have q2 : ¬ (r : Int) < 2048 := by omega
  have hh := high_is r
  rw [decide_eq_false (by omega)] at hh
  have hlo := low_is r
  rw [decide_eq_false (by omega)] at hlo
  have q3 : (zs acc).length + (zs (eb r)).length < 140737488355328 := by omega
  have hj : Ev (fun k => spec_appendUTF8.j0 k (zs acc) (r : Int) false) (zs (acc ++ eb r)) := by
    refine Ev.step (fun k => by rw [spec_appendUTF8.j0]) ?_
    refine Ev.no Bool.false_ne_true ?_
    by_cases h3 : r < 65536
    · have q4 : (r : Int) < 65536 := by omega
      refine Ev.yes q4 ?_
      rw [ap3 r (by omega) h3 ho]
      exact Ev.let (Ev.yes q3 (Ev.is (zs_app _ _)))
    · have q4 : ¬ (r : Int) < 65536 := by omega
      refine Ev.no q4 ?_
      rw [ap4 r (by omega) (by omega)]
      exact Ev.let (Ev.yes q3 (Ev.is (zs_app _ _)))
  exact Ev.no q1 (Ev.no q2 (Ev.call hh (Ev.no Bool.false_ne_true (Ev.call hlo hj))))
/-- The rune that a number stands for. -/
def fix (v : Nat) : Nat := if v > 1114111 then 65533 else if 55296 ≤ v ∧ v < 57344 then 65533 else v
theorem fix_ok (v : Nat) : okr (fix v) := by
  unfold fix okr
  repeat' split
  all_goals omega
theorem fix_enc (v : Nat) (h : v < 4294967296) : Lib.encodeRune (i32 v) = eb (fix v) := by
  have bad : ∀ r : Int, (r < 0 ∨ (55296 ≤ r ∧ r ≤ 57343) ∨ 1114111 < r) → Lib.encodeRune r = eb 65533 := by
    intro r hr
    have e1 := Lib.encodeRuneZ_bad hr
    rw [eb3 (by decide) (by decide) (by unfold okr; omega)]
    unfold Lib.encodeRune
    rw [e1]
    rfl
  unfold fix
  by_cases h1 : v > 1114111
  · rw [if_pos h1]
    exact bad _ (by unfold i32; split <;> omega)
  · rw [if_neg h1]
    by_cases h2 : 55296 ≤ v ∧ v < 57344
    · rw [if_pos h2]
      exact bad _ (by unfold i32; split <;> omega)
    · rw [if_neg h2]
      unfold eb i32
      rw [if_pos (by omega)]
end Go.Proofs.YthhehbocbhhbbaaDoor.Ub
