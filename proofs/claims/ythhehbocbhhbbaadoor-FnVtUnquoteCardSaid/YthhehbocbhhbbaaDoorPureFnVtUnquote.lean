/-
What is proved: of a string in marks the program gives the characters that its bytes mean, or an error where the digits are too few; for every input.
-/
import Derived.Test.YthhehbocbhhbbaaDoorUd
namespace Go.Proofs.YthhehbocbhhbbaaDoor.PureU
set_option linter.unusedVariables false
set_option linter.unusedSimpArgs false
open Go.RowKit Go.Proofs.YthhehbocbhhbbaaDoorW.PrintWords Go.Proofs.YthhehbocbhhbbaaDoor.Q Go.Proofs.YthhehbocbhhbbaaDoor.Com Go.Proofs.YthhehbocbhhbbaaDoor.Us Go.Proofs.YthhehbocbhhbbaaDoor.Ut Go.Proofs.YthhehbocbhhbbaaDoor.Ua Go.Proofs.YthhehbocbhhbbaaDoor.Ub Go.Proofs.YthhehbocbhhbbaaDoor.Uc Go.Proofs.YthhehbocbhhbbaaDoor.Ud Go.Proofs.YthhehbocbhhbbaaDoor.Vs

theorem unq_a : impl_VtUnquote.f (⟨#[39, 97, 39]⟩ : ByteArray) = some (mkb [97], true) := by
  have h := unq 39 (mkb [97]) (by rw [size_mkb]; decide) (by
    have := Valid.cons 97 [] (by unfold okr; omega) Valid.nil
    rw [eb1 (by decide)] at this
    exact this) (by decide)
  rw [B_mkb, U_char 97 [] [] (by decide), U_nil] at h
  exact h

theorem FnVtUnquote : ∀ (a0 : ByteArray) (a1 : Bool), ∃ k, laws_FnVtUnquote.f k a0 a1 = some true := by
  intro a0 a1
  apply Ev.rounds
  have out : ∀ s, Ev (fun k => laws_FnVtUnquote.j0 k s true) true := by
    intro s
    refine Ev.step (fun k => by rw [laws_FnVtUnquote.j0]) ?_
    exact Ev.yes rfl (Ev.now _)
  unfold laws_FnVtUnquote.f
  refine Ev.both (fun _ => Ev.now _) (fun c0 => ?_)
  have hs : a0.size ≤ 2147483647 := by omega
  refine Ev.bind (inside_ev a0 a1 hs) ?_
  cases ho : OKI (mrk a1) (B a0) with
  | false => exact Ev.no Bool.false_ne_true (out _)
  | true =>
    refine Ev.yes rfl (Ev.both (fun _ => out _) (fun c1 => ?_))
    obtain ⟨t, ht, hv⟩ := utf8_ev a0 (by omega)
    refine Ev.bind ht ?_
    cases t with
    | false => exact out _
    | true =>
      have hU := unq (mrk a1) a0 hs (hv rfl) ho
      have hE := unq_ev (mrk a1) a0 hs ho
      show Ev (fun k => laws_FnVtUnquote.j0 k (S (mrk a1) a0) false) true
      refine Ev.step (fun k => by rw [laws_FnVtUnquote.j0]) ?_
      refine Ev.no Bool.false_ne_true (Ev.bind hE (Ev.call hU (Ev.call unq_a ?_)))
      refine Ev.yes (beq_self_eq_true _) ?_
      exact Ev.both (fun _ => Ev.yes rfl (Ev.now _)) (fun _ => Ev.now _)
end Go.Proofs.YthhehbocbhhbbaaDoor.PureU
