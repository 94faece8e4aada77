/-
What is proved: what two sets of types have in common is the types that are in both, and the arrays of the first set are 'a' and each of its types; for every input.
-/
import Derived.Test.YtlnkgifpiinnoaaPm
namespace Go.Proofs.Ytlnkgifpiinnoaa.Pm
set_option linter.unusedVariables false
set_option linter.unusedSimpArgs false
open Go.RowKit Go.Proofs.Ytlnkgifpiinnoaa.M Go.Proofs.YtlnkgifpiinnoaaW.PrintWords Go.Proofs.Ytlnkgifpiinnoaa.Com Go.Proofs.Ytlnkgifpiinnoaa.Vm Go.Proofs.Ytlnkgifpiinnoaa.Sp Go.Proofs.Ytlnkgifpiinnoaa.Mx Go.Proofs.Ytlnkgifpiinnoaa.My

theorem j1_out (l0 l1 : List ByteArray) : Ev (fun k => laws_FnVtMeet.j1 k l0 l1 true) true := by
  refine Ev.step (fun k => by rw [laws_FnVtMeet.j1]) ?_
  exact Ev.yes rfl (Ev.now _)
theorem j0_out (l0 l1 : List ByteArray) : Ev (fun k => laws_FnVtMeet.j0 k l0 l1 true) true := by
  refine Ev.step (fun k => by rw [laws_FnVtMeet.j0]) ?_
  exact Ev.yes rfl (Ev.now _)
theorem j1_ev (l0 l1 : List ByteArray) (h0 : l0.length ≤ 64) (h1 : l1.length ≤ 64) (o0 : Ok l0) (o1 : Ok l1) : Ev (fun k => laws_FnVtMeet.j1 k l0 l1 false) true := by
  refine Ev.step (fun k => by rw [laws_FnVtMeet.j1]) ?_
  refine Ev.no Bool.false_ne_true ?_
  have e : impl_VtMeet.f l0 l1 = some (both l0 l1, l0.map (ar ++ ·)) := by
    unfold impl_VtMeet.f
    rw [if_pos ⟨o0, o1⟩]
    rfl
  exact Ev.call e (law_go l0 l1 h0 h1 o0 o1 l0.length 0 (by omega) [] rfl)

theorem FnVtMeet (l0 l1 : List ByteArray) : ∃ k, laws_FnVtMeet.f k l0 l1 = some true := by
  apply Ev.rounds
  unfold laws_FnVtMeet.f
  obtain ⟨b0, e0, f0⟩ := fits5_ev l0
  obtain ⟨b1, e1, f1⟩ := fits5_ev l1
  cases b0 with
  | false => exact Ev.bind e0 (Ev.no Bool.false_ne_true (j0_out l0 l1))
  | true =>
  refine Ev.bind e0 (Ev.yes rfl (Ev.bind e1 ?_))
  cases b1 with
  | false => exact j0_out l0 l1
  | true =>
  refine Ev.step (fun k => by rw [laws_FnVtMeet.j0]) ?_
  obtain ⟨x0, s0, g0⟩ := vtset_ev l0 (f0 rfl)
  obtain ⟨x1, s1, g1⟩ := vtset_ev l1 (f1 rfl)
  refine Ev.no Bool.false_ne_true (Ev.bind s0 ?_)
  cases x0 with
  | false => exact Ev.no Bool.false_ne_true (j1_out l0 l1)
  | true =>
  refine Ev.yes rfl (Ev.bind s1 ?_)
  cases x1 with
  | false => exact j1_out l0 l1
  | true => exact j1_ev l0 l1 (g0 rfl).2 (g1 rfl).2 (g0 rfl).1 (g1 rfl).1
end Go.Proofs.Ytlnkgifpiinnoaa.Pm
