/-
What is proved: the match rule that options make reads, by the quoting rules, as their keys and values in their order; for every input.
-/
import Derived.Test.YtoldgnmgjpjapaaMr
namespace Go.Proofs.Ytoldgnmgjpjapaa.Pure
set_option linter.unusedVariables false
set_option linter.unusedSimpArgs false
open Go.RowKit Go.Proofs.Ytoldgnmgjpjapaa.Mt Go.Proofs.Ytoldgnmgjpjapaa.Q Go.Proofs.YtoldgnmgjpjapaaW.PrintWords Go.Proofs.YtoldgnmgjpjapaaW.PrintLast
open Go.Proofs.Ytoldgnmgjpjapaa.Com Go.Proofs.Ytoldgnmgjpjapaa.Mr

def mrr : Prop := ∀ (l0 : List S30), ∃ k, laws_FnMtRuleRead.f k l0 = some true
theorem mrr_walk (P : mrr) (A0 : Option Addr) (c0 : Nat) (l0 : List S30) (w : World) (hr0 : Kd.C k30 w A0 l0.length l0) (hc0 : l0.length ≤ c0) :
    Calls Try.prog 3 #[.slice A0 l0.length c0] w fun e w' => e = .returned (.bool true) ∧ Below w.heap.size w w' := by
  obtain ⟨k, h⟩ := P l0
  refine (laws_FnMtRuleRead.calls k A0 c0 l0 true w hr0 hc0 h).mono ?_
  rintro e w' ⟨rfl, hd⟩
  exact ⟨rfl, hd⟩

theorem rd29_at (L : List S30) (j : Nat) (t : S30) (R : List S30) (h : L.drop j = t :: R) : rd_T29 (L.map c29) (j : Int) = c29 t := by
  have hl : j < L.length := by
    have h9 := congrArg List.length h
    simp only [List.length_drop, List.length_cons] at h9; omega
  rw [List.drop_eq_getElem_cons hl] at h
  injection h with h1 h2
  simp [rd_T29, hl, h1]

theorem ab_ev : Ev (fun n => impl_MtRule.f n [(⟨(⟨#[97]⟩ : ByteArray), (⟨#[98]⟩ : ByteArray)⟩ : S30)]) (mkb [97, 61, 39, 98, 39]) :=
  mt_ev [(⟨(⟨#[97]⟩ : ByteArray), (⟨#[98]⟩ : ByteArray)⟩ : S30)] (by decide) (by intro x hx; rw [List.mem_singleton.1 hx]; decide)

theorem same_go (L : List S30) (hL : L.length ≤ 1000) : ∀ (R : List S30) (j : Nat), L.drop j = R → Ev (fun k => laws_FnMtRuleRead.l0 k L (L.map c29) (L.length : Int) (j : Int)) true
  | [], j, h => by
    have hl := drop_nil_le h
    refine Ev.step (fun k => by rw [laws_FnMtRuleRead.l0]) ?_
    refine Ev.no (by omega) (Ev.bind ab_ev (Ev.is ?_))
    rw [B_toList]; rfl
  | t :: R, j, h => by
    obtain ⟨hr, hl, hd⟩ := rd_at L j t R h
    have hr2 := rd29_at L j t R h
    have ih := same_go L hL R (j + 1) hd
    have hw : wrap64 ((j : Int) + 1) = ((j + 1 : Nat) : Int) := by rw [wrap_of (by omega) (by omega)]; omega
    refine Ev.step (fun k => by rw [laws_FnMtRuleRead.l0]) ?_
    rw [hw, hr, hr2]
    clear hw hr hr2
    exact Ev.yes (by omega) (Ev.yes (by omega) (Ev.yes (by rw [List.length_map]; omega) (Ev.yes (by omega) (Ev.yes rfl (Ev.yes rfl ih)))))

theorem FnMtRuleRead : mrr := by
  intro L
  apply Ev.rounds
  unfold laws_FnMtRuleRead.f
  obtain ⟨b, hb⟩ := fits_ev L
  refine Ev.bind hb (Ev.both (fun h1 => ?_) (fun _ => Ev.now _))
  by_cases hbig : (L.length : Int) > 2147483647
  · exfalso
    obtain ⟨K, hK⟩ := hb
    have this : laws_zzFits3.f K L = some b := hK K (Nat.le_refl _)
    unfold laws_zzFits3.f at this
    rw [if_pos hbig] at this
    rw [h1] at this
    cases this
  obtain ⟨b2, hb2, hg⟩ := plain_ev L (by omega)
  refine Ev.bind hb2 (Ev.both (fun h2 => ?_) (fun _ => Ev.now _))
  obtain ⟨hlen, hok⟩ := hg h2
  have hsz : ∀ x ∈ L, x.f0.size ≤ 1000 ∧ x.f1.size ≤ 1000 := fun x hx => by
    obtain ⟨h3, h4, _⟩ := okx_iff x (hok x hx)
    exact ⟨by omega, by omega⟩
  refine Ev.bind (mt_ev L (by omega) hsz) (Ev.bind (read_ev L hok (by omega)) (Ev.yes rfl ?_))
  have e : (((L.map c29).length : Int) != (L.length : Int)) = false := by rw [List.length_map]; simp
  show Ev (fun k => laws_FnMtRuleRead.j0 k L (L.map c29) (((L.map c29).length : Int) != (L.length : Int))) true
  rw [e]
  refine Ev.step (fun k => by rw [laws_FnMtRuleRead.j0]) ?_
  exact Ev.no (by simp) (same_go L (by omega) L 0 rfl)

end Go.Proofs.Ytoldgnmgjpjapaa.Pure
