/-
What is proved: the match rule of options reads as their keys and values, and a message fits it just if it fits each; for every input.
-/
import Derived.Test.YtoldgnmgjpjapaaDoorPg
import Derived.Test.YtoldgnmgjpjapaaDoorQ8
namespace Go.Proofs.YtoldgnmgjpjapaaDoor.Pure
set_option linter.unusedVariables false
set_option linter.unusedSimpArgs false
open Go.RowKit Go.Proofs.YtoldgnmgjpjapaaDoor.Mt Go.Proofs.YtoldgnmgjpjapaaDoor.Q Go.Proofs.YtoldgnmgjpjapaaDoorW.PrintWords Go.Proofs.YtoldgnmgjpjapaaDoorW.PrintLast
open Go.Proofs.YtoldgnmgjpjapaaDoor.Com Go.Proofs.YtoldgnmgjpjapaaDoor.Mr Go.Proofs.YtoldgnmgjpjapaaDoor.Wm Go.Proofs.YtoldgnmgjpjapaaDoor.Mp Go.Proofs.YtoldgnmgjpjapaaDoor.Pf Go.Proofs.YtoldgnmgjpjapaaDoor.Pg

def wtr : Prop := ∀ (l0 l1 : List Int) (l2 : List ByteArray) (a0 a1 a2 : Int) (L : List S69) (M : List S63), (∀ x ∈ l0, 0 ≤ x) → (∀ x ∈ l1, 0 ≤ x) → (∀ x ∈ M, x.f2.size ≤ 9223372036854775807) → ∃ k, laws_FnMtWithRule.f k l0 l1 l2 a0 a1 a2 L M = some true

theorem rd_pos (l : List Int) (h : ∀ x ∈ l, 0 ≤ x) (j : Nat) : 0 ≤ rd l (j : Int) := by
  unfold rd
  rw [Int.toNat_natCast, List.getD_eq_getElem?_getD]
  by_cases hj : j < l.length
  · rw [List.getElem?_eq_getElem hj]
    exact h _ (List.getElem_mem hj)
  · rw [List.getElem?_eq_none (by omega)]
    exact Int.le_refl 0

section
variable (l0 l1 : List Int) (l2 : List ByteArray) (a0 a1 a2 : Int) (L : List S69) (M : List S63)
theorem yes_j3 (A : List S32) (b : Bool) (u v t : Int) : Ev (fun k => laws_FnMtWithRule.j3 k l0 l1 l2 A b u v t true a0 a1 a2 L M) true :=
  Ev.step (fun k => by rw [laws_FnMtWithRule.j3]) (Ev.yes rfl (Ev.now _))
theorem big0 (A : List S32) (acc : Bool) (j : Nat) (hj : j < l0.length) (c1 : rd l0 (j : Int) > 8) : Ev (fun k => laws_FnMtWithRule.l0 k l0 l1 l2 A acc (l0.length : Int) (j : Int) a0 a1 a2 L M) true := by
  have q1 : (j : Int) < (l0.length : Int) := by omega
  have q2 : (0 : Int) ≤ (j : Int) := by omega
  refine Ev.step (fun k => by rw [laws_FnMtWithRule.l0]) ?_
  exact Ev.yes q1 (Ev.yes q2 (Ev.yes q1 (Ev.yes c1 (yes_j3 l0 l1 l2 a0 a1 a2 L M _ _ _ _ _))))
theorem big1 (A : List S32) (acc : Bool) (j : Nat) (hj : j < l0.length) (e1 : l1.length = l0.length) (c1 : ¬ rd l0 (j : Int) > 8) (c2 : rd l1 (j : Int) > 63) : Ev (fun k => laws_FnMtWithRule.l0 k l0 l1 l2 A acc (l0.length : Int) (j : Int) a0 a1 a2 L M) true := by
  have q1 : (j : Int) < (l0.length : Int) := by omega
  have q2 : (0 : Int) ≤ (j : Int) := by omega
  have q3 : (j : Int) < (l1.length : Int) := by omega
  refine Ev.step (fun k => by rw [laws_FnMtWithRule.l0]) ?_
  exact Ev.yes q1 (Ev.yes q2 (Ev.yes q1 (Ev.no c1 (Ev.yes q3 (Ev.yes c2 (yes_j3 l0 l1 l2 a0 a1 a2 L M _ _ _ _ _))))))
theorem step_a (A : List S32) (acc : Bool) (j : Nat) (hj : j < l0.length) (e1 : l1.length = l0.length) (e2 : l2.length = l0.length) (c1 : ¬ rd l0 (j : Int) > 8) (c2 : ¬ rd l1 (j : Int) > 63) (b : Bool)
    (hb : Ev (fun k => laws_mtPlain.f k [(⟨(⟨#[]⟩ : ByteArray), rdOf ByteArray.empty l2 (j : Int)⟩ : S32)]) b) (h : Ev (fun k => laws_FnMtWithRule.j3 k l0 l1 l2 A acc (j : Int) (l0.length : Int) (j : Int) (!b) a0 a1 a2 L M) true) : Ev (fun k => laws_FnMtWithRule.l0 k l0 l1 l2 A acc (l0.length : Int) (j : Int) a0 a1 a2 L M) true := by
  have q1 : (j : Int) < (l0.length : Int) := by omega
  have q2 : (0 : Int) ≤ (j : Int) := by omega
  have q3 : (j : Int) < (l1.length : Int) := by omega
  have q4 : (j : Int) < (l2.length : Int) := by omega
  refine Ev.step (fun k => by rw [laws_FnMtWithRule.l0]) ?_
  exact Ev.yes q1 (Ev.yes q2 (Ev.yes q1 (Ev.no c1 (Ev.yes q3 (Ev.no c2 (Ev.yes q4 (Ev.bind hb h)))))))
theorem step_c (A : List S32) (acc : Bool) (j : Nat) (hj : j < l0.length) (hs : l0.length ≤ 20) (hA : A.length ≤ 1000) (e1 : l1.length = l0.length) (e2 : l2.length = l0.length) (key v : ByteArray) (f : Bool)
    (hwi : impl_MtWith.f (wrap64 (rd l0 (j : Int))) (wrap64 (rd l1 (j : Int))) (rdOf ByteArray.empty l2 (j : Int)) = some (key, v, true)) (hk : Ev (fun k => laws_mtKeyOf.f k (wrap64 (rd l0 (j : Int))) (wrap64 (rd l1 (j : Int)))) key)
    (hf : Ev (fun k => spec_Fits.f k a0 a1 a2 L M key (rdOf ByteArray.empty l2 (j : Int))) (f, true))
    (h : Ev (fun k => laws_FnMtWithRule.l0 k l0 l1 l2 (A ++ [⟨key, v⟩]) (acc && f) (l0.length : Int) ((j + 1 : Nat) : Int) a0 a1 a2 L M) true) : Ev (fun k => laws_FnMtWithRule.j3 k l0 l1 l2 A acc (j : Int) (l0.length : Int) (j : Int) false a0 a1 a2 L M) true := by
  have q1 : (j : Int) < (l0.length : Int) := by omega
  have q2 : (0 : Int) ≤ (j : Int) := by omega
  have q3 : (j : Int) < (l1.length : Int) := by omega
  have q4 : (j : Int) < (l2.length : Int) := by omega
  have q5 : A.length < 4398046511104 := by omega
  have hw : wrap64 ((j : Int) + 1) = ((j + 1 : Nat) : Int) := by rw [wrap_of (by omega) (by omega)]; omega
  refine Ev.step (fun k => by rw [laws_FnMtWithRule.j3]) (Ev.no Bool.false_ne_true ?_)
  rw [hw]
  refine Ev.yes q2 (Ev.yes q1 (Ev.yes q3 (Ev.yes q4 (Ev.call hwi (Ev.yes rfl (Ev.yes q5 (Ev.let (Ev.bind hk (Ev.bind hf ?_)))))))))
  cases acc with
  | true => exact Ev.yes rfl h
  | false => exact Ev.no Bool.false_ne_true h
theorem loop (h0 : ∀ x ∈ l0, 0 ≤ x) (h1 : ∀ x ∈ l1, 0 ≤ x) (hS : ∀ x ∈ M, x.f2.size ≤ 9223372036854775807) (hL : (L.length : Int) ≤ 2147483647) (hM : M.length ≤ 70) (hn : l0.length ≤ 20) (e1 : l1.length = l0.length) (e2 : l2.length = l0.length) :
    ∀ (r j : Nat) (A : List S32), j + r = l0.length → A.length = j → (∀ x ∈ A, okx x = true ∧ TermOk a0 a1 a2 L M (c41 x)) → Ev (fun k => laws_FnMtWithRule.l0 k l0 l1 l2 A (A.all (fun x => fb a0 a1 a2 L M (c41 x))) (l0.length : Int) (j : Int) a0 a1 a2 L M) true
  | 0, j, A, hj, hA, hx => by
    have hok : ∀ x ∈ A, okx x = true := fun x hm => (hx x hm).1
    have hsz : ∀ x ∈ A, x.f0.size ≤ 1000 ∧ x.f1.size ≤ 1000 := fun x hm => by
      obtain ⟨h3, h4, _⟩ := okx_iff x (hok x hm)
      exact ⟨by omega, by omega⟩
    have hT : ∀ t ∈ A.map c41, TermOk a0 a1 a2 L M t := fun t ht => by
      obtain ⟨x, hm, rfl⟩ := List.mem_map.1 ht
      exact (hx x hm).2
    have hall := all_ev a0 a1 a2 L M (A.map c41) hT (by rw [List.length_map]; omega)
    rw [List.all_map] at hall
    refine Ev.step (fun k => by rw [laws_FnMtWithRule.l0]) (Ev.no (by omega) ?_)
    refine Ev.bind (mt_ev A (by omega) hsz) (Ev.bind (read_ev A hok (by omega)) (Ev.bind hall (Ev.yes rfl (Ev.yes rfl (Ev.yes ?_ (Ev.yes ?_ (Ev.bind ab_ev (Ev.is ?_))))))))
    · show ((A.map c41).length : Int) = (l0.length : Int)
      rw [List.length_map]; omega
    · show ((A.all (fb a0 a1 a2 L M ∘ c41)) == A.all (fun x => fb a0 a1 a2 L M (c41 x))) = true
      exact beq_self_eq_true _
    · rw [B_toList]; rfl
  | r + 1, j, A, hj, hA, hx => by
    have p0 := rd_pos l0 h0 j
    have p1 := rd_pos l1 h1 j
    have hjl : j < l0.length := by omega
    by_cases c1 : rd l0 (j : Int) > 8
    · exact big0 l0 l1 l2 a0 a1 a2 L M A _ j hjl c1
    by_cases c2 : rd l1 (j : Int) > 63
    · exact big1 l0 l1 l2 a0 a1 a2 L M A _ j hjl e1 c1 c2
    obtain ⟨kd, hkd⟩ := Int.eq_ofNat_of_zero_le p0
    obtain ⟨nn, hnn⟩ := Int.eq_ofNat_of_zero_le p1
    have hk8 : kd ≤ 8 := by omega
    have hn63 : nn ≤ 63 := by omega
    obtain ⟨b, hb, hbv⟩ := plain1_ev (rdOf ByteArray.empty l2 (j : Int))
    refine step_a l0 l1 l2 a0 a1 a2 L M A _ j hjl e1 e2 c1 c2 b hb ?_
    cases b with
    | false => exact yes_j3 l0 l1 l2 a0 a1 a2 L M _ _ _ _ _
    | true =>
      have hpl := hbv rfl
      have hx2 := okx_mk kd nn hk8 hn63 _ hpl
      have ht : TermOk a0 a1 a2 L M (c41 ⟨optKey kd nn, rdOf ByteArray.empty l2 (j : Int)⟩) := opt_fits a0 a1 a2 L M hL (by omega) hS kd nn hk8 hn63 _ hpl.1
      have w0 : wrap64 (rd l0 (j : Int)) = (kd : Int) := by rw [hkd, wrap_of (by omega) (by omega)]
      have w1 : wrap64 (rd l1 (j : Int)) = (nn : Int) := by rw [hnn, wrap_of (by omega) (by omega)]
      have ih := loop h0 h1 hS hL hM hn e1 e2 r (j + 1) (A ++ [⟨optKey kd nn, rdOf ByteArray.empty l2 (j : Int)⟩]) (by omega) (by rw [List.length_append, hA]; rfl) (fun x hm => by
        rcases List.mem_append.1 hm with hm | hm
        · exact hx x hm
        · rw [List.mem_singleton.1 hm]; exact ⟨hx2, ht⟩)
      rw [List.all_append] at ih
      refine step_c l0 l1 l2 a0 a1 a2 L M A _ j hjl hn (by omega) e1 e2 (optKey kd nn) _ (fb a0 a1 a2 L M (c41 ⟨optKey kd nn, rdOf ByteArray.empty l2 (j : Int)⟩)) (by rw [w0, w1]; exact with_is kd nn hk8 hn63 _) (by rw [w0, w1]; exact key_ev kd nn hk8 hn63) (fb_ev a0 a1 a2 L M _ ht) ?_
      simp only [List.all_cons, List.all_nil, Bool.and_true] at ih
      exact ih
end

theorem FnMtWithRule : wtr := by
  intro l0 l1 l2 a0 a1 a2 L M h0 h1 hS
  apply Ev.rounds
  have out : Ev (fun k => laws_FnMtWithRule.j0 k l0 l1 l2 true a0 a1 a2 L M) true := Ev.step (fun k => by rw [laws_FnMtWithRule.j0]) (Ev.yes rfl (Ev.now _))
  have out1 : Ev (fun k => laws_FnMtWithRule.j1 k l0 l1 l2 true a0 a1 a2 L M) true := Ev.step (fun k => by rw [laws_FnMtWithRule.j1]) (Ev.yes rfl (Ev.now _))
  unfold laws_FnMtWithRule.f
  refine Ev.both (fun _ => out) (fun c0 => Ev.both (fun _ => out) (fun c1 => ?_))
  obtain ⟨b, hb⟩ := fits5_ev l2
  refine Ev.bind hb (Ev.both (fun hb1 => ?_) (fun _ => out))
  obtain ⟨b2, hb2, hb3⟩ := fits1_ev a0 a1 a2 L M
  refine Ev.call hb2 ?_
  cases b2 with
  | false => exact out
  | true =>
    have hL := hb3 rfl
    show Ev (fun k => laws_FnMtWithRule.j0 k l0 l1 l2 false a0 a1 a2 L M) true
    refine Ev.step (fun k => by rw [laws_FnMtWithRule.j0]) (Ev.no Bool.false_ne_true (Ev.both (fun _ => out1) (fun c2 => Ev.both (fun c3 => Ev.both (fun c4 => ?_) (fun _ => out1)) (fun _ => out1))))
    by_cases c5 : (M.length : Int) > 70
    · rw [decide_eq_true c5]
      exact out1
    · rw [decide_eq_false c5]
      refine Ev.step (fun k => by rw [laws_FnMtWithRule.j1]) (Ev.no Bool.false_ne_true ?_)
      exact loop l0 l1 l2 a0 a1 a2 L M h0 h1 hS hL (by omega) (by omega) (by omega) (by omega) l0.length 0 [] (by omega) rfl (fun x hm => by cases hm)
end Go.Proofs.YtoldgnmgjpjapaaDoor.Pure
