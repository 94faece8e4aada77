/-
What is proved: the match rule of options is that of each of them by itself, with commas between, and has as many bytes as all keys and values and four more for each option, one less; for every input.
-/
import Derived.Test.YtoldgnmgjpjapaaQ4
import Derived.Test.YtoldgnmgjpjapaaMr
namespace Go.Proofs.Ytoldgnmgjpjapaa.Pure
set_option linter.unusedVariables false
set_option linter.unusedSimpArgs false
open Go.RowKit Go.Proofs.Ytoldgnmgjpjapaa.Mt Go.Proofs.Ytoldgnmgjpjapaa.Q Go.Proofs.YtoldgnmgjpjapaaW.PrintWords Go.Proofs.YtoldgnmgjpjapaaW.PrintLast
open Go.Proofs.Ytoldgnmgjpjapaa.Com Go.Proofs.Ytoldgnmgjpjapaa.Mr

def mrs : Prop := ∀ (l0 : List S30), ∃ k, laws_FnMtRuleSingles.f k l0 = some true
theorem mrs_walk (P : mrs) (A0 : Option Addr) (c0 : Nat) (l0 : List S30) (w : World) (hr0 : Kd.C k30 w A0 l0.length l0) (hc0 : l0.length ≤ c0) :
    Calls Try.prog 4 #[.slice A0 l0.length c0] w fun e w' => e = .returned (.bool true) ∧ Below w.heap.size w w' := by
  obtain ⟨k, h⟩ := P l0
  refine (laws_FnMtRuleSingles.calls k A0 c0 l0 true w hr0 hc0 h).mono ?_
  rintro e w' ⟨rfl, hd⟩
  exact ⟨rfl, hd⟩

theorem rds_at (P : List (List UInt8)) (j : Nat) (t : List UInt8) (R : List (List UInt8)) (h : P.drop j = t :: R) : rdOf ByteArray.empty (P.map mkb) (j : Int) = mkb t ∧ j < P.length ∧ P.drop (j + 1) = R := by
  have hl : j < P.length := by
    have h9 := congrArg List.length h
    simp only [List.length_drop, List.length_cons] at h9; omega
  rw [List.drop_eq_getElem_cons hl] at h
  injection h with h1 h2
  refine ⟨?_, hl, h2⟩
  simp [rdOf, hl, h1]

/-- Joined: from the second one on. -/
theorem join_go (P : List (List UInt8)) (hP : P.length ≤ 1000) (hx : ∀ p ∈ P, p.length ≤ 2000) : ∀ (R : List (List UInt8)) (j : Nat) (acc : ByteArray), P.drop j = R → 1 ≤ j → acc.size ≤ 2001 * j →
    Ev (fun k => spec_Joined.l0 k (⟨#[44]⟩ : ByteArray) acc (P.map mkb) ((P.map mkb).length : Int) (j : Int)) (acc ++ mkb (R.flatMap (fun y => 44 :: y)))
  | [], j, acc, h, h1, ha => by
    have hl := drop_nil_le h
    refine Ev.step (fun k => by rw [spec_Joined.l0]) ?_
    rw [List.length_map]
    exact Ev.no (by omega) (Ev.is (B_inj (by rw [B_append, B_mkb]; simp)))
  | t :: R, j, acc, h, h1, ha => by
    obtain ⟨hr, hl, hd⟩ := rds_at P j t R h
    have htm : t ∈ P := List.mem_of_mem_drop (by rw [h]; exact List.mem_cons_self)
    have ht := hx t htm
    have hw : wrap64 ((j : Int) + 1) = ((j + 1 : Nat) : Int) := by rw [wrap_of (by omega) (by omega)]; omega
    have hz : (mkb t).size = t.length := size_mkb t
    have hz1 : (⟨#[44]⟩ : ByteArray).size = 1 := rfl
    have ih := join_go P hP hx R (j + 1) ((acc ++ (⟨#[44]⟩ : ByteArray)) ++ mkb t) hd (by omega) (by rw [ByteArray.size_append, ByteArray.size_append, hz, hz1]; omega)
    have e : acc ++ (⟨#[44]⟩ : ByteArray) ++ mkb t ++ mkb (R.flatMap (fun y => 44 :: y)) = acc ++ mkb ((t :: R).flatMap (fun y => 44 :: y)) := B_inj (by
      simp only [B_append, B_mkb, List.flatMap_cons, List.append_assoc, List.cons_append]; rfl)
    rw [e] at ih
    refine Ev.step (fun k => by rw [spec_Joined.l0]) ?_
    rw [hw, hr]
    clear hw hr
    rw [List.length_map] at ih ⊢
    exact Ev.yes (by omega) (Ev.yes (by omega) (Ev.yes (by omega) (Ev.yes (by omega) (Ev.yes (by rw [hz1]; omega) (Ev.yes (by rw [ByteArray.size_append, hz, hz1]; omega) ih)))))
theorem joined_ev (P : List (List UInt8)) (hP : P.length ≤ 1000) (hx : ∀ p ∈ P, p.length ≤ 2000) : Ev (fun k => spec_Joined.f k (P.map mkb) (⟨#[44]⟩ : ByteArray)) (mkb (rl P)) := by
  unfold spec_Joined.f
  refine Ev.step (fun k => by rw [spec_Joined.l0]) ?_
  cases P with
  | nil => exact Ev.no (by simp) (Ev.is rfl)
  | cons a P =>
    obtain ⟨hr, hl, hd⟩ := rds_at (a :: P) 0 a P rfl
    have ha := hx a List.mem_cons_self
    have e0 : (⟨#[]⟩ : ByteArray) ++ mkb a = mkb a := B_inj (by rw [B_append]; rfl)
    have ih := join_go (a :: P) hP hx P 1 ((⟨#[]⟩ : ByteArray) ++ mkb a) rfl (Nat.le_refl _) (by rw [e0, size_mkb]; omega)
    have e : (⟨#[]⟩ : ByteArray) ++ mkb a ++ mkb (P.flatMap (fun y => 44 :: y)) = mkb (rl (a :: P)) := B_inj (by rw [e0, B_append]; rfl)
    rw [e] at ih
    have hr' : rdOf ByteArray.empty ((a :: P).map mkb) 0 = mkb a := hr
    rw [hr', show wrap64 ((0 : Int) + 1) = ((1 : Nat) : Int) from by rw [wrap_of (by omega) (by omega)]; rfl]
    clear hr hr'
    have hz := size_mkb a
    have hz0 : (⟨#[]⟩ : ByteArray).size = 0 := rfl
    rw [List.length_map] at ih ⊢
    exact Ev.yes (by simp only [List.length_cons]; omega) (Ev.yes (by omega) (Ev.yes (by simp only [List.length_cons]; omega) (Ev.no (by omega) (Ev.yes (by rw [hz, hz0]; omega) ih))))

def sm (L : List S30) : Nat := ((tms L).map (fun t => t.length + 1)).sum
theorem sm_le : ∀ L : List S30, (∀ x ∈ L, okx x = true) → sm L ≤ 604 * L.length
  | [], _ => by simp [sm, tms]
  | a :: L, h => by
    have h2 := sm_le L (fun y hy => h y (List.mem_cons_of_mem _ hy))
    obtain ⟨h3, h4, _, _⟩ := okx_iff a (h a List.mem_cons_self)
    simp only [sm, tms, List.map_cons, List.sum_cons, List.length_cons, tm_length] at h2 ⊢
    omega
theorem sm_take (L : List S30) (j : Nat) (x : S30) (h : L[j]? = some x) : sm (L.take (j + 1)) = sm (L.take j) + (x.f0.size + x.f1.size + 4) := by
  unfold sm tms
  rw [List.take_add_one, h]
  simp [tm_length]

theorem parts_go (L : List S30) (hne : L ≠ []) (hL : L.length ≤ 40) (hok : ∀ x ∈ L, okx x = true) : ∀ (R : List S30) (j : Nat), L.drop j = R →
    Ev (fun k => laws_FnMtRuleSingles.l0 k L ((tms (L.take j)).map mkb) ((sm (L.take j) : Nat) - 1 : Int) L (L.length : Int) (j : Int)) true
  | [], j, h => by
    have hl := drop_nil_le h
    rw [List.take_of_length_le hl]
    have hsz : ∀ x ∈ L, x.f0.size ≤ 1000 ∧ x.f1.size ≤ 1000 := fun x hx => by
      obtain ⟨h3, h4, _⟩ := okx_iff x (hok x hx)
      exact ⟨by omega, by omega⟩
    have hj := joined_ev (tms L) (by unfold tms; rw [List.length_map]; omega) (by
      intro p hp
      obtain ⟨x, hx, rfl⟩ := List.mem_map.1 hp
      have := hsz x hx
      obtain ⟨h3, h4, _⟩ := okx_iff x (hok x hx)
      rw [tm_length]; omega)
    refine Ev.step (fun k => by rw [laws_FnMtRuleSingles.l0]) ?_
    refine Ev.no (by omega) (Ev.bind (mt_ev L (by omega) hsz) (Ev.bind hj (Ev.yes rfl (Ev.is ?_))))
    have h9 := rl_length (tms L) (by intro e; exact hne (List.map_eq_nil_iff.1 e))
    rw [size_mkb, beq_iff_eq]
    unfold sm
    omega
  | x :: R, j, h => by
    obtain ⟨hr, hl, hd⟩ := rd_at L j x R h
    have hxm : x ∈ L := List.mem_of_mem_drop (by rw [h]; exact List.mem_cons_self)
    obtain ⟨h3, h4, _⟩ := okx_iff x (hok x hxm)
    have ht : L[j]? = some x := by
      have := List.drop_eq_getElem_cons hl
      rw [this] at h
      injection h with h1 _
      rw [List.getElem?_eq_getElem hl, h1]
    have ih := parts_go L hne hL hok R (j + 1) hd
    have hs := sm_take L j x ht
    have hb := sm_le (L.take j) (fun y hy => hok y (List.mem_of_mem_take hy))
    have hlt : (L.take j).length ≤ 40 := by rw [List.length_take]; omega
    have hone := mt_ev [(⟨x.f0, x.f1⟩ : S30)] (by simp) (by intro y hy; rw [List.mem_singleton.1 hy]; show x.f0.size ≤ 1000 ∧ x.f1.size ≤ 1000; exact ⟨by omega, by omega⟩)
    have e1 : mkb (rl (tms [(⟨x.f0, x.f1⟩ : S30)])) = mkb (tm x.f0 x.f1) := by simp [tms, rl]
    rw [e1] at hone
    have e2 : (tms (L.take (j + 1))).map mkb = (tms (L.take j)).map mkb ++ [mkb (tm x.f0 x.f1)] := by
      rw [List.take_add_one, ht]
      simp [tms]
    rw [e2, hs] at ih
    have hw : wrap64 ((j : Int) + 1) = ((j + 1 : Nat) : Int) := by rw [wrap_of (by omega) (by omega)]; omega
    have hw1 : wrap64 (((sm (L.take j) : Nat) - 1 : Int) + wrap64 (wrap64 ((x.f0.size : Int) + (x.f1.size : Int)) + 4)) = (((sm (L.take j) + (x.f0.size + x.f1.size + 4) : Nat) : Int) - 1) := by
      rw [wrap_of (a := (x.f0.size : Int) + (x.f1.size : Int)) (by omega) (by omega), wrap_of (a := (x.f0.size : Int) + (x.f1.size : Int) + 4) (by omega) (by omega), wrap_of (by omega) (by omega)]
      omega
    refine Ev.step (fun k => by rw [laws_FnMtRuleSingles.l0]) ?_
    rw [hr, hw, hw1]
    clear hr hw hw1
    have hlen : ((tms (L.take j)).map mkb).length ≤ 40 := by unfold tms; rw [List.length_map, List.length_map]; exact hlt
    exact Ev.yes (by omega) (Ev.yes (by omega) (Ev.yes (by omega) (Ev.bind hone (Ev.yes (by omega) ih))))

theorem FnMtRuleSingles : mrs := by
  intro L
  apply Ev.rounds
  unfold laws_FnMtRuleSingles.f
  obtain ⟨b, hb⟩ := fits_ev L
  refine Ev.bind hb (Ev.both (fun h1 => ?_) (fun _ => Ev.now _))
  have out : Ev (fun k => laws_FnMtRuleSingles.j0 k L true) true := by
    refine Ev.step (fun k => by rw [laws_FnMtRuleSingles.j0]) ?_
    exact Ev.yes rfl (Ev.now _)
  by_cases hbig : (L.length : Int) > 2147483647
  · exfalso
    obtain ⟨K, hK⟩ := hb
    have this : laws_zzFits3.f K L = some b := hK K (Nat.le_refl _)
    unfold laws_zzFits3.f at this
    rw [if_pos hbig] at this
    rw [h1] at this
    cases this
  refine Ev.both (fun _ => out) (fun h0 => ?_)
  obtain ⟨b2, hb2, hg⟩ := plain_ev L (by omega)
  refine Ev.bind hb2 ?_
  cases b2 with
  | false => exact out
  | true =>
    obtain ⟨hlen, hok⟩ := hg rfl
    refine Ev.step (fun k => by rw [laws_FnMtRuleSingles.j0]) ?_
    refine Ev.no (by simp) ?_
    exact parts_go L (by rintro rfl; exact h0 rfl) hlen hok L 0 rfl

end Go.Proofs.Ytoldgnmgjpjapaa.Pure
