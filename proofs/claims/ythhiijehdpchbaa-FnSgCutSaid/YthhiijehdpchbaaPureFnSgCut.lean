import Derived.Test.YthhiijehdpchbaaQ3
import Derived.Test.YthhiijehdpchbaaSpec
import Derived.Test.YthhiijehdpchbaaSg2
namespace Go.Proofs.Ythhiijehdpchbaa.Pure
set_option linter.unusedVariables false
set_option linter.unusedSimpArgs false
open Go.RowKit Go.Proofs.Ythhiijehdpchbaa.Ext Go.Proofs.Ythhiijehdpchbaa.Q Go.Proofs.YthhiijehdpchbaaW.PrintWords Go.Proofs.YthhiijehdpchbaaW.PrintLast
open Go.Proofs.Ythhiijehdpchbaa.Com Go.Proofs.Ythhiijehdpchbaa.Tree Go.Proofs.Ythhiijehdpchbaa.Spec Go.Proofs.Ythhiijehdpchbaa.Sg

mutual
/-- In types' texts stands no "()" and no "{v". -/
theorem np_txt : ∀ (t : T) (u : List UInt8), ok t = true → np u = true → np (txt t ++ u) = true
  | .b c, u, h, hu => by
    have hc := letter_ne c h
    show np (c :: u) = true
    simp [np, hc, hu]
  | .d k t, u, h, hu => by
    simp only [ok, Bool.and_eq_true] at h
    have hk := letter_ne k (by simp [h.1])
    have hk2 := basic_ne k h.1
    have e : txt (.d k t) ++ u = 97 :: 123 :: k :: (txt t ++ 125 :: u) := by simp [txt]
    have ih := np_txt t (125 :: u) h.2 (by simp [np, hu])
    rw [e]
    simp [np, hk, hk2, ih]
  | .a t, u, h, hu => by
    simp only [ok] at h
    have ih := np_txt t u h hu
    show np (97 :: (txt t ++ u)) = true
    simp [np, ih]
  | .s ts, u, h, hu => by
    simp only [ok, Bool.and_eq_true] at h
    have e : txt (.s ts) ++ u = 40 :: (txts ts ++ 41 :: u) := by simp [txt]
    have ih := np_txts ts (41 :: u) h.2 (by simp [np, hu])
    have hh : (txts ts ++ 41 :: u).head? ≠ some 41 := by
      cases ts with
      | nil => simp [ne] at h
      | more t ts =>
        simp only [oks, Bool.and_eq_true] at h
        obtain ⟨c, l, e, hc⟩ := txt_head t h.2.1
        simp only [txts, e, List.cons_append, List.head?_cons]
        intro h
        exact (head_ne c hc).2.2 (Option.some.inj h)
    have hh2 : ((txts ts ++ 41 :: u).head? == some 41) = false := beq_eq_false_iff_ne.2 hh
    rw [e, np, ih, hh2]
    simp
theorem np_txts : ∀ (ts : Ts) (u : List UInt8), oks ts = true → np u = true → np (txts ts ++ u) = true
  | .nil, u, h, hu => by simpa [txts] using hu
  | .more t ts, u, h, hu => by
    simp only [oks, Bool.and_eq_true] at h
    have e : txts (.more t ts) ++ u = txt t ++ (txts ts ++ u) := by simp [txts]
    rw [e]
    exact np_txt t _ h.1 (np_txts ts u h.2 hu)
end

theorem tlist_one : ∀ (ts : Ts), (tlist ts).length = 1 → ∃ t, ts = .more t .nil
  | .nil, h => by simp [tlist] at h
  | .more t .nil, h => ⟨t, rfl⟩
  | .more t (.more t' ts), h => by simp [tlist] at h

theorem FnSgCut : laws_FnSgCut.Pure := by
  intro a0 a1 hs hw
  suffices h : Ev (fun k => laws_FnSgCut.f k a0 a1) true by
    obtain ⟨K, h⟩ := h
    exact ⟨K, h K (Nat.le_refl _)⟩
  have h1 : 0 ≤ a1 ∧ a1 ≤ 255 := by
    have := hw
    simp [Lit.wf, IntKind.min, IntKind.max, IntKind.signed, IntKind.bits] at this
    omega
  unfold laws_FnSgCut.f
  refine Ev.both (fun _ => Ev.now _) (fun hb => ?_)
  have key : ∀ b, Ev (fun k => spec_Single.f k a0) b → (b = true → ∃ t, ok t = true ∧ fits t 32 32 32 = true ∧ B a0 = txt t ∧ a0.size ≤ 255) →
      Ev (fun k => (spec_Single.f k a0).bind fun t115 => (if t115 = true then (if (a0.size : Int) = 0 then (none) else (if 0 ≤ (Int.tmod (wrap64 (a1)) (a0.size : Int)) then (if (Int.tmod (wrap64 (a1)) (a0.size : Int)) ≤ (a0.size : Int) then ((impl_SgParse.f k (a0.extract 0 ((Int.tmod (wrap64 (a1)) (a0.size : Int)) : Int).toNat)).bind fun bt116 => ((impl_SgParse.f k a0).bind fun bt118 => (if (bt116.2 == ((Int.tmod (wrap64 (a1)) (a0.size : Int)) == 0)) = true then (some bt118.2) else (some false)))) else (none)) else (none))) else (some true))) true := by
    intro b hE hT
    refine Ev.bind hE ?_
    cases b with
    | false => exact Ev.no (by simp) (Ev.now _)
    | true =>
      obtain ⟨t, ho, hf, e, hsz⟩ := hT rfl
      have hp := txt_pos t
      have hlen : a0.size = (txt t).length := by rw [← B_length, e]
      have hwr : wrap64 a1 = a1 := wrap_of (by omega) (by omega)
      rw [hwr]
      have hm0 : 0 ≤ Int.tmod a1 (a0.size : Int) := Int.tmod_nonneg _ h1.1
      have hm1 : Int.tmod a1 (a0.size : Int) < (a0.size : Int) := Int.tmod_lt_of_pos _ (by omega)
      clear hwr
      obtain ⟨i, hi⟩ : ∃ i : Nat, Int.tmod a1 (a0.size : Int) = (i : Int) := ⟨_, (Int.toNat_of_nonneg hm0).symm⟩
      rw [hi] at hm0 hm1 ⊢
      have eto : ((i : Int)).toNat = i := by omega
      rw [eto]
      have hwhole := (parse_sig a0).1 ⟨.more t .nil, by simp [oks, ho], by simp [fitss, hf], by simp [txts, e], by rw [B_length]; exact hsz⟩
      refine Ev.yes rfl (Ev.no (by omega) (Ev.yes hm0 (Ev.yes (by omega) ?_)))
      have hBp : B (a0.extract 0 i) = (txt t).take i := by rw [B_to, e]
      by_cases h0 : i = 0
      · subst h0
        have he : B (a0.extract 0 0) = [] := by rw [hBp]; rfl
        refine Ev.bind ((parse_sig _).1 ⟨.nil, rfl, rfl, he, by rw [he]; decide⟩) (Ev.bind hwhole (Ev.yes rfl (Ev.now _)))
      · refine Ev.bind ((parse_sig _).2 ?_ ?_) (Ev.bind hwhole (Ev.yes ?_ (Ev.now _)))
        · rw [hBp]
          refine np_left _ ((txt t).drop i) ?_
          rw [List.take_append_drop]
          have := np_txt t [] ho rfl
          simpa using this
        · rintro ⟨ts, hos, _, e2, _⟩
          rw [hBp] at e2
          cases ts with
          | nil =>
            have h9 := congrArg List.length e2
            simp only [txts, List.length_take, List.length_nil] at h9; omega
          | more t1 ts1 =>
            simp only [oks, Bool.and_eq_true] at hos
            have e3 : txt t ++ [] = txt t1 ++ (txts ts1 ++ (txt t).drop i) := by
              rw [← List.append_assoc]
              show _ = txts (.more t1 ts1) ++ _
              rw [← e2, List.take_append_drop, List.append_nil]
            have h3 := (txt_inj ho hos.1 e3).2
            have h9 := congrArg List.length h3
            simp only [List.length_append, List.length_drop, List.length_nil] at h9; omega
        · have : ((i : Int) == 0) = false := by simp; exact h0
          rw [this]; rfl
  rcases types_ev a0 with ⟨ts, o, ft, e, hsz, H⟩ | ⟨hn, H⟩
  · by_cases h1 : (tlist ts).length = 1
    · obtain ⟨t, rfl⟩ := tlist_one ts h1
      refine key true ?_ fun _ => ⟨t, ?_, ?_, ?_, hsz⟩
      · unfold spec_Single.f
        refine Ev.bind H (Ev.yes rfl (Ev.is ?_))
        rw [h1]; rfl
      · simpa [oks] using o
      · simpa [fitss] using ft
      · simpa [txts] using e
    · refine key false ?_ fun h => by simp at h
      unfold spec_Single.f
      refine Ev.bind H (Ev.yes rfl (Ev.is ?_))
      rw [beq_eq_false_iff_ne]
      show ((tlist ts).length : Int) ≠ 1
      omega
  · refine key false ?_ fun h => by simp at h
    unfold spec_Single.f
    exact Ev.bind H (Ev.no (by simp) (Ev.now _))

end Go.Proofs.Ythhiijehdpchbaa.Pure
