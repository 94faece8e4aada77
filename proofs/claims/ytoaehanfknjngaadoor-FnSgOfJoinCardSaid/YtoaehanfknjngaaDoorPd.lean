import Derived.Test.YtoaehanfknjngaaDoorPc
import Derived.Test.YtoaehanfknjngaaDoorQb
namespace Go.Proofs.YtoaehanfknjngaaDoor.Pl
set_option linter.unusedVariables false
set_option linter.unusedSimpArgs false
open Go.RowKit Go.Proofs.YtoaehanfknjngaaDoor.L Go.Proofs.YtoaehanfknjngaaDoor.Q Go.Proofs.YtoaehanfknjngaaDoorW.PrintWords
open Go.Proofs.YtoaehanfknjngaaDoor.Com Go.Proofs.YtoaehanfknjngaaDoor.Tree Go.Proofs.YtoaehanfknjngaaDoor.Sb Go.Proofs.YtoaehanfknjngaaDoor.Dt Go.Proofs.YtoaehanfknjngaaDoor.Gt Go.Proofs.YtoaehanfknjngaaDoor.So Go.Proofs.YtoaehanfknjngaaDoor.Gd

/-- A row whose signature is told. -/
structure Row (l : List S30) : Prop where
  hd : dms l
  hc : cnts l ≤ 300
  hb : byss l ≤ 65536
  ht : ∀ v ∈ l, ∃ t, Gd (conv v) t ∧ Fine t

theorem tidyAll_ev (l : List S30) (hd : dms l) (hc : cnts l ≤ 300) (hb : byss l ≤ 65536) : ∃ r, Ev (fun k => spec_TidyAll.f k l) r := by
  obtain ⟨e, he, _⟩ := valid_ev (mkb (sgs l))
  have hlen := cnts_len l
  obtain ⟨r, hr, _⟩ := loop_ev (fun k i => spec_TidyAll.l0 k l l (l.length : Int) i) l (fun _ => True) e (by
      refine Ev.step (fun k => by rw [spec_TidyAll.l0]) ?_
      exact Ev.no (by omega) (Ev.bind (sigsOf_ev l hc hb hd) (Ev.bind he (Ev.now _)))) (by
    intro i hi
    have hm := rd_mem l i hi
    have h1 := cnts_mem hm
    have h2 := byss_mem hm
    obtain ⟨r, hr, _⟩ := tidyW_ev (rd_T30 l (i : Int)) (dms_mem hd hm) (by omega) (by omega) (tidy_ev 300 _ (by omega) (Nat.le_refl _) (dms_mem hd hm) (by omega))
    refine ⟨r, fun _ => trivial, fun r' hr' => ?_⟩
    refine Ev.step (fun k => by rw [spec_TidyAll.l0]) ?_
    refine Ev.yes (by omega) (Ev.yes (by omega) (Ev.yes (by omega) (Ev.bind hr ?_)))
    rw [wrap_of (by omega) (by omega)]
    cases r with
    | true => exact Ev.yes rfl hr'
    | false => exact Ev.no Bool.false_ne_true (Ev.now _))
  exact ⟨r, hr⟩

theorem small_ev (l : List S30) (hd : dms l) : ∃ r, Ev (fun k => laws_sgSmall.f k l) r ∧ (r = true → Row l) := by
  unfold laws_sgSmall.f
  have Jt : Ev (fun k => laws_sgSmall.j0 k l true) false := Ev.step (fun k => by rw [laws_sgSmall.j0]) (Ev.yes rfl (Ev.now _))
  by_cases h50 : (l.length : Int) > 50
  · exact ⟨false, Ev.yes h50 Jt, fun h => by cases h⟩
  obtain ⟨b, hb, hk⟩ := bounded_ev l
  cases b with
  | false => exact ⟨false, Ev.no h50 (Ev.bind hb Jt), fun h => by cases h⟩
  | true =>
    obtain ⟨hbs, hcs⟩ := hk rfl
    obtain ⟨e, he⟩ := tidyAll_ev l hd hcs hbs
    obtain ⟨r, hr, hkr⟩ := loop_ev (fun k i => laws_sgSmall.l0 k l l (l.length : Int) i) l (fun v => ∃ t, Gd (conv v) t ∧ Fine t) e (by
        refine Ev.step (fun k => by rw [laws_sgSmall.l0]) ?_
        exact Ev.no (by omega) (Ev.bind he (Ev.now _))) (by
      intro i hi
      have hm := rd_mem l i hi
      have h1 := cnts_mem hm
      have h2 := byss_mem hm
      have hdx := dms_mem hd hm
      obtain ⟨r, hr, hk⟩ := tidyW_ev (rd_T30 l (i : Int)) hdx (by omega) (by omega) (tidy_ev 300 _ (by omega) (Nat.le_refl _) hdx (by omega))
      obtain ⟨r2, hr2, hk2⟩ := keys_loop 300 (rd_T30 l (i : Int)) (by omega) (Nat.le_refl _) hdx (by omega)
      cases r with
      | false =>
        refine ⟨false, (fun h => by cases h), fun r' hr' => ?_⟩
        refine Ev.step (fun k => by rw [laws_sgSmall.l0]) ?_
        exact Ev.yes (by omega) (Ev.yes (by omega) (Ev.yes (by omega) (Ev.bind hr (Ev.no Bool.false_ne_true (Ev.now _)))))
      | true =>
        refine ⟨r2, fun h => ?_, fun r' hr' => ?_⟩
        · obtain ⟨hn, hs, hty⟩ := hk rfl
          obtain ⟨ts, ho, hf, hB, hl255⟩ := hs
          obtain ⟨t, o, k, e, g⟩ := (ty_has hty (hk2 h) hl255 (by omega)).1 hn
          have hts : ts = .more t .nil := by
            refine txts_inj ho (by simp [oks, o]) ?_
            have hB' : sg (rd_T30 l (i : Int)) = txts ts := hB
            rw [← hB', e]; simp [txts]
          rw [hts] at hf
          simp only [fitss, Bool.and_true] at hf
          exact ⟨t, g, o, k, hf, by rw [← e]; exact hl255⟩
        · refine Ev.step (fun k => by rw [laws_sgSmall.l0]) ?_
          refine Ev.yes (by omega) (Ev.yes (by omega) (Ev.yes (by omega) (Ev.bind hr (Ev.yes rfl (Ev.bind hr2 ?_)))))
          rw [wrap_of (by omega) (by omega)]
          cases r2 with
          | true => exact Ev.yes rfl hr'
          | false => exact Ev.no Bool.false_ne_true (Ev.now _))
    refine ⟨r, Ev.no h50 (Ev.bind hb ?_), fun h => ⟨hd, hcs, hbs, (hkr h).1⟩⟩
    exact Ev.step (g := fun k => laws_sgSmall.j0 k l (!true)) (f := fun k => laws_sgSmall.l0 k l l (l.length : Int) 0) (fun k => by rw [laws_sgSmall.j0]; rfl) hr

theorem types_of : ∀ l : List S30, (∀ v ∈ l, ∃ t, Gd (conv v) t ∧ Fine t) → ∃ ts : List T, l.length = ts.length ∧ (∀ t ∈ ts, Fine t) ∧ ∀ (j : Nat) (h1 : j < (convs l).length) (h2 : j < ts.length), Gd ((convs l)[j]'h1) (ts[j]'h2)
  | [], _ => ⟨[], rfl, by simp, fun j h1 => by simp [convs] at h1⟩
  | v :: l, h => by
    obtain ⟨t, g, f⟩ := h v (by simp)
    obtain ⟨ts, hl, hf, hg⟩ := types_of l (fun x hx => h x (by simp [hx]))
    refine ⟨t :: ts, by simp [hl], ?_, ?_⟩
    · intro x hx; rcases List.mem_cons.1 hx with rfl | hx
      · exact f
      · exact hf x hx
    · intro j h1 h2
      simp only [convs]
      cases j with
      | zero => exact g
      | succ j => exact hg j (by simpa [convs] using h1) (by simpa using h2)

theorem sgOf_ev (l : List S30) (h : Row l) : Ev (fun k => impl_SgOf.f k l) (mkb (sgs l), true) := by
  unfold impl_SgOf.f
  refine Ev.bind (valsIn_ev l h.hc) ?_
  obtain ⟨ts, hl, hf, hg⟩ := types_of l h.ht
  have hlen := cnts_len l
  have hc := h.hc
  have hcl : (convs l).length = l.length := by rw [convs_map, List.length_map]
  rw [if_pos ⟨ts, ⟨by omega, by omega, hg⟩, hf⟩, sigs_conv]
  exact Ev.now _

theorem dms_of : ∀ {l : List S30}, (∀ v ∈ l, dm v) → dms l
  | [], _ => by rw [dms]; trivial
  | u :: l, h => by rw [dms]; exact ⟨h u (by simp), dms_of (fun v hv => h v (by simp [hv]))⟩
theorem Row.parts {a b : List S30} (h : Row (a ++ b)) : Row a ∧ Row b := by
  have e1 := cnts_append a b
  have e2 := byss_append a b
  have hc := h.hc
  have hb := h.hb
  exact ⟨⟨dms_of (fun v hv => dms_mem h.hd (by simp [hv])), by omega, by omega, fun v hv => h.ht v (by simp [hv])⟩, ⟨dms_of (fun v hv => dms_mem h.hd (by simp [hv])), by omega, by omega, fun v hv => h.ht v (by simp [hv])⟩⟩

theorem FnSgOfJoin (l : List S30) (hd : dms l) (a1 : Int) (h0 : 0 ≤ a1) (h1 : a1 ≤ 255) : ∃ k, laws_FnSgOfJoin.f k l a1 = some true := by
  apply Ev.rounds
  unfold laws_FnSgOfJoin.f
  by_cases hbig : (l.length : Int) > 2147483647
  · exact Ev.yes hbig (Ev.now _)
  refine Ev.no hbig ?_
  obtain ⟨r, hr, hk⟩ := small_ev l hd
  refine Ev.bind hr ?_
  cases r with
  | false => exact Ev.no Bool.false_ne_true (Ev.now _)
  | true =>
  have hrow := hk rfl
  have hw1 : wrap64 ((l.length : Int) + 1) = (l.length : Int) + 1 := wrap_of (by omega) (by omega)
  have hw2 : wrap64 a1 = a1 := wrap_of (by omega) (by omega)
  simp only [hw1, hw2]
  have ht : Int.tmod a1 ((l.length : Int) + 1) = a1 % ((l.length : Int) + 1) := Int.tmod_eq_emod_of_nonneg h0
  have ht0 : 0 ≤ a1 % ((l.length : Int) + 1) := Int.emod_nonneg _ (by omega)
  have ht1 : a1 % ((l.length : Int) + 1) < (l.length : Int) + 1 := Int.emod_lt_of_pos _ (by omega)
  rw [ht]
  generalize a1 % ((l.length : Int) + 1) = i at ht0 ht1
  refine Ev.yes trivial (Ev.no (by omega) (Ev.yes ht0 (Ev.yes (by omega) ?_)))
  have hp := Row.parts (a := l.take i.toNat) (b := l.drop i.toNat) (by rw [List.take_append_drop]; exact hrow)
  have s1 := sgs_len (l.take i.toNat)
  have s2 := sgs_len (l.drop i.toNat)
  have c1 := hp.1.hc
  have c2 := hp.2.hc
  have b1 := hp.1.hb
  have b2 := hp.2.hb
  refine Ev.bind (sgOf_ev _ hp.1) (Ev.bind (sgOf_ev _ hp.2) (Ev.bind (sgOf_ev _ hrow) ?_))
  refine Ev.yes rfl (Ev.yes rfl (Ev.yes rfl (Ev.yes (by simp only [mkb_size]; omega) ?_)))
  refine Ev.is (beq_iff_eq.2 ?_)
  simp only [mkb_append]
  rw [← sgs_append, List.take_append_drop]
end Go.Proofs.YtoaehanfknjngaaDoor.Pl
