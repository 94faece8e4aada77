import Derived.Test.YtoaehanfknjngaaDoorQ7
import Derived.Test.YtoaehanfknjngaaDoorPa
namespace Go.Proofs.YtoaehanfknjngaaDoor.Pl
set_option linter.unusedVariables false
set_option linter.unusedSimpArgs false
open Go.RowKit Go.Proofs.YtoaehanfknjngaaDoor.L Go.Proofs.YtoaehanfknjngaaDoor.Q Go.Proofs.YtoaehanfknjngaaDoorW.PrintWords
open Go.Proofs.YtoaehanfknjngaaDoor.Com Go.Proofs.YtoaehanfknjngaaDoor.Tree Go.Proofs.YtoaehanfknjngaaDoor.Sb Go.Proofs.YtoaehanfknjngaaDoor.Dt

theorem range_some (a b : Int) : ∃ r, spec_inRange.f a b = some r := by
  unfold spec_inRange.f
  repeat' split
  all_goals exact ⟨_, rfl⟩
theorem word_some (a : Int) : ∃ r, spec_word.f a = some r := by
  unfold spec_word.f
  repeat' split
  all_goals exact ⟨_, rfl⟩
theorem valid_ev (s : ByteArray) : ∃ r, Ev (fun k => spec_Valid.f k s) r ∧ (r = true → Sig (B s)) := by
  unfold spec_Valid.f
  rcases Spec.types_ev s with ⟨ts, ho, hf, hB, hs, h⟩ | ⟨hn, h⟩
  · exact ⟨true, Ev.bind h (Ev.now _), fun _ => ⟨ts, ho, hf, hB, by rw [B_length]; exact hs⟩⟩
  · exact ⟨false, Ev.bind h (Ev.now _), fun h => by cases h⟩
theorem string_some (s : ByteArray) (h : s.size ≤ 65536) : ∃ r, Vs.spec_ValidString.f s = some r := by
  unfold Vs.spec_ValidString.f
  rw [if_pos (by omega)]
  exact ⟨_, rfl⟩

theorem path_ev (s : ByteArray) (h : s.size ≤ 65536) : ∃ r, Ev (fun k => spec_ValidPath.f k s) r := by
  have H : ∀ (m i : Nat), i + m = s.size + 1 → 1 ≤ i → ∃ r, Ev (fun k => spec_ValidPath.l0 k s (i : Int)) r := by
    intro m
    induction m with
    | zero =>
      intro i hi h1
      refine ⟨true, Ev.step (fun k => by rw [spec_ValidPath.l0]) ?_⟩
      exact Ev.no (by omega) (Ev.now _)
    | succ m im =>
      intro i hi h1
      by_cases hl : i < s.size
      · obtain ⟨r, hr⟩ := im (i + 1) (by omega) (by omega)
        have ei : ((i + 1 : Nat) : Int) = (i : Int) + 1 := by omega
        rw [ei] at hr
        by_cases hb : bt s (i : Int) = 47
        · by_cases hb2 : bt s ((i : Int) - 1) = 47
          · refine ⟨false, Ev.step (fun k => by rw [spec_ValidPath.l0]) ?_⟩
            refine Ev.yes (by omega) (Ev.yes (by omega) (Ev.yes hb ?_))
            rw [wrap_of (by omega) (by omega)]
            exact Ev.yes (by omega) (Ev.yes (by omega) (Ev.yes hb2 (Ev.now _)))
          · refine ⟨r, Ev.step (fun k => by rw [spec_ValidPath.l0]) ?_⟩
            refine Ev.yes (by omega) (Ev.yes (by omega) (Ev.yes hb ?_))
            rw [wrap_of (by omega) (by omega)]
            refine Ev.yes (by omega) (Ev.yes (by omega) (Ev.no hb2 ?_))
            rw [wrap_of (by omega) (by omega)]
            exact hr
        · obtain ⟨b, hw⟩ := word_some (bt s (i : Int))
          cases b with
          | true =>
            refine ⟨r, Ev.step (fun k => by rw [spec_ValidPath.l0]) ?_⟩
            refine Ev.yes (by omega) (Ev.yes (by omega) (Ev.no hb (Ev.call hw (Ev.yes rfl ?_))))
            rw [wrap_of (by omega) (by omega)]
            exact hr
          | false =>
            refine ⟨false, Ev.step (fun k => by rw [spec_ValidPath.l0]) ?_⟩
            exact Ev.yes (by omega) (Ev.yes (by omega) (Ev.no hb (Ev.call hw (Ev.no Bool.false_ne_true (Ev.now _)))))
      · refine ⟨true, Ev.step (fun k => by rw [spec_ValidPath.l0]) ?_⟩
        exact Ev.no (by omega) (Ev.now _)
  have J : ∀ b, ∃ r, Ev (fun k => spec_ValidPath.j0 k s b) r := by
    intro b
    cases b with
    | true => exact ⟨false, Ev.step (fun k => by rw [spec_ValidPath.j0]) (Ev.yes rfl (Ev.now _))⟩
    | false =>
      obtain ⟨r, hr⟩ := H s.size 1 (by omega) (by omega)
      have e1 : ((1 : Nat) : Int) = 1 := rfl
      rw [e1] at hr
      exact ⟨r, Ev.step (fun k => by rw [spec_ValidPath.j0]) (Ev.no Bool.false_ne_true hr)⟩
  unfold spec_ValidPath.f
  by_cases h1 : s.toList = ([47] : List UInt8)
  · exact ⟨true, Ev.yes h1 (Ev.now _)⟩
  · by_cases h2 : s.toList = ([] : List UInt8)
    · obtain ⟨r, hr⟩ := J true
      exact ⟨r, Ev.no h1 (Ev.yes h2 hr)⟩
    · have hp : 0 < s.size := by
        rw [← B_length]
        rw [B_toList] at h2
        exact List.length_pos_iff.2 h2
      by_cases h3 : bt s 0 = 47
      · obtain ⟨r, hr⟩ := J (bt s ((s.size : Int) - 1) == 47)
        refine ⟨r, Ev.no h1 (Ev.no h2 (Ev.yes (by omega) (Ev.yes h3 ?_)))⟩
        rw [wrap_of (by omega) (by omega)]
        exact Ev.yes (by omega) (Ev.yes (by omega) hr)
      · obtain ⟨r, hr⟩ := J true
        exact ⟨r, Ev.no h1 (Ev.no h2 (Ev.yes (by omega) (Ev.no h3 hr)))⟩

def FirstOK (s : ByteArray) : Prop := (∃ t, ok t = true ∧ fits t 32 32 32 = true ∧ B s = txt t) ∨ (∃ k t, ok (.d k t) = true ∧ fits (.d k t) 32 32 32 = true ∧ 97 :: B s = txt (.d k t))
theorem compl_ev (s : ByteArray) (hs : s.size ≤ 65537) : Ev (fun k => spec_complete.f k s) (Spec.clen (parse (2 * s.size + 1) (B s) 32 32 32)) := by
  unfold spec_complete.f
  exact Ev.bind ((Spec.comp_ev (2 * s.size + 1)).1 s 32 32 32 (by omega) (by omega) (by omega) (by omega) (by omega) (by omega) (by omega) (by omega)) (Ev.now _)

theorem first_ev (s : ByteArray) (hs : s.size ≤ 65536) : ∃ r : ByteArray × ByteArray × Bool, Ev (fun k => spec_First.f k s) r ∧ (r.2.2 = true → r.2.1.toList = ([] : List UInt8) → r.1.toList = s.toList → FirstOK s) := by
  have hlen := B_length s
  have J0 : ∃ r : ByteArray × ByteArray × Bool, Ev (fun k => spec_First.j0 k s false) r ∧ (r.2.2 = true → r.2.1.toList = ([] : List UInt8) → r.1.toList = s.toList → FirstOK s) := by
    have hc := compl_ev s (by omega)
    cases hp : parse (2 * s.size + 1) (B s) 32 32 32 with
    | none =>
      rw [hp] at hc
      refine ⟨((⟨#[]⟩ : ByteArray), (⟨#[]⟩ : ByteArray), false), Ev.step (fun k => by rw [spec_First.j0]) ?_, fun h => by cases h⟩
      refine Ev.no Bool.false_ne_true (Ev.bind hc ?_)
      exact Ev.yes (by simp [Spec.clen]) (Ev.now _)
    | some tu =>
      obtain ⟨t, u⟩ := tu
      rw [hp] at hc
      obtain ⟨ho, hf, he⟩ := (parse_is _).1 _ _ _ _ _ _ hp
      have hpos := txt_pos t
      have hle : (txt t).length ≤ s.size := by rw [← hlen, he]; simp
      have e : Spec.clen (some (t, u)) = ((txt t).length : Int) := rfl
      rw [e] at hc
      have g1 : ¬ ((txt t).length : Int) ≤ 0 := by omega
      have g2 : (0 : Int) ≤ ((txt t).length : Int) := by omega
      have g3 : ((txt t).length : Int) ≤ (s.size : Int) := by omega
      refine ⟨(s.extract 0 ((txt t).length : Int).toNat, s.extract ((txt t).length : Int).toNat s.size, true), Ev.step (fun k => by rw [spec_First.j0]) (Ev.no Bool.false_ne_true (Ev.bind hc ?_)), fun _ h1 h2 => ?_⟩
      · exact Ev.no g1 (Ev.yes g2 (Ev.yes g3 (Ev.now _)))
      simp only at h1
      rw [B_nil, B_from] at h1
      refine .inl ⟨t, ho, hf, ?_⟩
      rw [he, Int.toNat_natCast, List.drop_left'] at h1
      · rw [he, h1, List.append_nil]
      · rfl
  have J1 : 1 < s.size → bt s 0 = 123 → ∃ r : ByteArray × ByteArray × Bool, Ev (fun k => spec_First.j0 k s true) r ∧ (r.2.2 = true → r.2.1.toList = ([] : List UInt8) → r.1.toList = s.toList → FirstOK s) := by
    intro h1s h0
    have hz : ((⟨#[97]⟩ : ByteArray) ++ s).size = s.size + 1 := by simp [ByteArray.size_append]; rw [Nat.add_comm]; rfl
    have hB : B ((⟨#[97]⟩ : ByteArray) ++ s) = 97 :: B s := by rw [B_append]; rfl
    have hc := compl_ev ((⟨#[97]⟩ : ByteArray) ++ s) (by omega)
    rw [hB] at hc
    cases hp : parse (2 * ((⟨#[97]⟩ : ByteArray) ++ s).size + 1) (97 :: B s) 32 32 32 with
    | none =>
      rw [hp] at hc
      refine ⟨((⟨#[]⟩ : ByteArray), (⟨#[]⟩ : ByteArray), false), Ev.step (fun k => by rw [spec_First.j0]) ?_, fun h => by cases h⟩
      refine Ev.yes rfl (Ev.yes (by omega) (Ev.bind hc ?_))
      exact Ev.yes (by simp [Spec.clen, wrap64]) (Ev.now _)
    | some tu =>
      obtain ⟨t, u⟩ := tu
      rw [hp] at hc
      obtain ⟨ho, hf, he⟩ := (parse_is _).1 _ _ _ _ _ _ hp
      have hpos := txt_pos t
      have hle : (txt t).length + u.length = s.size + 1 := by rw [← hlen, ← List.length_append, ← he]; rfl
      have e : Spec.clen (some (t, u)) = ((txt t).length : Int) := rfl
      rw [e] at hc
      have hw : wrap64 (((txt t).length : Int) - 1) = ((txt t).length : Int) - 1 := wrap_of (by omega) (by omega)
      by_cases hone : (txt t).length = 1
      · refine ⟨((⟨#[]⟩ : ByteArray), (⟨#[]⟩ : ByteArray), false), Ev.step (fun k => by rw [spec_First.j0]) (Ev.yes rfl (Ev.yes (by omega) (Ev.bind hc ?_))), fun h => by cases h⟩
        simp only [hw]
        exact Ev.yes (by omega) (Ev.now _)
      · refine ⟨(s.extract 0 (((txt t).length : Int) - 1).toNat, s.extract (((txt t).length : Int) - 1).toNat s.size, true), Ev.step (fun k => by rw [spec_First.j0]) (Ev.yes rfl (Ev.yes (by omega) (Ev.bind hc ?_))), ?_⟩
        · simp only [hw]
          exact Ev.no (by omega) (Ev.yes (by omega) (Ev.yes (by omega) (Ev.now _)))
        · intro _ h1 h2
          simp only at h1
          rw [B_nil, B_from] at h1
          have hu : u = [] := by
            have := congrArg List.length h1
            rw [List.length_drop, B_length] at this
            simp at this
            exact List.eq_nil_of_length_eq_zero (by omega)
          subst hu
          rw [List.append_nil] at he
          obtain ⟨x, q, hxq⟩ : ∃ x q, B s = x :: q := by
            cases hb : B s with
            | nil => rw [hb] at hlen; simp at hlen; omega
            | cons x q => exact ⟨x, q, rfl⟩
          have hx : x = 123 := by
            have := (bt_drop (s := s) (i := 0) (c := x) (t := q) hxq).1
            exact (Spec.byte_eq x 123 (by omega)).1 (by rw [← this]; exact h0)
          cases t with
          | b c => simp [txt] at hone
          | d k t => exact .inr ⟨k, t, ho, hf, he⟩
          | a t =>
            simp only [txt, List.cons.injEq, true_and] at he
            simp only [ok] at ho
            obtain ⟨c, l, hcl, hh⟩ := txt_head t ho
            rw [hcl, hxq, hx] at he
            injection he with e1 e2
            exact absurd e1.symm (head_ne c hh).1
          | s ts => simp only [txt, List.cons.injEq] at he; exact absurd he.1 (by decide)
  unfold spec_First.f
  by_cases h1 : (s.size : Int) > 1
  · by_cases h0 : bt s 0 = 123
    · obtain ⟨r, hr, hk⟩ := J1 (by omega) h0
      refine ⟨r, Ev.yes h1 (Ev.yes (by omega) ?_), hk⟩
      rw [beq_iff_eq.2 h0]
      exact hr
    · obtain ⟨r, hr, hk⟩ := J0
      refine ⟨r, Ev.yes h1 (Ev.yes (by omega) ?_), hk⟩
      rw [beq_eq_false_iff_ne.2 h0]
      exact hr
  · obtain ⟨r, hr, hk⟩ := J0
    exact ⟨r, Ev.no h1 hr, hk⟩

inductive Ty : S30 → Prop
  | leaf (v : S30) (c : UInt8) : v.f0 = (c.toNat : Int) → basic c = true → v.f3 = [] → Ty v
  | arr (v : S30) : v.f0 = 97 → FirstOK v.f2 → (∀ x ∈ v.f3, sg x = B v.f2) → (∀ x ∈ v.f3, Ty x) → Ty v
  | rcd (v : S30) : v.f0 = 40 → v.f3 ≠ [] → (∀ x ∈ v.f3, x.f0 ≠ 123) → (∀ x ∈ v.f3, Ty x) → Ty v
  | ent (v a b : S30) (c : UInt8) : v.f0 = 123 → v.f3 = [a, b] → a.f0 = (c.toNat : Int) → basic c = true → b.f0 ≠ 123 → Ty b → Ty v
  | var (v x : S30) : v.f0 = 118 → v.f3 = [x] → x.f0 ≠ 123 → Sig (sg x) → Ty x → Ty v

theorem tidyW_ev (v : S30) (hd : dm v) (hb : bys v ≤ 65536) (hc : cnt v ≤ 300) (ih : ∃ r, Ev (fun k => spec_tidy.f k v.f0 v.f1 v.f2 v.f3) r ∧ (r = true → Ty v)) :
    ∃ r, Ev (fun k => TidyW (spec_tidy.f k) k v.f0 v.f1 v.f2 v.f3) r ∧ (r = true → v.f0 ≠ 123 ∧ Sig (sg v) ∧ Ty v) := by
  unfold TidyW
  by_cases h : v.f0 = 123
  · exact ⟨false, Ev.yes h (Ev.now _), fun h => by cases h⟩
  · obtain ⟨r, hr, hk⟩ := valid_ev (mkb (sg v))
    have hs := sigOf_ev 300 v hc (Nat.le_refl _) hd hb
    cases r with
    | false => exact ⟨false, Ev.no h (Ev.bind hs (Ev.bind hr (Ev.no Bool.false_ne_true (Ev.now _)))), fun h => by cases h⟩
    | true =>
      obtain ⟨r2, h2, k2⟩ := ih
      exact ⟨r2, Ev.no h (Ev.bind hs (Ev.bind hr (Ev.yes rfl (Ev.bind h2 (Ev.now _))))), fun he => ⟨h, hk rfl, k2 he⟩⟩

theorem tidy_ev : ∀ (N : Nat) (v : S30), cnt v ≤ N → N ≤ 300 → dm v → bys v ≤ 65536 → ∃ r, Ev (fun k => spec_tidy.f k v.f0 v.f1 v.f2 v.f3) r ∧ (r = true → Ty v) := by
  intro N
  induction N with
  | zero => intro v h; have := cnt_eq v; omega
  | succ N ih =>
    intro v hc hN hd hb
    have hcl := cnt_eq v
    have hbl := bys_eq v
    have hlen := cnts_len v.f3
    have hdd := hd
    rw [dm_eq] at hdd
    obtain ⟨c, hcc⟩ := dm_byte hd
    have kid : ∀ x ∈ v.f3, ∃ r, Ev (fun k => spec_tidy.f k x.f0 x.f1 x.f2 x.f3) r ∧ (r = true → Ty x) := fun x hx => ih x (by have := cnts_mem hx; omega) (by omega) (dms_mem hdd.2 hx) (by have := byss_mem hx; omega)
    have kidsg : ∀ x ∈ v.f3, Ev (fun k => spec_SigOf.f k x.f0 x.f1 x.f2 x.f3) (mkb (sg x)) := fun x hx => sigOf_ev 300 x (by have := cnts_mem hx; omega) (Nat.le_refl _) (dms_mem hdd.2 hx) (by have := byss_mem hx; omega)
    have one : ∀ (b : Bool), ∃ r, Ev (fun k => if b = true then some ((v.f3.length : Int) == 0) else some false) r ∧ (r = true → b = true ∧ v.f3 = []) := by
      intro b
      cases b with
      | false => exact ⟨false, Ev.no Bool.false_ne_true (Ev.now _), fun h => by cases h⟩
      | true =>
        refine ⟨_, Ev.yes rfl (Ev.now _), fun h => ?_⟩
        have := beq_iff_eq.1 h
        exact ⟨rfl, List.eq_nil_of_length_eq_zero (by omega)⟩
    -- the loop over a struct's or an entry's kids
    obtain ⟨r1, hr1, hk1⟩ := loop_ev (fun k i => spec_tidy.l1 k v.f3 (v.f3.length : Int) i) v.f3 (fun x => x.f0 ≠ 123 ∧ Ty x) true (by
        refine Ev.step (fun k => by rw [spec_tidy.l1]) ?_
        exact Ev.no (by omega) (Ev.now _)) (by
      intro i hi
      have hm := rd_mem v.f3 i hi
      by_cases h123 : (rd_T30 v.f3 (i : Int)).f0 = 123
      · refine ⟨false, (fun h => by cases h), fun r' hr' => ?_⟩
        refine Ev.step (fun k => by rw [spec_tidy.l1]) ?_
        exact Ev.yes (by omega) (Ev.yes (by omega) (Ev.yes (by omega) (Ev.yes h123 (Ev.now _))))
      · obtain ⟨r, hr, hk⟩ := kid _ hm
        refine ⟨r, fun h => ⟨h123, hk h⟩, fun r' hr' => ?_⟩
        refine Ev.step (fun k => by rw [spec_tidy.l1]) ?_
        refine Ev.yes (by omega) (Ev.yes (by omega) (Ev.yes (by omega) (Ev.no h123 (Ev.bind hr ?_))))
        rw [wrap_of (by omega) (by omega)]
        cases r with
        | true => exact Ev.yes rfl hr'
        | false => exact Ev.no Bool.false_ne_true (Ev.now _))
    -- the loop over an array's kids
    obtain ⟨r0, hr0, hk0⟩ := loop_ev (fun k i => spec_tidy.l0 k v.f3 (v.f3.length : Int) i v.f0 v.f1 v.f2 v.f3) v.f3 (fun x => sg x = B v.f2 ∧ Ty x) true (by
        refine Ev.step (fun k => by rw [spec_tidy.l0]) ?_
        exact Ev.no (by omega) (Ev.now _)) (by
      intro i hi
      have hm := rd_mem v.f3 i hi
      have hsx := kidsg _ hm
      by_cases hse : (mkb (sg (rd_T30 v.f3 (i : Int)))).toList = v.f2.toList
      · obtain ⟨r, hr, hk⟩ := kid _ hm
        refine ⟨r, fun h => ⟨by rw [B_toList, B_toList] at hse; exact hse, hk h⟩, fun r' hr' => ?_⟩
        refine Ev.step (fun k => by rw [spec_tidy.l0]) ?_
        refine Ev.yes (by omega) (Ev.yes (by omega) (Ev.yes (by omega) (Ev.bind hsx (Ev.yes hse (Ev.bind hr ?_)))))
        rw [wrap_of (by omega) (by omega)]
        cases r with
        | true => exact Ev.yes rfl hr'
        | false => exact Ev.no Bool.false_ne_true (Ev.now _)
      · refine ⟨false, (fun h => by cases h), fun r' hr' => ?_⟩
        refine Ev.step (fun k => by rw [spec_tidy.l0]) ?_
        exact Ev.yes (by omega) (Ev.yes (by omega) (Ev.yes (by omega) (Ev.bind hsx (Ev.no hse (Ev.now _))))))
    have J1t : Ev (fun k => spec_tidy.j1 k true v.f0 v.f1 v.f2 v.f3) false := Ev.step (fun k => by rw [spec_tidy.j1]) (Ev.yes rfl (Ev.now _))
    have J1f : Ev (fun k => spec_tidy.j1 k false v.f0 v.f1 v.f2 v.f3) r0 := Ev.step (fun k => by rw [spec_tidy.j1]) (Ev.no Bool.false_ne_true hr0)
    have J4t : Ev (fun k => spec_tidy.j4 k true v.f0 v.f1 v.f2 v.f3) false := Ev.step (fun k => by rw [spec_tidy.j4]) (Ev.yes rfl (Ev.now _))
    have J4f : Ev (fun k => spec_tidy.j4 k false v.f0 v.f1 v.f2 v.f3) r1 := Ev.step (fun k => by rw [spec_tidy.j4]) (Ev.no Bool.false_ne_true hr1)
    have J3t : v.f0 = 40 ∨ v.f0 = 123 → ∃ r, Ev (fun k => spec_tidy.j3 k v.f0 true v.f0 v.f1 v.f2 v.f3) r ∧ (r = true → Ty v) := by
      intro hk
      by_cases hz : (v.f3.length : Int) = 0
      · exact ⟨false, Ev.step (fun k => by rw [spec_tidy.j3]) (Ev.yes rfl (Ev.yes hz J4t)), fun h => by cases h⟩
      · by_cases h123 : v.f0 = 123
        · by_cases h2 : (v.f3.length : Int) = 2
          · obtain ⟨a, b, hab⟩ : ∃ a b, v.f3 = [a, b] := by
              have h2n : v.f3.length = 2 := by omega
              cases hh : v.f3 with
              | nil => rw [hh] at h2n; cases h2n
              | cons a q =>
                cases q with
                | nil => rw [hh] at h2n; cases h2n
                | cons b q =>
                  cases q with
                  | nil => exact ⟨a, b, rfl⟩
                  | cons d q => rw [hh] at h2n; simp at h2n
            have ha : rd_T30 v.f3 0 = a := by rw [hab]; rfl
            obtain ⟨ca, hca⟩ := dm_byte (dms_mem hdd.2 (show a ∈ v.f3 by rw [hab]; simp))
            have hba := Spec.basic_eq ca
            rw [← hca, ← ha] at hba
            cases hbc : basic ca with
            | false =>
              rw [hbc] at hba
              exact ⟨false, Ev.step (fun k => by rw [spec_tidy.j3]) (Ev.yes rfl (Ev.no hz (Ev.yes h123 (Ev.yes h2 (Ev.yes (by omega) (Ev.call hba J4t)))))), fun h => by cases h⟩
            | true =>
              rw [hbc] at hba
              refine ⟨r1, Ev.step (fun k => by rw [spec_tidy.j3]) (Ev.yes rfl (Ev.no hz (Ev.yes h123 (Ev.yes h2 (Ev.yes (by omega) (Ev.call hba J4f)))))), fun h => ?_⟩
              have hall := (hk1 h).1
              have hbm := hall b (by rw [hab]; simp)
              exact Ty.ent v a b ca h123 hab hca hbc hbm.1 hbm.2
          · exact ⟨false, Ev.step (fun k => by rw [spec_tidy.j3]) (Ev.yes rfl (Ev.no hz (Ev.yes h123 (Ev.no h2 J4t)))), fun h => by cases h⟩
        · refine ⟨r1, Ev.step (fun k => by rw [spec_tidy.j3]) (Ev.yes rfl (Ev.no hz (Ev.no h123 J4f))), fun h => ?_⟩
          refine Ty.rcd v (by omega) (fun he => by rw [he] at hz; simp at hz) (fun x hx => ((hk1 h).1 x hx).1) (fun x hx => ((hk1 h).1 x hx).2)
    have J3f : v.f0 ≠ 97 → ∃ r, Ev (fun k => spec_tidy.j3 k v.f0 false v.f0 v.f1 v.f2 v.f3) r ∧ (r = true → Ty v) := by
      intro hk
      by_cases h118 : v.f0 = 118
      · by_cases h1 : (v.f3.length : Int) = 1
        · obtain ⟨x, hx⟩ : ∃ x, v.f3 = [x] := List.length_eq_one_iff.1 (by omega)
          have ha : rd_T30 v.f3 0 = x := by rw [hx]; rfl
          have hxm : x ∈ v.f3 := by rw [hx]; simp
          obtain ⟨r, hr, hk⟩ := tidyW_ev x (dms_mem hdd.2 hxm) (by have := byss_mem hxm; omega) (by have := cnts_mem hxm; omega) (kid x hxm)
          refine ⟨r, Ev.step (fun k => by rw [spec_tidy.j3]) (Ev.no Bool.false_ne_true (Ev.yes h118 (Ev.yes h1 (Ev.yes (by omega) ?_)))), fun h => ?_⟩
          · rw [ha]
            exact Ev.bind hr (Ev.now _)
          · obtain ⟨k1, k2, k3⟩ := hk h
            exact Ty.var v x h118 hx k1 k2 k3
        · exact ⟨false, Ev.step (fun k => by rw [spec_tidy.j3]) (Ev.no Bool.false_ne_true (Ev.yes h118 (Ev.no h1 (Ev.now _)))), fun h => by cases h⟩
      · have hb := Spec.basic_eq c
        rw [← hcc] at hb
        obtain ⟨r, hr, hk⟩ := one (basic c)
        refine ⟨r, Ev.step (fun k => by rw [spec_tidy.j3]) (Ev.no Bool.false_ne_true (Ev.no h118 (Ev.call hb hr))), fun h => ?_⟩
        exact Ty.leaf v c hcc (hk h).1 (hk h).2
    have letter : ∀ n : Nat, n < 256 → v.f0 = (n : Int) → basic (UInt8.ofNat n) = true → v.f3 = [] → Ty v := by
      intro n hn he hb h3
      have : c = UInt8.ofNat n := (Spec.byte_eq c n hn).1 (by rw [← hcc, he])
      exact Ty.leaf v c hcc (by rw [this]; exact hb) h3
    have J0 : ∀ b : Bool, ∃ r, Ev (fun k => spec_tidy.j0 k b v.f0 v.f1 v.f2 v.f3) r ∧ (r = true → Ty v) := by
      intro b
      cases b with
      | true => exact ⟨false, Ev.step (fun k => by rw [spec_tidy.j0]) (Ev.yes rfl (Ev.now _)), fun h => by cases h⟩
      | false =>
        by_cases h115 : v.f0 = 115
        · obtain ⟨b1, hb1⟩ := string_some v.f2 (by omega)
          obtain ⟨r, hr, hk⟩ := one b1
          exact ⟨r, Ev.step (fun k => by rw [spec_tidy.j0]) (Ev.no Bool.false_ne_true (Ev.yes h115 (Ev.call hb1 hr))), fun h => letter 115 (by omega) h115 (by decide) (hk h).2⟩
        by_cases h111 : v.f0 = 111
        · obtain ⟨b1, hb1⟩ := path_ev v.f2 (by omega)
          obtain ⟨r, hr, hk⟩ := one b1
          exact ⟨r, Ev.step (fun k => by rw [spec_tidy.j0]) (Ev.no Bool.false_ne_true (Ev.no h115 (Ev.yes h111 (Ev.bind hb1 hr)))), fun h => letter 111 (by omega) h111 (by decide) (hk h).2⟩
        by_cases h103 : v.f0 = 103
        · obtain ⟨b1, hb1, _⟩ := valid_ev v.f2
          obtain ⟨r, hr, hk⟩ := one b1
          exact ⟨r, Ev.step (fun k => by rw [spec_tidy.j0]) (Ev.no Bool.false_ne_true (Ev.no h115 (Ev.no h111 (Ev.yes h103 (Ev.bind hb1 hr))))), fun h => letter 103 (by omega) h103 (by decide) (hk h).2⟩
        by_cases h97 : v.f0 = 97
        · obtain ⟨⟨f1, f2, f3⟩, hf, hk⟩ := first_ev v.f2 (by omega)
          simp only at hk
          cases f3 with
          | false => exact ⟨false, Ev.step (fun k => by rw [spec_tidy.j0]) (Ev.no Bool.false_ne_true (Ev.no h115 (Ev.no h111 (Ev.no h103 (Ev.yes h97 (Ev.bind hf (Ev.no Bool.false_ne_true J1t))))))), fun h => by cases h⟩
          | true =>
            by_cases h2 : f2.toList = ([] : List UInt8)
            · by_cases h1 : f1.toList = v.f2.toList
              · refine ⟨r0, Ev.step (fun k => by rw [spec_tidy.j0]) (Ev.no Bool.false_ne_true (Ev.no h115 (Ev.no h111 (Ev.no h103 (Ev.yes h97 (Ev.bind hf (Ev.yes rfl (Ev.yes h2 ?_)))))))), fun h => Ty.arr v h97 (hk rfl h2 h1) (fun x hx => ((hk0 h).1 x hx).1) (fun x hx => ((hk0 h).1 x hx).2)⟩
                rw [bne_eq_false_iff_eq.2 h1]
                exact J1f
              · refine ⟨false, Ev.step (fun k => by rw [spec_tidy.j0]) (Ev.no Bool.false_ne_true (Ev.no h115 (Ev.no h111 (Ev.no h103 (Ev.yes h97 (Ev.bind hf (Ev.yes rfl (Ev.yes h2 ?_)))))))), fun h => by cases h⟩
                rw [bne_iff_ne.2 h1]
                exact J1t
            · exact ⟨false, Ev.step (fun k => by rw [spec_tidy.j0]) (Ev.no Bool.false_ne_true (Ev.no h115 (Ev.no h111 (Ev.no h103 (Ev.yes h97 (Ev.bind hf (Ev.yes rfl (Ev.no h2 J1t)))))))), fun h => by cases h⟩
        by_cases h40 : v.f0 = 40
        · obtain ⟨r, hr, hk⟩ := J3t (.inl h40)
          refine ⟨r, Ev.step (fun k => by rw [spec_tidy.j0]) (Ev.no Bool.false_ne_true (Ev.no h115 (Ev.no h111 (Ev.no h103 (Ev.no h97 (Ev.yes h40 ?_)))))), hk⟩
          rw [beq_iff_eq.2 h40]
          exact hr
        by_cases h123 : v.f0 = 123
        · obtain ⟨r, hr, hk⟩ := J3t (.inr h123)
          refine ⟨r, Ev.step (fun k => by rw [spec_tidy.j0]) (Ev.no Bool.false_ne_true (Ev.no h115 (Ev.no h111 (Ev.no h103 (Ev.no h97 (Ev.no h40 ?_)))))), hk⟩
          rw [beq_iff_eq.2 h123]
          exact hr
        · obtain ⟨r, hr, hk⟩ := J3f h97
          refine ⟨r, Ev.step (fun k => by rw [spec_tidy.j0]) (Ev.no Bool.false_ne_true (Ev.no h115 (Ev.no h111 (Ev.no h103 (Ev.no h97 (Ev.no h40 ?_)))))), hk⟩
          rw [beq_eq_false_iff_ne.2 h123]
          exact hr
    obtain ⟨b, hr⟩ := range_some v.f0 v.f1
    cases b with
    | false =>
      obtain ⟨r, h, hk⟩ := J0 true
      exact ⟨r, Ev.step (fun k => by rw [spec_tidy.f]) (Ev.call hr (Ev.no Bool.false_ne_true h)), hk⟩
    | true =>
      by_cases h : v.f0 = 97 ∨ v.f0 = 115 ∨ v.f0 = 111 ∨ v.f0 = 103
      · obtain ⟨r, hj, hk⟩ := J0 false
        refine ⟨r, Ev.step (fun k => by rw [spec_tidy.f]) (Ev.call hr (Ev.yes rfl ?_)), hk⟩
        exact Ev.both (fun _ => hj) (fun h1 => Ev.both (fun _ => hj) (fun h2 => Ev.both (fun _ => hj) (fun h3 => Ev.both (fun _ => hj) (fun h4 => by omega))))
      · obtain ⟨r, hj, hk⟩ := J0 (v.f2.toList != ([] : List UInt8))
        refine ⟨r, Ev.step (fun k => by rw [spec_tidy.f]) (Ev.call hr (Ev.yes rfl ?_)), hk⟩
        exact Ev.no (by omega) (Ev.no (by omega) (Ev.no (by omega) (Ev.no (by omega) hj)))
end Go.Proofs.YtoaehanfknjngaaDoor.Pl
