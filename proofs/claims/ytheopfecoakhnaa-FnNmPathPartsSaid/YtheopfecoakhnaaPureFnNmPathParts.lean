import Derived.Test.YtheopfecoakhnaaQ2
import Derived.Test.YtheopfecoakhnaaNm
namespace Go.Proofs.Ytheopfecoakhnaa.Pure
set_option linter.unusedVariables false
set_option linter.unusedSimpArgs false
open Go.RowKit Go.Proofs.Ytheopfecoakhnaa.Ext Go.Proofs.Ytheopfecoakhnaa.Q Go.Proofs.YtheopfecoakhnaaW.PrintWords Go.Proofs.YtheopfecoakhnaaW.PrintLast
open Go.Proofs.Ytheopfecoakhnaa.Com Go.Proofs.Ytheopfecoakhnaa.Nm

theorem byte_eq (c : UInt8) (n : Nat) (h : n < 256) : ((c.toNat : Int) = (n : Int)) ↔ c = UInt8.ofNat n := by
  constructor
  · intro e
    apply UInt8.toNat_inj.1
    rw [UInt8.toNat_ofNat']
    omega
  · rintro rfl
    rw [UInt8.toNat_ofNat']
    omega

/-- The rest of a path; e: stands a slash ahead of it. -/
def vl : Bool → List UInt8 → Bool
  | e, [] => !e
  | e, c :: t => if c = 47 then !e && vl true t else mc c && vl false t

theorem el_app (acc : List UInt8) (c : UInt8) : (acc ++ [c]).all mc = (acc.all mc && mc c) := by simp

theorem parts_bad : ∀ (t acc : List UInt8), acc.all mc = false → (parts 47 acc t).all el = false
  | [], acc, h => by simp [parts, el, h]
  | c :: t, acc, h => by
    rw [parts]
    split
    · simp [el, h]
    · exact parts_bad t (acc ++ [c]) (by rw [el_app, h]; rfl)

theorem parts_vl : ∀ (t acc : List UInt8), acc.all mc = true → (parts 47 acc t).all el = vl acc.isEmpty t
  | [], acc, h => by simp only [parts, vl, el, h, List.all_cons, List.all_nil, Bool.and_true]
  | c :: t, acc, h => by
    rw [parts, vl]
    split
    · rw [List.all_cons, parts_vl t [] rfl]
      simp only [el, h, Bool.and_true]; rfl
    · cases hm : mc c with
      | false =>
        rw [parts_bad t (acc ++ [c]) (by rw [el_app, hm, Bool.and_false])]; rfl
      | true =>
        rw [parts_vl t (acc ++ [c]) (by rw [el_app, hm, h]; rfl), Bool.true_and]
        have : (acc ++ [c]).isEmpty = false := by cases acc <;> rfl
        rw [this]

theorem path_vl (t : List UInt8) : path (47 :: t) = (t.isEmpty || vl true t) := by
  rw [path, parts_vl t [] rfl]; rfl

theorem mc47 : mc 47 = false := by decide

theorem vl_slash : ∀ (u v : List UInt8) (e : Bool), vl e (u ++ 47 :: v) = (vl e u && vl true v)
  | [], v, e => by simp [vl]
  | c :: u, v, e => by
    rw [List.cons_append, vl, vl]
    split
    · rw [vl_slash u v true]; cases e <;> simp
    · rw [vl_slash u v false, Bool.and_assoc]

theorem vl_el : ∀ (l : List UInt8) (e : Bool), 47 ∉ l → vl e l = ((!e || !l.isEmpty) && l.all mc)
  | [], e, h => by simp [vl]
  | c :: l, e, h => by
    simp only [List.mem_cons, not_or] at h
    rw [vl, if_neg (fun hc => h.1 hc.symm), vl_el l false h.2]
    simp

/-- The reference's loop. -/
def vs' : Bool → List UInt8 → Bool
  | _, [] => true
  | e, c :: t => if c = 47 then !e && vs' true t else mc c && vs' false t
/-- Stands a slash at the end? -/
def fin : Bool → List UInt8 → Bool
  | e, [] => e
  | _, c :: t => fin (c == 47) t
theorem vl_vs : ∀ (l : List UInt8) (e : Bool), vl e l = (vs' e l && !fin e l)
  | [], e => by simp [vl, vs', fin]
  | c :: l, e => by
    rw [vl, vs', fin]
    by_cases h : c = 47
    · rw [if_pos h, if_pos h, vl_vs l true, Bool.and_assoc]
      have : (c == 47) = true := beq_iff_eq.2 h
      rw [this]
    · rw [if_neg h, if_neg h, vl_vs l false, Bool.and_assoc]
      have : (c == 47) = false := beq_eq_false_iff_ne.2 h
      rw [this]
theorem fin_last : ∀ (l : List UInt8) (e : Bool) (d : UInt8), fin e (l ++ [d]) = (d == 47)
  | [], e, d => rfl
  | c :: l, e, d => by rw [List.cons_append, fin]; exact fin_last l _ d

/-- A letter of names, as the laws spell it. -/
def wd (c : Int) : Bool := (decide (97 ≤ Go.bits .or .u8 c 32) && decide (Go.bits .or .u8 c 32 ≤ 122)) || ((decide (48 ≤ c) && decide (c ≤ 57)) || (c == 95))
theorem wd_mc (c : UInt8) : wd (c.toNat : Int) = mc c := by
  have H : ∀ n : Fin 256, wd (n.val : Int) = mc (UInt8.ofNat n.val) := by decide +kernel
  have := H ⟨c.toNat, c.toNat_lt⟩
  simpa using this
theorem word_is (c : UInt8) : spec_word.f (c.toNat : Int) = some (mc c) := by
  rw [← wd_mc]
  unfold spec_word.f wd
  repeat' split
  all_goals (simp only [Option.some.injEq]; rw [Bool.eq_iff_iff]; simp only [Bool.or_eq_true, Bool.and_eq_true, decide_eq_true_eq, beq_iff_eq, true_iff]; omega)

theorem vp_go (s : ByteArray) (hs : s.size ≤ 5000) : ∀ (l : List UInt8) (i : Nat) (p : UInt8), 1 ≤ i → (B s).drop i = l → (B s)[i - 1]? = some p →
    Ev (fun k => spec_ValidPath.l0 k s (i : Int)) (vs' (p == 47) l)
  | [], i, p, h1, h, hp => by
    refine Ev.step (fun k => by simp only [spec_ValidPath.l0]; rfl) ?_
    have := drop_end h
    exact Ev.no (by omega) (Ev.now _)
  | c :: t, i, p, h1, h, hp => by
    obtain ⟨hb, hl, hd⟩ := bt_drop h
    have hw : wrap64 ((i : Int) + 1) = ((i + 1 : Nat) : Int) := by rw [wrap_of (by omega) (by omega)]; omega
    have hw1 : wrap64 ((i : Int) - 1) = ((i - 1 : Nat) : Int) := by rw [wrap_of (by omega) (by omega)]; omega
    have hpb : bt s ((i - 1 : Nat) : Int) = (p.toNat : Int) := by
      have hl' : i - 1 < (B s).length := by rw [B_length]; omega
      rw [bt_get s (i - 1) hl']
      rw [List.getElem?_eq_getElem hl'] at hp
      rw [Option.some.inj hp]
    have hc : (B s)[i]? = some c := by
      have hl' : i < (B s).length := by rw [B_length]; exact hl
      rw [List.drop_eq_getElem_cons hl'] at h
      injection h with h9 _
      rw [List.getElem?_eq_getElem hl', h9]
    have ih := vp_go s hs t (i + 1) c (by omega) hd (by simpa using hc)
    refine Ev.step (fun k => by simp only [spec_ValidPath.l0]; rfl) ?_
    rw [hb, hw, hw1, hpb, vs']
    refine Ev.yes (by omega) (Ev.yes (by omega) ?_)
    by_cases h47 : c = 47
    · rw [if_pos h47]
      have e : (c == 47) = true := beq_iff_eq.2 h47
      rw [e] at ih
      refine Ev.yes ((byte_eq c 47 (by omega)).2 h47) (Ev.yes (by omega) (Ev.yes (by omega) ?_))
      by_cases hp47 : p = 47
      · have e2 : (p == 47) = true := beq_iff_eq.2 hp47
        rw [e2]
        exact Ev.yes ((byte_eq p 47 (by omega)).2 hp47) (Ev.now _)
      · have e2 : (p == 47) = false := beq_eq_false_iff_ne.2 hp47
        rw [e2]
        exact Ev.no (fun h => hp47 ((byte_eq p 47 (by omega)).1 h)) ih
    · rw [if_neg h47]
      have e : (c == 47) = false := beq_eq_false_iff_ne.2 h47
      rw [e] at ih
      refine Ev.no (fun h => h47 ((byte_eq c 47 (by omega)).1 h)) (Ev.call (word_is c) ?_)
      cases hm : mc c with
      | true => exact Ev.yes rfl ih
      | false => exact Ev.no (by simp) (Ev.now _)

/-- What the reference takes for a path is "/" or a slash and a rest of a path. -/
theorem vp_ev (s : ByteArray) (hs : s.size ≤ 5000) : ∃ b, Ev (fun k => spec_ValidPath.f k s) b ∧ (b = true → B s = [47] ∨ ∃ t, B s = 47 :: t ∧ vl true t = true) := by
  unfold spec_ValidPath.f
  by_cases h1 : s.toList = ([47] : List UInt8)
  · exact ⟨true, Ev.yes h1 (Ev.now _), fun _ => .inl (by rw [← B_toList]; exact h1)⟩
  have bad : Ev (fun k => spec_ValidPath.j0 k s true) false := by
    refine Ev.step (fun k => by simp only [spec_ValidPath.j0]; rfl) ?_
    exact Ev.yes trivial (Ev.now _)
  cases hB : B s with
  | nil => exact ⟨false, Ev.no h1 (Ev.yes (by rw [B_toList]; exact hB) bad), fun h => by simp at h⟩
  | cons c t =>
    have hz : s.size = t.length + 1 := by rw [← B_length, hB]; rfl
    have h0 : bt s 0 = (c.toNat : Int) := (bt_drop (s := s) (i := 0) (c := c) (t := t) hB).1
    have hw : wrap64 ((s.size : Int) - 1) = ((t.length : Nat) : Int) := by rw [wrap_of (by omega) (by omega)]; omega
    have hne : ¬ s.toList = ([] : List UInt8) := by rw [B_toList, hB]; simp
    by_cases h47 : c = 47
    · subst h47
      have go : ∀ b, Ev (fun k => spec_ValidPath.j0 k s (bt s (t.length : Int) == 47)) b → Ev (fun k => if s.toList = ([47] : List UInt8) then (some true) else (if s.toList = ([] : List UInt8) then (spec_ValidPath.j0 k s true) else (if 0 < (s.size : Int) then (if (bt s 0) = 47 then (if 0 ≤ (wrap64 ((s.size : Int) - 1)) then (if (wrap64 ((s.size : Int) - 1)) < (s.size : Int) then (spec_ValidPath.j0 k s ((bt s (wrap64 ((s.size : Int) - 1))) == 47)) else (none)) else (none)) else (spec_ValidPath.j0 k s true)) else (none)))) b := by
        intro b h
        rw [hw]
        exact Ev.no h1 (Ev.no hne (Ev.yes (by omega) (Ev.yes (by rw [h0]; rfl) (Ev.yes (by omega) (Ev.yes (by omega) h)))))
      cases hl : (bt s (t.length : Int) == 47) with
      | true =>
        rw [hl] at go
        exact ⟨false, go _ bad, fun h => by simp at h⟩
      | false =>
        rw [hl] at go
        have hv := vp_go s hs t 1 47 (by omega) (by rw [hB]; rfl) (by rw [hB]; rfl)
        refine ⟨vs' true t, go _ ?_, fun h => .inr ⟨t, rfl, ?_⟩⟩
        · refine Ev.step (fun k => by simp only [spec_ValidPath.j0]; rfl) ?_
          exact Ev.no (by simp) hv
        · rw [vl_vs, h, Bool.true_and]
          have hne2 : t ≠ [] := by
            rintro rfl
            apply h1
            rw [B_toList, hB]
          obtain ⟨u, d, rfl⟩ : ∃ u d, t = u ++ [d] := ⟨t.dropLast, t.getLast hne2, (List.dropLast_concat_getLast hne2).symm⟩
          rw [fin_last]
          have hg : bt s ((u ++ [d]).length : Int) = (d.toNat : Int) := by
            have h9 : (B s).drop (u ++ [d]).length = d :: [] := by
              rw [hB, List.length_append]
              show (u ++ [d]).drop u.length = [d]
              rw [List.drop_left]
            exact (bt_drop (s := s) (i := (u ++ [d]).length) h9).1
          rw [hg] at hl
          have : ¬ d = 47 := by
            rintro rfl
            simp at hl
          simp [this]
    · refine ⟨false, ?_, fun h => by simp at h⟩
      refine Ev.no h1 (Ev.no hne (Ev.yes (by omega) (Ev.no ?_ bad)))
      rw [h0]
      intro h
      exact h47 ((byte_eq c 47 (by omega)).1 h)

theorem nm_ev (s : ByteArray) (hs : s.size ≤ 4294967296) : Ev (fun k => impl_NmPath.f k s) (path (B s)) := by
  unfold impl_NmPath.f
  exact Ev.bind (path_ev s hs) (Ev.now _)

/-- Each beginning ahead of a slash is a path. -/
theorem begins (a : ByteArray) (hs : a.size ≤ 5000) (t : List UInt8) (hB : B a = 47 :: t) (hv : vl true t = true ∨ t = []) : ∀ (n i : Nat), a.size - i ≤ n → 1 ≤ i → i ≤ a.size →
    Ev (fun k => laws_FnNmPathParts.l1 k a (i : Int)) true := by
  intro n
  induction n with
  | zero =>
    intro i h1 h2 h3
    refine Ev.step (fun k => by simp only [laws_FnNmPathParts.l1]; rfl) ?_
    exact Ev.no (by omega) (Ev.now _)
  | succ n ih =>
    intro i h1 h2 h3
    by_cases hi : i = a.size
    · exact ih i (by omega) h2 h3
    have hw : wrap64 ((i : Int) + 1) = ((i + 1 : Nat) : Int) := by rw [wrap_of (by omega) (by omega)]; omega
    have e1 : ((i : Int)).toNat = i := by omega
    have hil : i < (B a).length := by rw [B_length]; omega
    have hb : bt a (i : Int) = ((B a)[i].toNat : Int) := bt_get a i hil
    have ih' := ih (i + 1) (by omega) (by omega) (by omega)
    refine Ev.step (fun k => by simp only [laws_FnNmPathParts.l1]; rfl) ?_
    rw [hw, e1]
    refine Ev.yes (by omega) (Ev.yes (by omega) (Ev.both (fun h47 => ?_) (fun _ => ih')))
    refine Ev.yes (by omega) (Ev.bind (nm_ev (a.extract 0 i) (by rw [← B_length, B_to, List.length_take, B_length]; omega)) ?_)
    refine Ev.yes ?_ ih'
    have hc : (B a)[i] = 47 := by
      rw [hb] at h47
      exact (byte_eq _ 47 (by omega)).1 h47
    have hsp : B a = (B a).take i ++ 47 :: (B a).drop (i + 1) := by
      have := List.drop_eq_getElem_cons hil
      rw [hc] at this
      rw [← this, List.take_append_drop]
    obtain ⟨j, rfl⟩ : ∃ j, i = j + 1 := ⟨i - 1, by omega⟩
    rw [B_to]
    have ht : (B a).take (j + 1) = 47 :: t.take j := by rw [hB]; rfl
    rw [ht] at hsp ⊢
    rw [hB] at hsp
    have ht2 : t = t.take j ++ 47 :: (47 :: t).drop (j + 1 + 1) := by
      have h9 := hsp
      rw [List.cons_append] at h9
      exact (List.cons.inj h9).2
    rw [path_vl]
    rcases hv with hv | rfl
    · rw [ht2, vl_slash, Bool.and_eq_true] at hv
      rw [hv.1, Bool.or_true]
    · simp at ht2

theorem loop_ev (a e : ByteArray) (hsum : a.size + e.size ≤ 4096)
    (H : 47 ∉ B e → Ev (fun k => if a.toList = ([47] : List UInt8) then laws_FnNmPathParts.j3 k a (el (B e)) (a ++ e) else laws_FnNmPathParts.j3 k a (el (B e)) ((a ++ (⟨#[47]⟩ : ByteArray)) ++ e)) true) : ∀ (l : List UInt8) (i : Nat) (x5 : Bool), (B e).drop i = l → (el (B e) = (x5 && l.all mc)) → (47 ∉ l → 47 ∉ B e) → i ≤ e.size →
    Ev (fun k => laws_FnNmPathParts.l0 k a e x5 (i : Int)) true
  | [], i, x5, h, hx, hn, hi => by
    have hl := drop_end h
    simp only [List.all_nil, Bool.and_true] at hx
    subst hx
    refine Ev.step (fun k => by simp only [laws_FnNmPathParts.l0]; rfl) ?_
    refine Ev.no (by omega) (Ev.yes (by omega) (Ev.yes ?_ ?_))
    · rw [ByteArray.size_append]
      show a.size + 1 + e.size ≤ _
      omega
    · have h9 := H (hn (by simp))
      by_cases h47 : a.toList = ([47] : List UInt8)
      · refine Ev.yes h47 (Ev.yes (by omega) ?_)
        exact Ev.congr (fun k => (if_pos h47).symm) h9
      · refine Ev.no h47 ?_
        exact Ev.congr (fun k => (if_neg h47).symm) h9
  | c :: l, i, x5, h, hx, hn, hi => by
    obtain ⟨hb, hl, hd⟩ := bt_drop h
    have hw : wrap64 ((i : Int) + 1) = ((i + 1 : Nat) : Int) := by rw [wrap_of (by omega) (by omega)]; omega
    refine Ev.step (fun k => by simp only [laws_FnNmPathParts.l0]; rfl) ?_
    rw [hb, hw]
    refine Ev.yes (by omega) (Ev.yes (by omega) (Ev.both (fun _ => Ev.now _) (fun h47 => ?_)))
    have h47' : c ≠ 47 := fun hc => h47 ((byte_eq c 47 (by omega)).2 hc)
    have hn' : 47 ∉ l → 47 ∉ B e := fun hl47 => hn (by simp only [List.mem_cons, not_or]; exact ⟨fun hc => h47' hc.symm, hl47⟩)
    have ih := fun y hy => loop_ev a e hsum H l (i + 1) y hd hy hn' (by omega)
    cases x5 with
    | false =>
      refine Ev.no (by simp) (ih false ?_)
      rw [hx]; simp
    | true =>
      rw [List.all_cons, Bool.true_and] at hx
      have key : ∀ y, y = mc c → Ev (fun k => laws_FnNmPathParts.l0 k a e y ((i + 1 : Nat) : Int)) true := by
        rintro y rfl
        exact ih _ hx
      have hwm := wd_mc c
      unfold wd at hwm
      refine Ev.yes rfl (Ev.both (fun q1 => Ev.both (fun q2 => key true ?_) (fun q2 => Ev.both (fun q3 => Ev.both (fun q4 => key true ?_) (fun q4 => key _ ?_)) (fun q3 => key _ ?_))) (fun q1 => Ev.both (fun q3 => Ev.both (fun q4 => key true ?_) (fun q4 => key _ ?_)) (fun q3 => key _ ?_)))
      all_goals (rw [← hwm, Bool.eq_iff_iff]; simp only [Bool.or_eq_true, Bool.and_eq_true, decide_eq_true_eq, beq_iff_eq, true_iff]; omega)

theorem FnNmPathParts : laws_FnNmPathParts.Pure := by
  intro a0 a1 hs0 hs1
  suffices h : Ev (fun k => laws_FnNmPathParts.f k a0 a1) true by
    obtain ⟨K, h⟩ := h
    exact ⟨K, h K (Nat.le_refl _)⟩
  have out0 : Ev (fun k => laws_FnNmPathParts.j0 k a0 a1 true) true := by
    refine Ev.step (fun k => by simp only [laws_FnNmPathParts.j0]; rfl) ?_
    exact Ev.yes trivial (Ev.now _)
  have out1 : Ev (fun k => laws_FnNmPathParts.j1 k a0 a1 true) true := by
    refine Ev.step (fun k => by simp only [laws_FnNmPathParts.j1]; rfl) ?_
    exact Ev.yes trivial (Ev.now _)
  unfold laws_FnNmPathParts.f
  refine Ev.both (fun _ => out0) (fun hn0 => ?_)
  by_cases hn1 : (a1.size : Int) > 2147483647
  · rw [decide_eq_true hn1]; exact out0
  rw [decide_eq_false hn1]
  have hw : wrap64 ((a0.size : Int) + (a1.size : Int)) = (a0.size : Int) + (a1.size : Int) := wrap_of (by omega) (by omega)
  refine Ev.step (fun k => by simp only [laws_FnNmPathParts.j0]; rfl) ?_
  rw [hw]
  clear hw
  refine Ev.no (by simp) (Ev.both (fun _ => out1) (fun hsum => ?_))
  obtain ⟨b, hV, hT⟩ := vp_ev a0 (by omega)
  refine Ev.bind hV ?_
  cases b with
  | false => exact out1
  | true =>
    have hp := hT rfl
    obtain ⟨t, hB, hv⟩ : ∃ t, B a0 = 47 :: t ∧ (vl true t = true ∨ t = []) := by
      rcases hp with h | ⟨t, h, hv⟩
      · exact ⟨[], h, .inr rfl⟩
      · exact ⟨t, h, .inl hv⟩
    have hpath : path (B a0) = true := by
      rw [hB, path_vl]
      rcases hv with hv | rfl
      · rw [hv, Bool.or_true]
      · rfl
    have hz : a0.size = t.length + 1 := by rw [← B_length, hB]; rfl
    have hN := nm_ev a0 (by omega)
    rw [hpath] at hN
    have last : Ev (fun k => laws_FnNmPathParts.j4 k a0 false) true := by
      refine Ev.step (fun k => by simp only [laws_FnNmPathParts.j4]; rfl) ?_
      exact Ev.no (by simp) (begins a0 (by omega) t hB hv a0.size 1 (by omega) (by omega) (by omega))
    refine Ev.step (fun k => by simp only [laws_FnNmPathParts.j1]; rfl) ?_
    refine Ev.no (by simp) ?_
    refine loop_ev a0 a1 (by omega) (fun hn47 => ?_) (B a1) 0 _ rfl ?_ (fun h => h) (by omega)
    · -- the path with the element behind it
      by_cases hroot : a0.toList = ([47] : List UInt8)
      · refine Ev.yes hroot ?_
        have ht : t = [] := by
          rw [B_toList, hB] at hroot
          exact (List.cons.inj hroot).2
        subst ht
        have hBs : B (a0 ++ a1) = 47 :: B a1 := by rw [B_append, hB]; rfl
        have hN2 := nm_ev (a0 ++ a1) (by rw [ByteArray.size_append]; omega)
        rw [hBs, path_vl, vl_el (B a1) true hn47] at hN2
        refine Ev.step (fun k => by simp only [laws_FnNmPathParts.j3]; rfl) ?_
        refine Ev.bind hN (Ev.yes rfl (Ev.bind hN2 ?_))
        rw [B_toList, hBs]
        cases he : B a1 with
        | nil =>
          refine Ev.yes (by simp [el]) ?_
          have : (([47] : List UInt8) != [47]) = false := by decide
          rw [this]; exact last
        | cons c l =>
          refine Ev.no ?_ last
          simp [el]
      · refine Ev.no hroot ?_
        have hv' : vl true t = true := by
          rcases hv with hv | rfl
          · exact hv
          · exact absurd (by rw [B_toList, hB]) hroot
        have hBs : B ((a0 ++ (⟨#[47]⟩ : ByteArray)) ++ a1) = 47 :: (t ++ 47 :: B a1) := by rw [B_append, B_append, hB]; simp [B]
        have hN2 := nm_ev ((a0 ++ (⟨#[47]⟩ : ByteArray)) ++ a1) (by
          rw [ByteArray.size_append, ByteArray.size_append]
          show a0.size + 1 + a1.size ≤ _
          omega)
        rw [hBs, path_vl, vl_slash, hv', vl_el (B a1) true hn47] at hN2
        refine Ev.step (fun k => by simp only [laws_FnNmPathParts.j3]; rfl) ?_
        refine Ev.bind hN (Ev.yes rfl (Ev.bind hN2 (Ev.no ?_ last)))
        simp [el]
    · rw [B_toList]
      cases B a1 with
      | nil => rfl
      | cons c l => simp [el]

end Go.Proofs.Ytheopfecoakhnaa.Pure
