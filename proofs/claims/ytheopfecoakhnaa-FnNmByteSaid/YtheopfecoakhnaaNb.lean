/-
Names again: what the checks and their references come to on lists of bytes, and what one byte's change does.
-/
import Derived.Test.YtheopfecoakhnaaY3
import Derived.Test.YtheopfecoakhnaaNm
namespace Go.Proofs.Ytheopfecoakhnaa.Nb
set_option linter.unusedVariables false
set_option linter.unusedSimpArgs false
open Go.RowKit Go.Proofs.Ytheopfecoakhnaa.Ext Go.Proofs.Ytheopfecoakhnaa.Clo Go.Proofs.Ytheopfecoakhnaa.Y Go.Proofs.Ytheopfecoakhnaa.L Go.Proofs.YtheopfecoakhnaaW.PrintWords Go.Proofs.YtheopfecoakhnaaW.PrintLast
open Go.Proofs.Ytheopfecoakhnaa.Com Go.Proofs.Ytheopfecoakhnaa.Nm

theorem byte_eq (c : UInt8) (n : Nat) (h : n < 256) : ((c.toNat : Int) = (n : Int)) ↔ c = UInt8.ofNat n := by
  constructor
  · intro e
    apply UInt8.toNat_inj.1
    rw [UInt8.toNat_ofNat']
    omega
  · rintro rfl
    rw [UInt8.toNat_ofNat']
    omega

/-- The rest of a path; e: stands a slash ahead of it. -/
def vl : Bool → List UInt8 → Bool
  | e, [] => !e
  | e, c :: t => if c = 47 then !e && vl true t else mc c && vl false t

theorem el_app (acc : List UInt8) (c : UInt8) : (acc ++ [c]).all mc = (acc.all mc && mc c) := by simp

theorem parts_bad : ∀ (t acc : List UInt8), acc.all mc = false → (parts 47 acc t).all el = false
  | [], acc, h => by simp [parts, el, h]
  | c :: t, acc, h => by
    rw [parts]
    split
    · simp [el, h]
    · exact parts_bad t (acc ++ [c]) (by rw [el_app, h]; rfl)

theorem parts_vl : ∀ (t acc : List UInt8), acc.all mc = true → (parts 47 acc t).all el = vl acc.isEmpty t
  | [], acc, h => by simp only [parts, vl, el, h, List.all_cons, List.all_nil, Bool.and_true]
  | c :: t, acc, h => by
    rw [parts, vl]
    split
    · rw [List.all_cons, parts_vl t [] rfl]
      simp only [el, h, Bool.and_true]; rfl
    · cases hm : mc c with
      | false =>
        rw [parts_bad t (acc ++ [c]) (by rw [el_app, hm, Bool.and_false])]; rfl
      | true =>
        rw [parts_vl t (acc ++ [c]) (by rw [el_app, hm, h]; rfl), Bool.true_and]
        have : (acc ++ [c]).isEmpty = false := by cases acc <;> rfl
        rw [this]

theorem path_vl (t : List UInt8) : path (47 :: t) = (t.isEmpty || vl true t) := by
  rw [path, parts_vl t [] rfl]; rfl

theorem mc47 : mc 47 = false := by decide

theorem vl_slash : ∀ (u v : List UInt8) (e : Bool), vl e (u ++ 47 :: v) = (vl e u && vl true v)
  | [], v, e => by simp [vl]
  | c :: u, v, e => by
    rw [List.cons_append, vl, vl]
    split
    · rw [vl_slash u v true]; cases e <;> simp
    · rw [vl_slash u v false, Bool.and_assoc]

theorem vl_el : ∀ (l : List UInt8) (e : Bool), 47 ∉ l → vl e l = ((!e || !l.isEmpty) && l.all mc)
  | [], e, h => by simp [vl]
  | c :: l, e, h => by
    simp only [List.mem_cons, not_or] at h
    rw [vl, if_neg (fun hc => h.1 hc.symm), vl_el l false h.2]
    simp

/-- The reference's loop. -/
def vs' : Bool → List UInt8 → Bool
  | _, [] => true
  | e, c :: t => if c = 47 then !e && vs' true t else mc c && vs' false t
/-- Stands a slash at the end? -/
def fin : Bool → List UInt8 → Bool
  | e, [] => e
  | _, c :: t => fin (c == 47) t
theorem vl_vs : ∀ (l : List UInt8) (e : Bool), vl e l = (vs' e l && !fin e l)
  | [], e => by simp [vl, vs', fin]
  | c :: l, e => by
    rw [vl, vs', fin]
    by_cases h : c = 47
    · rw [if_pos h, if_pos h, vl_vs l true, Bool.and_assoc]
      have : (c == 47) = true := beq_iff_eq.2 h
      rw [this]
    · rw [if_neg h, if_neg h, vl_vs l false, Bool.and_assoc]
      have : (c == 47) = false := beq_eq_false_iff_ne.2 h
      rw [this]
theorem fin_last : ∀ (l : List UInt8) (e : Bool) (d : UInt8), fin e (l ++ [d]) = (d == 47)
  | [], e, d => rfl
  | c :: l, e, d => by rw [List.cons_append, fin]; exact fin_last l _ d

/-- A letter of names, as the laws spell it. -/
def wd (c : Int) : Bool := (decide (97 ≤ Go.bits .or .u8 c 32) && decide (Go.bits .or .u8 c 32 ≤ 122)) || ((decide (48 ≤ c) && decide (c ≤ 57)) || (c == 95))
theorem wd_mc (c : UInt8) : wd (c.toNat : Int) = mc c := by
  have H : ∀ n : Fin 256, wd (n.val : Int) = mc (UInt8.ofNat n.val) := by decide +kernel
  have := H ⟨c.toNat, c.toNat_lt⟩
  simpa using this
theorem word_is (c : UInt8) : spec_word.f (c.toNat : Int) = some (mc c) := by
  rw [← wd_mc]
  unfold spec_word.f wd
  repeat' split
  all_goals (simp only [Option.some.injEq]; rw [Bool.eq_iff_iff]; simp only [Bool.or_eq_true, Bool.and_eq_true, decide_eq_true_eq, beq_iff_eq, true_iff]; omega)

theorem vp_go (s : ByteArray) (hs : s.size ≤ 5000) : ∀ (l : List UInt8) (i : Nat) (p : UInt8), 1 ≤ i → (B s).drop i = l → (B s)[i - 1]? = some p →
    Ev (fun k => spec_ValidPath.l0 k s (i : Int)) (vs' (p == 47) l)
  | [], i, p, h1, h, hp => by
    refine Ev.step (fun k => by simp only [spec_ValidPath.l0]; rfl) ?_
    have := drop_end h
    exact Ev.no (by omega) (Ev.now _)
  | c :: t, i, p, h1, h, hp => by
    obtain ⟨hb, hl, hd⟩ := bt_drop h
    have hw : wrap64 ((i : Int) + 1) = ((i + 1 : Nat) : Int) := by rw [wrap_of (by omega) (by omega)]; omega
    have hw1 : wrap64 ((i : Int) - 1) = ((i - 1 : Nat) : Int) := by rw [wrap_of (by omega) (by omega)]; omega
    have hpb : bt s ((i - 1 : Nat) : Int) = (p.toNat : Int) := by
      have hl' : i - 1 < (B s).length := by rw [B_length]; omega
      rw [bt_get s (i - 1) hl']
      rw [List.getElem?_eq_getElem hl'] at hp
      rw [Option.some.inj hp]
    have hc : (B s)[i]? = some c := by
      have hl' : i < (B s).length := by rw [B_length]; exact hl
      rw [List.drop_eq_getElem_cons hl'] at h
      injection h with h9 _
      rw [List.getElem?_eq_getElem hl', h9]
    have ih := vp_go s hs t (i + 1) c (by omega) hd (by simpa using hc)
    refine Ev.step (fun k => by simp only [spec_ValidPath.l0]; rfl) ?_
    rw [hb, hw, hw1, hpb, vs']
    refine Ev.yes (by omega) (Ev.yes (by omega) ?_)
    by_cases h47 : c = 47
    · rw [if_pos h47]
      have e : (c == 47) = true := beq_iff_eq.2 h47
      rw [e] at ih
      refine Ev.yes ((byte_eq c 47 (by omega)).2 h47) (Ev.yes (by omega) (Ev.yes (by omega) ?_))
      by_cases hp47 : p = 47
      · have e2 : (p == 47) = true := beq_iff_eq.2 hp47
        rw [e2]
        exact Ev.yes ((byte_eq p 47 (by omega)).2 hp47) (Ev.now _)
      · have e2 : (p == 47) = false := beq_eq_false_iff_ne.2 hp47
        rw [e2]
        exact Ev.no (fun h => hp47 ((byte_eq p 47 (by omega)).1 h)) ih
    · rw [if_neg h47]
      have e : (c == 47) = false := beq_eq_false_iff_ne.2 h47
      rw [e] at ih
      refine Ev.no (fun h => h47 ((byte_eq c 47 (by omega)).1 h)) (Ev.call (word_is c) ?_)
      cases hm : mc c with
      | true => exact Ev.yes rfl ih
      | false => exact Ev.no (by simp) (Ev.now _)

/-- What the reference takes for a path is "/" or a slash and a rest of a path. -/
theorem vp_ev (s : ByteArray) (hs : s.size ≤ 5000) : ∃ b, Ev (fun k => spec_ValidPath.f k s) b ∧ (b = true → B s = [47] ∨ ∃ t, B s = 47 :: t ∧ vl true t = true) := by
  unfold spec_ValidPath.f
  by_cases h1 : s.toList = ([47] : List UInt8)
  · exact ⟨true, Ev.yes h1 (Ev.now _), fun _ => .inl (by rw [← B_toList]; exact h1)⟩
  have bad : Ev (fun k => spec_ValidPath.j0 k s true) false := by
    refine Ev.step (fun k => by simp only [spec_ValidPath.j0]; rfl) ?_
    exact Ev.yes trivial (Ev.now _)
  cases hB : B s with
  | nil => exact ⟨false, Ev.no h1 (Ev.yes (by rw [B_toList]; exact hB) bad), fun h => by simp at h⟩
  | cons c t =>
    have hz : s.size = t.length + 1 := by rw [← B_length, hB]; rfl
    have h0 : bt s 0 = (c.toNat : Int) := (bt_drop (s := s) (i := 0) (c := c) (t := t) hB).1
    have hw : wrap64 ((s.size : Int) - 1) = ((t.length : Nat) : Int) := by rw [wrap_of (by omega) (by omega)]; omega
    have hne : ¬ s.toList = ([] : List UInt8) := by rw [B_toList, hB]; simp
    by_cases h47 : c = 47
    · subst h47
      have go : ∀ b, Ev (fun k => spec_ValidPath.j0 k s (bt s (t.length : Int) == 47)) b → Ev (fun k => if s.toList = ([47] : List UInt8) then (some true) else (if s.toList = ([] : List UInt8) then (spec_ValidPath.j0 k s true) else (if 0 < (s.size : Int) then (if (bt s 0) = 47 then (if 0 ≤ (wrap64 ((s.size : Int) - 1)) then (if (wrap64 ((s.size : Int) - 1)) < (s.size : Int) then (spec_ValidPath.j0 k s ((bt s (wrap64 ((s.size : Int) - 1))) == 47)) else (none)) else (none)) else (spec_ValidPath.j0 k s true)) else (none)))) b := by
        intro b h
        rw [hw]
        exact Ev.no h1 (Ev.no hne (Ev.yes (by omega) (Ev.yes (by rw [h0]; rfl) (Ev.yes (by omega) (Ev.yes (by omega) h)))))
      cases hl : (bt s (t.length : Int) == 47) with
      | true =>
        rw [hl] at go
        exact ⟨false, go _ bad, fun h => by simp at h⟩
      | false =>
        rw [hl] at go
        have hv := vp_go s hs t 1 47 (by omega) (by rw [hB]; rfl) (by rw [hB]; rfl)
        refine ⟨vs' true t, go _ ?_, fun h => .inr ⟨t, rfl, ?_⟩⟩
        · refine Ev.step (fun k => by simp only [spec_ValidPath.j0]; rfl) ?_
          exact Ev.no (by simp) hv
        · rw [vl_vs, h, Bool.true_and]
          have hne2 : t ≠ [] := by
            rintro rfl
            apply h1
            rw [B_toList, hB]
          obtain ⟨u, d, rfl⟩ : ∃ u d, t = u ++ [d] := ⟨t.dropLast, t.getLast hne2, (List.dropLast_concat_getLast hne2).symm⟩
          rw [fin_last]
          have hg : bt s ((u ++ [d]).length : Int) = (d.toNat : Int) := by
            have h9 : (B s).drop (u ++ [d]).length = d :: [] := by
              rw [hB, List.length_append]
              show (u ++ [d]).drop u.length = [d]
              rw [List.drop_left]
            exact (bt_drop (s := s) (i := (u ++ [d]).length) h9).1
          rw [hg] at hl
          have : ¬ d = 47 := by
            rintro rfl
            simp at hl
          simp [this]
    · refine ⟨false, ?_, fun h => by simp at h⟩
      refine Ev.no h1 (Ev.no hne (Ev.yes (by omega) (Ev.no ?_ bad)))
      rw [h0]
      intro h
      exact h47 ((byte_eq c 47 (by omega)).1 h)

theorem nm_ev (s : ByteArray) (hs : s.size ≤ 4294967296) : Ev (fun k => impl_NmPath.f k s) (path (B s)) := by
  unfold impl_NmPath.f
  exact Ev.bind (path_ev s hs) (Ev.now _)

def dig : List UInt8 → Bool
  | [] => false
  | c :: _ => decide (48 ≤ (c.toNat : Int)) && decide ((c.toNat : Int) ≤ 57)
/-- An element of a name. -/
def el2 (l : List UInt8) : Bool := !l.isEmpty && (!dig l && l.all mc)
/-- A name of a member, of a text without points. -/
def memb (p : ByteArray) : Bool := el2 (B p) && decide (p.size ≤ 255)

def joinl : List (List UInt8) → List UInt8
  | [] => []
  | p :: R => p ++ R.flatMap (fun q => 46 :: q)

theorem parts_none (c : UInt8) : ∀ (u acc : List UInt8), c ∉ u → parts c acc u = [acc ++ u]
  | [], acc, h => by simp [parts]
  | a :: u, acc, h => by
    simp only [List.mem_cons, not_or] at h
    rw [parts, if_neg (fun e => h.1 e.symm), parts_none c u _ h.2]; simp
theorem parts_one (c : UInt8) : ∀ (u v acc : List UInt8), c ∉ u → parts c acc (u ++ c :: v) = (acc ++ u) :: parts c [] v
  | [], v, acc, h => by simp [parts]
  | a :: u, v, acc, h => by
    simp only [List.mem_cons, not_or] at h
    rw [List.cons_append, parts, if_neg (fun e => h.1 e.symm), parts_one c u v _ h.2]; simp
theorem parts_join : ∀ (R : List (List UInt8)) (p acc : List UInt8), 46 ∉ p → (∀ q ∈ R, (46 : UInt8) ∉ q) → parts 46 acc (p ++ R.flatMap (fun q => 46 :: q)) = (acc ++ p) :: R
  | [], p, acc, h, hR => by
    simp only [List.flatMap_nil, List.append_nil]
    exact parts_none 46 p acc h
  | q :: R, p, acc, h, hR => by
    rw [List.flatMap_cons, List.cons_append, parts_one 46 p _ acc h, parts_join R q [] (hR q List.mem_cons_self) (fun r hr => hR r (List.mem_cons_of_mem _ hr))]
    rfl

theorem first_dig (s : ByteArray) (c : UInt8) (t : List UInt8) (h : B s = c :: t) : bt s 0 = (c.toNat : Int) := (bt_drop (s := s) (i := 0) (c := c) (t := t) h).1

theorem mem_ev (s : ByteArray) (hs : s.size ≤ 1000) (h46 : 46 ∉ B s) : Ev (fun k => impl_NmMember.f k s) (memb s) := by
  have H : Ev (fun k => dbus_isValidMember.f k s) (memb s) := by
    unfold dbus_isValidMember.f memb
    cases hB : B s with
    | nil => exact Ev.yes (by rw [← B_length, hB]; rfl) (Ev.is (by simp [el2]))
    | cons c t =>
      have hz : s.size = t.length + 1 := by rw [← B_length, hB]; rfl
      refine Ev.no (by omega) (Ev.both (fun hb => Ev.is ?_) (fun hb => ?_))
      · have : decide (s.size ≤ 255) = false := decide_eq_false (by omega)
        rw [this, Bool.and_false]
      · have e255 : decide (s.size ≤ 255) = true := decide_eq_true (by omega)
        rw [e255, Bool.and_true]
        have hi := index_ev s (⟨#[46]⟩ : ByteArray) 46 rfl (by omega)
        have hat : at_ 46 (B s) 0 = -1 := by
          rcases at_split 46 (B s) [] 0 with ⟨h3, _, _⟩ | ⟨u, v, e, _, _, _⟩
          · exact h3
          · exact absurd (by rw [e]; simp) h46
        rw [hat] at hi
        have h0 := first_dig s c t hB
        refine Ev.bind hi (Ev.yes rfl (Ev.both (fun hd => Ev.is ?_) (fun hd => Ev.is ?_)))
        · rw [h0] at hd
          have : dig (c :: t) = true := by simp only [dig, decide_eq_true hd.1, decide_eq_true hd.2]; rfl
          simp only [el2, this]; simp
        · rw [h0] at hd
          have : dig (c :: t) = false := by
            rw [Bool.eq_false_iff]
            simp only [dig, ne_eq, Bool.and_eq_true, decide_eq_true_eq]
            exact hd
          simp only [el2, this]; simp
  unfold impl_NmMember.f dbus_DoorMember.f
  exact Ev.bind (Ev.bind H (Ev.now _)) (Ev.now _)

theorem if_go (P : List (List UInt8)) (hP : P.length ≤ 100000) : ∀ (R : List (List UInt8)) (j : Nat), P.drop j = R →
    Ev (fun k => dbus_isValidInterface.l0 k (P.map mkb) ((P.map mkb).length : Int) (j : Int)) (R.all el2)
  | [], j, h => by
    have hl : P.length ≤ j := by
      have h9 := congrArg List.length h
      simp only [List.length_drop, List.length_nil] at h9; omega
    refine Ev.step (fun k => by simp only [dbus_isValidInterface.l0]; rfl) ?_
    rw [List.length_map]
    exact Ev.no (by omega) (Ev.now _)
  | t :: R, j, h => by
    obtain ⟨hr, hl, hd⟩ := rd_mkb P j t R h
    have hw : wrap64 ((j : Int) + 1) = ((j + 1 : Nat) : Int) := by rw [wrap_of (by omega) (by omega)]; omega
    have hz : (mkb t).size = t.length := by rw [← B_length, B_mkb]
    have ih := if_go P hP R (j + 1) hd
    refine Ev.step (fun k => by simp only [dbus_isValidInterface.l0]; rfl) ?_
    rw [hr, hz, List.all_cons]
    rw [List.length_map] at ih ⊢
    refine Ev.yes (by omega) (Ev.yes (by omega) (Ev.yes (by omega) ?_))
    cases t with
    | nil => exact Ev.yes (by simp) (Ev.is (by simp [el2]))
    | cons a t =>
      have h0 := first_dig (mkb (a :: t)) a t rfl
      refine Ev.no (by simp only [List.length_cons]; omega) (Ev.yes (by simp only [List.length_cons]; omega) ?_)
      have bad : dig (a :: t) = true → Ev (fun k => dbus_isValidInterface.j2 k (mkb (a :: t)) (P.map mkb) (P.length : Int) (j : Int) true) (el2 (a :: t) && R.all el2) := by
        intro hd
        refine Ev.step (fun k => by simp only [dbus_isValidInterface.j2]; rfl) ?_
        exact Ev.yes trivial (Ev.is (by simp only [el2, hd]; simp))
      have good : dig (a :: t) = false → Ev (fun k => dbus_isValidInterface.j2 k (mkb (a :: t)) (P.map mkb) (P.length : Int) (j : Int) false) (el2 (a :: t) && R.all el2) := by
        intro hd
        refine Ev.step (fun k => by simp only [dbus_isValidInterface.j2]; rfl) ?_
        refine Ev.no (by simp) ?_
        rw [B_mkb, hw]
        cases hm : (a :: t).all mc with
        | false => exact Ev.yes rfl (Ev.is (by simp only [el2, hm, hd]; simp))
        | true =>
          have e : el2 (a :: t) = true := by simp only [el2, hm, hd]; simp
          rw [e, Bool.true_and]
          exact Ev.no (by simp) ih
      rw [h0]
      refine Ev.both (fun q1 => ?_) (fun q1 => ?_)
      · by_cases q2 : (a.toNat : Int) ≤ 57
        · rw [decide_eq_true q2]
          exact bad (by simp only [dig, decide_eq_true q2, decide_eq_true (show 48 ≤ (a.toNat : Int) from q1)]; rfl)
        · rw [decide_eq_false q2]
          exact good (by simp only [dig, decide_eq_false q2, Bool.and_false])
      · exact good (by simp only [dig, decide_eq_false (show ¬ 48 ≤ (a.toNat : Int) from q1), Bool.false_and])

theorem if_ev (s : ByteArray) (p q : List UInt8) (R : List (List UInt8)) (hB : B s = joinl (p :: q :: R)) (h46 : ∀ x ∈ p :: q :: R, (46 : UInt8) ∉ x) (hR : R.length ≤ 1000) (hs : s.size ≤ 1000000) :
    Ev (fun k => impl_NmInterface.f k s) ((p :: q :: R).all el2 && decide (s.size ≤ 255)) := by
  have H : Ev (fun k => dbus_isValidInterface.f k s) ((p :: q :: R).all el2 && decide (s.size ≤ 255)) := by
    have bad : Ev (fun k => dbus_isValidInterface.j0 k s true) false := by
      refine Ev.step (fun k => by simp only [dbus_isValidInterface.j0]; rfl) ?_
      exact Ev.yes trivial (Ev.now _)
    have hBj : B s = p ++ (q :: R).flatMap (fun q => 46 :: q) := hB
    have hpos : 0 < s.size := by
      rw [← B_length, hBj, List.flatMap_cons]
      simp only [List.length_append, List.cons_append, List.length_cons]; omega
    unfold dbus_isValidInterface.f
    refine Ev.no (by omega) (Ev.both (fun hb => ?_) (fun hb => ?_))
    · have : decide (s.size ≤ 255) = false := decide_eq_false (by omega)
      rw [this, Bool.and_false]; exact bad
    · have : decide (s.size ≤ 255) = true := decide_eq_true (by omega)
      rw [this, Bool.and_true]
      refine Ev.yes (by omega) ?_
      have hsp := split_ev s (⟨#[46]⟩ : ByteArray) 46 rfl (by omega)
      rw [hBj, parts_join (q :: R) p [] (h46 p List.mem_cons_self) (fun x hx => h46 x (List.mem_cons_of_mem _ hx)), List.nil_append] at hsp
      have good : Ev (fun k => dbus_isValidInterface.j0 k s false) ((p :: q :: R).all el2) := by
        refine Ev.step (fun k => by simp only [dbus_isValidInterface.j0]; rfl) ?_
        refine Ev.no (by simp) (Ev.bind hsp (Ev.no ?_ ?_))
        · simp only [List.length_map, List.length_cons]; omega
        · exact if_go (p :: q :: R) (by simp only [List.length_cons]; omega) _ 0 rfl
      by_cases hdot : bt s 0 = 46
      · have e : (bt s 0 == 46) = true := beq_iff_eq.2 hdot
        rw [e]
        cases p with
        | nil =>
          have : ([] :: q :: R).all el2 = false := by simp [el2]
          rw [this]; exact bad
        | cons c t =>
          have h0 := first_dig s c (t ++ (q :: R).flatMap (fun q => 46 :: q)) hBj
          rw [h0] at hdot
          have hc : c = 46 := by
            apply UInt8.toNat_inj.1
            show c.toNat = 46
            omega
          exact absurd (by rw [hc]; simp) (h46 (c :: t) List.mem_cons_self)
      · have e : (bt s 0 == 46) = false := beq_eq_false_iff_ne.2 hdot
        rw [e]; exact good
  unfold impl_NmInterface.f dbus_DoorInterface.f
  exact Ev.bind (Ev.bind H (Ev.now _)) (Ev.now _)

/-- Every text is its parts with the byte between them. -/
theorem parts_spec (c : UInt8) : ∀ (n : Nat) (l : List UInt8), l.length ≤ n → ∃ p R, parts c [] l = p :: R ∧ l = p ++ R.flatMap (fun q => c :: q) ∧ (∀ x ∈ p :: R, c ∉ x) ∧ (c ∈ l → R ≠ []) ∧ R.length ≤ l.length := by
  intro n
  induction n with
  | zero =>
    intro l hl
    obtain rfl : l = [] := List.length_eq_zero_iff.1 (by omega)
    exact ⟨[], [], rfl, rfl, by simp, by simp, by simp⟩
  | succ n ih =>
    intro l hl
    rcases at_split c l [] 0 with ⟨_, h2, h3⟩ | ⟨u, v, e, hn, _, h2⟩
    · exact ⟨l, [], by rw [h2]; rfl, by simp, by simpa using h3, fun h => absurd h h3, by simp⟩
    · have hv : v.length ≤ n := by
        have := congrArg List.length e
        simp at this; omega
      obtain ⟨p, R, h4, h5, h6, h7, h8⟩ := ih v hv
      refine ⟨u, p :: R, by rw [h2, h4]; rfl, ?_, ?_, by simp, ?_⟩
      · rw [e, List.flatMap_cons, List.cons_append, ← h5]
      · intro x hx
        rcases List.mem_cons.1 hx with rfl | hx
        · exact hn
        · exact h6 x hx
      · have := congrArg List.length e
        simp at this
        simp only [List.length_cons]; omega

/-- A digit? -/
def dg (c : UInt8) : Bool := decide (48 ≤ (c.toNat : Int)) && decide ((c.toNat : Int) ≤ 57)
/-- The rest of a name; e: does an element begin here? -/
def nv : Bool → List UInt8 → Bool
  | e, [] => !e
  | e, c :: t => if c = 46 then !e && nv true t else mc c && (!(e && dg c) && nv false t)

theorem el2_snoc (acc : List UInt8) (c : UInt8) (h : acc = [] ∨ el2 acc = true) : el2 (acc ++ [c]) = (mc c && !(acc.isEmpty && dg c)) := by
  cases acc with
  | nil => simp [el2, dig, dg, Bool.and_comm]
  | cons a acc =>
    rcases h with h | h
    · cases h
    · simp only [el2, List.isEmpty_cons, Bool.not_false, Bool.true_and, dig, List.cons_append, List.all_cons, List.all_append, List.all_nil, Bool.and_true, Bool.and_eq_true, Bool.false_and] at h ⊢
      obtain ⟨h1, h2, h3⟩ := h
      rw [h1, h2, h3]; simp
theorem el2_bad (acc : List UInt8) (c : UInt8) (h : acc ≠ []) (hb : el2 acc = false) : el2 (acc ++ [c]) = false := by
  cases acc with
  | nil => exact absurd rfl h
  | cons a acc =>
    rw [Bool.eq_false_iff] at hb ⊢
    intro h9
    apply hb
    simp only [el2, List.isEmpty_cons, Bool.not_false, Bool.true_and, dig, List.cons_append, List.all_cons, List.all_append, List.all_nil, Bool.and_true, Bool.and_eq_true] at h9 ⊢
    exact ⟨h9.1, h9.2.1, h9.2.2.1⟩
theorem parts_badn : ∀ (t acc : List UInt8), acc ≠ [] → el2 acc = false → (parts 46 acc t).all el2 = false
  | [], acc, h, hb => by simp [parts, hb]
  | c :: t, acc, h, hb => by
    rw [parts]
    split
    · rw [List.all_cons, hb, Bool.false_and]
    · exact parts_badn t _ (by simp) (el2_bad acc c h hb)
theorem parts_nv : ∀ (t acc : List UInt8), (acc = [] ∨ el2 acc = true) → (parts 46 acc t).all el2 = nv acc.isEmpty t
  | [], acc, h => by
    rcases h with rfl | h
    · rfl
    · have : acc.isEmpty = false := by
        cases acc with
        | nil => simp [el2] at h
        | cons _ _ => rfl
      simp [parts, h, nv, this]
  | c :: t, acc, h => by
    rw [parts, nv]
    split
    · rw [List.all_cons, parts_nv t [] (.inl rfl)]
      rcases h with rfl | h
      · rfl
      · have : acc.isEmpty = false := by
          cases acc with
          | nil => simp [el2] at h
          | cons _ _ => rfl
        rw [h, this]; rfl
    · have e := el2_snoc acc c h
      cases h9 : el2 (acc ++ [c]) with
      | true =>
        rw [parts_nv t _ (.inr h9)]
        rw [h9] at e
        have hz : (acc ++ [c]).isEmpty = false := by simp
        have e2 := e.symm
        simp only [Bool.and_eq_true] at e2
        rw [hz, e2.1, e2.2]; rfl
      | false =>
        rw [parts_badn t _ (by simp) h9]
        rw [h9] at e
        rw [← Bool.and_assoc, ← e]; rfl

/-- What stands ahead: is it sound, and does an element begin behind it? -/
def pre : Bool → List UInt8 → Bool
  | _, [] => true
  | e, c :: t => if c = 46 then !e && pre true t else mc c && (!(e && dg c) && pre false t)
def fe : Bool → List UInt8 → Bool
  | e, [] => e
  | _, c :: t => fe (c == 46) t
theorem nv_mid : ∀ (u : List UInt8) (e : Bool) (x : UInt8) (v : List UInt8), x ≠ 46 → nv e (u ++ x :: v) = (pre e u && (mc x && (!(fe e u && dg x) && nv false v)))
  | [], e, x, v, h => by
    simp only [List.nil_append, nv, pre, fe]
    rw [if_neg h]; simp
  | c :: u, e, x, v, h => by
    rw [List.cons_append, nv, pre, fe]
    by_cases h46 : c = 46
    · rw [if_pos h46, if_pos h46, nv_mid u true x v h, h46, Bool.and_assoc]; rfl
    · rw [if_neg h46, if_neg h46, nv_mid u false x v h, show (c == 46) = false from beq_eq_false_iff_ne.2 h46]
      simp only [Bool.and_assoc]
theorem fe_last : ∀ (u : List UInt8) (e : Bool) (d : UInt8), fe e (u ++ [d]) = (d == 46)
  | [], e, d => rfl
  | c :: u, e, d => by rw [List.cons_append, fe, fe_last u _ d]

/-- The change of one byte in a name. -/
theorem nv_change (u v : List UInt8) (a c : UInt8) (ha : a ≠ 46) (hc : c ≠ 46) (h : nv true (u ++ a :: v) = true) : nv true (u ++ c :: v) = (mc c && !(fe true u && dg c)) := by
  rw [nv_mid u true a v ha] at h
  rw [nv_mid u true c v hc]
  simp only [Bool.and_eq_true] at h
  rw [h.1, h.2.2.2]; simp
theorem vl_mid : ∀ (u : List UInt8) (e : Bool) (x : UInt8) (v : List UInt8), x ≠ 47 → ∃ q, ∀ y, y ≠ 47 → vl e (u ++ y :: v) = (q && mc y)
  | [], e, x, v, h => ⟨vl false v, fun y hy => by rw [List.nil_append, vl, if_neg hy, Bool.and_comm]⟩
  | c :: u, e, x, v, h => by
    by_cases h47 : c = 47
    · obtain ⟨q, hq⟩ := vl_mid u true x v h
      exact ⟨!e && q, fun y hy => by rw [List.cons_append, vl, if_pos h47, hq y hy, Bool.and_assoc]⟩
    · obtain ⟨q, hq⟩ := vl_mid u false x v h
      exact ⟨mc c && q, fun y hy => by rw [List.cons_append, vl, if_neg h47, hq y hy, Bool.and_assoc]⟩
theorem vl_change (u v : List UInt8) (e : Bool) (a c : UInt8) (ha : a ≠ 47) (hc : c ≠ 47) (h : vl e (u ++ a :: v) = true) : vl e (u ++ c :: v) = mc c := by
  obtain ⟨q, hq⟩ := vl_mid u e a v ha
  rw [hq a ha, Bool.and_eq_true] at h
  rw [hq c hc, h.1, Bool.true_and]

/-- The interface's check on any text with a point. -/
theorem iface_ev (s : ByteArray) (h46 : 46 ∈ B s) (hs : s.size ≤ 900) : Ev (fun k => impl_NmInterface.f k s) (nv true (B s) && decide (s.size ≤ 255)) := by
  obtain ⟨p, R, h1, h2, h3, h4, h5⟩ := parts_spec 46 _ (B s) (Nat.le_refl _)
  cases R with
  | nil => exact absurd rfl (h4 h46)
  | cons q R =>
    have := if_ev s p q R h2 h3 (by rw [B_length] at h5; simp only [List.length_cons] at h5; omega) (by omega)
    rw [← h1, parts_nv (B s) [] (.inl rfl)] at this
    exact this
theorem member_ev (s : ByteArray) (h46 : 46 ∉ B s) (hs : s.size ≤ 900) : Ev (fun k => impl_NmMember.f k s) (nv true (B s) && decide (s.size ≤ 255)) := by
  have := mem_ev s (by omega) h46
  unfold memb at this
  have h9 := parts_nv (B s) [] (.inl rfl)
  rw [parts_none 46 (B s) [] h46] at h9
  simp only [List.nil_append, List.all_cons, List.all_nil, Bool.and_true, List.isEmpty_nil] at h9
  rw [h9] at this
  exact this

/-! ### the references -/
theorem pts_go (s : ByteArray) (hs : s.size ≤ 5000) : ∀ (l : List UInt8) (i m : Nat), (B s).drop i = l → m ≤ i → Ev (fun k => spec_points.l0 k s (m : Int) (i : Int)) ((m + l.count 46 : Nat) : Int)
  | [], i, m, h, hm => by
    refine Ev.step (fun k => by simp only [spec_points.l0]; rfl) ?_
    have := drop_end h
    exact Ev.no (by omega) (Ev.is (by simp))
  | c :: t, i, m, h, hm => by
    obtain ⟨hb, hl, hd⟩ := bt_drop h
    have hw : wrap64 ((i : Int) + 1) = ((i + 1 : Nat) : Int) := by rw [wrap_of (by omega) (by omega)]; omega
    have hw1 : wrap64 ((m : Int) + 1) = ((m + 1 : Nat) : Int) := by rw [wrap_of (by omega) (by omega)]; omega
    refine Ev.step (fun k => by simp only [spec_points.l0]; rfl) ?_
    rw [hb, hw, hw1]
    refine Ev.yes (by omega) (Ev.yes (by omega) ?_)
    by_cases h46 : c = 46
    · have ih := pts_go s hs t (i + 1) (m + 1) hd (by omega)
      have e : m + (c :: t).count 46 = m + 1 + t.count 46 := by rw [h46, List.count_cons_self]; omega
      rw [e]
      exact Ev.yes ((byte_eq c 46 (by omega)).2 h46) ih
    · have ih := pts_go s hs t (i + 1) m hd (by omega)
      have e : m + (c :: t).count 46 = m + t.count 46 := by rw [List.count_cons_of_ne h46]
      rw [e]
      exact Ev.no (fun h => h46 ((byte_eq c 46 (by omega)).1 h)) ih
theorem pts_ev (s : ByteArray) (hs : s.size ≤ 5000) : Ev (fun k => spec_points.f k s) (((B s).count 46 : Nat) : Int) := by
  unfold spec_points.f
  have := pts_go s hs (B s) 0 0 rfl (Nat.le_refl _)
  rw [Nat.zero_add] at this
  exact this

theorem spl_go (s : ByteArray) (hs : s.size ≤ 5000) : ∀ (l : List UInt8) (acc : List ByteArray) (f i : Nat), (B s).drop i = l → f ≤ i → i ≤ s.size → acc.length ≤ i →
    Ev (fun k => spec_Split.l0 k s 46 acc (f : Int) (i : Int)) (acc ++ (parts 46 (((B s).take i).drop f) l).map mkb)
  | [], acc, f, i, h, hf, hi, ha => by
    have := drop_end h
    have e : i = s.size := by omega
    subst e
    refine Ev.step (fun k => by simp only [spec_Split.l0]; rfl) ?_
    refine Ev.no (by omega) (Ev.yes (by omega) (Ev.yes (by omega) (Ev.yes (by omega) (Ev.is ?_))))
    have e2 : (B s).take s.size = B s := List.take_of_length_le (by rw [B_length]; exact Nat.le_refl _)
    rw [parts, List.map_cons, List.map_nil, e2]
    have e3 : s.extract ((f : Int)).toNat s.size = mkb ((B s).drop f) := B_inj (by rw [B_from, B_mkb]; simp)
    rw [e3]
  | c :: t, acc, f, i, h, hf, hi, ha => by
    obtain ⟨hb, hl, hd⟩ := bt_drop h
    have hw : wrap64 ((i : Int) + 1) = ((i + 1 : Nat) : Int) := by rw [wrap_of (by omega) (by omega)]; omega
    refine Ev.step (fun k => by simp only [spec_Split.l0]; rfl) ?_
    rw [hb, hw]
    refine Ev.yes (by omega) (Ev.yes (by omega) ?_)
    by_cases h46 : c = 46
    · have ih := spl_go s hs t (acc ++ [s.extract ((f : Int)).toNat ((i : Int)).toNat]) (i + 1) (i + 1) hd (Nat.le_refl _) (by omega) (by simp; omega)
      have e1 : (((B s).take (i + 1)).drop (i + 1)) = [] := by
        apply List.drop_eq_nil_of_le
        rw [List.length_take]; omega
      have e3 : s.extract ((f : Int)).toNat ((i : Int)).toNat = mkb (((B s).take i).drop f) := B_inj (by rw [B_extract, B_mkb, List.drop_take]; simp)
      rw [e1, e3] at ih
      rw [parts, if_pos h46, e3]
      refine Ev.yes ((byte_eq c 46 (by omega)).2 h46) (Ev.yes (by omega) (Ev.yes (by omega) (Ev.yes (by omega) (Ev.yes (by omega) ?_))))
      have e4 : acc ++ List.map mkb (((B s).take i).drop f :: parts 46 [] t) = acc ++ [mkb (((B s).take i).drop f)] ++ List.map mkb (parts 46 [] t) := by simp
      rw [e4]; exact ih
    · have ih := spl_go s hs t acc f (i + 1) hd (by omega) (by omega) (by omega)
      have hc : (B s)[i]? = some c := by
        have hl' : i < (B s).length := by rw [B_length]; exact hl
        rw [List.drop_eq_getElem_cons hl'] at h
        injection h with h9 _
        rw [List.getElem?_eq_getElem hl', h9]
      have e5 : ((B s).take (i + 1)).drop f = ((B s).take i).drop f ++ [c] := by
        rw [List.take_add_one, hc, List.drop_append_of_le_length (by rw [List.length_take, B_length]; omega)]; rfl
      rw [e5] at ih
      rw [parts, if_neg h46]
      exact Ev.no (fun h => h46 ((byte_eq c 46 (by omega)).1 h)) ih
theorem spl_ev (s : ByteArray) (hs : s.size ≤ 5000) : Ev (fun k => spec_Split.f k s 46) ((parts 46 [] (B s)).map mkb) := by
  unfold spec_Split.f
  exact spl_go s hs (B s) [] 0 0 rfl (Nat.le_refl _) (by omega) (Nat.le_refl _)

theorem nmd_in (L : List ByteArray) (n j : Int) (t : List UInt8) (r : Bool) (ht : t.length ≤ 5000) (H : Ev (fun k => spec_named.l0 k false false L n (wrap64 (j + 1))) r) : ∀ (l : List UInt8) (i : Nat), t.drop i = l →
    Ev (fun k => spec_named.l1 k false false (mkb t) (i : Int) L n j) (l.all mc && r)
  | [], i, h => by
    refine Ev.step (fun k => by simp only [spec_named.l1]; rfl) ?_
    have hz : (mkb t).size = t.length := by rw [← B_length, B_mkb]
    have := congrArg List.length h
    simp only [List.length_drop, List.length_nil] at this
    rw [hz]
    exact Ev.no (by omega) H
  | c :: l, i, h => by
    have hz : (mkb t).size = t.length := by rw [← B_length, B_mkb]
    obtain ⟨hb, hl, hd⟩ := bt_drop (s := mkb t) (i := i) (c := c) (t := l) (by rw [B_mkb]; exact h)
    rw [B_mkb] at hd
    have hw : wrap64 ((i : Int) + 1) = ((i + 1 : Nat) : Int) := by rw [wrap_of (by omega) (by omega)]; omega
    have ih := nmd_in L n j t r ht H l (i + 1) hd
    refine Ev.step (fun k => by simp only [spec_named.l1]; rfl) ?_
    rw [hb, hw, List.all_cons]
    refine Ev.yes (by omega) (Ev.yes (by omega) (Ev.call (word_is c) ?_))
    cases hm : mc c with
    | true => exact Ev.yes rfl ih
    | false => exact Ev.no (by simp) (Ev.no (by simp) (Ev.now _))
theorem nmd_go (P : List (List UInt8)) (hP : P.length ≤ 100000) (ht : ∀ p ∈ P, p.length ≤ 5000) : ∀ (R : List (List UInt8)) (j : Nat), P.drop j = R →
    Ev (fun k => spec_named.l0 k false false (P.map mkb) ((P.map mkb).length : Int) (j : Int)) (R.all el2)
  | [], j, h => by
    have hl : P.length ≤ j := by
      have h9 := congrArg List.length h
      simp only [List.length_drop, List.length_nil] at h9; omega
    refine Ev.step (fun k => by simp only [spec_named.l0]; rfl) ?_
    rw [List.length_map]
    exact Ev.no (by omega) (Ev.now _)
  | t :: R, j, h => by
    obtain ⟨hr, hl, hd⟩ := rd_mkb P j t R h
    have hw : wrap64 ((j : Int) + 1) = ((j + 1 : Nat) : Int) := by rw [wrap_of (by omega) (by omega)]; omega
    have hz : (mkb t).size = t.length := by rw [← B_length, B_mkb]
    have ih := nmd_go P hP ht R (j + 1) hd
    have htm : t ∈ P := by
      have : t ∈ P.drop j := by rw [h]; exact List.mem_cons_self
      exact List.mem_of_mem_drop this
    refine Ev.step (fun k => by simp only [spec_named.l0]; rfl) ?_
    rw [hr, hz, List.all_cons]
    rw [List.length_map] at ih ⊢
    refine Ev.yes (by omega) (Ev.yes (by omega) (Ev.yes (by omega) ?_))
    have bad : el2 t = false → Ev (fun k => spec_named.j1 k false false (mkb t) (P.map mkb) (P.length : Int) (j : Int) true) (el2 t && R.all el2) := by
      intro hb
      refine Ev.step (fun k => by simp only [spec_named.j1]; rfl) ?_
      exact Ev.yes trivial (Ev.is (by rw [hb]; rfl))
    cases t with
    | nil => exact Ev.yes (by rw [B_toList, B_mkb]) (bad (by simp [el2]))
    | cons a t =>
      have h0 := first_dig (mkb (a :: t)) a t rfl
      have good : dig (a :: t) = false → Ev (fun k => spec_named.j1 k false false (mkb (a :: t)) (P.map mkb) (P.length : Int) (j : Int) false) (el2 (a :: t) && R.all el2) := by
        intro hd
        refine Ev.step (fun k => by simp only [spec_named.j1]; rfl) ?_
        refine Ev.no (by simp) ?_
        have e : el2 (a :: t) = (a :: t).all mc := by simp only [el2, hd]; simp
        rw [e]
        exact nmd_in (P.map mkb) (P.length : Int) (j : Int) (a :: t) (R.all el2) (ht _ htm) (by rw [hw]; exact ih) (a :: t) 0 rfl
      refine Ev.no (by rw [B_toList, B_mkb]; simp) (Ev.no (by simp) (Ev.yes (by simp only [List.length_cons]; omega) ?_))
      rw [h0]
      refine Ev.both (fun q1 => ?_) (fun q1 => ?_)
      · by_cases q2 : (a.toNat : Int) ≤ 57
        · rw [decide_eq_true q2]
          exact bad (by simp only [el2, dig, decide_eq_true q2, decide_eq_true (show 48 ≤ (a.toNat : Int) from q1)]; simp)
        · rw [decide_eq_false q2]
          exact good (by simp only [dig, decide_eq_false q2, Bool.and_false])
      · exact good (by simp only [dig, decide_eq_false (show ¬ 48 ≤ (a.toNat : Int) from q1), Bool.false_and])
theorem parts_len (c : UInt8) : ∀ (l acc : List UInt8) (n : Nat), acc.length + l.length ≤ n → ∀ p ∈ parts c acc l, p.length ≤ n
  | [], acc, n, h, p, hp => by
    simp only [parts, List.mem_singleton] at hp
    subst hp
    simp at h; omega
  | a :: l, acc, n, h, p, hp => by
    simp only [List.length_cons] at h
    rw [parts] at hp
    split at hp
    · rcases List.mem_cons.1 hp with rfl | hp
      · omega
      · exact parts_len c l [] n (by simp; omega) p hp
    · exact parts_len c l (acc ++ [a]) n (by simp; omega) p hp
theorem nmd_ev (s : ByteArray) (hs : s.size ≤ 5000) : Ev (fun k => spec_named.f k s false false) (nv true (B s)) := by
  unfold spec_named.f
  obtain ⟨p, R, h1, h2, h3, h4, h5⟩ := parts_spec 46 _ (B s) (Nat.le_refl _)
  have hl : (parts 46 [] (B s)).length ≤ 100000 := by
    rw [h1, List.length_cons]
    rw [B_length] at h5; omega
  have := nmd_go (parts 46 [] (B s)) hl (fun p hp => parts_len 46 (B s) [] 5000 (by rw [B_length]; simpa using hs) p hp) (parts 46 [] (B s)) 0 rfl
  rw [parts_nv (B s) [] (.inl rfl)] at this
  exact Ev.bind (spl_ev s hs) this

theorem vmem_ev (s : ByteArray) : ∃ b, Ev (fun k => spec_ValidMember.f k s) b ∧ (b = true → s.size ≤ 255 ∧ 46 ∉ B s ∧ nv true (B s) = true) := by
  unfold spec_ValidMember.f
  by_cases h : (s.size : Int) ≤ 255
  · have hp := pts_ev s (by omega)
    by_cases h0 : (((B s).count 46 : Nat) : Int) = 0
    · exact ⟨nv true (B s), Ev.yes h (Ev.bind hp (Ev.yes h0 (Ev.bind (nmd_ev s (by omega)) (Ev.now _)))), fun hb => ⟨by omega, List.count_eq_zero.1 (by omega), hb⟩⟩
    · exact ⟨false, Ev.yes h (Ev.bind hp (Ev.no h0 (Ev.now _))), fun hb => by cases hb⟩
  · exact ⟨false, Ev.no h (Ev.now _), fun hb => by cases hb⟩
theorem vif_ev (s : ByteArray) : ∃ b, Ev (fun k => spec_ValidInterface.f k s) b ∧ (b = true → s.size ≤ 255 ∧ 46 ∈ B s ∧ nv true (B s) = true) := by
  unfold spec_ValidInterface.f
  by_cases h : (s.size : Int) ≤ 255
  · have hp := pts_ev s (by omega)
    by_cases h0 : (((B s).count 46 : Nat) : Int) > 0
    · exact ⟨nv true (B s), Ev.yes h (Ev.bind hp (Ev.yes h0 (Ev.bind (nmd_ev s (by omega)) (Ev.now _)))), fun hb => ⟨by omega, List.count_pos_iff.1 (by omega), hb⟩⟩
    · exact ⟨false, Ev.yes h (Ev.bind hp (Ev.no h0 (Ev.now _))), fun hb => by cases hb⟩
  · exact ⟨false, Ev.no h (Ev.now _), fun hb => by cases hb⟩

end Go.Proofs.Ytheopfecoakhnaa.Nb
