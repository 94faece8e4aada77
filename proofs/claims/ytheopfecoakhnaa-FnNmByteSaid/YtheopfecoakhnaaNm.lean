/-
Names: how the program splits, and what its checks of object paths come to, in plain words.
-/
import Derived.Test.YtheopfecoakhnaaExt2
namespace Go.Proofs.Ytheopfecoakhnaa.Nm
set_option linter.unusedVariables false
set_option linter.unusedSimpArgs false
open Go.RowKit Go.Proofs.Ytheopfecoakhnaa.Ext Go.Proofs.Ytheopfecoakhnaa.L Go.Proofs.YtheopfecoakhnaaW.PrintWords Go.Proofs.Ytheopfecoakhnaa.Com

/-- Where a byte stands first, from place i on; -1: nowhere. -/
def at_ (c : UInt8) : List UInt8 → Int → Int
  | [], _ => -1
  | a :: l, i => if a = c then i else at_ c l (i + 1)

theorem index_go (s : ByteArray) (sep : ByteArray) (c : UInt8) (hsep : B sep = [c]) (hs : s.size ≤ 4294967296) : ∀ (n i : Nat), s.size - i ≤ n → i ≤ s.size →
    Ev (fun k => dbus_zzIndex.l0 k s sep (i : Int)) (at_ c ((B s).drop i) i) := by
  have hz : sep.size = 1 := by rw [← B_length, hsep]; rfl
  intro n
  induction n with
  | zero =>
    intro i h1 h2
    rw [List.drop_eq_nil_of_le (by rw [B_length]; omega)]
    have hw : wrap64 ((i : Int) + (sep.size : Int)) = ((i + 1 : Nat) : Int) := by rw [hz, wrap_of (by omega) (by omega)]; omega
    refine Ev.step (fun k => by simp only [dbus_zzIndex.l0]; rfl) ?_
    rw [hw]
    exact Ev.no (by omega) (Ev.now _)
  | succ n ih =>
    intro i h1 h2
    have hw : wrap64 ((i : Int) + (sep.size : Int)) = ((i + 1 : Nat) : Int) := by rw [hz, wrap_of (by omega) (by omega)]; omega
    by_cases hi : i = s.size
    · exact ih i (by omega) h2
    have hil : i < (B s).length := by rw [B_length]; omega
    have hd : (B s).drop i = (B s)[i] :: (B s).drop (i + 1) := List.drop_eq_getElem_cons hil
    generalize (B s)[i] = a at hd
    have hw1 : wrap64 ((i : Int) + 1) = ((i + 1 : Nat) : Int) := by rw [wrap_of (by omega) (by omega)]; omega
    have e1 : ((i : Int)).toNat = i := by omega
    have e2 : (((i + 1 : Nat) : Int)).toNat = i + 1 := by omega
    refine Ev.step (fun k => by simp only [dbus_zzIndex.l0]; rfl) ?_
    rw [hw, hw1, e1, e2]
    have hx : (s.extract i (i + 1)).toList = [a] := by
      rw [B_toList, B_extract, hd]
      have : i + 1 - i = 1 := by omega
      rw [this]; rfl
    rw [hx, B_toList, hsep, hd, at_]
    refine Ev.yes (by omega) (Ev.yes (by omega) (Ev.yes (by omega) ?_))
    by_cases hac : a = c
    · rw [if_pos hac]
      exact Ev.yes (by rw [hac]) (Ev.now _)
    · rw [if_neg hac]
      have ih' := ih (i + 1) (by omega) (by omega)
      have e3 : (((i + 1 : Nat) : Int)) = (i : Int) + 1 := by omega
      refine Ev.no (by simpa using hac) ?_
      rw [← e3]; exact ih'

theorem index_ev (s : ByteArray) (sep : ByteArray) (c : UInt8) (hsep : B sep = [c]) (hs : s.size ≤ 4294967296) : Ev (fun k => dbus_zzIndex.f k s sep) (at_ c (B s) 0) :=
  index_go s sep c hsep hs s.size 0 (by omega) (by omega)

/-- The parts of a text between bytes c. -/
def parts (c : UInt8) : List UInt8 → List UInt8 → List (List UInt8)
  | acc, [] => [acc]
  | acc, a :: l => if a = c then acc :: parts c [] l else parts c (acc ++ [a]) l

theorem at_split (c : UInt8) : ∀ (l acc : List UInt8) (i : Nat), (at_ c l i = -1 ∧ parts c acc l = [acc ++ l] ∧ c ∉ l) ∨ ∃ (u v : List UInt8), l = u ++ c :: v ∧ c ∉ u ∧ at_ c l i = (i + u.length : Nat) ∧ parts c acc l = (acc ++ u) :: parts c [] v
  | [], acc, i => .inl ⟨rfl, by simp [parts], by simp⟩
  | a :: l, acc, i => by
    by_cases h : a = c
    · subst h
      exact .inr ⟨[], l, rfl, by simp, by simp [at_], by simp [parts]⟩
    · rcases at_split c l (acc ++ [a]) (i + 1) with ⟨h1, h2, h3⟩ | ⟨u, v, e, hn, h1, h2⟩
      · refine .inl ⟨?_, ?_, ?_⟩
        · rw [at_, if_neg h]
          have : ((i : Int) + 1) = ((i + 1 : Nat) : Int) := by omega
          rw [this]; exact h1
        · rw [parts, if_neg h, h2]; simp
        · simp only [List.mem_cons, not_or]; exact ⟨fun e => h e.symm, h3⟩
      · refine .inr ⟨a :: u, v, by rw [e]; rfl, ?_, ?_, ?_⟩
        · simp only [List.mem_cons, not_or]; exact ⟨fun e => h e.symm, hn⟩
        · rw [at_, if_neg h]
          have : ((i : Int) + 1) = ((i + 1 : Nat) : Int) := by omega
          rw [this, h1, List.length_cons]; omega
        · rw [parts, if_neg h, h2]; simp

def mkb (l : List UInt8) : ByteArray := ⟨l.toArray⟩
theorem B_mkb (l : List UInt8) : B (mkb l) = l := rfl

theorem split_go (sep : ByteArray) (c : UInt8) (hsep : B sep = [c]) : ∀ (n : Nat) (s : ByteArray) (acc : List ByteArray), s.size ≤ n → s.size + acc.length ≤ 4294967296 →
    Ev (fun k => dbus_zzSplit.l0 k s sep acc) (acc ++ (parts c [] (B s)).map mkb) := by
  have hz : sep.size = 1 := by rw [← B_length, hsep]; rfl
  intro n
  induction n with
  | zero =>
    intro s acc h1 h2
    have he : B s = [] := List.length_eq_zero_iff.1 (by rw [B_length]; omega)
    refine Ev.step (fun k => by simp only [dbus_zzSplit.l0]; rfl) ?_
    refine Ev.bind (index_ev s sep c hsep (by omega)) ?_
    rw [he]
    refine Ev.yes (by simp [at_]) (Ev.yes (by omega) (Ev.is ?_))
    show acc ++ [s] = acc ++ [mkb []]
    rw [show s = mkb [] from B_inj he]
  | succ n ih =>
    intro s acc h1 h2
    have hi := index_ev s sep c hsep (by omega)
    refine Ev.step (fun k => by simp only [dbus_zzSplit.l0]; rfl) ?_
    refine Ev.bind hi ?_
    rcases at_split c (B s) [] 0 with ⟨h3, h4, _⟩ | ⟨u, v, e, hn, h3, h4⟩
    · have h3' : at_ c (B s) 0 = -1 := h3
      rw [h3', h4]
      refine Ev.yes (by decide) (Ev.yes (by omega) (Ev.is ?_))
      show acc ++ [s] = acc ++ [mkb (B s)]
      rw [show mkb (B s) = s from B_inj rfl]
    · have h3' : at_ c (B s) 0 = (u.length : Int) := by
        have := h3
        simp only [Nat.zero_add] at this
        exact this
      have hl : s.size = u.length + v.length + 1 := by
        rw [← B_length, e, List.length_append, List.length_cons]; omega
      have hw : wrap64 ((u.length : Int) + (sep.size : Int)) = ((u.length + 1 : Nat) : Int) := by rw [hz, wrap_of (by omega) (by omega)]; omega
      have e1 : ((u.length : Int)).toNat = u.length := by omega
      have e2 : (((u.length + 1 : Nat) : Int)).toNat = u.length + 1 := by omega
      have hv : B (s.extract (u.length + 1) s.size) = v := by
        rw [B_from, e]
        show (u ++ c :: v).drop (u.length + 1) = v
        rw [← List.drop_drop, List.drop_left]; rfl
      have hu : s.extract 0 u.length = mkb ([] ++ u) := B_inj (by rw [B_to, e, B_mkb, List.take_left]; rfl)
      have ih' := ih (s.extract (u.length + 1) s.size) (acc ++ [s.extract 0 u.length]) (by rw [← B_length, hv]; omega) (by rw [← B_length, hv]; simp; omega)
      rw [hv, hu] at ih'
      rw [h3', h4, hw, e1, e2, hu]
      refine Ev.no (by omega) (Ev.yes (by omega) (Ev.yes (by omega) (Ev.yes (by omega) (Ev.yes (by omega) (Ev.yes (by omega) ?_)))))
      rw [List.map_cons]
      have e3 : acc ++ mkb ([] ++ u) :: (parts c [] v).map mkb = (acc ++ [mkb ([] ++ u)]) ++ (parts c [] v).map mkb := by simp
      rw [e3]; exact ih'

theorem split_ev (s sep : ByteArray) (c : UInt8) (hsep : B sep = [c]) (hs : s.size ≤ 4294967296) : Ev (fun k => dbus_zzSplit.f k s sep) ((parts c [] (B s)).map mkb) := by
  have hz : sep.size = 1 := by rw [← B_length, hsep]; rfl
  unfold dbus_zzSplit.f
  refine Ev.no (by omega) ?_
  have := split_go sep c hsep s.size s [] (Nat.le_refl _) (by simp; omega)
  simpa using this

/-- An element of a path. -/
def el (l : List UInt8) : Bool := !l.isEmpty && l.all mc

theorem rd_mkb (P : List (List UInt8)) (j : Nat) (t : List UInt8) (R : List (List UInt8)) (h : P.drop j = t :: R) : rdOf ByteArray.empty (P.map mkb) (j : Int) = mkb t ∧ j < P.length ∧ P.drop (j + 1) = R := by
  have hl : j < P.length := by
    have h9 := congrArg List.length h
    simp only [List.length_drop, List.length_cons] at h9; omega
  rw [List.drop_eq_getElem_cons hl] at h
  injection h with h1 h2
  refine ⟨?_, hl, h2⟩
  simp [rdOf, hl, h1]

theorem valid_go (P : List (List UInt8)) (hP : P.length ≤ 4294967297) : ∀ (R : List (List UInt8)) (j : Nat), P.drop j = R →
    Ev (fun k => dbus_ObjectPath_IsValid.l0 k (P.map mkb) ((P.map mkb).length : Int) (j : Int)) (R.all el)
  | [], j, h => by
    have hl : P.length ≤ j := by
      have h9 := congrArg List.length h
      simp only [List.length_drop, List.length_nil] at h9; omega
    refine Ev.step (fun k => by simp only [dbus_ObjectPath_IsValid.l0]; rfl) ?_
    rw [List.length_map]
    exact Ev.no (by omega) (Ev.now _)
  | t :: R, j, h => by
    obtain ⟨hr, hl, hd⟩ := rd_mkb P j t R h
    have hw : wrap64 ((j : Int) + 1) = ((j + 1 : Nat) : Int) := by rw [wrap_of (by omega) (by omega)]; omega
    have hz : (mkb t).size = t.length := by rw [← B_length, B_mkb]
    have ih := valid_go P hP R (j + 1) hd
    refine Ev.step (fun k => by simp only [dbus_ObjectPath_IsValid.l0]; rfl) ?_
    rw [hr, hw, B_mkb, hz, List.all_cons]
    rw [List.length_map] at ih ⊢
    refine Ev.yes (by omega) (Ev.yes (by omega) (Ev.yes (by omega) ?_))
    cases t with
    | nil => exact Ev.yes (by simp) (Ev.is (by simp [el]))
    | cons a t =>
      refine Ev.no (by simp only [List.length_cons]; omega) ?_
      cases hm : (a :: t).all mc with
      | false => exact Ev.yes rfl (Ev.is (by simp only [el, hm]; simp))
      | true =>
        refine Ev.no (by simp) ?_
        have e : el (a :: t) = true := by simp only [el, hm]; simp
        rw [e, Bool.true_and]
        exact ih

/-- An object path, as the program sees it. -/
def path (l : List UInt8) : Bool := match l with
  | [] => false
  | c :: t => c == 47 && (t.isEmpty || (parts 47 [] t).all el)

theorem el_nil : el [] = false := rfl
/-- Behind a slash at the end stands an empty part. -/
theorem parts_last (c : UInt8) : ∀ (l acc : List UInt8), [] ∈ parts c acc (l ++ [c])
  | [], acc => by simp [parts]
  | a :: l, acc => by
    rw [List.cons_append, parts]
    split
    · exact List.mem_cons_of_mem _ (parts_last c l [])
    · exact parts_last c l _

theorem path_ev (s : ByteArray) (hs : s.size ≤ 4294967296) : Ev (fun k => dbus_ObjectPath_IsValid.f k s) (path (B s)) := by
  unfold dbus_ObjectPath_IsValid.f
  cases hB : B s with
  | nil => exact Ev.yes (by rw [← B_length, hB]; rfl) (Ev.now _)
  | cons c t =>
    have hz : s.size = t.length + 1 := by rw [← B_length, hB]; rfl
    have h0 : bt s 0 = (c.toNat : Int) := (bt_drop (s := s) (i := 0) (c := c) (t := t) hB).1
    have hw : wrap64 ((s.size : Int) - 1) = ((t.length : Nat) : Int) := by rw [wrap_of (by omega) (by omega)]; omega
    rw [hw]
    refine Ev.no (by omega) (Ev.yes (by omega) ?_)
    by_cases h47 : c = 47
    · subst h47
      refine Ev.yes (by rw [h0]; rfl) (Ev.yes (by omega) (Ev.yes (by omega) ?_))
      have tail : Ev (fun k => dbus_ObjectPath_IsValid.j0 k s false) (path (47 :: t)) := by
        refine Ev.step (fun k => by simp only [dbus_ObjectPath_IsValid.j0]; rfl) ?_
        refine Ev.no (by simp) ?_
        rw [B_toList, hB]
        cases t with
        | nil => exact Ev.yes rfl (Ev.now _)
        | cons d t =>
          refine Ev.no (by simp) (Ev.yes (by omega) ?_)
          have hx : B (s.extract 1 s.size) = d :: t := by rw [B_from, hB]; rfl
          have hsp := split_ev (s.extract 1 s.size) (⟨#[47]⟩ : ByteArray) 47 rfl (by rw [← B_length, hx]; simp only [List.length_cons] at hz ⊢; omega)
          rw [hx] at hsp
          refine Ev.bind hsp ?_
          have hlen : ∀ (l acc : List UInt8), (parts 47 acc l).length ≤ l.length + 1 := by
            intro l
            induction l with
            | nil => intro acc; simp [parts]
            | cons a l ih =>
              intro acc
              rw [parts]
              split
              · have := ih []
                simp only [List.length_cons]; omega
              · have := ih (acc ++ [a])
                simp only [List.length_cons]; omega
          have h9 := hlen (d :: t) []
          have := valid_go (parts 47 [] (d :: t)) (by simp only [List.length_cons] at hz h9; omega) _ 0 rfl
          refine Ev.congr (fun _ => rfl) ?_
          have e : path (47 :: d :: t) = (parts 47 [] (d :: t)).all el := by simp [path]
          rw [e]; exact this
      refine Ev.both (fun hlast => ?_) (fun _ => tail)
      by_cases h1 : s.size = 1
      · have : ((s.size : Int) != 1) = false := by simp; omega
        rw [this]; exact tail
      · have : ((s.size : Int) != 1) = true := by simp; omega
        rw [this]
        refine Ev.step (fun k => by simp only [dbus_ObjectPath_IsValid.j0]; rfl) ?_
        refine Ev.yes trivial (Ev.is ?_)
        -- the last byte is a slash
        have hne : t ≠ [] := by
          rintro rfl
          simp at hz; omega
        obtain ⟨u, d, rfl⟩ : ∃ u d, t = u ++ [d] := ⟨t.dropLast, t.getLast hne, (List.dropLast_concat_getLast hne).symm⟩
        have hg : bt s ((u ++ [d]).length : Int) = (d.toNat : Int) := by
          have h9 : (B s).drop (u ++ [d]).length = d :: [] := by
            rw [hB, List.length_append]
            show (u ++ [d]).drop u.length = [d]
            rw [List.drop_left]
          exact (bt_drop (s := s) (i := (u ++ [d]).length) h9).1
        rw [hg] at hlast
        have hd : d = 47 := by
          apply UInt8.toNat_inj.1
          show d.toNat = 47
          omega
        subst hd
        have hm := parts_last 47 u []
        have : (parts 47 [] (u ++ [47])).all el = false := by
          rw [Bool.eq_false_iff]
          intro h
          have := List.all_eq_true.1 h [] hm
          simp [el] at this
        simp [path, this]
    · refine Ev.no ?_ (Ev.is ?_)
      · rw [h0]
        intro h
        apply h47
        apply UInt8.toNat_inj.1
        show c.toNat = 47
        omega
      · simp [path, h47]

end Go.Proofs.Ytheopfecoakhnaa.Nm
