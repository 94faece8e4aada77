import Derived.Test.YtheopfecoakhnaaQ3
import Derived.Test.YtheopfecoakhnaaNm
namespace Go.Proofs.Ytheopfecoakhnaa.Nm
set_option linter.unusedVariables false
set_option linter.unusedSimpArgs false
open Go.RowKit Go.Proofs.Ytheopfecoakhnaa.Ext Go.Proofs.Ytheopfecoakhnaa.Q Go.Proofs.YtheopfecoakhnaaW.PrintWords Go.Proofs.YtheopfecoakhnaaW.PrintLast

def laws_FnNmInterfaceParts.Pure : Prop := ∀ (l0 : List ByteArray), ∃ k, laws_FnNmInterfaceParts.f k l0 = some true
theorem parts_walk (P : laws_FnNmInterfaceParts.Pure) (A0 : Option Addr) (c0 : Nat) (l0 : List ByteArray) (w : World) (hr0 : Kd.C Kd.string w A0 l0.length l0) (hc0 : l0.length ≤ c0) :
    Calls Try.prog 4 #[.slice A0 l0.length c0] w fun e w' => e = .returned (.bool true) ∧ Below w.heap.size w w' := by
  obtain ⟨k, h⟩ := P l0
  refine (laws_FnNmInterfaceParts.calls k A0 c0 l0 true w hr0 hc0 h).mono ?_
  rintro e w' ⟨rfl, hd⟩
  exact ⟨rfl, hd⟩

end Go.Proofs.Ytheopfecoakhnaa.Nm
namespace Go.Proofs.Ytheopfecoakhnaa.Pure
open Go.RowKit Go.Proofs.Ytheopfecoakhnaa.Ext Go.Proofs.Ytheopfecoakhnaa.Q Go.Proofs.Ytheopfecoakhnaa.L Go.Proofs.YtheopfecoakhnaaW.PrintWords Go.Proofs.YtheopfecoakhnaaW.PrintLast
open Go.Proofs.Ytheopfecoakhnaa.Com Go.Proofs.Ytheopfecoakhnaa.Nm

/-- Does it begin with a digit? -/
def dig : List UInt8 → Bool
  | [] => false
  | c :: _ => decide (48 ≤ (c.toNat : Int)) && decide ((c.toNat : Int) ≤ 57)
/-- An element of a name. -/
def el2 (l : List UInt8) : Bool := !l.isEmpty && (!dig l && l.all mc)
/-- A name of a member, of a text without points. -/
def memb (p : ByteArray) : Bool := el2 (B p) && decide (p.size ≤ 255)

def joinl : List (List UInt8) → List UInt8
  | [] => []
  | p :: R => p ++ R.flatMap (fun q => 46 :: q)

theorem parts_none (c : UInt8) : ∀ (u acc : List UInt8), c ∉ u → parts c acc u = [acc ++ u]
  | [], acc, h => by simp [parts]
  | a :: u, acc, h => by
    simp only [List.mem_cons, not_or] at h
    rw [parts, if_neg (fun e => h.1 e.symm), parts_none c u _ h.2]; simp
theorem parts_one (c : UInt8) : ∀ (u v acc : List UInt8), c ∉ u → parts c acc (u ++ c :: v) = (acc ++ u) :: parts c [] v
  | [], v, acc, h => by simp [parts]
  | a :: u, v, acc, h => by
    simp only [List.mem_cons, not_or] at h
    rw [List.cons_append, parts, if_neg (fun e => h.1 e.symm), parts_one c u v _ h.2]; simp
theorem parts_join : ∀ (R : List (List UInt8)) (p acc : List UInt8), 46 ∉ p → (∀ q ∈ R, (46 : UInt8) ∉ q) → parts 46 acc (p ++ R.flatMap (fun q => 46 :: q)) = (acc ++ p) :: R
  | [], p, acc, h, hR => by
    simp only [List.flatMap_nil, List.append_nil]
    exact parts_none 46 p acc h
  | q :: R, p, acc, h, hR => by
    rw [List.flatMap_cons, List.cons_append, parts_one 46 p _ acc h, parts_join R q [] (hR q List.mem_cons_self) (fun r hr => hR r (List.mem_cons_of_mem _ hr))]
    rfl

theorem first_dig (s : ByteArray) (c : UInt8) (t : List UInt8) (h : B s = c :: t) : bt s 0 = (c.toNat : Int) := (bt_drop (s := s) (i := 0) (c := c) (t := t) h).1

theorem mem_ev (s : ByteArray) (hs : s.size ≤ 1000) (h46 : 46 ∉ B s) : Ev (fun k => impl_NmMember.f k s) (memb s) := by
  have H : Ev (fun k => dbus_isValidMember.f k s) (memb s) := by
    unfold dbus_isValidMember.f memb
    cases hB : B s with
    | nil => exact Ev.yes (by rw [← B_length, hB]; rfl) (Ev.is (by simp [el2]))
    | cons c t =>
      have hz : s.size = t.length + 1 := by rw [← B_length, hB]; rfl
      refine Ev.no (by omega) (Ev.both (fun hb => Ev.is ?_) (fun hb => ?_))
      · have : decide (s.size ≤ 255) = false := decide_eq_false (by omega)
        rw [this, Bool.and_false]
      · have e255 : decide (s.size ≤ 255) = true := decide_eq_true (by omega)
        rw [e255, Bool.and_true]
        have hi := index_ev s (⟨#[46]⟩ : ByteArray) 46 rfl (by omega)
        have hat : at_ 46 (B s) 0 = -1 := by
          rcases at_split 46 (B s) [] 0 with ⟨h3, _, _⟩ | ⟨u, v, e, _, _, _⟩
          · exact h3
          · exact absurd (by rw [e]; simp) h46
        rw [hat] at hi
        have h0 := first_dig s c t hB
        refine Ev.bind hi (Ev.yes rfl (Ev.both (fun hd => Ev.is ?_) (fun hd => Ev.is ?_)))
        · rw [h0] at hd
          have : dig (c :: t) = true := by simp only [dig, decide_eq_true hd.1, decide_eq_true hd.2]; rfl
          simp only [el2, this]; simp
        · rw [h0] at hd
          have : dig (c :: t) = false := by
            rw [Bool.eq_false_iff]
            simp only [dig, ne_eq, Bool.and_eq_true, decide_eq_true_eq]
            exact hd
          simp only [el2, this]; simp
  unfold impl_NmMember.f dbus_DoorMember.f
  exact Ev.bind (Ev.bind H (Ev.now _)) (Ev.now _)

theorem if_go (P : List (List UInt8)) (hP : P.length ≤ 100000) : ∀ (R : List (List UInt8)) (j : Nat), P.drop j = R →
    Ev (fun k => dbus_isValidInterface.l0 k (P.map mkb) ((P.map mkb).length : Int) (j : Int)) (R.all el2)
  | [], j, h => by
    have hl : P.length ≤ j := by
      have h9 := congrArg List.length h
      simp only [List.length_drop, List.length_nil] at h9; omega
    refine Ev.step (fun k => by simp only [dbus_isValidInterface.l0]; rfl) ?_
    rw [List.length_map]
    exact Ev.no (by omega) (Ev.now _)
  | t :: R, j, h => by
    obtain ⟨hr, hl, hd⟩ := rd_mkb P j t R h
    have hw : wrap64 ((j : Int) + 1) = ((j + 1 : Nat) : Int) := by rw [wrap_of (by omega) (by omega)]; omega
    have hz : (mkb t).size = t.length := by rw [← B_length, B_mkb]
    have ih := if_go P hP R (j + 1) hd
    refine Ev.step (fun k => by simp only [dbus_isValidInterface.l0]; rfl) ?_
    rw [hr, hz, List.all_cons]
    rw [List.length_map] at ih ⊢
    refine Ev.yes (by omega) (Ev.yes (by omega) (Ev.yes (by omega) ?_))
    cases t with
    | nil => exact Ev.yes (by simp) (Ev.is (by simp [el2]))
    | cons a t =>
      have h0 := first_dig (mkb (a :: t)) a t rfl
      refine Ev.no (by simp only [List.length_cons]; omega) (Ev.yes (by simp only [List.length_cons]; omega) ?_)
      have bad : dig (a :: t) = true → Ev (fun k => dbus_isValidInterface.j2 k (mkb (a :: t)) (P.map mkb) (P.length : Int) (j : Int) true) (el2 (a :: t) && R.all el2) := by
        intro hd
        refine Ev.step (fun k => by simp only [dbus_isValidInterface.j2]; rfl) ?_
        exact Ev.yes trivial (Ev.is (by simp only [el2, hd]; simp))
      have good : dig (a :: t) = false → Ev (fun k => dbus_isValidInterface.j2 k (mkb (a :: t)) (P.map mkb) (P.length : Int) (j : Int) false) (el2 (a :: t) && R.all el2) := by
        intro hd
        refine Ev.step (fun k => by simp only [dbus_isValidInterface.j2]; rfl) ?_
        refine Ev.no (by simp) ?_
        rw [B_mkb, hw]
        cases hm : (a :: t).all mc with
        | false => exact Ev.yes rfl (Ev.is (by simp only [el2, hm, hd]; simp))
        | true =>
          have e : el2 (a :: t) = true := by simp only [el2, hm, hd]; simp
          rw [e, Bool.true_and]
          exact Ev.no (by simp) ih
      rw [h0]
      refine Ev.both (fun q1 => ?_) (fun q1 => ?_)
      · by_cases q2 : (a.toNat : Int) ≤ 57
        · rw [decide_eq_true q2]
          exact bad (by simp only [dig, decide_eq_true q2, decide_eq_true (show 48 ≤ (a.toNat : Int) from q1)]; rfl)
        · rw [decide_eq_false q2]
          exact good (by simp only [dig, decide_eq_false q2, Bool.and_false])
      · exact good (by simp only [dig, decide_eq_false (show ¬ 48 ≤ (a.toNat : Int) from q1), Bool.false_and])

theorem if_ev (s : ByteArray) (p q : List UInt8) (R : List (List UInt8)) (hB : B s = joinl (p :: q :: R)) (h46 : ∀ x ∈ p :: q :: R, (46 : UInt8) ∉ x) (hR : R.length ≤ 1000) (hs : s.size ≤ 1000000) :
    Ev (fun k => impl_NmInterface.f k s) ((p :: q :: R).all el2 && decide (s.size ≤ 255)) := by
  have H : Ev (fun k => dbus_isValidInterface.f k s) ((p :: q :: R).all el2 && decide (s.size ≤ 255)) := by
    have bad : Ev (fun k => dbus_isValidInterface.j0 k s true) false := by
      refine Ev.step (fun k => by simp only [dbus_isValidInterface.j0]; rfl) ?_
      exact Ev.yes trivial (Ev.now _)
    have hBj : B s = p ++ (q :: R).flatMap (fun q => 46 :: q) := hB
    have hpos : 0 < s.size := by
      rw [← B_length, hBj, List.flatMap_cons]
      simp only [List.length_append, List.cons_append, List.length_cons]; omega
    unfold dbus_isValidInterface.f
    refine Ev.no (by omega) (Ev.both (fun hb => ?_) (fun hb => ?_))
    · have : decide (s.size ≤ 255) = false := decide_eq_false (by omega)
      rw [this, Bool.and_false]; exact bad
    · have : decide (s.size ≤ 255) = true := decide_eq_true (by omega)
      rw [this, Bool.and_true]
      refine Ev.yes (by omega) ?_
      have hsp := split_ev s (⟨#[46]⟩ : ByteArray) 46 rfl (by omega)
      rw [hBj, parts_join (q :: R) p [] (h46 p List.mem_cons_self) (fun x hx => h46 x (List.mem_cons_of_mem _ hx)), List.nil_append] at hsp
      have good : Ev (fun k => dbus_isValidInterface.j0 k s false) ((p :: q :: R).all el2) := by
        refine Ev.step (fun k => by simp only [dbus_isValidInterface.j0]; rfl) ?_
        refine Ev.no (by simp) (Ev.bind hsp (Ev.no ?_ ?_))
        · simp only [List.length_map, List.length_cons]; omega
        · exact if_go (p :: q :: R) (by simp only [List.length_cons]; omega) _ 0 rfl
      by_cases hdot : bt s 0 = 46
      · have e : (bt s 0 == 46) = true := beq_iff_eq.2 hdot
        rw [e]
        cases p with
        | nil =>
          have : ([] :: q :: R).all el2 = false := by simp [el2]
          rw [this]; exact bad
        | cons c t =>
          have h0 := first_dig s c (t ++ (q :: R).flatMap (fun q => 46 :: q)) hBj
          rw [h0] at hdot
          have hc : c = 46 := by
            apply UInt8.toNat_inj.1
            show c.toNat = 46
            omega
          exact absurd (by rw [hc]; simp) (h46 (c :: t) List.mem_cons_self)
      · have e : (bt s 0 == 46) = false := beq_eq_false_iff_ne.2 hdot
        rw [e]; exact good
  unfold impl_NmInterface.f dbus_DoorInterface.f
  exact Ev.bind (Ev.bind H (Ev.now _)) (Ev.now _)

theorem rd_at (L : List ByteArray) (j : Nat) (t : ByteArray) (R : List ByteArray) (h : L.drop j = t :: R) : rdOf ByteArray.empty L (j : Int) = t ∧ j < L.length ∧ L.drop (j + 1) = R := by
  have hl : j < L.length := by
    have h9 := congrArg List.length h
    simp only [List.length_drop, List.length_cons] at h9; omega
  rw [List.drop_eq_getElem_cons hl] at h
  injection h with h1 h2
  refine ⟨?_, hl, h2⟩
  simp [rdOf, hl, h1]

theorem fits5 (L : List ByteArray) (hL : (L.length : Int) ≤ 2147483647) : ∀ (R : List ByteArray) (j : Nat), L.drop j = R → ∃ b, Ev (fun k => laws_zzFits5.l0 k L (L.length : Int) (j : Int)) b
  | [], j, h => by
    have hl : L.length ≤ j := by
      have h9 := congrArg List.length h
      simp only [List.length_drop, List.length_nil] at h9; omega
    refine ⟨true, ?_⟩
    refine Ev.step (fun k => by simp only [laws_zzFits5.l0]; rfl) ?_
    exact Ev.no (by omega) (Ev.now _)
  | t :: R, j, h => by
    obtain ⟨hr, hl, hd⟩ := rd_at L j t R h
    have hw : wrap64 ((j : Int) + 1) = ((j + 1 : Nat) : Int) := by rw [wrap_of (by omega) (by omega)]; omega
    obtain ⟨b, ih⟩ := fits5 L hL R (j + 1) hd
    by_cases hb : (t.size : Int) > 2147483647
    · refine ⟨false, ?_⟩
      refine Ev.step (fun k => by simp only [laws_zzFits5.l0]; rfl) ?_
      rw [hr]
      exact Ev.yes (by omega) (Ev.yes (by omega) (Ev.yes (by omega) (Ev.yes hb (Ev.now _))))
    · refine ⟨b, ?_⟩
      refine Ev.step (fun k => by simp only [laws_zzFits5.l0]; rfl) ?_
      rw [hr, hw]
      exact Ev.yes (by omega) (Ev.yes (by omega) (Ev.yes (by omega) (Ev.no hb ih)))

theorem aMember : Ev (fun k => impl_NmMember.f k (⟨#[97]⟩ : ByteArray)) true :=
  mem_ev (⟨#[97]⟩ : ByteArray) (by decide) (by decide)

/-- The last loop. -/
theorem last_go (s : ByteArray) (L : List ByteArray) (hL : L.length ≤ 40) (hg : ∀ p ∈ L, (46 : UInt8) ∉ B p ∧ p.size ≤ 300)
    (hI : ∃ b, Ev (fun k => impl_NmInterface.f k s) b ∧ b = (L.all memb && decide (s.size ≤ 255))) : ∀ (R : List ByteArray) (j : Nat) (w : Bool), L.drop j = R → (w && R.all memb) = L.all memb →
    Ev (fun k => laws_FnNmInterfaceParts.l2 k s w L (L.length : Int) (j : Int)) true
  | [], j, w, h, hw => by
    have hl : L.length ≤ j := by
      have h9 := congrArg List.length h
      simp only [List.length_drop, List.length_nil] at h9; omega
    simp only [List.all_nil, Bool.and_true] at hw
    subst hw
    obtain ⟨b, hE, rfl⟩ := hI
    refine Ev.step (fun k => by simp only [laws_FnNmInterfaceParts.l2]; rfl) ?_
    refine Ev.no (by omega) (Ev.bind hE ?_)
    cases L.all memb with
    | true =>
      refine Ev.yes rfl (Ev.yes ?_ (Ev.bind aMember (Ev.now _)))
      rw [Bool.true_and, beq_iff_eq, Bool.eq_iff_iff, decide_eq_true_eq, decide_eq_true_eq]; omega
    | false => exact Ev.no (by simp) (Ev.yes rfl (Ev.bind aMember (Ev.now _)))
  | t :: R, j, w, h, hw => by
    obtain ⟨hr, hl, hd⟩ := rd_at L j t R h
    have hm : t ∈ L := by
      have : t ∈ L.drop j := by rw [h]; exact List.mem_cons_self
      exact List.mem_of_mem_drop this
    have hw1 : wrap64 ((j : Int) + 1) = ((j + 1 : Nat) : Int) := by rw [wrap_of (by omega) (by omega)]; omega
    have ih := fun w' hw' => last_go s L hL hg hI R (j + 1) w' hd hw'
    refine Ev.step (fun k => by simp only [laws_FnNmInterfaceParts.l2]; rfl) ?_
    rw [hr, hw1]
    refine Ev.yes (by omega) (Ev.yes (by omega) (Ev.yes (by omega) ?_))
    rw [List.all_cons] at hw
    cases w with
    | true =>
      refine Ev.yes rfl (Ev.bind (mem_ev t (by have := (hg t hm).2; omega) (hg t hm).1) (ih _ ?_))
      rw [← hw, Bool.true_and]
    | false =>
      refine Ev.no (by simp) (ih false ?_)
      rw [← hw]; simp

theorem inner_go (L : List ByteArray) (x3 : ByteArray) (x4 : Bool) (x5 : Int) (p : ByteArray) (x22 x23 : Int) (hp : p.size ≤ 300) (H : (46 : UInt8) ∉ B p → Ev (fun k => if x5 > 0 then (if x3.size + 1 ≤ 9223372036854775807 then (if (x3 ++ (⟨#[46]⟩ : ByteArray)).size + p.size ≤ 9223372036854775807 then (laws_FnNmInterfaceParts.l0 k L ((x3 ++ (⟨#[46]⟩ : ByteArray)) ++ p) x4 L x22 (wrap64 (x23 + 1))) else (none)) else (none)) else (if x3.size + p.size ≤ 9223372036854775807 then (laws_FnNmInterfaceParts.l0 k L (x3 ++ p) x4 L x22 (wrap64 (x23 + 1))) else (none))) true) :
    ∀ (l : List UInt8) (i : Nat), (B p).drop i = l → ((46 : UInt8) ∉ l → (46 : UInt8) ∉ B p) → i ≤ p.size → Ev (fun k => laws_FnNmInterfaceParts.l1 k L x3 x4 x5 p (i : Int) L x22 x23) true
  | [], i, h, hn, hi => by
    have hl := drop_end h
    refine Ev.step (fun k => by simp only [laws_FnNmInterfaceParts.l1]; rfl) ?_
    exact Ev.no (by omega) (H (hn (by simp)))
  | c :: l, i, h, hn, hi => by
    obtain ⟨hb, hl, hd⟩ := bt_drop h
    have hw : wrap64 ((i : Int) + 1) = ((i + 1 : Nat) : Int) := by rw [wrap_of (by omega) (by omega)]; omega
    refine Ev.step (fun k => by simp only [laws_FnNmInterfaceParts.l1]; rfl) ?_
    rw [hb, hw]
    refine Ev.yes (by omega) (Ev.yes (by omega) (Ev.both (fun _ => Ev.now _) (fun h46 => ?_)))
    have hc : c ≠ 46 := by
      rintro rfl
      exact h46 rfl
    exact inner_go L x3 x4 x5 p x22 x23 hp H l (i + 1) hd (fun hl46 => hn (by simp only [List.mem_cons, not_or]; exact ⟨fun e => hc e.symm, hl46⟩)) (by omega)

theorem outer_go (L : List ByteArray) (hL : L.length ≤ 40) (HF : ∀ s : ByteArray, (∀ p ∈ L, (46 : UInt8) ∉ B p ∧ p.size ≤ 300) → B s = joinl (L.map B) → s.size ≤ 40000 → Ev (fun k => laws_FnNmInterfaceParts.l2 k s true L (L.length : Int) 0) true) :
    ∀ (R : List ByteArray) (j : Nat) (acc : ByteArray), L.drop j = R → (∀ p ∈ L.take j, (46 : UInt8) ∉ B p ∧ p.size ≤ 300) → acc.size ≤ j * 301 → B acc ++ (if j = 0 then joinl (R.map B) else (R.map B).flatMap (fun q => 46 :: q)) = joinl (L.map B) →
    Ev (fun k => laws_FnNmInterfaceParts.l0 k L acc true L (L.length : Int) (j : Int)) true
  | [], j, acc, h, hg, hs, hB => by
    have hl : L.length ≤ j := by
      have h9 := congrArg List.length h
      simp only [List.length_drop, List.length_nil] at h9; omega
    have hg' : ∀ p ∈ L, (46 : UInt8) ∉ B p ∧ p.size ≤ 300 := by
      intro p hp
      exact hg p (by rw [List.take_of_length_le hl]; exact hp)
    have hB' : B acc = joinl (L.map B) := by
      rw [← hB]
      split <;> simp [joinl]
    have hj40 : acc.size ≤ 40000 := by
      have hb : ∀ (M : List ByteArray), (∀ p ∈ M, p.size ≤ 300) → ((M.map B).flatMap (fun q => 46 :: q)).length ≤ M.length * 301 := by
        intro M
        induction M with
        | nil => intro _; simp
        | cons p M ih =>
          intro hM
          have h1 := ih (fun q hq => hM q (List.mem_cons_of_mem _ hq))
          have h2 := hM p List.mem_cons_self
          rw [List.map_cons, List.flatMap_cons, List.length_append, List.length_cons, List.length_cons, B_length]
          omega
      have h3 : (joinl (L.map B)).length ≤ ((L.map B).flatMap (fun q => 46 :: q)).length := by
        cases L with
        | nil => simp [joinl]
        | cons p M => simp [joinl]
      have h4 := hb L (fun p hp => (hg' p hp).2)
      rw [← B_length, hB']; omega
    refine Ev.step (fun k => by simp only [laws_FnNmInterfaceParts.l0]; rfl) ?_
    exact Ev.no (by omega) (HF acc hg' hB' hj40)
  | t :: R, j, acc, h, hg, hs, hB => by
    obtain ⟨hr, hl, hd⟩ := rd_at L j t R h
    have hw1 : wrap64 ((j : Int) + 1) = ((j + 1 : Nat) : Int) := by rw [wrap_of (by omega) (by omega)]; omega
    refine Ev.step (fun k => by simp only [laws_FnNmInterfaceParts.l0]; rfl) ?_
    rw [hr]
    refine Ev.yes (by omega) (Ev.yes (by omega) (Ev.yes (by omega) (Ev.both (fun _ => Ev.now _) (fun hbig => ?_))))
    have ht : t.size ≤ 300 := by omega
    refine inner_go L acc true (j : Int) t (L.length : Int) (j : Int) ht (fun h46 => ?_) (B t) 0 rfl (fun h => h) (by omega)
    rw [hw1]
    have hg2 : ∀ p ∈ L.take (j + 1), (46 : UInt8) ∉ B p ∧ p.size ≤ 300 := by
      intro p hp
      have ht' : L.take (j + 1) = L.take j ++ [t] := by
        rw [List.take_succ_eq_append_getElem hl]
        congr 2
        have h9 := h
        rw [List.drop_eq_getElem_cons hl] at h9
        exact (List.cons.inj h9).1
      rw [ht', List.mem_append, List.mem_singleton] at hp
      rcases hp with hp | rfl
      · exact hg p hp
      · exact ⟨h46, ht⟩
    by_cases hj : j = 0
    · subst hj
      refine Ev.no (by decide) (Ev.yes (by omega) ?_)
      refine outer_go L hL HF R 1 (acc ++ t) hd hg2 (by rw [ByteArray.size_append]; omega) ?_
      have h9 := hB
      simp only [if_true, List.map_cons, joinl] at h9
      rw [B_append, List.append_assoc, if_neg (by omega)]
      exact h9
    · refine Ev.yes (by omega) (Ev.yes (by omega) (Ev.yes ?_ ?_))
      · rw [ByteArray.size_append]
        show acc.size + 1 + t.size ≤ _
        omega
      · refine outer_go L hL HF R (j + 1) ((acc ++ (⟨#[46]⟩ : ByteArray)) ++ t) hd hg2 ?_ ?_
        · rw [ByteArray.size_append, ByteArray.size_append]
          show acc.size + 1 + t.size ≤ _
          omega
        · rw [if_neg hj, List.map_cons, List.flatMap_cons] at hB
          rw [if_neg (by omega), B_append, B_append, ← hB]
          simp [B]

theorem FnNmInterfaceParts : laws_FnNmInterfaceParts.Pure := by
  intro L
  suffices h : Ev (fun k => laws_FnNmInterfaceParts.f k L) true by
    obtain ⟨K, h⟩ := h
    exact ⟨K, h K (Nat.le_refl _)⟩
  have out : Ev (fun k => laws_FnNmInterfaceParts.j0 k L true) true := by
    refine Ev.step (fun k => by simp only [laws_FnNmInterfaceParts.j0]; rfl) ?_
    exact Ev.yes trivial (Ev.now _)
  have hfit : ∃ b, Ev (fun k => laws_zzFits5.f k L) b := by
    unfold laws_zzFits5.f
    by_cases h : (L.length : Int) > 2147483647
    · exact ⟨false, Ev.yes h (Ev.now _)⟩
    · obtain ⟨b, hb⟩ := fits5 L (by omega) L 0 rfl
      exact ⟨b, Ev.no h hb⟩
  obtain ⟨b, hb⟩ := hfit
  unfold laws_FnNmInterfaceParts.f
  refine Ev.bind hb ?_
  cases b with
  | false => exact Ev.no (by simp) (Ev.now _)
  | true =>
    refine Ev.yes rfl (Ev.both (fun _ => out) (fun h2 => ?_))
    by_cases h40 : (L.length : Int) > 40
    · rw [decide_eq_true h40]; exact out
    rw [decide_eq_false h40]
    refine Ev.step (fun k => by simp only [laws_FnNmInterfaceParts.j0]; rfl) ?_
    refine Ev.no (by simp) ?_
    refine outer_go L (by omega) (fun s hg hB hs => ?_) L 0 (⟨#[]⟩ : ByteArray) rfl (by simp) (by decide) (by rw [if_pos rfl]; rfl)
    refine last_go s L (by omega) hg ?_ L 0 true rfl (by simp)
    obtain ⟨p, q, R, rfl⟩ : ∃ p q R, L = p :: q :: R := by
      match L, h2 with
      | [], h2 => simp at h2
      | [a], h2 => simp at h2
      | p :: q :: R, _ => exact ⟨p, q, R, rfl⟩
    have hE := if_ev s (B p) (B q) (R.map B) hB (by
      intro x hx
      have : x ∈ (p :: q :: R).map B := hx
      obtain ⟨y, hy, rfl⟩ := List.mem_map.1 this
      exact (hg y hy).1) (by rw [List.length_map]; simp only [List.length_cons] at h40; omega) (by omega)
    refine ⟨_, hE, ?_⟩
    by_cases h255 : s.size ≤ 255
    · have e : ∀ M : List ByteArray, (∀ x ∈ M, x.size ≤ 255) → (M.map B).all el2 = M.all memb := by
        intro M
        induction M with
        | nil => intro _; rfl
        | cons x M ih =>
          intro hM
          rw [List.map_cons, List.all_cons, List.all_cons, ih (fun y hy => hM y (List.mem_cons_of_mem _ hy))]
          simp only [memb, decide_eq_true (hM x List.mem_cons_self), Bool.and_true]
      have hsz : ∀ x ∈ p :: q :: R, x.size ≤ 255 := by
        intro x hx
        have hb : ∀ (M : List ByteArray), x ∈ M → x.size ≤ ((M.map B).flatMap (fun q => 46 :: q)).length := by
          intro M
          induction M with
          | nil => intro h; simp at h
          | cons y M ih =>
            intro h
            rw [List.map_cons, List.flatMap_cons, List.length_append, List.length_cons, B_length]
            rw [List.mem_cons] at h
            rcases h with rfl | h
            · omega
            · have := ih h; omega
        have hlen : s.size = p.size + (((q :: R).map B).flatMap (fun q => 46 :: q)).length := by
          rw [← B_length, hB]
          show (B p ++ _).length = _
          rw [List.length_append, B_length]
        rw [List.mem_cons] at hx
        rcases hx with rfl | hx
        · omega
        · have := hb (q :: R) hx; omega
      have := e (p :: q :: R) hsz
      rw [← this]; rfl
    · rw [decide_eq_false h255, Bool.and_false, Bool.and_false]

end Go.Proofs.Ytheopfecoakhnaa.Pure
