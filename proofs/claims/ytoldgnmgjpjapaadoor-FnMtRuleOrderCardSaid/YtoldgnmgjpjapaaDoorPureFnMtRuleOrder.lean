/-
What is proved: options in another order make a rule of the same terms in that order, which the same messages fit; for every input.
-/
import Derived.Test.YtoldgnmgjpjapaaDoorPg
import Derived.Test.YtoldgnmgjpjapaaDoorQ9
namespace Go.Proofs.YtoldgnmgjpjapaaDoor.PureO
set_option linter.unusedVariables false
set_option linter.unusedSimpArgs false
open Go.RowKit Go.Proofs.YtoldgnmgjpjapaaDoor.Mt Go.Proofs.YtoldgnmgjpjapaaDoor.Q Go.Proofs.YtoldgnmgjpjapaaDoorW.PrintWords Go.Proofs.YtoldgnmgjpjapaaDoorW.PrintLast
open Go.Proofs.YtoldgnmgjpjapaaDoor.Com Go.Proofs.YtoldgnmgjpjapaaDoor.Mr Go.Proofs.YtoldgnmgjpjapaaDoor.Wm Go.Proofs.YtoldgnmgjpjapaaDoor.Mp Go.Proofs.YtoldgnmgjpjapaaDoor.Pf Go.Proofs.YtoldgnmgjpjapaaDoor.Pg

def mro : Prop := ∀ (l0 l1 : List Int) (l2 : List ByteArray) (a3 : Int) (a0 a1 a2 : Int) (L : List S69) (M : List S63), (∀ x ∈ l0, 0 ≤ x) → (∀ x ∈ l1, 0 ≤ x) → 0 ≤ a3 → a3 ≤ 255 → (∀ x ∈ M, x.f2.size ≤ 9223372036854775807) → ∃ k, laws_FnMtRuleOrder.f k l0 l1 l2 a3 a0 a1 a2 L M = some true

theorem rd_pos (l : List Int) (h : ∀ x ∈ l, 0 ≤ x) (j : Nat) : 0 ≤ rd l (j : Int) := by
  unfold rd
  rw [Int.toNat_natCast, List.getD_eq_getElem?_getD]
  by_cases hj : j < l.length
  · rw [List.getElem?_eq_getElem hj]
    exact h _ (List.getElem_mem hj)
  · rw [List.getElem?_eq_none (by omega)]
    exact Int.le_refl 0

/-- The turned row. -/
def tn (A : List S32) (t : Nat) : List S32 := ([] ++ A.drop t) ++ A.take t
theorem tn_length (A : List S32) (t : Nat) (ht : t ≤ A.length) : (tn A t).length = A.length := by
  simp [tn]; omega
theorem tn_mem (A : List S32) (t : Nat) (x : S32) (h : x ∈ tn A t) : x ∈ A := by
  simp only [tn, List.nil_append, List.mem_append] at h
  rcases h with h | h
  · exact List.mem_of_mem_drop h
  · exact List.mem_of_mem_take h
theorem tn_all (A : List S32) (t : Nat) (f : S32 → Bool) : (tn A t).all f = A.all f := by
  conv => rhs; rw [← List.take_append_drop t A]
  rw [tn, List.nil_append, List.all_append, List.all_append, Bool.and_comm]
theorem tn_at (A : List S32) (t j : Nat) (ht : t < A.length) (hj : j < A.length) : (tn A t)[j]? = A[(j + t) % A.length]? := by
  unfold tn
  rw [List.nil_append]
  by_cases h : j < A.length - t
  · rw [List.getElem?_append_left (by rw [List.length_drop]; exact h), List.getElem?_drop, Nat.mod_eq_of_lt (by omega), Nat.add_comm]
  · rw [List.getElem?_append_right (by rw [List.length_drop]; omega), List.length_drop, List.getElem?_take_of_lt (by omega)]
    have e : (j + t) % A.length = j - (A.length - t) := by
      have : j + t = (j - (A.length - t)) + A.length := by omega
      rw [this, Nat.add_mod_right, Nat.mod_eq_of_lt (by omega)]
    rw [e]
theorem rd_map (A : List S32) (i : Nat) (hi : i < A.length) : rd_T41 (A.map c41) (i : Int) = c41 A[i] := by
  simp [rd_T41, hi]
theorem same_at (A : List S32) (t j : Nat) (ht : t < A.length) (hj : j < A.length) : rd_T41 ((tn A t).map c41) (j : Int) = rd_T41 (A.map c41) (((j + t) % A.length : Nat) : Int) := by
  have hm : (j + t) % A.length < A.length := Nat.mod_lt _ (by omega)
  have h1 := tn_at A t j ht hj
  have hl : j < (tn A t).length := by rw [tn_length A t (by omega)]; exact hj
  rw [rd_map _ j hl, rd_map _ _ hm]
  rw [List.getElem?_eq_getElem hl, List.getElem?_eq_getElem hm] at h1
  rw [Option.some.inj h1]

section
variable (l0 l1 : List Int) (l2 : List ByteArray) (a3 : Int) (a0 a1 a2 : Int) (L : List S69) (M : List S63)
theorem cmp_step (n t : Nat) (X Y : List S41) (j : Nat) (hn : n ≠ 0) (hs : n ≤ 20) (ht : t < n) (hX : X.length = n) (hY : Y.length = n) (hj : j < n) (he : rd_T41 Y (j : Int) = rd_T41 X (((j + t) % n : Nat) : Int))
    (h : Ev (fun k => laws_FnMtRuleOrder.l2 k (n : Int) (t : Int) X Y (X.length : Int) ((j + 1 : Nat) : Int) a0 a1 a2 L M) true) : Ev (fun k => laws_FnMtRuleOrder.l2 k (n : Int) (t : Int) X Y (X.length : Int) (j : Int) a0 a1 a2 L M) true := by
  have hw : wrap64 ((j : Int) + 1) = ((j + 1 : Nat) : Int) := by rw [wrap_of (by omega) (by omega)]; omega
  have hw2 : wrap64 ((j : Int) + (t : Int)) = ((j + t : Nat) : Int) := by rw [wrap_of (by omega) (by omega)]; omega
  have hm : Int.tmod ((j + t : Nat) : Int) (n : Int) = (((j + t) % n : Nat) : Int) := rfl
  have hlt : (j + t) % n < n := Nat.mod_lt _ (by omega)
  have q1 : (j : Int) < (X.length : Int) := by omega
  have q2 : ¬ (n : Int) = 0 := by omega
  have q3 : (0 : Int) ≤ (((j + t) % n : Nat) : Int) := by omega
  have q4 : (((j + t) % n : Nat) : Int) < (X.length : Int) := by omega
  have q5 : (0 : Int) ≤ (j : Int) := by omega
  have q6 : (j : Int) < (Y.length : Int) := by omega
  have q7 : ¬ (!(((rd_T41 X (((j + t) % n : Nat) : Int)).f0).toList == ((rd_T41 X (((j + t) % n : Nat) : Int)).f0).toList) || (!(((rd_T41 X (((j + t) % n : Nat) : Int)).f1).toList == ((rd_T41 X (((j + t) % n : Nat) : Int)).f1).toList))) = true := by
    rw [beq_self_eq_true, beq_self_eq_true]; decide
  refine Ev.step (fun k => by rw [laws_FnMtRuleOrder.l2]) ?_
  rw [hw, hw2, hm, he]
  exact Ev.yes q1 (Ev.no q2 (Ev.yes q3 (Ev.yes q4 (Ev.yes q5 (Ev.yes q6 (Ev.no q7 h))))))
theorem cmp_go (A : List S32) (t : Nat) (hs : A.length ≤ 20) (ht : t < A.length) (hx : ∀ x ∈ A, TermOk a0 a1 a2 L M (c41 x)) : ∀ (r j : Nat), j + r = A.length →
    Ev (fun k => laws_FnMtRuleOrder.l2 k (A.length : Int) (t : Int) (A.map c41) ((tn A t).map c41) ((A.map c41).length : Int) (j : Int) a0 a1 a2 L M) true
  | 0, j, hj => by
    have hX : ∀ t ∈ A.map c41, TermOk a0 a1 a2 L M t := fun t ht => by
      obtain ⟨x, hm, rfl⟩ := List.mem_map.1 ht
      exact hx x hm
    have hY : ∀ y ∈ (tn A t).map c41, TermOk a0 a1 a2 L M y := fun y hy => by
      obtain ⟨x, hm, rfl⟩ := List.mem_map.1 hy
      exact hx x (tn_mem A t x hm)
    have e1 := all_ev a0 a1 a2 L M (A.map c41) hX (by rw [List.length_map]; omega)
    have e2 := all_ev a0 a1 a2 L M ((tn A t).map c41) hY (by rw [List.length_map, tn_length A t (by omega)]; omega)
    have hall : ((tn A t).map c41).all (fb a0 a1 a2 L M) = (A.map c41).all (fb a0 a1 a2 L M) := by rw [List.all_map, List.all_map, tn_all]
    rw [hall] at e2
    have q : ¬ (j : Int) < ((A.map c41).length : Int) := by rw [List.length_map]; omega
    refine Ev.step (fun k => by rw [laws_FnMtRuleOrder.l2]) (Ev.no q ?_)
    exact Ev.bind e1 (Ev.bind e2 (Ev.yes rfl (Ev.yes rfl (Ev.is (by rw [beq_self_eq_true])))))
  | r + 1, j, hj => by
    have ih := cmp_go A t hs ht hx r (j + 1) (by omega)
    exact cmp_step a0 a1 a2 L M A.length t (A.map c41) ((tn A t).map c41) j (by omega) hs ht (by rw [List.length_map]) (by rw [List.length_map, tn_length A t (by omega)]) (by omega) (same_at A t j ht (by omega)) ih

/-- Option i is one of those that the law speaks of. -/
def Good (i : Nat) : Prop := rd l0 (i : Int) ≤ 8 ∧ rd l1 (i : Int) ≤ 63 ∧ ((rdOf ByteArray.empty l2 (i : Int)).size ≤ 300 ∧ (B (rdOf ByteArray.empty l2 (i : Int))).all (· != 39) = true)

theorem last_step (A : List S32) (hs : A.length ≤ 20) (hn : A.length ≠ 0) (h3 : 0 ≤ a3) (h4 : a3 ≤ 255) (hx : ∀ x ∈ A, okx x = true ∧ TermOk a0 a1 a2 L M (c41 x)) (e0 : l0.length = A.length) :
    Ev (fun k => laws_FnMtRuleOrder.l1 k l0 l1 l2 a3 (A.length : Int) A (A.length : Int) (A.length : Int) a0 a1 a2 L M) true := by
  obtain ⟨s, rfl⟩ := Int.eq_ofNat_of_zero_le h3
  have ht : s % A.length < A.length := Nat.mod_lt _ (by omega)
  have w3 : Int.tmod (wrap64 (s : Int)) (A.length : Int) = ((s % A.length : Nat) : Int) := by rw [wrap_of (by omega) (by omega)]; rfl
  have hok : ∀ x ∈ A, okx x = true := fun x hm => (hx x hm).1
  have hsz : ∀ x ∈ A, x.f0.size ≤ 1000 ∧ x.f1.size ≤ 1000 := fun x hm => by
    obtain ⟨h3, h4, _⟩ := okx_iff x (hok x hm)
    exact ⟨by omega, by omega⟩
  have hok2 : ∀ x ∈ tn A (s % A.length), okx x = true := fun x hm => hok x (tn_mem _ _ x hm)
  have hsz2 : ∀ x ∈ tn A (s % A.length), x.f0.size ≤ 1000 ∧ x.f1.size ≤ 1000 := fun x hm => hsz x (tn_mem _ _ x hm)
  have hl2 := tn_length A (s % A.length) (by omega)
  have q0 : ¬ (A.length : Int) < (A.length : Int) := by omega
  have q1 : ¬ (A.length : Int) = 0 := by omega
  have q2 : (0 : Int) ≤ ((s % A.length : Nat) : Int) := by omega
  have q3 : ((s % A.length : Nat) : Int) ≤ (A.length : Int) := by omega
  have q4 : ([] : List S32).length + (A.drop (((s % A.length : Nat) : Int).toNat)).length < 4398046511104 := by rw [List.length_drop]; simp only [List.length_nil]; omega
  have q5 : (([] : List S32) ++ A.drop (((s % A.length : Nat) : Int).toNat)).length + (A.take (((s % A.length : Nat) : Int).toNat)).length < 4398046511104 := by rw [List.nil_append, List.length_drop, List.length_take]; omega
  have hcmp : Ev (fun k => laws_FnMtRuleOrder.l2 k (A.length : Int) ((s % A.length : Nat) : Int) (A.map c41) ((tn A (s % A.length)).map c41) ((A.map c41).length : Int) 0 a0 a1 a2 L M) true := cmp_go a0 a1 a2 L M A (s % A.length) hs ht (fun x hm => (hx x hm).2) A.length 0 (by omega)
  have hj : Ev (fun k => laws_FnMtRuleOrder.j4 k (A.length : Int) ((s % A.length : Nat) : Int) (A.map c41) ((tn A (s % A.length)).map c41) ((((tn A (s % A.length)).map c41).length : Int) != (A.length : Int)) a0 a1 a2 L M) true := by
    have e : ((((tn A (s % A.length)).map c41).length : Int) != (A.length : Int)) = false := by rw [List.length_map, hl2]; simp
    rw [e]
    exact Ev.step (fun k => by rw [laws_FnMtRuleOrder.j4]) (Ev.no Bool.false_ne_true hcmp)
  refine Ev.step (fun k => by rw [laws_FnMtRuleOrder.l1]) (Ev.no q0 (Ev.no q1 ?_))
  rw [w3]
  refine Ev.let (Ev.yes q2 (Ev.yes q3 (Ev.let (Ev.yes q4 (Ev.let (Ev.let (Ev.yes q5 ?_)))))))
  refine Ev.bind (mt_ev A (by omega) hsz) (Ev.bind (read_ev A hok (by omega)) (Ev.bind (mt_ev (tn A (s % A.length)) (by omega) hsz2) (Ev.bind (read_ev (tn A (s % A.length)) hok2 (by omega)) (Ev.yes rfl (Ev.yes rfl (Ev.yes ?_ hj))))))
  show ((A.map c41).length : Int) = (A.length : Int)
  rw [List.length_map]

theorem opt_step (A : List S32) (j : Nat) (hj : j < l0.length) (hs : l0.length ≤ 20) (hA : A.length ≤ 1000) (e1 : l1.length = l0.length) (e2 : l2.length = l0.length) (key v : ByteArray)
    (hwi : impl_MtWith.f (wrap64 (rd l0 (j : Int))) (wrap64 (rd l1 (j : Int))) (rdOf ByteArray.empty l2 (j : Int)) = some (key, v, true))
    (h : Ev (fun k => laws_FnMtRuleOrder.l1 k l0 l1 l2 a3 (l0.length : Int) (A ++ [⟨key, v⟩]) (l0.length : Int) ((j + 1 : Nat) : Int) a0 a1 a2 L M) true) : Ev (fun k => laws_FnMtRuleOrder.l1 k l0 l1 l2 a3 (l0.length : Int) A (l0.length : Int) (j : Int) a0 a1 a2 L M) true := by
  have q1 : (j : Int) < (l0.length : Int) := by omega
  have q2 : (0 : Int) ≤ (j : Int) := by omega
  have q3 : (j : Int) < (l1.length : Int) := by omega
  have q4 : (j : Int) < (l2.length : Int) := by omega
  have q5 : A.length < 4398046511104 := by omega
  have hw : wrap64 ((j : Int) + 1) = ((j + 1 : Nat) : Int) := by rw [wrap_of (by omega) (by omega)]; omega
  refine Ev.step (fun k => by rw [laws_FnMtRuleOrder.l1]) ?_
  rw [hw]
  exact Ev.yes q1 (Ev.yes q2 (Ev.yes q1 (Ev.yes q3 (Ev.yes q4 (Ev.call hwi (Ev.yes rfl (Ev.yes q5 h)))))))

theorem opts (h0 : ∀ x ∈ l0, 0 ≤ x) (h1 : ∀ x ∈ l1, 0 ≤ x) (h3 : 0 ≤ a3) (h4 : a3 ≤ 255) (hS : ∀ x ∈ M, x.f2.size ≤ 9223372036854775807) (hL : (L.length : Int) ≤ 2147483647) (hM : M.length ≤ 70) (hn : l0.length ≤ 20) (hz : l0.length ≠ 0) (e1 : l1.length = l0.length) (e2 : l2.length = l0.length)
    (hg : ∀ i, i < l0.length → Good l0 l1 l2 i) : ∀ (r j : Nat) (A : List S32), j + r = l0.length → A.length = j → (∀ x ∈ A, okx x = true ∧ TermOk a0 a1 a2 L M (c41 x)) → Ev (fun k => laws_FnMtRuleOrder.l1 k l0 l1 l2 a3 (l0.length : Int) A (l0.length : Int) (j : Int) a0 a1 a2 L M) true
  | 0, j, A, hj, hA, hx => by
    have e : l0.length = A.length := by omega
    have := last_step l0 l1 l2 a3 a0 a1 a2 L M A (by omega) (by omega) h3 h4 hx e
    obtain rfl : j = l0.length := by omega
    rw [e]
    exact this
  | r + 1, j, A, hj, hA, hx => by
    have p0 := rd_pos l0 h0 j
    have p1 := rd_pos l1 h1 j
    obtain ⟨g1, g2, g3⟩ := hg j (by omega)
    obtain ⟨kd, hkd⟩ := Int.eq_ofNat_of_zero_le p0
    obtain ⟨nn, hnn⟩ := Int.eq_ofNat_of_zero_le p1
    have hk8 : kd ≤ 8 := by omega
    have hn63 : nn ≤ 63 := by omega
    have hx2 := okx_mk kd nn hk8 hn63 _ g3
    have ht : TermOk a0 a1 a2 L M (c41 ⟨optKey kd nn, rdOf ByteArray.empty l2 (j : Int)⟩) := opt_fits a0 a1 a2 L M hL (by omega) hS kd nn hk8 hn63 _ g3.1
    have w0 : wrap64 (rd l0 (j : Int)) = (kd : Int) := by rw [hkd, wrap_of (by omega) (by omega)]
    have w1 : wrap64 (rd l1 (j : Int)) = (nn : Int) := by rw [hnn, wrap_of (by omega) (by omega)]
    have ih := opts h0 h1 h3 h4 hS hL hM hn hz e1 e2 hg r (j + 1) (A ++ [⟨optKey kd nn, rdOf ByteArray.empty l2 (j : Int)⟩]) (by omega) (by rw [List.length_append, hA]; rfl) (fun x hm => by
      rcases List.mem_append.1 hm with hm | hm
      · exact hx x hm
      · rw [List.mem_singleton.1 hm]; exact ⟨hx2, ht⟩)
    exact opt_step l0 l1 l2 a3 a0 a1 a2 L M A j (by omega) hn (by omega) e1 e2 (optKey kd nn) _ (by rw [w0, w1]; exact with_is kd nn hk8 hn63 _) ih

theorem look_no (j : Nat) (hj : j < l0.length) (e1 : l1.length = l0.length) (e2 : l2.length = l0.length) (n : Int) (h : rd l0 (j : Int) > 8 ∨ (¬ rd l0 (j : Int) > 8 ∧ rd l1 (j : Int) > 63)) :
    Ev (fun k => laws_FnMtRuleOrder.l0 k l0 l1 l2 a3 n (l0.length : Int) (j : Int) a0 a1 a2 L M) true := by
  have q1 : (j : Int) < (l0.length : Int) := by omega
  have q2 : (0 : Int) ≤ (j : Int) := by omega
  have q3 : (j : Int) < (l1.length : Int) := by omega
  refine Ev.step (fun k => by rw [laws_FnMtRuleOrder.l0]) ?_
  rcases h with c1 | ⟨c1, c2⟩
  · exact Ev.yes q1 (Ev.yes q2 (Ev.yes q1 (Ev.yes c1 (Ev.now _))))
  · exact Ev.yes q1 (Ev.yes q2 (Ev.yes q1 (Ev.no c1 (Ev.yes q3 (Ev.yes c2 (Ev.now _))))))
theorem look_step (j : Nat) (hj : j < l0.length) (hs : l0.length ≤ 20) (e1 : l1.length = l0.length) (e2 : l2.length = l0.length) (n : Int) (c1 : ¬ rd l0 (j : Int) > 8) (c2 : ¬ rd l1 (j : Int) > 63) (b : Bool)
    (hb : Ev (fun k => laws_mtPlain.f k [(⟨(⟨#[]⟩ : ByteArray), rdOf ByteArray.empty l2 (j : Int)⟩ : S32)]) b)
    (h : b = true → Ev (fun k => laws_FnMtRuleOrder.l0 k l0 l1 l2 a3 n (l0.length : Int) ((j + 1 : Nat) : Int) a0 a1 a2 L M) true) : Ev (fun k => laws_FnMtRuleOrder.l0 k l0 l1 l2 a3 n (l0.length : Int) (j : Int) a0 a1 a2 L M) true := by
  have q1 : (j : Int) < (l0.length : Int) := by omega
  have q2 : (0 : Int) ≤ (j : Int) := by omega
  have q3 : (j : Int) < (l1.length : Int) := by omega
  have q4 : (j : Int) < (l2.length : Int) := by omega
  have hw : wrap64 ((j : Int) + 1) = ((j + 1 : Nat) : Int) := by rw [wrap_of (by omega) (by omega)]; omega
  refine Ev.step (fun k => by rw [laws_FnMtRuleOrder.l0]) ?_
  rw [hw]
  refine Ev.yes q1 (Ev.yes q2 (Ev.yes q1 (Ev.no c1 (Ev.yes q3 (Ev.no c2 (Ev.yes q4 (Ev.bind hb ?_)))))))
  cases b with
  | true => exact Ev.yes rfl (h rfl)
  | false => exact Ev.no Bool.false_ne_true (Ev.now _)
theorem looks (n : Int) (hn : l0.length ≤ 20) (e1 : l1.length = l0.length) (e2 : l2.length = l0.length) (hfin : (∀ i, i < l0.length → Good l0 l1 l2 i) → Ev (fun k => laws_FnMtRuleOrder.l1 k l0 l1 l2 a3 n ([] : List S32) (l0.length : Int) 0 a0 a1 a2 L M) true) :
    ∀ (r j : Nat), j + r = l0.length → (∀ i, i < j → Good l0 l1 l2 i) → Ev (fun k => laws_FnMtRuleOrder.l0 k l0 l1 l2 a3 n (l0.length : Int) (j : Int) a0 a1 a2 L M) true
  | 0, j, hj, hg => by
    have q : ¬ (j : Int) < (l0.length : Int) := by omega
    exact Ev.step (fun k => by rw [laws_FnMtRuleOrder.l0]) (Ev.no q (hfin (fun i hi => hg i (by omega))))
  | r + 1, j, hj, hg => by
    have hjl : j < l0.length := by omega
    by_cases c1 : rd l0 (j : Int) > 8
    · exact look_no l0 l1 l2 a3 a0 a1 a2 L M j hjl e1 e2 n (.inl c1)
    by_cases c2 : rd l1 (j : Int) > 63
    · exact look_no l0 l1 l2 a3 a0 a1 a2 L M j hjl e1 e2 n (.inr ⟨c1, c2⟩)
    obtain ⟨b, hb, hbv⟩ := plain1_ev (rdOf ByteArray.empty l2 (j : Int))
    refine look_step l0 l1 l2 a3 a0 a1 a2 L M j hjl hn e1 e2 n c1 c2 b hb (fun hbt => looks n hn e1 e2 hfin r (j + 1) (by omega) (fun i hi => ?_))
    by_cases hij : i = j
    · subst hij
      exact ⟨by omega, by omega, hbv hbt⟩
    · exact hg i (by omega)
end

theorem FnMtRuleOrder : mro := by
  intro l0 l1 l2 a3 a0 a1 a2 L M h0 h1 h3 h4 hS
  apply Ev.rounds
  have out : Ev (fun k => laws_FnMtRuleOrder.j0 k l0 l1 l2 a3 true a0 a1 a2 L M) true := Ev.step (fun k => by rw [laws_FnMtRuleOrder.j0]) (Ev.yes rfl (Ev.now _))
  have out1 : Ev (fun k => laws_FnMtRuleOrder.j1 k l0 l1 l2 a3 (l0.length : Int) true a0 a1 a2 L M) true := Ev.step (fun k => by rw [laws_FnMtRuleOrder.j1]) (Ev.yes rfl (Ev.now _))
  unfold laws_FnMtRuleOrder.f
  refine Ev.both (fun _ => out) (fun c0 => Ev.both (fun _ => out) (fun c1 => ?_))
  obtain ⟨b, hb⟩ := fits5_ev l2
  refine Ev.bind hb (Ev.both (fun hb1 => ?_) (fun _ => out))
  obtain ⟨b2, hb2, hb3⟩ := fits1_ev a0 a1 a2 L M
  refine Ev.call hb2 ?_
  cases b2 with
  | false => exact out
  | true =>
    have hL := hb3 rfl
    show Ev (fun k => laws_FnMtRuleOrder.j0 k l0 l1 l2 a3 false a0 a1 a2 L M) true
    refine Ev.step (fun k => by rw [laws_FnMtRuleOrder.j0]) (Ev.no Bool.false_ne_true (Ev.both (fun _ => out1) (fun cz => Ev.both (fun _ => out1) (fun c2 => Ev.both (fun c3 => Ev.both (fun c4 => ?_) (fun _ => out1)) (fun _ => out1)))))
    by_cases c5 : (M.length : Int) > 70
    · rw [decide_eq_true c5]
      exact out1
    · rw [decide_eq_false c5]
      refine Ev.step (fun k => by rw [laws_FnMtRuleOrder.j1]) (Ev.no Bool.false_ne_true ?_)
      exact looks l0 l1 l2 a3 a0 a1 a2 L M (l0.length : Int) (by omega) (by omega) (by omega) (fun hg => opts l0 l1 l2 a3 a0 a1 a2 L M h0 h1 h3 h4 hS hL (by omega) (by omega) (by omega) (by omega) (by omega) hg l0.length 0 [] (by omega) rfl (fun x hm => by cases hm)) l0.length 0 (by omega) (fun i hi => by omega)
end Go.Proofs.YtoldgnmgjpjapaaDoor.PureO
