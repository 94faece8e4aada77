import Derived.Test.YthhiijehdpchbaaQ4
import Derived.Test.YthhiijehdpchbaaQ6
import Derived.Test.YthhiijehdpchbaaSpec
import Derived.Test.YthhiijehdpchbaaSg2
namespace Go.Proofs.Ythhiijehdpchbaa.Left
set_option linter.unusedVariables false
set_option linter.unusedSimpArgs false
open Go.RowKit Go.Proofs.Ythhiijehdpchbaa.Ext Go.Proofs.Ythhiijehdpchbaa.Q Go.Proofs.YthhiijehdpchbaaW.PrintWords Go.Proofs.YthhiijehdpchbaaW.PrintLast
open Go.Proofs.Ythhiijehdpchbaa.Com Go.Proofs.Ythhiijehdpchbaa.Tree Go.Proofs.Ythhiijehdpchbaa.Spec Go.Proofs.Ythhiijehdpchbaa.Sg

theorem np_cons (c : UInt8) (l : List UInt8) (h1 : ¬ (c = 40 ∧ l.head? = some 41)) (h2 : ¬ (c = 123 ∧ l.head? = some 118)) (h : np l = true) : np (c :: l) = true := by
  have e1 : (c == 40 && l.head? == some 41) = false := by
    rw [Bool.eq_false_iff]
    intro h
    simp only [Bool.and_eq_true, beq_iff_eq] at h
    exact h1 h
  have e2 : (c == 123 && l.head? == some 118) = false := by
    rw [Bool.eq_false_iff]
    intro h
    simp only [Bool.and_eq_true, beq_iff_eq] at h
    exact h2 h
  rw [np, e1, e2, h]; rfl

/-- The walk over the marks comes to an end; where it says no, no "()" and no "{v" stood there. -/
theorem left_ev (s : ByteArray) (hs : s.size ≤ 4096) : ∀ (n i : Nat) (x3 : List Int), s.size - i ≤ n → x3.length ≤ i → i ≤ s.size →
    ∃ b, Ev (fun k => laws_sgLeft.l0 k s x3 (i : Int)) b ∧ (b = false → np ((B s).drop i) = true) := by
  intro n
  induction n with
  | zero =>
    intro i x3 h1 h2 h3
    refine ⟨false, ?_, fun _ => ?_⟩
    · refine Ev.step (fun k => by simp only [laws_sgLeft.l0]; rfl) ?_
      exact Ev.no (by omega) (Ev.now _)
    · rw [List.drop_eq_nil_of_le (by rw [B_length]; omega)]; rfl
  | succ n ih =>
    intro i x3 h1 h2 h3
    by_cases hi : i = s.size
    · exact ih i x3 (by omega) h2 h3
    have hw1 : wrap64 ((i : Int) + 1) = ((i + 1 : Nat) : Int) := by rw [wrap_of (by omega) (by omega)]; omega
    have hw2 : wrap64 ((i : Int) + 2) = ((i + 2 : Nat) : Int) := by rw [wrap_of (by omega) (by omega)]; omega
    have hil : i < (B s).length := by rw [B_length]; omega
    have hdrop : (B s).drop i = (B s)[i] :: (B s).drop (i + 1) := List.drop_eq_getElem_cons hil
    have hc : bt s (i : Int) = ((B s)[i].toNat : Int) := bt_get s i hil
    generalize (B s)[i] = c at hdrop hc
    have ei : ((i : Int)).toNat = i := by omega
    have ei2 : (((i + 2 : Nat) : Int)).toNat = i + 2 := by omega
    have start : ∀ b, Ev (fun k => laws_sgLeft.j1 k s x3 (i : Int) (bt s (i : Int)) ((c == 40) || (c == 123))) b → Ev (fun k => laws_sgLeft.l0 k s x3 (i : Int)) b := by
      intro b h
      refine Ev.step (fun k => by simp only [laws_sgLeft.l0]; rfl) ?_
      refine Ev.yes (by omega) (Ev.yes (by omega) (Ev.both (fun h40 => ?_) (fun h40 => ?_)))
      · have e40 : (bt s (i : Int) == 40) = true := by rw [h40]; rfl
        rw [e40]
        rw [hc] at h40
        have : c = 40 := (Sg.byte_eq c 40 (by omega)).1 h40
        subst this
        exact h
      · have hn : (c == 40) = false := by
          rw [beq_eq_false_iff_ne]
          rintro rfl
          exact h40 (by rw [hc]; rfl)
        rw [hn, Bool.false_or] at h
        have e : (bt s (i : Int) == 123) = (c == 123) := by
          rw [hc, Bool.eq_iff_iff, beq_iff_eq, beq_iff_eq]
          exact Sg.byte_eq c 123 (by omega)
        rw [e]; exact h
    by_cases hop : ((c == 40) || (c == 123)) = true
    · rw [hop] at start
      obtain ⟨b, hE, hT⟩ := ih (i + 1) (x3 ++ [bt s (i : Int)]) (by omega) (by simp; omega) (by omega)
      by_cases hl : i + 1 < s.size
      · have hil1 : i + 1 < (B s).length := by rw [B_length]; omega
        have hdrop1 : (B s).drop (i + 1) = (B s)[i + 1] :: (B s).drop (i + 2) := List.drop_eq_getElem_cons hil1
        generalize (B s)[i + 1] = d at hdrop1
        have hx : (s.extract i (i + 2)).toList = [c, d] := by
          rw [B_toList, B_extract, hdrop, hdrop1]
          have : i + 2 - i = 2 := by omega
          rw [this]; rfl
        by_cases hb1 : ([c, d] : List UInt8) = [40, 41]
        · refine ⟨true, start _ ?_, fun h => by simp at h⟩
          refine Ev.step (fun k => by simp only [laws_sgLeft.j1]; rfl) ?_
          rw [hw1, hw2, ei, ei2]
          refine Ev.yes trivial (Ev.yes (by omega) (Ev.yes (by omega) (Ev.yes (by omega) (Ev.call rfl (Ev.yes (by omega) (Ev.yes (by omega) (Ev.yes (by omega) (Ev.yes ?_ (Ev.now _)))))))))
          rw [hx]; exact hb1
        · by_cases hb2 : ([c, d] : List UInt8) = [123, 118]
          · refine ⟨true, start _ ?_, fun h => by simp at h⟩
            refine Ev.step (fun k => by simp only [laws_sgLeft.j1]; rfl) ?_
            rw [hw1, hw2, ei, ei2]
            refine Ev.yes trivial (Ev.yes (by omega) (Ev.yes (by omega) (Ev.yes (by omega) (Ev.call rfl (Ev.yes (by omega) (Ev.yes (by omega) (Ev.yes (by omega) (Ev.no ?_ (Ev.yes ?_ (Ev.now _))))))))))
            · rw [hx]; exact hb1
            · rw [hx]; exact hb2
          · refine ⟨b, start _ ?_, fun hb => ?_⟩
            · refine Ev.step (fun k => by simp only [laws_sgLeft.j1]; rfl) ?_
              rw [hw1, hw2, ei, ei2]
              refine Ev.yes trivial (Ev.yes (by omega) (Ev.yes (by omega) (Ev.yes (by omega) (Ev.call rfl (Ev.yes (by omega) (Ev.yes (by omega) (Ev.yes (by omega) (Ev.no ?_ (Ev.no ?_ hE)))))))))
              · rw [hx]; exact hb1
              · rw [hx]; exact hb2
            · rw [hdrop]
              refine np_cons _ _ ?_ ?_ (hT hb)
              · rintro ⟨rfl, h⟩
                rw [hdrop1] at h
                simp only [List.head?_cons, Option.some.injEq] at h
                subst h; exact hb1 rfl
              · rintro ⟨rfl, h⟩
                rw [hdrop1] at h
                simp only [List.head?_cons, Option.some.injEq] at h
                subst h; exact hb2 rfl
      · have hd0 : (B s).drop (i + 1) = [] := List.drop_eq_nil_of_le (by rw [B_length]; omega)
        refine ⟨b, start _ ?_, fun hb => ?_⟩
        · refine Ev.step (fun k => by simp only [laws_sgLeft.j1]; rfl) ?_
          rw [hw1]
          exact Ev.yes trivial (Ev.yes (by omega) (Ev.yes (by omega) (Ev.yes (by omega) (Ev.call rfl (Ev.no (by omega) hE)))))
        · rw [hdrop]
          exact np_cons _ _ (by rw [hd0]; simp) (by rw [hd0]; simp) (hT hb)
    · have hop' : ((c == 40) || (c == 123)) = false := by simpa using hop
      rw [hop'] at start
      have hnp : np ((B s).drop (i + 1)) = true → np ((B s).drop i) = true := by
        intro h
        rw [hdrop]
        simp only [Bool.or_eq_true, beq_iff_eq, not_or] at hop
        exact np_cons _ _ (fun h => hop.1 h.1) (fun h => hop.2 h.1) h
      have go : ∃ m, ∀ b, Ev (fun k => laws_sgLeft.j2 k s x3 (i : Int) m) b → Ev (fun k => laws_sgLeft.l0 k s x3 (i : Int)) b := by
        by_cases h41 : bt s (i : Int) = 41
        · refine ⟨bt s (i : Int) == 41, fun b h => start b ?_⟩
          refine Ev.step (fun k => by simp only [laws_sgLeft.j1]; rfl) ?_
          exact Ev.no (by simp) (Ev.yes h41 h)
        · refine ⟨bt s (i : Int) == 125, fun b h => start b ?_⟩
          refine Ev.step (fun k => by simp only [laws_sgLeft.j1]; rfl) ?_
          exact Ev.no (by simp) (Ev.no h41 h)
      obtain ⟨m, go⟩ := go
      cases m with
      | false =>
        obtain ⟨b, hE, hT⟩ := ih (i + 1) x3 (by omega) (by omega) (by omega)
        refine ⟨b, go _ ?_, fun hb => hnp (hT hb)⟩
        refine Ev.step (fun k => by simp only [laws_sgLeft.j2]; rfl) ?_
        rw [hw1]
        exact Ev.no (by simp) hE
      | true =>
        by_cases h0 : x3.length = 0
        · obtain ⟨b, hE, hT⟩ := ih (i + 1) x3 (by omega) (by omega) (by omega)
          refine ⟨b, go _ ?_, fun hb => hnp (hT hb)⟩
          refine Ev.step (fun k => by simp only [laws_sgLeft.j2]; rfl) ?_
          rw [hw1]
          exact Ev.yes trivial (Ev.yes (by omega) hE)
        · have hw3 : wrap64 ((x3.length : Int) - 1) = ((x3.length - 1 : Nat) : Int) := by rw [wrap_of (by omega) (by omega)]; omega
          have ei3 : (((x3.length - 1 : Nat) : Int)).toNat = x3.length - 1 := by omega
          obtain ⟨b, hE, hT⟩ := ih (i + 1) (x3.take (x3.length - 1)) (by omega) (by simp; omega) (by omega)
          by_cases hm : ((rd x3 ((x3.length - 1 : Nat) : Int) == 40) != (bt s (i : Int) == 41)) = true
          · refine ⟨true, go _ ?_, fun h => by simp at h⟩
            refine Ev.step (fun k => by simp only [laws_sgLeft.j2]; rfl) ?_
            rw [hw1, hw3, ei3]
            exact Ev.yes trivial (Ev.no (by omega) (Ev.yes (by omega) (Ev.yes (by omega) (Ev.yes (by omega) (Ev.yes (by omega) (Ev.yes hm (Ev.now _)))))))
          · refine ⟨b, go _ ?_, fun hb => hnp (hT hb)⟩
            refine Ev.step (fun k => by simp only [laws_sgLeft.j2]; rfl) ?_
            rw [hw1, hw3, ei3]
            exact Ev.yes trivial (Ev.no (by omega) (Ev.yes (by omega) (Ev.yes (by omega) (Ev.yes (by omega) (Ev.yes (by omega) (Ev.no hm (Ev.yes (by omega) hE)))))))

theorem left_all (s : ByteArray) (hs : s.size ≤ 4096) : ∃ b, Ev (fun k => laws_sgLeft.f k s) b ∧ (b = false → np (B s) = true) :=
  left_ev s hs s.size 0 [] (by omega) (by simp) (by omega)

/-- "a{sv}" is a signature. -/
theorem asv : Sig (B (⟨#[97, 123, 115, 118, 125]⟩ : ByteArray)) :=
  ⟨.more (.d 115 (.b 118)) .nil, by decide, by decide, by decide, by decide⟩

end Go.Proofs.Ythhiijehdpchbaa.Left
namespace Go.Proofs.Ythhiijehdpchbaa.Pure
set_option linter.unusedVariables false
set_option linter.unusedSimpArgs false
open Go.RowKit Go.Proofs.Ythhiijehdpchbaa.Ext Go.Proofs.Ythhiijehdpchbaa.Q Go.Proofs.YthhiijehdpchbaaW.PrintWords Go.Proofs.YthhiijehdpchbaaW.PrintLast
open Go.Proofs.Ythhiijehdpchbaa.Com Go.Proofs.Ythhiijehdpchbaa.Tree Go.Proofs.Ythhiijehdpchbaa.Spec Go.Proofs.Ythhiijehdpchbaa.Sg Go.Proofs.Ythhiijehdpchbaa.Left

/-- How many texts still come out of one of this length, itself among them. -/
def wt : Nat → Nat
  | 0 => 2801
  | 1 => 400
  | 2 => 57
  | 3 => 8
  | _ => 1
theorem wt_pos (n : Nat) : 1 ≤ wt n := by
  unfold wt; split <;> omega
theorem wt_step (n : Nat) (h : n < 4) : wt n = 1 + 7 * wt (n + 1) := by
  have : n = 0 ∨ n = 1 ∨ n = 2 ∨ n = 3 := by omega
  rcases this with rfl | rfl | rfl | rfl <;> rfl
/-- All that still comes out of the texts of a list. -/
def pot : List ByteArray → Nat
  | [] => 0
  | t :: l => wt t.size + pot l
theorem pot_app : ∀ (a b : List ByteArray), pot (a ++ b) = pot a + pot b
  | [], b => by simp [pot]
  | t :: a, b => by
    show wt t.size + pot (a ++ b) = wt t.size + pot a + pot b
    rw [pot_app a b]; omega
theorem pot_len : ∀ (a : List ByteArray), a.length ≤ pot a
  | [] => by simp [pot]
  | t :: a => by
    have := pot_len a
    have := wt_pos t.size
    simp only [pot, List.length_cons]; omega
theorem yLetter : Sig (B (⟨#[121]⟩ : ByteArray)) := ⟨.more (.b 121) .nil, by decide, by decide, by decide, by decide⟩

/-- The inner loop: the texts with one letter more. -/
theorem inner {n : Nat} (a0 : ByteArray) (ha : a0.size ≤ 7) (i : Nat) (t : ByteArray) (ht : t.size ≤ 4) (H : ∀ (x3 : List ByteArray), (∀ s ∈ x3, s.size ≤ 4) → i + 1 + pot (x3.drop (i + 1)) ≤ 2801 → i + 1 ≤ x3.length → pot (x3.drop (i + 1)) + 1 ≤ n → Ev (fun k => laws_FnSgGrammar.l0 k a0 x3 ((i + 1 : Nat) : Int)) true) :
    ∀ (m j : Nat) (x3 : List ByteArray), a0.size - j ≤ m → j ≤ a0.size → (∀ s ∈ x3, s.size ≤ 4) → i + 1 ≤ x3.length →
      (t.size < 4 → i + 1 + pot (x3.drop (i + 1)) + (a0.size - j) * wt (t.size + 1) ≤ 2801 ∧ pot (x3.drop (i + 1)) + (a0.size - j) * wt (t.size + 1) + 1 ≤ n) →
      (4 ≤ t.size → i + 1 + pot (x3.drop (i + 1)) ≤ 2801 ∧ pot (x3.drop (i + 1)) + 1 ≤ n) →
      Ev (fun k => laws_FnSgGrammar.l1 k a0 x3 (i : Int) t (j : Int)) true := by
  intro m
  induction m with
  | zero =>
    intro j x3 h1 h2 h3 h4 h5 h6
    have hi28 : i + 1 ≤ 2801 := by
      by_cases h : t.size < 4
      · have h' := (h5 h).1; omega
      · have h' := (h6 (by omega)).1; omega
    have hwi : wrap64 ((i : Int) + 1) = ((i + 1 : Nat) : Int) := by
      rw [wrap_of (by omega) (by omega)]; omega
    have : i + 1 + pot (x3.drop (i + 1)) ≤ 2801 ∧ pot (x3.drop (i + 1)) + 1 ≤ n := by
      by_cases h : t.size < 4
      · have h' := h5 h
        exact ⟨by omega, by omega⟩
      · exact h6 (by omega)
    refine Ev.step (fun k => by simp only [laws_FnSgGrammar.l1]; rfl) ?_
    rw [hwi]
    exact Ev.no (by omega) (H x3 h3 this.1 h4 this.2)
  | succ m ih =>
    intro j x3 h1 h2 h3 h4 h5 h6
    by_cases hj : j = a0.size
    · exact ih j x3 (by omega) h2 h3 h4 h5 h6
    have hi28 : i + 1 ≤ 2801 := by
      by_cases h : t.size < 4
      · have h' := (h5 h).1; omega
      · have h' := (h6 (by omega)).1; omega
    have hwi : wrap64 ((i : Int) + 1) = ((i + 1 : Nat) : Int) := by
      rw [wrap_of (by omega) (by omega)]; omega
    have hwj : wrap64 ((j : Int) + 1) = ((j + 1 : Nat) : Int) := by rw [wrap_of (by omega) (by omega)]; omega
    have ej : ((j : Int)).toNat = j := by omega
    have ej1 : (((j + 1 : Nat) : Int)).toNat = j + 1 := by omega
    by_cases h : t.size < 4
    · obtain ⟨h7, h8⟩ := h5 h
      have hx : (a0.extract j (j + 1)).size = 1 := by
        rw [ByteArray.size_extract]; omega
      have hts : (t ++ a0.extract j (j + 1)).size = t.size + 1 := by rw [ByteArray.size_append, hx]
      have hsub : a0.size - j = (a0.size - (j + 1)) + 1 := by omega
      rw [hsub, Nat.add_mul, Nat.one_mul] at h7 h8
      have hd : (x3 ++ [t ++ a0.extract j (j + 1)]).drop (i + 1) = x3.drop (i + 1) ++ [t ++ a0.extract j (j + 1)] := by
        rw [List.drop_append_of_le_length h4]
      have hp : pot ((x3 ++ [t ++ a0.extract j (j + 1)]).drop (i + 1)) = pot (x3.drop (i + 1)) + wt (t.size + 1) := by
        rw [hd, pot_app]
        simp only [pot, hts]; omega
      have hlen : x3.length ≤ i + 1 + pot (x3.drop (i + 1)) := by
        have := pot_len (x3.drop (i + 1))
        rw [List.length_drop] at this; omega
      refine Ev.step (fun k => by simp only [laws_FnSgGrammar.l1]; rfl) ?_
      rw [hwj, ej, ej1]
      refine Ev.yes (by omega) (Ev.yes (by omega) (Ev.yes (by omega) (Ev.yes (by omega) (Ev.yes (by omega) (Ev.yes (by omega) (Ev.yes (by omega) ?_))))))
      refine ih (j + 1) _ (by omega) (by omega) ?_ (by simp; omega) (fun _ => ?_) (fun h => by omega)
      · intro s hs
        rw [List.mem_append] at hs
        rcases hs with hs | hs
        · exact h3 s hs
        · rw [List.mem_singleton] at hs
          subst hs; omega
      · rw [hp]
        exact ⟨by omega, by omega⟩
    · have h7 := h6 (by omega)
      refine Ev.step (fun k => by simp only [laws_FnSgGrammar.l1]; rfl) ?_
      rw [hwi]
      exact Ev.yes (by omega) (Ev.no (by omega) (H x3 h3 h7.1 h4 h7.2))

theorem outer (a0 : ByteArray) (ha : a0.size ≤ 7) : ∀ (n : Nat) (i : Nat) (x3 : List ByteArray), (∀ s ∈ x3, s.size ≤ 4) → i + pot (x3.drop i) ≤ 2801 → i ≤ x3.length → pot (x3.drop i) + 1 ≤ n →
    Ev (fun k => laws_FnSgGrammar.l0 k a0 x3 (i : Int)) true := by
  intro n
  induction n with
  | zero => intro i x3 h1 h2 h3 h4; omega
  | succ n ih =>
    intro i x3 h1 h2 h3 h4
    by_cases hi : i = x3.length
    · refine Ev.step (fun k => by simp only [laws_FnSgGrammar.l0]; rfl) ?_
      exact Ev.no (by omega) (Ev.bind ((parse_sig _).1 yLetter) (Ev.now _))
    · have hil : i < x3.length := by omega
      have hd : x3.drop i = x3[i] :: x3.drop (i + 1) := List.drop_eq_getElem_cons hil
      have hr : rdOf ByteArray.empty x3 (i : Int) = x3[i] := by
        simp [rdOf, hil]
      have hm : x3[i] ∈ x3 := List.getElem_mem hil
      generalize x3[i] = t at hd hr hm
      have ht := h1 t hm
      rw [hd] at h2 h4
      simp only [pot] at h2 h4
      have hin : Ev (fun k => laws_FnSgGrammar.l1 k a0 x3 (i : Int) t ((0 : Nat) : Int)) true := by
        refine inner (n := n) a0 ha i t ht (fun x3 q1 q2 q3 q4 => ih (i + 1) x3 q1 q2 q3 q4) a0.size 0 x3 (by omega) (by omega) h1 (by omega) (fun h => ?_) (fun h => ?_)
        · have hw := wt_step t.size h
          have hmul : (a0.size - 0) * wt (t.size + 1) ≤ 7 * wt (t.size + 1) := Nat.mul_le_mul_right _ (by omega)
          exact ⟨by omega, by omega⟩
        · have := wt_pos t.size
          exact ⟨by omega, by omega⟩
      have hj1 : Ev (fun k => laws_FnSgGrammar.j1 k a0 x3 (i : Int) t) true := by
        refine Ev.step (fun k => by simp only [laws_FnSgGrammar.j1]; rfl) ?_
        exact hin
      obtain ⟨b, hE, hT⟩ := left_all t (by omega)
      refine Ev.step (fun k => by simp only [laws_FnSgGrammar.l0]; rfl) ?_
      rw [hr]
      refine Ev.yes (by omega) (Ev.yes (by omega) (Ev.bind hE ?_))
      cases b with
      | true => exact Ev.yes rfl hj1
      | false =>
        have hnp := hT rfl
        rcases valid_ev t with ⟨hS, hV⟩ | ⟨hS, hV⟩
        · exact Ev.no (by simp) (Ev.bind ((parse_sig t).1 hS) (Ev.bind hV (Ev.no (by simp) hj1)))
        · exact Ev.no (by simp) (Ev.bind ((parse_sig t).2 hnp hS) (Ev.bind hV (Ev.no (by simp) hj1)))

theorem FnSgGrammar : laws_FnSgGrammar.Pure := by
  intro a0 hs
  suffices h : Ev (fun k => laws_FnSgGrammar.f k a0) true by
    obtain ⟨K, h⟩ := h
    exact ⟨K, h K (Nat.le_refl _)⟩
  unfold laws_FnSgGrammar.f
  refine Ev.both (fun _ => Ev.now _) (fun _ => Ev.both (fun _ => Ev.now _) (fun hl => ?_))
  exact outer a0 (by omega) 3000 0 [(⟨#[]⟩ : ByteArray)] (fun s hs => by rw [List.mem_singleton] at hs; subst hs; decide) (by decide) (by decide) (by decide)

end Go.Proofs.Ythhiijehdpchbaa.Pure
