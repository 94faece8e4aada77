/-
Plain words on the pieces of FnVtMeet.
-/
import Derived.Test.YtlnkgifpiinnoaaSp
import Derived.Test.YtlnkgifpiinnoaaM4
import Derived.Sort.Walk0
namespace Go.Proofs.Ytlnkgifpiinnoaa.Pm
set_option linter.unusedVariables false
set_option linter.unusedSimpArgs false
open Go.RowKit Go.Proofs.Ytlnkgifpiinnoaa.M Go.Proofs.YtlnkgifpiinnoaaW.PrintWords Go.Proofs.Ytlnkgifpiinnoaa.Com Go.Proofs.Ytlnkgifpiinnoaa.Vm Go.Proofs.Ytlnkgifpiinnoaa.Sp Go.Proofs.Ytlnkgifpiinnoaa.Mx Go.Proofs.Ytlnkgifpiinnoaa.My

theorem single_ev (s : ByteArray) : ∃ b, Ev (fun k => spec_Single.f k s) b ∧ (b = true → s.size ≤ 255) := by
  unfold spec_Single.f
  rcases types_ev s with ⟨ts, _, _, _, hz, he⟩ | ⟨_, he⟩
  · exact ⟨_, Ev.bind he (Ev.yes rfl (Ev.now _)), fun _ => hz⟩
  · exact ⟨false, Ev.bind he (Ev.no Bool.false_ne_true (Ev.now _)), fun h => by cases h⟩

theorem among_go (c : Int) (s : ByteArray) (hs : s.size ≤ 2147483647) : ∀ (r j : Nat), j + r = s.size → ∃ b, Ev (fun k => spec_among.l0 k c s (j : Int)) b
  | 0, j, h => ⟨false, (by refine Ev.step (fun k => by rw [spec_among.l0]) ?_; exact Ev.no (by omega) (Ev.now _))⟩
  | r + 1, j, h => by
    obtain ⟨b, ih⟩ := among_go c s hs r (j + 1) (by omega)
    have hw : wrap64 ((j : Int) + 1) = ((j + 1 : Nat) : Int) := by rw [wrap_of (by omega) (by omega)]; omega
    by_cases e : bt s (j : Int) = c
    · exact ⟨true, (by refine Ev.step (fun k => by rw [spec_among.l0]) ?_; exact Ev.yes (by omega) (Ev.yes (by omega) (Ev.yes e (Ev.now _))))⟩
    · exact ⟨b, (by refine Ev.step (fun k => by rw [spec_among.l0]) ?_; exact Ev.yes (by omega) (Ev.yes (by omega) (Ev.no e (by rw [hw]; exact ih))))⟩
theorem among_ev (c : Int) (s : ByteArray) (hs : s.size ≤ 2147483647) : ∃ b, Ev (fun k => spec_among.f k c s) b := by
  unfold spec_among.f
  exact among_go c s hs s.size 0 (by omega)

theorem textsig_go (s : ByteArray) (hs : s.size ≤ 2147483648) : ∀ (r j : Nat), j + r = s.size → ∃ b, Ev (fun k => spec_TextSig.l0 k s (j : Int)) b ∧ (b = true → s.size ≤ 255)
  | 0, j, h => by
    obtain ⟨b, hb, hz⟩ := single_ev s
    exact ⟨b, (by refine Ev.step (fun k => by rw [spec_TextSig.l0]) ?_; exact Ev.no (by omega) (Ev.bind hb (Ev.now _))), hz⟩
  | r + 1, j, h => by
    obtain ⟨b, ih, hz⟩ := textsig_go s hs r (j + 1) (by omega)
    have hw : wrap64 ((j : Int) + 1) = ((j + 1 : Nat) : Int) := by rw [wrap_of (by omega) (by omega)]; omega
    obtain ⟨x, hx⟩ := among_ev (bt s (j : Int)) (⟨#[121, 98, 110, 113, 105, 117, 120, 116, 100, 115, 111, 103, 118, 97, 123, 125]⟩ : ByteArray) (by decide)
    cases x with
    | false => exact ⟨false, (by refine Ev.step (fun k => by rw [spec_TextSig.l0]) ?_; exact Ev.yes (by omega) (Ev.yes (by omega) (Ev.bind hx (Ev.no Bool.false_ne_true (Ev.now _))))), fun h => by cases h⟩
    | true =>
    by_cases e : bt s (j : Int) = 123
    · by_cases e2 : ((j + 1 : Nat) : Int) = (s.size : Int)
      · exact ⟨false, (by refine Ev.step (fun k => by rw [spec_TextSig.l0]) ?_; exact Ev.yes (by omega) (Ev.yes (by omega) (Ev.bind hx (Ev.yes rfl (Ev.yes e (by rw [hw]; exact Ev.yes e2 (Ev.now _))))))), fun h => by cases h⟩
      · obtain ⟨y, hy⟩ := among_ev (bt s ((j + 1 : Nat) : Int)) (⟨#[121, 110, 113, 105, 117, 120, 116, 115, 111]⟩ : ByteArray) (by decide)
        cases y with
        | false => exact ⟨false, (by refine Ev.step (fun k => by rw [spec_TextSig.l0]) ?_; exact Ev.yes (by omega) (Ev.yes (by omega) (Ev.bind hx (Ev.yes rfl (Ev.yes e (by rw [hw]; exact Ev.no e2 (Ev.yes (by omega) (Ev.yes (by omega) (Ev.bind hy (Ev.no Bool.false_ne_true (Ev.now _)))))))))) ), fun h => by cases h⟩
        | true => exact ⟨b, (by refine Ev.step (fun k => by rw [spec_TextSig.l0]) ?_; exact Ev.yes (by omega) (Ev.yes (by omega) (Ev.bind hx (Ev.yes rfl (Ev.yes e (by rw [hw]; exact Ev.no e2 (Ev.yes (by omega) (Ev.yes (by omega) (Ev.bind hy (Ev.yes rfl ih)))))))))), hz⟩
    · exact ⟨b, (by refine Ev.step (fun k => by rw [spec_TextSig.l0]) ?_; exact Ev.yes (by omega) (Ev.yes (by omega) (Ev.bind hx (Ev.yes rfl (Ev.no e (by rw [hw]; exact ih)))))), hz⟩
theorem textsig_ev (s : ByteArray) (hs : s.size ≤ 2147483648) : ∃ b, Ev (fun k => spec_TextSig.f k s) b ∧ (b = true → s.size ≤ 255) := by
  unfold spec_TextSig.f
  exact textsig_go s hs s.size 0 (by omega)

theorem fits5_go (l : List ByteArray) (hl : (l.length : Int) ≤ 2147483647) : ∀ (r j : Nat), j + r = l.length → ∃ b, Ev (fun k => laws_zzFits5.l0 k l (l.length : Int) (j : Int)) b ∧ (b = true → ∀ i, j ≤ i → i < l.length → (rdOf ByteArray.empty l (i : Int)).size ≤ 2147483647)
  | 0, j, h => ⟨true, (by refine Ev.step (fun k => by rw [laws_zzFits5.l0]) ?_; exact Ev.no (by omega) (Ev.now _)), fun _ i h1 h2 => by omega⟩
  | r + 1, j, h => by
    obtain ⟨b, ih, hz⟩ := fits5_go l hl r (j + 1) (by omega)
    have hw : wrap64 ((j : Int) + 1) = ((j + 1 : Nat) : Int) := by rw [wrap_of (by omega) (by omega)]; omega
    by_cases c : ((rdOf ByteArray.empty l (j : Int)).size : Int) > 2147483647
    · exact ⟨false, (by refine Ev.step (fun k => by rw [laws_zzFits5.l0]) ?_; exact Ev.yes (by omega) (Ev.yes (by omega) (Ev.yes (by omega) (Ev.yes c (Ev.now _))))), fun h => by cases h⟩
    · refine ⟨b, (by refine Ev.step (fun k => by rw [laws_zzFits5.l0]) ?_; exact Ev.yes (by omega) (Ev.yes (by omega) (Ev.yes (by omega) (Ev.no c (by rw [hw]; exact ih))))), fun hb i h1 h2 => ?_⟩
      by_cases e : i = j
      · subst e; omega
      · exact hz hb i (by omega) h2
theorem fits5_ev (l : List ByteArray) : ∃ b, Ev (fun k => laws_zzFits5.f k l) b ∧ (b = true → ∀ i, i < l.length → (rdOf ByteArray.empty l (i : Int)).size ≤ 2147483647) := by
  unfold laws_zzFits5.f
  by_cases c : (l.length : Int) > 2147483647
  · exact ⟨_, Ev.yes c (Ev.now _), fun h => by cases h⟩
  · obtain ⟨b, h, hz⟩ := fits5_go l (by omega) l.length 0 (by omega)
    exact ⟨b, Ev.no c h, fun hb i hi => hz hb i (by omega) hi⟩

/-- What a set's check says of the texts from `j` on. -/
def Set (l : List ByteArray) (j : Nat) : Prop := ∀ i, j ≤ i → i < l.length → (rdOf ByteArray.empty l (i : Int)).size ≤ 255 ∧ (0 < i → Op.bytesLess (rdOf ByteArray.empty l ((i - 1 : Nat) : Int)).toList (rdOf ByteArray.empty l (i : Int)).toList = true)
theorem set_more {l : List ByteArray} {j : Nat} (h : (rdOf ByteArray.empty l (j : Int)).size ≤ 255 ∧ (0 < j → Op.bytesLess (rdOf ByteArray.empty l ((j - 1 : Nat) : Int)).toList (rdOf ByteArray.empty l (j : Int)).toList = true)) (h' : Set l (j + 1)) : Set l j := fun i h1 h2 => by
  by_cases e : i = j
  · subst e; exact h
  · exact h' i (by omega) h2

theorem vtset_go (l : List ByteArray) (hl : l.length ≤ 64) (hf : ∀ i, i < l.length → (rdOf ByteArray.empty l (i : Int)).size ≤ 2147483647) : ∀ (r j : Nat), j + r = l.length → ∃ b, Ev (fun k => laws_vtSet.l0 k l l (l.length : Int) (j : Int)) b ∧ (b = true → Set l j)
  | 0, j, h => ⟨true, (by refine Ev.step (fun k => by rw [laws_vtSet.l0]) ?_; exact Ev.no (by omega) (Ev.now _)), fun _ i h1 h2 => by omega⟩
  | r + 1, j, h => by
    obtain ⟨b, ih, hz⟩ := vtset_go l hl hf r (j + 1) (by omega)
    have hw : wrap64 ((j : Int) + 1) = ((j + 1 : Nat) : Int) := by rw [wrap_of (by omega) (by omega)]; omega
    have hj := hf j (by omega)
    obtain ⟨x, hx, zx⟩ := textsig_ev (rdOf ByteArray.empty l (j : Int)) (by omega)
    obtain ⟨y, hy, zy⟩ := textsig_ev ((⟨#[97]⟩ : ByteArray) ++ rdOf ByteArray.empty l (j : Int)) (by rw [ByteArray.size_append]; show 1 + _ ≤ _; omega)
    cases x with
    | false => exact ⟨false, (by refine Ev.step (fun k => by rw [laws_vtSet.l0]) ?_; exact Ev.yes (by omega) (Ev.yes (by omega) (Ev.yes (by omega) (Ev.bind hx (Ev.no Bool.false_ne_true (Ev.now _)))))), fun h => by cases h⟩
    | true =>
    have zx := zx rfl
    cases y with
    | false => exact ⟨false, (by refine Ev.step (fun k => by rw [laws_vtSet.l0]) ?_; exact Ev.yes (by omega) (Ev.yes (by omega) (Ev.yes (by omega) (Ev.bind hx (Ev.yes rfl (Ev.yes (by omega) (Ev.bind hy (Ev.no Bool.false_ne_true (Ev.now _))))))))), fun h => by cases h⟩
    | true =>
    by_cases c : (j : Int) > 0
    · have hw' : wrap64 ((j : Int) - 1) = ((j - 1 : Nat) : Int) := by rw [wrap_of (by omega) (by omega)]; omega
      by_cases e : Op.bytesLess (rdOf ByteArray.empty l ((j - 1 : Nat) : Int)).toList (rdOf ByteArray.empty l (j : Int)).toList = true
      · exact ⟨b, (by refine Ev.step (fun k => by rw [laws_vtSet.l0]) ?_; exact Ev.yes (by omega) (Ev.yes (by omega) (Ev.yes (by omega) (Ev.bind hx (Ev.yes rfl (Ev.yes (by omega) (Ev.bind hy (Ev.yes rfl (Ev.yes c (by rw [hw', hw]; exact Ev.yes (by omega) (Ev.yes (by omega) (Ev.yes e ih)))))))))))), fun hb => set_more ⟨zx, fun _ => e⟩ (hz hb)⟩
      · exact ⟨false, (by refine Ev.step (fun k => by rw [laws_vtSet.l0]) ?_; exact Ev.yes (by omega) (Ev.yes (by omega) (Ev.yes (by omega) (Ev.bind hx (Ev.yes rfl (Ev.yes (by omega) (Ev.bind hy (Ev.yes rfl (Ev.yes c (by rw [hw']; exact Ev.yes (by omega) (Ev.yes (by omega) (Ev.no e (Ev.now _))))))))))))), fun h => by cases h⟩
    · exact ⟨b, (by refine Ev.step (fun k => by rw [laws_vtSet.l0]) ?_; exact Ev.yes (by omega) (Ev.yes (by omega) (Ev.yes (by omega) (Ev.bind hx (Ev.yes rfl (Ev.yes (by omega) (Ev.bind hy (Ev.yes rfl (Ev.no c (by rw [hw]; exact ih)))))))))), fun hb => set_more ⟨zx, fun h => by omega⟩ (hz hb)⟩

theorem rd_get (l : List ByteArray) (i : Nat) (h : i < l.length) : rdOf ByteArray.empty l (i : Int) = l[i] := by
  unfold rdOf
  simp [h]
theorem toL (s : ByteArray) : s.toList = s.data.toList := ByteArray.toList_eq s

theorem ok_of (l : List ByteArray) (hl : l.length ≤ 64) (h : Set l 0) : Ok l := by
  refine ⟨by omega, fun s hs => ?_, ?_⟩
  · obtain ⟨i, hi, rfl⟩ := List.getElem_of_mem hs
    have := (h i (by omega) hi).1
    rw [rd_get l i hi] at this
    omega
  · have step : ∀ (i : Nat) (hi : i + 1 < l.length), l[i].data.toList < (l[i + 1]'hi).data.toList := fun i hi => by
      have := (h (i + 1) (by omega) hi).2 (by omega)
      rw [Nat.add_sub_cancel, rd_get l i (by omega), rd_get l (i + 1) hi, Go.Proofs.bytesLess_eq, decide_eq_true_eq, toL, toL] at this
      exact this
    unfold Asc bs
    rw [List.pairwise_map, List.pairwise_iff_getElem]
    intro i j hi hj hij
    obtain ⟨d, rfl⟩ : ∃ d, j = i + 1 + d := ⟨j - (i + 1), by omega⟩
    clear hij
    induction d with
    | zero => exact step i hj
    | succ d ih => exact List.lt_trans (ih (by omega)) (step (i + 1 + d) hj)

theorem vtset_ev (l : List ByteArray) (hf : ∀ i, i < l.length → (rdOf ByteArray.empty l (i : Int)).size ≤ 2147483647) : ∃ b, Ev (fun k => laws_vtSet.f k l) b ∧ (b = true → Ok l ∧ l.length ≤ 64) := by
  unfold laws_vtSet.f
  by_cases c : (l.length : Int) > 64
  · exact ⟨_, Ev.yes c (Ev.now _), fun h => by cases h⟩
  · obtain ⟨b, h, hz⟩ := vtset_go l (by omega) hf l.length 0 (by omega)
    exact ⟨b, Ev.no c h, fun hb => ⟨ok_of l (by omega) (hz hb), by omega⟩⟩

theorem same_go (l : List ByteArray) (hl : l.length ≤ 2147483647) : ∀ (r j : Nat), j + r = l.length → Ev (fun k => laws_vtSameList.l0 k l l (l.length : Int) (j : Int)) true
  | 0, j, h => by
    refine Ev.step (fun k => by rw [laws_vtSameList.l0]) ?_
    exact Ev.no (by omega) (Ev.now _)
  | r + 1, j, h => by
    have ih := same_go l hl r (j + 1) (by omega)
    have hw : wrap64 ((j : Int) + 1) = ((j + 1 : Nat) : Int) := by rw [wrap_of (by omega) (by omega)]; omega
    refine Ev.step (fun k => by rw [laws_vtSameList.l0]) ?_
    exact Ev.yes (by omega) (Ev.yes (by omega) (Ev.yes (by omega) (Ev.yes (by omega) (Ev.yes rfl (by rw [hw]; exact ih)))))
theorem same_ev (l : List ByteArray) (hl : l.length ≤ 2147483647) : Ev (fun k => laws_vtSameList.f k l l) true := by
  unfold laws_vtSameList.f
  exact Ev.yes rfl (same_go l hl l.length 0 (by omega))

/-- The bytes of a row's place. -/
def L (l : List ByteArray) (i : Nat) : List UInt8 := (rdOf ByteArray.empty l (i : Int)).data.toList
theorem L_lt {l : List ByteArray} (h : Asc l) {i j : Nat} (hij : i < j) (hj : j < l.length) : L l i < L l j := by
  unfold L
  rw [rd_get l i (by omega), rd_get l j hj]
  unfold Asc bs at h
  rw [List.pairwise_map, List.pairwise_iff_getElem] at h
  exact h i j (by omega) hj hij
theorem L_mem {l : List ByteArray} {x : List UInt8} : x ∈ bs l ↔ ∃ i, i < l.length ∧ L l i = x := by
  unfold bs L
  rw [List.mem_map]
  constructor
  · rintro ⟨s, hs, rfl⟩
    obtain ⟨i, hi, rfl⟩ := List.getElem_of_mem hs
    exact ⟨i, hi, by rw [rd_get l i hi]⟩
  · rintro ⟨i, hi, rfl⟩
    exact ⟨l[i], List.getElem_mem hi, by rw [rd_get l i hi]⟩

/-- Those of a row that stand in another. -/
def both (l0 l1 : List ByteArray) : List ByteArray := l0.filter (fun s => decide (s.data.toList ∈ bs l1))
theorem both_drop {l0 l1 : List ByteArray} {i : Nat} (hi : i < l0.length) : both (l0.drop i) l1 = if L l0 i ∈ bs l1 then rdOf ByteArray.empty l0 (i : Int) :: both (l0.drop (i + 1)) l1 else both (l0.drop (i + 1)) l1 := by
  unfold both L
  rw [rd_get l0 i hi, List.drop_eq_getElem_cons hi, List.filter_cons]
  simp only [decide_eq_true_eq]

theorem meet_in (l0 l1 : List ByteArray) (h0 : l0.length ≤ 64) (h1 : l1.length ≤ 64) (a1 : Asc l1) (i : Nat) (hi : i < l0.length) (acc : List ByteArray) (hacc : acc.length ≤ i)
    (IH : ∀ (acc : List ByteArray) (j : Nat), acc.length ≤ i + 1 → j ≤ l1.length → (∀ t, t < j → L l1 t < L l0 i) → Ev (fun k => spec_Meet.l0 k l1 acc (j : Int) l0 (l0.length : Int) ((i + 1 : Nat) : Int)) (acc ++ both (l0.drop (i + 1)) l1)) :
    ∀ (d j : Nat), j + d = l1.length → (∀ t, t < j → L l1 t < L l0 i) → Ev (fun k => spec_Meet.l1 k l1 acc (j : Int) (rdOf ByteArray.empty l0 (i : Int)) l0 (l0.length : Int) (i : Int)) (acc ++ both (l0.drop i) l1)
  | 0, j, h, lt => by
    have hw : wrap64 ((i : Int) + 1) = ((i + 1 : Nat) : Int) := by rw [wrap_of (by omega) (by omega)]; omega
    refine Ev.step (fun k => by rw [spec_Meet.l1]) ?_
    refine Ev.no (by omega) ?_
    rw [hw]
    have : ¬ L l0 i ∈ bs l1 := fun hm => by
      obtain ⟨t, ht, e⟩ := L_mem.1 hm
      have := lt t (by omega)
      rw [e] at this
      exact List.lt_irrefl _ this
    rw [both_drop hi, if_neg this]
    exact IH acc j (by omega) (by omega) lt
  | d + 1, j, h, lt => by
    have hw : wrap64 ((i : Int) + 1) = ((i + 1 : Nat) : Int) := by rw [wrap_of (by omega) (by omega)]; omega
    have hwj : wrap64 ((j : Int) + 1) = ((j + 1 : Nat) : Int) := by rw [wrap_of (by omega) (by omega)]; omega
    refine Ev.step (fun k => by rw [spec_Meet.l1]) ?_
    refine Ev.yes (by omega) (Ev.yes (by omega) ?_)
    rw [toL, toL, Go.Proofs.bytesLess_eq]
    by_cases c : L l1 j < L l0 i
    · refine Ev.yes (decide_eq_true c) ?_
      rw [hwj]
      refine meet_in l0 l1 h0 h1 a1 i hi acc hacc IH d (j + 1) (by omega) fun t ht => ?_
      by_cases e : t = j
      · subst e; exact c
      · exact lt t (by omega)
    · refine Ev.no (fun e => c (of_decide_eq_true e)) ?_
      by_cases e : L l1 j = L l0 i
      · refine Ev.yes e (Ev.yes (by omega) ?_)
        rw [hw, both_drop hi, if_pos (L_mem.2 ⟨j, by omega, e⟩)]
        have := IH (acc ++ [rdOf ByteArray.empty l0 (i : Int)]) j (by rw [List.length_append]; show _ + 1 ≤ _; omega) (by omega) lt
        rw [List.append_assoc] at this
        exact this
      · refine Ev.no e ?_
        have : ¬ L l0 i ∈ bs l1 := fun hm => by
          obtain ⟨t, ht, e'⟩ := L_mem.1 hm
          rcases Nat.lt_trichotomy t j with k | k | k
          · have := lt t k
            rw [e'] at this
            exact List.lt_irrefl _ this
          · subst k; exact e e'
          · exact c (e' ▸ L_lt a1 k ht)
        rw [hw, both_drop hi, if_neg this]
        exact IH acc j (by omega) (by omega) lt

theorem meet_out (l0 l1 : List ByteArray) (h0 : l0.length ≤ 64) (h1 : l1.length ≤ 64) (a0 : Asc l0) (a1 : Asc l1) : ∀ (d i : Nat), i + d = l0.length → ∀ (acc : List ByteArray) (j : Nat), acc.length ≤ i → j ≤ l1.length → (i < l0.length → ∀ t, t < j → L l1 t < L l0 i) →
    Ev (fun k => spec_Meet.l0 k l1 acc (j : Int) l0 (l0.length : Int) (i : Int)) (acc ++ both (l0.drop i) l1)
  | 0, i, h, acc, j, hacc, hj, lt => by
    refine Ev.step (fun k => by rw [spec_Meet.l0]) ?_
    rw [List.drop_of_length_le (by omega), show both [] l1 = [] from rfl, List.append_nil]
    exact Ev.no (by omega) (Ev.now _)
  | d + 1, i, h, acc, j, hacc, hj, lt => by
    have hi : i < l0.length := by omega
    refine Ev.step (fun k => by rw [spec_Meet.l0]) ?_
    refine Ev.yes (by omega) (Ev.yes (by omega) (Ev.yes (by omega) ?_))
    refine meet_in l0 l1 h0 h1 a1 i hi acc hacc (fun acc' j' h2 h3 h4 => ?_) (l1.length - j) j (by omega) (lt hi)
    refine meet_out l0 l1 h0 h1 a0 a1 d (i + 1) (by omega) acc' j' h2 h3 fun h5 t ht => ?_
    exact List.lt_trans (h4 t ht) (L_lt a0 (Nat.lt_succ_self i) h5)
theorem meet_ev (l0 l1 : List ByteArray) (h0 : l0.length ≤ 64) (h1 : l1.length ≤ 64) (a0 : Asc l0) (a1 : Asc l1) : Ev (fun k => spec_Meet.f k l0 l1) (both l0 l1) := by
  unfold spec_Meet.f
  have := meet_out l0 l1 h0 h1 a0 a1 l0.length 0 (by omega) [] 0 (Nat.le_refl 0) (Nat.zero_le _) (fun _ t ht => absurd ht (Nat.not_lt_zero t))
  exact this

theorem one : impl_VtMeet.f [(⟨#[105]⟩ : ByteArray)] [(⟨#[105]⟩ : ByteArray)] = some ([(⟨#[105]⟩ : ByteArray)], [(⟨#[97, 105]⟩ : ByteArray)]) := by decide +kernel

theorem law_go (l0 l1 : List ByteArray) (h0 : l0.length ≤ 64) (h1 : l1.length ≤ 64) (o0 : Ok l0) (o1 : Ok l1) : ∀ (d i : Nat), i + d = l0.length → ∀ (acc : List ByteArray), acc = (l0.take i).map (ar ++ ·) →
    Ev (fun k => laws_FnVtMeet.l0 k l0 l1 (both l0 l1) (l0.map (ar ++ ·)) acc l0 (l0.length : Int) (i : Int)) true
  | 0, i, h, acc, hacc => by
    refine Ev.step (fun k => by rw [laws_FnVtMeet.l0]) ?_
    refine Ev.no (by omega) (Ev.call one (Ev.bind (meet_ev l0 l1 h0 h1 o0.2.2 o1.2.2) ?_))
    rw [hacc, List.take_of_length_le (by omega)]
    have hb : (both l0 l1).length ≤ 2147483647 := by have := List.length_filter_le (fun s => decide (s.data.toList ∈ bs l1)) l0; unfold both; omega
    exact Ev.bind (same_ev _ hb) (Ev.yes rfl (Ev.bind (same_ev _ (by rw [List.length_map]; omega)) (Ev.yes rfl (Ev.bind (same_ev _ (by decide)) (Ev.now _)))))
  | d + 1, i, h, acc, hacc => by
    have hi : i < l0.length := by omega
    have hw : wrap64 ((i : Int) + 1) = ((i + 1 : Nat) : Int) := by rw [wrap_of (by omega) (by omega)]; omega
    have hz := o0.2.1 l0[i] (List.getElem_mem hi)
    refine Ev.step (fun k => by rw [laws_FnVtMeet.l0]) ?_
    rw [rd_get l0 i hi]
    refine Ev.yes (by omega) (Ev.yes (by omega) (Ev.yes (by omega) (Ev.yes (by omega) (Ev.yes (by rw [hacc, List.length_map, List.length_take]; omega) ?_))))
    rw [hw]
    refine law_go l0 l1 h0 h1 o0 o1 d (i + 1) (by omega) _ ?_
    rw [hacc, List.take_succ_eq_append_getElem hi, List.map_append]
    rfl
end Go.Proofs.Ytlnkgifpiinnoaa.Pm
