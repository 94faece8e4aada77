/-
Match rules in plain words: a rule is fitted just if its terms are; the keys of options.
-/
import Derived.Test.YtoldgnmgjpjapaaDoorPf
namespace Go.Proofs.YtoldgnmgjpjapaaDoor.Pg
set_option linter.unusedVariables false
set_option linter.unusedSimpArgs false
open Go.RowKit Go.Proofs.YtoldgnmgjpjapaaDoor.Mt Go.Proofs.YtoldgnmgjpjapaaDoor.Q Go.Proofs.YtoldgnmgjpjapaaDoorW.PrintWords Go.Proofs.YtoldgnmgjpjapaaDoorW.PrintLast
open Go.Proofs.YtoldgnmgjpjapaaDoor.Com Go.Proofs.YtoldgnmgjpjapaaDoor.Mr Go.Proofs.YtoldgnmgjpjapaaDoor.Wm Go.Proofs.YtoldgnmgjpjapaaDoor.Mp Go.Proofs.YtoldgnmgjpjapaaDoor.Pf

theorem rd41_at (L : List S41) (j : Nat) (t : S41) (R : List S41) (h : L.drop j = t :: R) : rd_T41 L (j : Int) = t ∧ j < L.length ∧ L.drop (j + 1) = R := by
  have hl : j < L.length := by
    have h9 := congrArg List.length h
    simp only [List.length_drop, List.length_cons] at h9; omega
  rw [List.drop_eq_getElem_cons hl] at h
  injection h with h1 h2
  exact ⟨by simp [rd_T41, hl, h1], hl, h2⟩

section
variable (a0 a1 a2 : Int) (L : List S69) (M : List S63)
def TermOk (t : S41) : Prop := ∃ b, Ev (fun k => spec_Fits.f k a0 a1 a2 L M t.f0 t.f1) (b, true)
open Classical in
noncomputable def fb (t : S41) : Bool := if h : TermOk a0 a1 a2 L M t then h.choose else false
theorem fb_ev (t : S41) (h : TermOk a0 a1 a2 L M t) : Ev (fun k => spec_Fits.f k a0 a1 a2 L M t.f0 t.f1) (fb a0 a1 a2 L M t, true) := by
  unfold fb
  rw [dif_pos h]
  exact h.choose_spec
theorem all_go (T : List S41) (hT : ∀ t ∈ T, TermOk a0 a1 a2 L M t) (hlen : T.length ≤ 1000) : ∀ (R : List S41) (j : Nat) (acc : Bool), T.drop j = R → Ev (fun k => spec_FitsAll.l0 k acc T (T.length : Int) (j : Int) a0 a1 a2 L M) (acc && R.all (fb a0 a1 a2 L M), true)
  | [], j, acc, h => by
    have hl := drop_nil_le h
    refine Ev.step (fun k => by rw [spec_FitsAll.l0]) (Ev.no (by omega) (Ev.is ?_))
    simp
  | t :: R, j, acc, h => by
    obtain ⟨hr, hl, hd⟩ := rd41_at T j t R h
    have hw : wrap64 ((j : Int) + 1) = ((j + 1 : Nat) : Int) := by rw [wrap_of (by omega) (by omega)]; omega
    have ht : t ∈ T := by
      have h2 := List.drop_eq_getElem_cons hl
      rw [h] at h2
      injection h2 with h3 h4
      rw [h3]; exact List.getElem_mem hl
    have hf := fb_ev a0 a1 a2 L M t (hT t ht)
    refine Ev.step (fun k => by rw [spec_FitsAll.l0]) ?_
    rw [hr, hw, List.all_cons]
    refine Ev.yes (by omega) (Ev.yes (by omega) (Ev.yes (by omega) (Ev.bind hf (Ev.yes rfl ?_))))
    cases acc with
    | true =>
      refine Ev.yes rfl ?_
      have ih := all_go T hT hlen R (j + 1) (fb a0 a1 a2 L M t) hd
      simp only [Bool.true_and]
      exact ih
    | false =>
      refine Ev.no Bool.false_ne_true ?_
      have ih := all_go T hT hlen R (j + 1) false hd
      simp only [Bool.false_and] at ih ⊢
      exact ih
theorem all_ev (T : List S41) (hT : ∀ t ∈ T, TermOk a0 a1 a2 L M t) (hlen : T.length ≤ 1000) : Ev (fun k => spec_FitsAll.f k a0 a1 a2 L M T) (T.all (fb a0 a1 a2 L M), true) := by
  have := all_go a0 a1 a2 L M T hT hlen T 0 true rfl
  rw [Bool.true_and] at this
  exact this
end

/-! ### keys -/
def decOk (n : Nat) : Bool := match spec_Decimal.f 16 (IntKind.u64.wrap (n : Int)) with
  | some s => B s == B (dg n)
  | none => false
theorem dec_ev (n : Nat) (h : n ≤ 63) : Ev (fun k => spec_Decimal.f k (IntKind.u64.wrap (n : Int))) (dg n) := by
  have := (by kernel_rfl : ((List.range 64).all decOk) = true)
  have h2 := List.all_eq_true.1 this n (List.mem_range.2 (by omega))
  unfold decOk at h2
  split at h2
  case h_2 => cases h2
  case h_1 s he =>
  have : s = dg n := B_inj (beq_iff_eq.1 h2)
  subst this
  exact Ev.of (fun k => spec_Decimal.mono _ k) he
theorem key_ev (kind n : Nat) (hk : kind ≤ 8) (hn : n ≤ 63) : Ev (fun k => laws_mtKeyOf.f k (kind : Int) (n : Int)) (optKey kind n) := by
  have hd := dg_size n hn
  have e3 : (⟨#[97, 114, 103]⟩ : ByteArray).size = 3 := rfl
  have : kind = 0 ∨ kind = 1 ∨ kind = 2 ∨ kind = 3 ∨ kind = 4 ∨ kind = 5 ∨ kind = 6 ∨ kind = 7 ∨ kind = 8 := by omega
  unfold laws_mtKeyOf.f
  rcases this with rfl | rfl | rfl | rfl | rfl | rfl | rfl | rfl | rfl
  · exact Ev.no (by omega) (Ev.no (by omega) (Ev.is rfl))
  · exact Ev.no (by omega) (Ev.no (by omega) (Ev.is rfl))
  · exact Ev.no (by omega) (Ev.no (by omega) (Ev.is rfl))
  · exact Ev.no (by omega) (Ev.no (by omega) (Ev.is rfl))
  · exact Ev.no (by omega) (Ev.no (by omega) (Ev.is rfl))
  · exact Ev.no (by omega) (Ev.no (by omega) (Ev.is rfl))
  · exact Ev.yes rfl (Ev.bind (dec_ev n hn) (Ev.yes (by omega) (Ev.is rfl)))
  · exact Ev.no (by omega) (Ev.yes rfl (Ev.bind (dec_ev n hn) (Ev.yes (by omega) (Ev.yes (by rw [ByteArray.size_append]; omega) (Ev.is rfl)))))
  · exact Ev.no (by omega) (Ev.no (by omega) (Ev.is rfl))
theorem optKey_ok (kind n : Nat) (hk : kind ≤ 8) (hn : n ≤ 63) : (B (optKey kind n)).all okc = true ∧ (optKey kind n).size ≤ 300 := by
  have : kind = 0 ∨ kind = 1 ∨ kind = 2 ∨ kind = 3 ∨ kind = 4 ∨ kind = 5 ∨ kind = 6 ∨ kind = 7 ∨ kind = 8 := by omega
  rcases this with rfl | rfl | rfl | rfl | rfl | rfl | rfl | rfl | rfl
  · exact ⟨rfl, Nat.le_of_ble_eq_true rfl⟩
  · exact ⟨rfl, Nat.le_of_ble_eq_true rfl⟩
  · exact ⟨rfl, Nat.le_of_ble_eq_true rfl⟩
  · exact ⟨rfl, Nat.le_of_ble_eq_true rfl⟩
  · exact ⟨rfl, Nat.le_of_ble_eq_true rfl⟩
  · exact ⟨rfl, Nat.le_of_ble_eq_true rfl⟩
  · exact key_ok n hn _ (.inl rfl)
  · exact key_ok n hn _ (.inr rfl)
  · exact ⟨rfl, Nat.le_of_ble_eq_true rfl⟩

/-- One option's value is plain. -/
theorem plain1_ev (v : ByteArray) : ∃ b, Ev (fun k => laws_mtPlain.f k [(⟨(⟨#[]⟩ : ByteArray), v⟩ : S32)]) b ∧ (b = true → v.size ≤ 300 ∧ (B v).all (· != 39) = true) := by
  obtain ⟨b, h1, h2⟩ := plain_ev [(⟨(⟨#[]⟩ : ByteArray), v⟩ : S32)] (by simp)
  refine ⟨b, h1, fun hb => ?_⟩
  have := (h2 hb).2 _ List.mem_cons_self
  unfold okx at this
  simp only [Bool.and_eq_true, decide_eq_true_eq] at this
  exact ⟨this.1.2, this.2.2⟩
theorem okx_mk (kind n : Nat) (hk : kind ≤ 8) (hn : n ≤ 63) (v : ByteArray) (h : v.size ≤ 300 ∧ (B v).all (· != 39) = true) : okx ⟨optKey kind n, v⟩ = true := by
  obtain ⟨h1, h2⟩ := optKey_ok kind n hk hn
  unfold okx
  simp only [Bool.and_eq_true, decide_eq_true_eq]
  exact ⟨⟨h2, h.1⟩, h1, h.2⟩
theorem with_is (kind n : Nat) (hk : kind ≤ 8) (hn : n ≤ 63) (v : ByteArray) : impl_MtWith.f (kind : Int) (n : Int) v = some (optKey kind n, v, true) := by
  unfold impl_MtWith.f
  rw [if_pos (by omega), Int.toNat_natCast, Int.toNat_natCast]
theorem ab_ev : Ev (fun n => impl_MtRule.f n [(⟨(⟨#[97]⟩ : ByteArray), (⟨#[98]⟩ : ByteArray)⟩ : S32)]) (mkb [97, 61, 39, 98, 39]) :=
  mt_ev [(⟨(⟨#[97]⟩ : ByteArray), (⟨#[98]⟩ : ByteArray)⟩ : S32)] (by decide) (by intro x hx; rw [List.mem_singleton.1 hx]; decide)

theorem fits5_go (l : List ByteArray) (hl : (l.length : Int) ≤ 2147483647) : ∀ (r j : Nat), j + r = l.length → ∃ b, Ev (fun k => laws_zzFits5.l0 k l (l.length : Int) (j : Int)) b
  | 0, j, h => ⟨_, Ev.step (fun k => by rw [laws_zzFits5.l0]) (Ev.no (by omega) (Ev.now _))⟩
  | r + 1, j, h => by
    obtain ⟨b, ih⟩ := fits5_go l hl r (j + 1) (by omega)
    have hw : wrap64 ((j : Int) + 1) = ((j + 1 : Nat) : Int) := by rw [wrap_of (by omega) (by omega)]; omega
    by_cases c : ((rdOf ByteArray.empty l (j : Int)).size : Int) > 2147483647
    · exact ⟨_, Ev.step (fun k => by rw [laws_zzFits5.l0]) (Ev.yes (by omega) (Ev.yes (by omega) (Ev.yes (by omega) (Ev.yes c (Ev.now _)))))⟩
    · exact ⟨b, Ev.step (fun k => by rw [laws_zzFits5.l0]) (Ev.yes (by omega) (Ev.yes (by omega) (Ev.yes (by omega) (Ev.no c (by rw [hw]; exact ih)))))⟩
theorem fits5_ev (l : List ByteArray) : ∃ b, Ev (fun k => laws_zzFits5.f k l) b := by
  unfold laws_zzFits5.f
  by_cases c : (l.length : Int) > 2147483647
  · exact ⟨_, Ev.yes c (Ev.now _)⟩
  · obtain ⟨b, h⟩ := fits5_go l (by omega) l.length 0 (by omega)
    exact ⟨b, Ev.no c h⟩
theorem fits1_ev (a0 a1 a2 : Int) (L : List S69) (M : List S63) : ∃ b, laws_zzFits1.f a0 a1 a2 L M = some b ∧ (b = true → (L.length : Int) ≤ 2147483647) := by
  unfold laws_zzFits1.f
  split
  · exact ⟨_, rfl, fun h => by cases h⟩
  · split
    · exact ⟨_, rfl, fun h => by cases h⟩
    · exact ⟨_, rfl, fun _ => by omega⟩
end Go.Proofs.YtoldgnmgjpjapaaDoor.Pg
