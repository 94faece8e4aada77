/-
What is proved: each text that is given to a string converter comes back, and stays as it is behind the next ones, whatever room its buffer has; for every input.
-/
import Derived.Test.YtpndgbiaomglpaaV1
import Derived.Test.YtpndgbiaomglpaaCom
namespace Go.Proofs.Ytpndgbiaomglpaa.Pure
set_option linter.unusedVariables false
set_option linter.unusedSimpArgs false
open Go.RowKit Go.Proofs.Ytpndgbiaomglpaa.Cv Go.Proofs.Ytpndgbiaomglpaa.V Go.Proofs.YtpndgbiaomglpaaW.PrintWords Go.Proofs.YtpndgbiaomglpaaW.PrintLast
open Go.Proofs.Ytpndgbiaomglpaa.Com

def wrs : Prop := ∀ (l0 : List ByteArray) (a1 : Int), (Lit.int .u16 a1).wf = true → ∃ k, laws_FnWrStrings.f k l0 a1 = some true
theorem wrs_walk (P : wrs) (A0 : Option Addr) (c0 : Nat) (l0 : List ByteArray) (a1 : Int) (w : World) (hr0 : Kd.C Kd.string w A0 l0.length l0) (hc0 : l0.length ≤ c0) (w1 : (Lit.int .u16 a1).wf = true) :
    Calls Try.prog 5 #[.slice A0 l0.length c0, .int .u16 a1] w fun e w' => e = .returned (.bool true) ∧ Below w.heap.size w w' := by
  obtain ⟨k, h⟩ := P l0 a1 w1
  refine (laws_FnWrStrings.calls k A0 c0 l0 a1 true w hr0 hc0 h).mono ?_
  rintro e w' ⟨rfl, hd⟩
  exact ⟨rfl, hd⟩

theorem rd_at (L : List ByteArray) (j : Nat) (t : ByteArray) (R : List ByteArray) (h : L.drop j = t :: R) : rdOf ByteArray.empty L (j : Int) = t ∧ j < L.length ∧ L.drop (j + 1) = R := by
  have hl : j < L.length := by
    have h9 := congrArg List.length h
    simp only [List.length_drop, List.length_cons] at h9; omega
  rw [List.drop_eq_getElem_cons hl] at h
  injection h with h1 h2
  refine ⟨?_, hl, h2⟩
  simp [rdOf, hl, h1]

theorem fits5 (L : List ByteArray) (hL : (L.length : Int) ≤ 2147483647) : ∀ (R : List ByteArray) (j : Nat), L.drop j = R → ∃ b, Ev (fun k => laws_zzFits5.l0 k L (L.length : Int) (j : Int)) b
  | [], j, h => by
    have hl : L.length ≤ j := by
      have h9 := congrArg List.length h
      simp only [List.length_drop, List.length_nil] at h9; omega
    refine ⟨true, ?_⟩
    refine Ev.step (fun k => by simp only [laws_zzFits5.l0]; rfl) ?_
    exact Ev.no (by omega) (Ev.now _)
  | t :: R, j, h => by
    obtain ⟨hr, hl, hd⟩ := rd_at L j t R h
    have hw : wrap64 ((j : Int) + 1) = ((j + 1 : Nat) : Int) := by rw [wrap_of (by omega) (by omega)]; omega
    obtain ⟨b, ih⟩ := fits5 L hL R (j + 1) hd
    by_cases hb : (t.size : Int) > 2147483647
    · refine ⟨false, ?_⟩
      refine Ev.step (fun k => by simp only [laws_zzFits5.l0]; rfl) ?_
      rw [hr]
      exact Ev.yes (by omega) (Ev.yes (by omega) (Ev.yes (by omega) (Ev.yes hb (Ev.now _))))
    · refine ⟨b, ?_⟩
      refine Ev.step (fun k => by simp only [laws_zzFits5.l0]; rfl) ?_
      rw [hr, hw]
      exact Ev.yes (by omega) (Ev.yes (by omega) (Ev.yes (by omega) (Ev.no hb ih)))


/-- The texts come back as they are. -/
theorem same_go (L : List ByteArray) (hL : L.length ≤ 1000) : ∀ (R : List ByteArray) (j : Nat), L.drop j = R → Ev (fun k => laws_FnWrStrings.l1 k L L (L.length : Int) (j : Int)) true
  | [], j, h => by
    have hl : L.length ≤ j := by
      have h9 := congrArg List.length h
      simp only [List.length_drop, List.length_nil] at h9; omega
    refine Ev.step (fun k => by simp only [laws_FnWrStrings.l1]; rfl) ?_
    exact Ev.no (by omega) (Ev.now _)
  | t :: R, j, h => by
    obtain ⟨hr, hl, hd⟩ := rd_at L j t R h
    have hw : wrap64 ((j : Int) + 1) = ((j + 1 : Nat) : Int) := by rw [wrap_of (by omega) (by omega)]; omega
    refine Ev.step (fun k => by simp only [laws_FnWrStrings.l1]; rfl) ?_
    rw [hw]
    exact Ev.yes (by omega) (Ev.yes (by omega) (Ev.yes (by omega) (Ev.yes (by omega) (Ev.yes trivial (same_go L hL R (j + 1) hd)))))

theorem imp (L : List ByteArray) (a : Int) (h : (0 ≤ a ∧ a ≤ 65535) ∧ L.length ≤ 100 ∧ ∀ p ∈ L, p.size ≤ 1024) : impl_WrStrings.f L a = some L := by
  unfold impl_WrStrings.f dbus_DoorConvert.f
  rw [if_pos h]; rfl

theorem small_go (L : List ByteArray) (a : Int) (ha : 0 ≤ a ∧ a ≤ 65535) (hL : L.length ≤ 100) : ∀ (R : List ByteArray) (j : Nat), L.drop j = R → (∀ p ∈ L.take j, p.size ≤ 1024) → Ev (fun k => laws_FnWrStrings.l0 k L a (j : Int)) true
  | [], j, h, hs => by
    have hl : L.length ≤ j := by
      have h9 := congrArg List.length h
      simp only [List.length_drop, List.length_nil] at h9; omega
    rw [List.take_of_length_le hl] at hs
    refine Ev.step (fun k => by simp only [laws_FnWrStrings.l0]; rfl) ?_
    rw [wrap_of (a := a) (by omega) (by omega)]
    refine Ev.no (by omega) (Ev.call (imp L a ⟨ha, hL, hs⟩) (Ev.call (imp [(⟨#[97]⟩ : ByteArray)] 0 ⟨by decide, by decide, by intro p hp; rw [List.mem_singleton.1 hp]; decide⟩) ?_))
    refine Ev.yes rfl (Ev.yes rfl (Ev.yes (by decide) ?_))
    have e : ((rdOf ByteArray.empty [(⟨#[97]⟩ : ByteArray)] 0).toList != ([97] : List UInt8)) = false := by
      rw [B_toList]; rfl
    rw [e]
    refine Ev.step (fun k => by simp only [laws_FnWrStrings.j1]; rfl) ?_
    exact Ev.no (by simp) (same_go L (by omega) L 0 rfl)
  | t :: R, j, h, hs => by
    obtain ⟨hr, hl, hd⟩ := rd_at L j t R h
    have hw : wrap64 ((j : Int) + 1) = ((j + 1 : Nat) : Int) := by rw [wrap_of (by omega) (by omega)]; omega
    refine Ev.step (fun k => by simp only [laws_FnWrStrings.l0]; rfl) ?_
    rw [hr, hw]
    refine Ev.yes (by omega) (Ev.yes (by omega) (Ev.both (fun _ => Ev.now _) (fun hb => ?_)))
    refine small_go L a ha hL R (j + 1) hd ?_
    have ht : L[j]? = some t := by
      have := List.drop_eq_getElem_cons hl
      rw [this] at h
      injection h with h1 _
      rw [List.getElem?_eq_getElem hl, h1]
    rw [List.take_add_one, ht]
    intro p hp
    rcases List.mem_append.1 hp with hp | hp
    · exact hs p hp
    · simp at hp
      subst hp
      omega

theorem FnWrStrings : wrs := by
  intro L a ha
  have ha' : 0 ≤ a ∧ a ≤ 65535 := by simpa [Lit.wf, IntKind.min, IntKind.max, IntKind.bits, IntKind.signed] using ha
  apply Ev.rounds
  have hfit : ∃ b, Ev (fun k => laws_zzFits5.f k L) b := by
    unfold laws_zzFits5.f
    by_cases h : (L.length : Int) > 2147483647
    · exact ⟨false, Ev.yes h (Ev.now _)⟩
    · obtain ⟨b, hb⟩ := fits5 L (by omega) L 0 rfl
      exact ⟨b, Ev.no h hb⟩
  obtain ⟨b, hb⟩ := hfit
  unfold laws_FnWrStrings.f
  refine Ev.bind hb (Ev.both (fun _ => Ev.both (fun _ => Ev.now _) (fun h => ?_)) (fun _ => Ev.now _))
  exact small_go L a ha' (by omega) L 0 rfl (by simp)

end Go.Proofs.Ytpndgbiaomglpaa.Pure
