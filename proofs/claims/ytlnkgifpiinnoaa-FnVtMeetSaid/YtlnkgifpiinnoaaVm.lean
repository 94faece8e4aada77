/-
impl.VtMeet in the print's form: of rows in order, the first's that are in the second, and the arrays of the first.
-/
import Derived.Test.YtlnkgifpiinnoaaMz
namespace Go.Proofs.Ytlnkgifpiinnoaa.Vm
set_option linter.unusedVariables false
set_option linter.unusedSimpArgs false
open Go.RowKit Go.Sort Go.Proofs.YtlnkgifpiinnoaaW.PrintWords Go.Proofs.Ytlnkgifpiinnoaa.Mx Go.Proofs.Ytlnkgifpiinnoaa.My Go.Proofs.Ytlnkgifpiinnoaa.Mz

def bs (l : List ByteArray) : List (List UInt8) := l.map fun s => s.data.toList
/-- In order, none twice. -/
def Asc (l : List ByteArray) : Prop := (bs l).Pairwise (fun x y => x < y)
def Ok (l : List ByteArray) : Prop := l.length ≤ 1000 ∧ (∀ s ∈ l, s.size ≤ 1000) ∧ Asc l
instance okD (l : List ByteArray) : Decidable (Ok l) := by unfold Ok Asc; infer_instance
def impl_VtMeet.f (l0 l1 : List ByteArray) : Option (List ByteArray × List ByteArray) :=
  if Ok l0 ∧ Ok l1 then some (l0.filter (fun s => decide (s.data.toList ∈ bs l1)), l0.map (ar ++ ·)) else none

theorem uniq (a b : List (List UInt8)) (ha : a.Pairwise (fun x y => x ≤ y)) (hb : b.Pairwise (fun x y => x ≤ y)) (na : a.Nodup) (nb : b.Nodup) (h : ∀ l, l ∈ a ↔ l ∈ b) : a = b :=
  List.Perm.eq_of_pairwise (le := fun x y => x ≤ y) (fun x y _ _ h1 h2 => List.le_antisymm h1 h2) ha hb ((List.perm_ext_iff_of_nodup na nb).2 h)
theorem asc_le {l : List (List UInt8)} (h : l.Pairwise (fun x y => x < y)) : l.Pairwise (fun x y => x ≤ y) ∧ l.Nodup :=
  ⟨h.imp fun h => List.le_of_lt h, h.imp fun h e => by subst e; exact List.lt_irrefl _ h⟩
theorem mkb_of (s : ByteArray) : mkb s.data.toList = s := rfl
theorem bs_mem (l : List ByteArray) (x : List UInt8) : x ∈ bs l ↔ mkb x ∈ l := by
  unfold bs
  rw [List.mem_map]
  constructor
  · rintro ⟨s, hs, rfl⟩; exact hs
  · intro h; exact ⟨mkb x, h, rfl⟩
theorem asc_filter {l : List ByteArray} (h : Asc l) (p : ByteArray → Bool) : Asc (l.filter p) := by
  unfold Asc bs at *
  exact h.sublist ((List.filter_sublist).map _)
theorem asc_ar {l : List ByteArray} (h : Asc l) : Asc (l.map (ar ++ ·)) := by
  unfold Asc bs at *
  rw [List.map_map, List.pairwise_map]
  rw [List.pairwise_map] at h
  refine h.imp fun {x y} hxy => ?_
  show (ar ++ x).data.toList < (ar ++ y).data.toList
  have e : ∀ z : ByteArray, (ar ++ z).data.toList = 97 :: z.data.toList := fun z => by simp [ar]
  rw [e, e]
  exact List.cons_lt_cons_iff.2 (.inr ⟨rfl, hxy⟩)
theorem encs_is (l : List ByteArray) : (bs l).map encStr = encs Value.string l := by
  unfold bs encs
  rw [List.map_map]
  rfl

set_option maxHeartbeats 4000000 in
set_option maxRecDepth 100000 in
theorem impl_VtMeet.calls (A0 : Option Addr) (c0 : Nat) (l0 : List ByteArray) (A1 : Option Addr) (c1 : Nat) (l1 : List ByteArray) (r1 r2 : List ByteArray) (w : World) (hr0 : Kd.C Kd.string w A0 l0.length l0) (hc0 : l0.length ≤ c0) (hr1 : Kd.C Kd.string w A1 l1.length l1) (hc1 : l1.length ≤ c1) (h : impl_VtMeet.f l0 l1 = some (r1, r2)) :
    Calls Try.prog 10 #[.slice A0 l0.length c0, .slice A1 l1.length c1] w fun e w' => ∃ v0_ v1_ : Value, e = .returned (.tuple #[v0_, v1_]) ∧ Kd.R Kd.string 9 w' w.heap.size (fun k_ => some k_ ≠ (v1_ : Value).ownBlock) v0_ r1 ∧ Kd.R Kd.string 9 w' w.heap.size (fun k_ => some k_ ≠ (v0_ : Value).ownBlock) v1_ r2 ∧ Below w.heap.size w w' := by
  unfold impl_VtMeet.f at h
  split at h
  case isFalse => cases h
  case isTrue hok =>
  obtain ⟨⟨h0, hz0, ha0⟩, h1, hz1, ha1⟩ := hok
  obtain ⟨rfl, rfl⟩ := Prod.mk.inj (Option.some.inj h)
  have HM := Aside0.mk (doorMeet A0 A1 c0 c1 l0 l1 w hr0 hr1 h0 h1 hz0 hz1)
  have HA := Aside0.mk ha0
  clear h hr0 hr1 hz0 hz1 ha0 ha1
  go_enter Try.func10, Try.ntmps10
  go_wp2_with (go_at_call 16; refine HM.out.mono ?_; rintro e w1 ⟨⟨v0, v1, ks0, ks1, rfl, r0, r1, hne, m0, m1⟩, B1⟩; have R0 := Aside0.mk r0; have R1 := Aside0.mk r1; have NE := Aside0.mk hne; have M0 := Aside0.mk m0; have M1 := Aside0.mk m1; have HB := Aside0.mk B1; clear r0 r1 hne m0 m1 B1)
  go_ret2
  have e0 : ks0 = bs (l0.filter (fun s => decide (s.data.toList ∈ bs l1))) := by
    obtain ⟨a1, a2⟩ := asc_le (asc_filter HA.out (fun s => decide (s.data.toList ∈ bs l1)))
    refine uniq _ _ M0.out.2.2 a1 M0.out.2.1 a2 fun l => ?_
    rw [M0.out.1 l, bs_mem, List.mem_filter, decide_eq_true_eq, bs_mem]
    exact Iff.rfl
  have e1 : ks1 = bs (l0.map (ar ++ ·)) := by
    obtain ⟨a1, a2⟩ := asc_le (asc_ar HA.out)
    refine uniq _ _ M1.out.2.2 a1 M1.out.2.1 a2 fun l => ?_
    rw [M1.out.1 l, bs_mem, List.mem_map]
    constructor
    · rintro ⟨x, hx, e⟩; exact ⟨x, hx, e.symm⟩
    · rintro ⟨x, hx, e⟩; exact ⟨x, hx, e.symm⟩
  have q0 := R0.out
  have q1 := R1.out
  rw [e0, encs_is] at q0
  rw [e1, encs_is] at q1
  refine ⟨v0, v1, rfl, Kd.R_of_own (by simpa [bs] using q0) fun k hk e => NE.out k hk e.symm, Kd.R_of_own (by simpa [bs] using q1) fun k hk e => NE.out k e.symm hk, HB.out⟩
end Go.Proofs.Ytlnkgifpiinnoaa.Vm
