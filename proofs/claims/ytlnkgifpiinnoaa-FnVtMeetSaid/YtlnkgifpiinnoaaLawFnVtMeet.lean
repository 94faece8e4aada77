-- Written by a program of this session out of the translation; Lean checks it.
import Derived.Test.YtlnkgifpiinnoaaRows
import Derived.Test.YtlnkgifpiinnoaaM4
import Derived.Test.YtlnkgifpiinnoaaPureFnVtMeet
import Derived.WalkKit
import Derived.ProofKit
import Derived.OpenShut
import Derived.ShutString
import Derived.ChangeOld
import Derived.Below
import Derived.SizedLaws
import Derived.SliceStrings
import Derived.Carry
namespace Go.Proofs.Ytlnkgifpiinnoaa.fnVtMeet
open Go.ChangeShapes Go.WideShapes Go.ChangeAt Go.RowKit
open Go.ChangeMaps (open_string shut_string)
set_option linter.unusedVariables false
set_option linter.unusedSimpArgs false
open Go.Proofs.YtlnkgifpiinnoaaW.PrintWords
theorem laidOut : laidOutB Try.prog = true := by kernel_rfl
theorem own : ownKnob Try.prog.godebug = none := by kernel_rfl
set_option maxRecDepth 100000 in
theorem lifted (os : Os) (started : os.Started) (H : Type) (enc : TypeId × Value → H) :
    ReturnsInHanded {} Try.checked os 4 .any (Rows.fnVtMeetSpec.pre6 enc Try.prog Try.f4 Rows.fnVtMeetRow.domain false) (Rows.fnVtMeetSpec.post enc Try.prog Try.f4 false true false false) := by
  refine returnsInHanded_of_change_sized (C := Try.checked) own started (by kernel_rfl) Try.func4
    (ChangeSpec.witness6 (enc := enc) (C := Try.checked) false ⟨#[], #[.slice none 0 0, .slice none 0 0], []⟩ 8 (by kernel_rfl) (by kernel_rfl) (by kernel_rfl) (by kernel_rfl)) ?_
  intro W base args ds gs before hval0 hW hcnd hsz0 _
  have hsz : (DataW.weightsEach Try.prog (Try.f4.params.toList ++ Rows.fnVtMeetSpec.plain.varTypes Try.prog) (ds ++ gs)).all (· ≤ reachBytes) = true := hsz0
  have hval : ∀ (j : Nat) t v, Try.f4.params[j]? = some t → args[j]? = some v → Value.okWide Try.prog W .any base t v := hval0
  have hW' := hW
  obtain ⟨p, q, hA0, hV, rfl, hfz, hnd⟩ := hW
  have hA : DataW.TrodAll enc Try.prog W 0 (fun _ => true) true Try.f4.params.toList args.toList ds p := hA0
  rw [Try.params4] at hA hval hsz
  obtain ⟨v0, vs0, d0, ds0, p0, q0, hargs, rfl, rfl, h0, r0⟩ := trodAll_cons hA
  obtain ⟨v1, vs1, d1, ds1, p1, q1, rfl, rfl, rfl, h1, r1⟩ := trodAll_cons r0
  obtain ⟨rfl, rfl, rfl⟩ := trodAll_nil r1
  obtain rfl : args = #[v0, v1] := by cases args; simp_all
  obtain ⟨rfl, rfl⟩ := trodVars_none hV
  obtain ⟨a0, len0, cap0, rfl⟩ := okWide_slice Try.underlying25 (hval 0 25 v0 rfl rfl)
  have k0 := h0
  have lt0 : ∀ x ∈ p0, x.block < W.heap.size := by obtain ⟨m, hm⟩ := k0; exact DataW.trod_lt m _ _ _ hm
  obtain ⟨l0, hr0, hc0, rfl⟩ : ∃ l0 : List ByteArray, Kd.C Kd.string W a0 l0.length l0 ∧ l0.length ≤ cap0 ∧ len0 = l0.length := by
    obtain ⟨fuel, hf⟩ := h0
    rcases open_strings Try.underlying25 Try.underlying9 (by kernel_rfl) hf with ⟨hcs, _⟩ | ⟨x, l, c, zs, hcs, _, hl, hm, hz, _, hcell, _⟩
    · simp [Value.cells] at hcs
      obtain ⟨rfl, rfl, rfl⟩ := hcs
      exact ⟨[], Kd.C_nil _ _, Nat.le_refl _, rfl⟩
    · simp [Value.cells] at hcs
      obtain ⟨rfl, rfl, rfl⟩ := hcs
      have hzl : zs.length = cap0 := by simpa using hz
      have hlen : (zs.take len0).length = len0 := by rw [List.length_take, hzl]; omega
      refine ⟨zs.take len0, ?_, by rw [hlen]; exact hl, hlen.symm⟩
      rw [hlen]
      refine ⟨hlen, by have : (9223372036854775807 : Nat) = 9223372036854775807 := rfl; unfold maxLen at hm; omega, fun _ => ⟨x, rfl, fun j p hp => ⟨[.string p], rfl, rfl, fun i u hu => ?_⟩⟩⟩
      have hj : j < len0 := by
        have := (List.getElem?_eq_some_iff.1 hp).1
        rw [hlen] at this; exact this
      have hi : i = 0 := by
        have := (List.getElem?_eq_some_iff.1 hu).1
        simpa using this
      subst hi
      have hu' : u = .string p := by simpa using hu.symm
      subst hu'
      have hg := hcell j (by omega)
      rw [List.getElem?_take_of_lt hj] at hp
      have : zs.getD j ByteArray.empty = p := by rw [List.getD_eq_getElem?_getD, hp]; rfl
      rw [this] at hg
      have e : j * Kd.string.sz + 0 = j := by show j * 1 + 0 = j; omega
      rw [e]
      exact hg
  obtain ⟨a1, len1, cap1, rfl⟩ := okWide_slice Try.underlying25 (hval 1 25 v1 rfl rfl)
  have k1 := h1
  have lt1 : ∀ x ∈ p1, x.block < W.heap.size := by obtain ⟨m, hm⟩ := k1; exact DataW.trod_lt m _ _ _ hm
  obtain ⟨l1, hr1, hc1, rfl⟩ : ∃ l1 : List ByteArray, Kd.C Kd.string W a1 l1.length l1 ∧ l1.length ≤ cap1 ∧ len1 = l1.length := by
    obtain ⟨fuel, hf⟩ := h1
    rcases open_strings Try.underlying25 Try.underlying9 (by kernel_rfl) hf with ⟨hcs, _⟩ | ⟨x, l, c, zs, hcs, _, hl, hm, hz, _, hcell, _⟩
    · simp [Value.cells] at hcs
      obtain ⟨rfl, rfl, rfl⟩ := hcs
      exact ⟨[], Kd.C_nil _ _, Nat.le_refl _, rfl⟩
    · simp [Value.cells] at hcs
      obtain ⟨rfl, rfl, rfl⟩ := hcs
      have hzl : zs.length = cap1 := by simpa using hz
      have hlen : (zs.take len1).length = len1 := by rw [List.length_take, hzl]; omega
      refine ⟨zs.take len1, ?_, by rw [hlen]; exact hl, hlen.symm⟩
      rw [hlen]
      refine ⟨hlen, by have : (9223372036854775807 : Nat) = 9223372036854775807 := rfl; unfold maxLen at hm; omega, fun _ => ⟨x, rfl, fun j p hp => ⟨[.string p], rfl, rfl, fun i u hu => ?_⟩⟩⟩
      have hj : j < len1 := by
        have := (List.getElem?_eq_some_iff.1 hp).1
        rw [hlen] at this; exact this
      have hi : i = 0 := by
        have := (List.getElem?_eq_some_iff.1 hu).1
        simpa using this
      subst hi
      have hu' : u = .string p := by simpa using hu.symm
      subst hu'
      have hg := hcell j (by omega)
      rw [List.getElem?_take_of_lt hj] at hp
      have : zs.getD j ByteArray.empty = p := by rw [List.getD_eq_getElem?_getD, hp]; rfl
      rw [this] at hg
      have e : j * Kd.string.sz + 0 = j := by show j * 1 + 0 = j; omega
      rw [e]
      exact hg
  clear hA0 hval0 hsz0 hsz
  obtain ⟨k, hk⟩ := Pm.FnVtMeet l0 l1
  refine (M.laws_FnVtMeet.calls k a0 cap0 l0 a1 cap1 l1 true W hr0 hc0 hr1 hc1 hk).mono fun e W' ⟨he, bel⟩ => ?_
  subst he
  exact ⟨_, rfl, _, _, _, [], _, [], hW', trodAll_mk1 (shut_bool Try.underlying4 _), (trodAll_cons_mk (Below.trod laidOut (by kernel_rfl) (of_decide_eq_true (by kernel_rfl)) k0 bel lt0) (trodAll_cons_mk (Below.trod laidOut (by kernel_rfl) (of_decide_eq_true (by kernel_rfl)) k1 bel lt1) trodAll_mk0)), rfl, bel.frame _, fun h => by cases h⟩
theorem over : Rows.fnVtMeetRow.holds Try.pinned (OpenSpec.ofChange Rows.fnVtMeetSpec) :=
  OpenClaim.holds_of_wide 4 Try.f4 rfl rfl rfl rfl rfl rfl rfl ⟨rfl, rfl, rfl, rfl, rfl⟩ rfl rfl rfl rfl rfl (by kernel_rfl) Try.func4 (by kernel_rfl)
    (of_decide_eq_true (by kernel_rfl)) (by unfold Func.isWrapper; first | (rw [if_pos (by decide +kernel)]; kernel_rfl) | (rw [if_neg (by decide +kernel)]; exact ⟨rfl, rfl⟩))
    (fun os started H enc _ => lifted os started H enc)
theorem proved : Rows.FnVtMeetSaid := over
#print axioms proved
end Go.Proofs.Ytlnkgifpiinnoaa.fnVtMeet
namespace Go.Proofs.Ytlnkgifpiinnoaa
/-- The row, under a short name, for the claim. -/
theorem fnVtMeet_holds : Rows.FnVtMeetSaid := fnVtMeet.proved
end Go.Proofs.Ytlnkgifpiinnoaa
