/-
doorSet: the set of some signatures.
-/
import Derived.Test.YtlnkgifpiinnoaaMk
import Derived.Outline
namespace Go.Proofs.Ytlnkgifpiinnoaa.Ms
set_option linter.unusedVariables false
set_option linter.unusedSimpArgs false
open Go.RowKit Go.WideMaps Go.Maps Go.Proofs.YtlnkgifpiinnoaaW.PrintWords Go.Proofs.Ytlnkgifpiinnoaa.Mk

/-- Block b is a map whose keys are just these signatures. -/
def SetOf (w : World) (b n : Nat) (P : ByteArray → Prop) : Prop := ∃ D, w.ownsMap Try.prog 60 R b n D ∧ ∀ s : ByteArray, s.size ≤ maxLen → (has D (kl s) = true ↔ P s) ∧ (has D (kl s) = true → ∀ z, D.atKey (kl s) z = .lit (.bool true))
theorem put_has {D : DataW Unit} (hD : IsMap D) (s t : ByteArray) (hs : s.size ≤ maxLen) (ht : t.size ≤ maxLen) (d : DataW Unit) : has (D.put (kl s) d) (kl t) = true ↔ (t = s ∨ has D (kl t) = true) := by
  by_cases e : t = s
  · subst e
    rw [has_put_same hD (show WideAt.IsKeyLit (kl t) from trivial) d]
    simp
  · rw [has_put_other (fun h => e (kl_inj ht hs h)) d]
    simp [e]
theorem put_at {D : DataW Unit} (hD : IsMap D) (s t : ByteArray) (hs : s.size ≤ maxLen) (ht : t.size ≤ maxLen) (h : has D (kl t) = true → ∀ z, D.atKey (kl t) z = .lit (.bool true)) : has (D.put (kl s) (.lit (.bool true))) (kl t) = true → ∀ z, (D.put (kl s) (.lit (.bool true))).atKey (kl t) z = .lit (.bool true) := by
  by_cases e : t = s
  · subst e
    intro _ z
    exact atKey_put_same hD (show WideAt.IsKeyLit (kl t) from trivial) _ z
  · intro hh z
    rw [has_put_other (fun h => e (kl_inj ht hs h))] at hh
    rw [atKey_put_other (fun h => e (kl_inj ht hs h))]
    exact h hh z
theorem elem_true : R (.bool true) = some (.lit (.bool true), []) := plainElem_bool Try.underlying4 true

set_option maxHeartbeats 8000000 in
set_option maxRecDepth 100000 in
theorem doorSet (A : Option Addr) (c : Nat) (l : List ByteArray) (w : World) (hr : Kd.C Kd.string w A l.length l) (hl : l.length ≤ 1000) (hz : ∀ s ∈ l, s.size ≤ maxLen) :
    Calls Try.prog 23 #[.slice A l.length c] w fun e w' => (∃ b, e = .returned (.map (some b)) ∧ w.heap.size ≤ b ∧ SetOf w' b l.length (· ∈ l)) ∧ Below w.heap.size w w' := by
  have HR := Aside0.mk hr
  have HZ := Aside0.mk hz
  clear hr hz
  have hmm := @run_makeMap Try.prog
  go_enter Try.func23, Try.ntmps23
  go_wp2
  go_loopw [9] (fun v wr => ∃ (j : Nat), v = .int .i64 j ∧ j ≤ l.length ∧ Aside0 (SetOf wr w.heap.size j (· ∈ l.take j)) ∧ Aside0 (Below w.heap.size w wr)) (fun v _ => l.length - (intOf v).toNat)
  case atStart =>
    refine ⟨0, rfl, Nat.zero_le _, ⟨⟨_, World.ownsMap_made w Try.prog 60 R, fun s _ => ⟨?_, fun h => by simp [has] at h⟩⟩⟩, ⟨(Below.refl _ w).alloc (Nat.le_refl _) _⟩⟩
    simp [has]
  case round =>
    obtain ⟨j, rfl, hj, HS, HB⟩ := hrel
    by_cases hjl : j < l.length
    · obtain ⟨D, hown, hD⟩ := HS.out
      have HD := Aside0.mk hD
      have HO := Aside0.mk hown
      have p1 : (0 : Int) ≤ (j : Int) := by omega
      have q1 : (j : Int) < (l.length : Int) := by omega
      have hm : (l[j]'hjl) ∈ l := List.getElem_mem hjl
      have hzs := HZ.out _ hm
      obtain ⟨ad, e1, hx⟩ := Kd.at_string (Kd.C_below HR.out (HB.out)) (j : Int) p1 q1
      have e2 : rdOf ByteArray.empty l (j : Int) = l[j]'hjl := by simp [rdOf, hjl]
      rw [e2, Int.toNat_natCast] at hx
      cases e1
      have hkey := key_is _ hzs
      clear hD hown HS hm e2
      generalize hs0 : (l[j]'hjl) = s0 at *
      have HS0 := Aside0.mk hs0
      clear hs0
      replace p1 := eq_true p1
      replace q1 := eq_true q1
      go_wp2_with (at_mapUpdate; refine wpList_mapUpdate_own _ rfl _ _ _ 40 rfl 60 4 K Try.underlying40 R w.heap.size j D rfl HO.out (by unfold maxLen; omega) (kv s0) (.bool true) (kl s0) rfl rfl hkey _ _ elem_true ?_; intro w1 hown1 hg1)
      refine ⟨⟨j + 1, (by first | rfl | (congr 1; omega)), by omega, ⟨⟨_, hown1, fun s hs => ⟨?_, put_at HO.out.isMap s0 s hzs hs (HD.out s hs).2⟩⟩⟩, ⟨?_⟩⟩, by simp [intOf]; omega⟩
      · rw [put_has (HO.out.isMap) s0 s hzs hs, (HD.out s hs).1, List.take_succ_eq_append_getElem hjl, HS0.out]
        show (s = s0 ∨ s ∈ l.take j) ↔ s ∈ l.take j ++ [s0]
        rw [List.mem_append, List.mem_singleton]
        exact Or.comm
      · exact HB.out.grown hg1 HB.out.size (fun k hk => by cases hk; exact Nat.le_refl _)
    · obtain rfl : j = l.length := by omega
      have HS1 := HS.out
      rw [List.take_length] at HS1
      have HS2 := Aside0.mk HS1
      clear HS HS1
      go_wp2
      go_ret
      exact ⟨⟨_, rfl, Nat.le_refl _, HS2.out⟩, HB.out⟩
end Go.Proofs.Ytlnkgifpiinnoaa.Ms
