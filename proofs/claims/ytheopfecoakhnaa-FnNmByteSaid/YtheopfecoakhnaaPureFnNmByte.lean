/-
What is proved: a member's name, an interface's and an object path, one byte of which (no point, no slash) gives way to another such byte, are such names still just if that byte is a letter of ASCII, '_', or a digit that does not begin an element (in a path any digit); for every input.
-/
import Derived.Test.YtheopfecoakhnaaY4
import Derived.Test.YtheopfecoakhnaaNb
namespace Go.Proofs.Ytheopfecoakhnaa.Pure
set_option linter.unusedVariables false
set_option linter.unusedSimpArgs false
open Go.RowKit Go.Proofs.Ytheopfecoakhnaa.Clo Go.Proofs.Ytheopfecoakhnaa.Ext Go.Proofs.Ytheopfecoakhnaa.Y Go.Proofs.YtheopfecoakhnaaW.PrintWords Go.Proofs.YtheopfecoakhnaaW.PrintLast
open Go.Proofs.Ytheopfecoakhnaa.Com Go.Proofs.Ytheopfecoakhnaa.Nm Go.Proofs.Ytheopfecoakhnaa.Nb

/-- A letter or '_', as the statement tells it. -/
def lt (c : Int) : Bool := (decide (97 ≤ Go.bits .or .u8 c 32) && decide (Go.bits .or .u8 c 32 ≤ 122)) || (c == 95)
theorem lt_mc (c : UInt8) : mc c = (lt (c.toNat : Int) || dg c) ∧ (lt (c.toNat : Int) = true → dg c = false) := by
  have H : ∀ n : Fin 256, (mc (UInt8.ofNat n.val) = (lt (n.val : Int) || (decide (48 ≤ (n.val : Int)) && decide ((n.val : Int) ≤ 57)))) ∧ (lt (n.val : Int) = true → (decide (48 ≤ (n.val : Int)) && decide ((n.val : Int) ≤ 57)) = false) := by decide +kernel
  have := H ⟨c.toNat, c.toNat_lt⟩
  simpa [dg] using this

theorem b46 (c : UInt8) : (c.toNat : Int) = 46 ↔ c = 46 := byte_eq c 46 (by omega)
theorem b47 (c : UInt8) : (c.toNat : Int) = 47 ↔ c = 47 := byte_eq c 47 (by omega)

/-- What the closure gives, of a text with a byte at the place. -/
theorem clo_is (s : ByteArray) (at_ : Int) (h0 : 0 ≤ at_) (h1 : at_ ≤ 65535) (c : UInt8) (hs : s.size ≤ 5000) (hp : 0 < s.size) :
    ∃ (u v : List UInt8) (a : UInt8), B s = u ++ a :: v ∧ ((a = 46 ∨ a = 47) → laws_FnNmByte_1.f s at_ (c.toNat : Int) = some (s, false, false)) ∧
      (a ≠ 46 → a ≠ 47 → laws_FnNmByte_1.f s at_ (c.toNat : Int) = some (mkb (u ++ c :: v), fe true u, true)) := by
  have hw : wrap64 at_ = at_ := wrap_of (by omega) (by omega)
  obtain ⟨k, hk⟩ : ∃ k : Nat, Int.tmod at_ (s.size : Int) = (k : Int) := ⟨(Int.tmod at_ (s.size : Int)).toNat, by have := Int.tmod_nonneg (a := at_) (s.size : Int) h0; omega⟩
  have hkl : k < s.size := by
    have := Int.tmod_lt_of_pos at_ (show (0 : Int) < (s.size : Int) by omega)
    omega
  have hkl' : k < (B s).length := by rw [B_length]; exact hkl
  have hB : B s = (B s).take k ++ (B s)[k] :: (B s).drop (k + 1) := by rw [← List.drop_eq_getElem_cons hkl', List.take_append_drop]
  have hbt : bt s (k : Int) = ((B s)[k].toNat : Int) := bt_get s k hkl'
  refine ⟨(B s).take k, (B s).drop (k + 1), (B s)[k], hB, ?_, ?_⟩
  · intro h
    unfold laws_FnNmByte_1.f
    rw [hw, hk, if_neg (by omega), if_pos (by omega), if_pos (by omega), hbt]
    by_cases h46 : (B s)[k] = 46
    · rw [if_pos ((b46 _).2 h46)]
    · rw [if_neg (fun h => h46 ((b46 _).1 h)), if_pos ((b47 _).2 (by rcases h with h | h; exact absurd h h46; exact h))]
  · intro h46 h47
    have hw1 : wrap64 ((k : Int) + 1) = ((k + 1 : Nat) : Int) := by rw [wrap_of (by omega) (by omega)]; omega
    have hz1 : (s.extract 0 k).size = k := by rw [ByteArray.size_extract]; omega
    have hz2 : (s.extract (k + 1) s.size).size = s.size - (k + 1) := by rw [ByteArray.size_extract]; omega
    have hz3 : (strOfNums [(c.toNat : Int)]).size = 1 := rfl
    have hz4 : (s.extract 0 k ++ strOfNums [(c.toNat : Int)]).size = k + 1 := by rw [ByteArray.size_append, hz1, hz3]
    have hres : (s.extract 0 k ++ strOfNums [(c.toNat : Int)]) ++ s.extract (k + 1) s.size = mkb ((B s).take k ++ c :: (B s).drop (k + 1)) := by
      apply B_inj
      rw [B_mkb, B_append, B_append, B_to, B_from]
      have : B (strOfNums [(c.toNat : Int)]) = [c] := by
        show [UInt8.ofNat ((c.toNat : Int)).toNat] = [c]
        rw [Int.toNat_natCast, UInt8.ofNat_toNat]
      rw [this]; simp
    unfold laws_FnNmByte_1.f
    rw [hw, hk, if_neg (by omega), if_pos (by omega), if_pos (by omega), hbt, if_neg (fun h => h46 ((b46 _).1 h)), if_neg (fun h => h47 ((b47 _).1 h)), if_pos (by omega), hw1]
    simp only [Option.bind_some, Int.toNat_natCast]
    rw [hz1, hz3, if_pos (by omega), if_pos (by omega), if_pos (by omega), hz4, hz2, if_pos (by omega), hres]
    by_cases hk0 : (k : Int) = 0
    · rw [if_pos hk0]
      obtain rfl : k = 0 := by omega
      rfl
    · rw [if_neg hk0]
      have hw2 : wrap64 ((k : Int) - 1) = ((k - 1 : Nat) : Int) := by rw [wrap_of (by omega) (by omega)]; omega
      rw [hw2, if_pos (by omega), if_pos (by omega)]
      have hkl2 : k - 1 < (B s).length := by omega
      have e1 : (B s).take k = (B s).take (k - 1) ++ [(B s)[k - 1]] := by
        have := List.take_add_one (l := B s) (i := k - 1)
        rw [show k - 1 + 1 = k from by omega, List.getElem?_eq_getElem hkl2] at this
        exact this
      rw [bt_get s (k - 1) hkl2, e1, fe_last]
      have e2 : (((B s)[k - 1].toNat : Int) == 46) = ((B s)[k - 1] == 46) := by
        rw [Bool.eq_iff_iff, beq_iff_eq, beq_iff_eq]
        exact b46 _
      rw [e2]

theorem mem_change {u v : List UInt8} {a c x : UInt8} (h : x ∈ u ++ c :: v) (hc : x ≠ c) : x ∈ u ++ a :: v := by
  simp only [List.mem_append, List.mem_cons] at h ⊢
  rcases h with h | h | h
  · exact .inl h
  · exact absurd h hc
  · exact .inr (.inr h)

/-- The three tests of a changed name: t is what the check says. -/
theorem three (L D F t : Bool) (g : Nat → Bool → Option Bool) (r : Bool) (hL : L = true → D = false) (ht : t = ((L || D) && !(F && D))) (H : Ev (fun k => g k false) r) :
    Ev (fun k => if L = true then g k (t != true) else (if D = true then g k (t != (!F)) else g k (t != false))) r := by
  cases L with
  | true =>
    rw [hL rfl] at ht
    have : (t != true) = false := by rw [ht]; simp
    rw [this]; exact Ev.yes rfl H
  | false =>
    refine Ev.no (by simp) ?_
    cases D with
    | true =>
      have : (t != (!F)) = false := by rw [ht]; simp
      rw [this]; exact Ev.yes rfl H
    | false =>
      have : (t != false) = false := by rw [ht]; simp
      rw [this]; exact Ev.no (by simp) H

theorem FnNmByte : laws_FnNmByte.Pure := by
  intro a0 a1 a2 a3 a4 _ _ _ w3 w4
  have w3' : 0 ≤ a3 ∧ a3 ≤ 65535 := by simpa [Lit.wf, IntKind.min, IntKind.max, IntKind.bits, IntKind.signed] using w3
  have w4' : 0 ≤ a4 ∧ a4 ≤ 255 := by simpa [Lit.wf, IntKind.min, IntKind.max, IntKind.bits, IntKind.signed] using w4
  obtain ⟨c, rfl⟩ : ∃ c : UInt8, a4 = (c.toNat : Int) := ⟨UInt8.ofNat a4.toNat, by rw [UInt8.toNat_ofNat']; omega⟩
  apply Ev.rounds
  unfold laws_FnNmByte.f
  have skip : Ev (fun k => laws_FnNmByte.j0 k a0 a1 a2 a3 (c.toNat : Int) (c.toNat : Int) true) true := by
    refine Ev.step (fun k => by simp only [laws_FnNmByte.j0]; rfl) ?_
    exact Ev.yes trivial (Ev.now _)
  refine Ev.both (fun _ => skip) (fun _ => Ev.both (fun _ => skip) (fun _ => ?_))
  by_cases hbig : (a2.size : Int) > 2147483647
  · rw [decide_eq_true hbig]; exact skip
  rw [decide_eq_false hbig]
  have skip1 : Ev (fun k => laws_FnNmByte.j1 k a0 a1 a2 a3 (c.toNat : Int) (c.toNat : Int) true) true := by
    refine Ev.step (fun k => by simp only [laws_FnNmByte.j1]; rfl) ?_
    exact Ev.yes trivial (Ev.now _)
  refine Ev.step (fun k => by simp only [laws_FnNmByte.j0]; rfl) ?_
  refine Ev.no (by simp) ?_
  obtain ⟨b1, e1, f1⟩ := vmem_ev a0
  refine Ev.bind e1 (Ev.both (fun h1 => ?_) (fun _ => skip1))
  obtain ⟨b2, e2, f2⟩ := vif_ev a1
  refine Ev.bind e2 (Ev.both (fun h2 => Ev.both (fun _ => skip1) (fun h3 => ?_)) (fun _ => skip1))
  obtain ⟨b4, e4, f4⟩ := vp_ev a2 (by omega)
  refine Ev.bind e4 (Ev.both (fun h4 => Ev.both (fun _ => skip1) (fun h5 => Ev.both (fun _ => skip1) (fun h6 => ?_))) (fun _ => skip1))
  by_cases h7 : c = 47
  · have : ((c.toNat : Int) == 47) = true := beq_iff_eq.2 ((byte_eq c 47 (by omega)).2 h7)
    rw [this]; exact skip1
  have e7 : ((c.toNat : Int) == 47) = false := beq_eq_false_iff_ne.2 (fun h => h7 ((byte_eq c 47 (by omega)).1 h))
  rw [e7]
  have hc46 : c ≠ 46 := fun h => h6 ((byte_eq c 46 (by omega)).2 h)
  obtain ⟨g1, g2, g3⟩ := f1 h1
  obtain ⟨i1, i2, i3⟩ := f2 h2
  obtain ⟨t, hB2, hv2⟩ : ∃ t, B a2 = 47 :: t ∧ vl true t = true := by
    rcases f4 h4 with h | h
    · exact absurd (by rw [B_toList]; exact h) h5
    · exact h
  obtain ⟨hmc, hld⟩ := lt_mc c
  -- the letter and the digit
  have J1 : ∀ r, Ev (fun k => laws_FnNmByte.j2 k a0 a1 a2 a3 (c.toNat : Int) (c.toNat : Int) (lt (c.toNat : Int))) r → Ev (fun k => laws_FnNmByte.j1 k a0 a1 a2 a3 (c.toNat : Int) (c.toNat : Int) false) r := by
    intro r H
    refine Ev.step (fun k => by simp only [laws_FnNmByte.j1]; rfl) ?_
    refine Ev.no (by simp) ?_
    unfold lt at H
    refine Ev.both (fun q1 => ?_) (fun q1 => ?_)
    · rw [decide_eq_true (show 97 ≤ Go.bits .or .u8 (c.toNat : Int) 32 from q1), Bool.true_and] at H
      refine Ev.both (fun q2 => ?_) (fun q2 => ?_)
      · rw [decide_eq_true q2] at H; exact H
      · rw [decide_eq_false q2, Bool.false_or] at H; exact H
    · rw [decide_eq_false (show ¬ 97 ≤ Go.bits .or .u8 (c.toNat : Int) 32 from q1), Bool.false_and, Bool.false_or] at H
      exact H
  have J2 : ∀ r L, Ev (fun k => laws_FnNmByte.j3 k a0 a1 a2 a3 (c.toNat : Int) L (dg c)) r → Ev (fun k => laws_FnNmByte.j2 k a0 a1 a2 a3 (c.toNat : Int) (c.toNat : Int) L) r := by
    intro r L H
    refine Ev.step (fun k => by simp only [laws_FnNmByte.j2]; rfl) ?_
    unfold dg at H
    refine Ev.both (fun q1 => ?_) (fun q1 => ?_)
    · rw [decide_eq_true (show 48 ≤ (c.toNat : Int) from q1), Bool.true_and] at H; exact H
    · rw [decide_eq_false (show ¬ 48 ≤ (c.toNat : Int) from q1), Bool.false_and] at H; exact H
  apply J1
  apply J2
  have hp0 : 0 < a0.size := by
    rcases Nat.eq_zero_or_pos a0.size with h | h
    · have : B a0 = [] := List.length_eq_zero_iff.1 (by rw [B_length]; exact h)
      rw [this] at g3; simp [nv] at g3
    · exact h
  have hp1 : 0 < a1.size := by
    rw [← B_length]
    exact List.length_pos_of_mem i2
  have hp2 : 0 < a2.size := by rw [← B_length, hB2]; simp
  have last : Ev (fun k => laws_FnNmByte.j6 k a0 a1 a2 false) true := by
    refine Ev.step (fun k => by simp only [laws_FnNmByte.j6]; rfl) ?_
    have m1 := member_ev a0 g2 (by omega)
    rw [g3, decide_eq_true g1] at m1
    have m2 := iface_ev a1 i2 (by omega)
    rw [i3, decide_eq_true i1] at m2
    have m3 := nm_ev a2 (by omega)
    rw [hB2, path_vl, hv2, Bool.or_true] at m3
    exact Ev.no (by simp) (Ev.bind m1 (Ev.yes rfl (Ev.bind m2 (Ev.yes rfl (Ev.bind m3 (Ev.now _))))))
  have K5 : Ev (fun k => laws_FnNmByte.j5 k a0 a1 a2 a3 (c.toNat : Int) (lt (c.toNat : Int)) (dg c) false) true := by
    refine Ev.step (fun k => by simp only [laws_FnNmByte.j5]; rfl) ?_
    refine Ev.no (by simp) ?_
    obtain ⟨u, v, a, hB, q1, q2⟩ := clo_is a2 a3 w3'.1 w3'.2 c (by omega) hp2
    by_cases ha : a = 46 ∨ a = 47
    · exact Ev.call (q1 ha) (Ev.no (by simp) last)
    · simp only [not_or] at ha
      refine Ev.call (q2 ha.1 ha.2) (Ev.yes rfl ?_)
      have m := nm_ev (mkb (u ++ c :: v)) (by
        rw [← B_length, B_mkb]
        have : (B a2).length = (u ++ a :: v).length := by rw [hB]
        rw [B_length] at this
        simp at this ⊢; omega)
      rw [B_mkb] at m
      cases u with
      | nil =>
        rw [hB2] at hB
        simp only [List.nil_append, List.cons.injEq] at hB
        exact absurd hB.1.symm ha.2
      | cons d u =>
        rw [hB2] at hB
        simp only [List.cons_append, List.cons.injEq] at hB
        obtain ⟨rfl, rfl⟩ := hB
        have hch := vl_change u v true a c ha.2 h7 hv2
        rw [List.cons_append, path_vl, hch] at m
        have hne : (u ++ c :: v).isEmpty = false := by cases u <;> rfl
        rw [hne, Bool.false_or] at m
        refine Ev.bind m ?_
        refine Ev.both (fun hL => ?_) (fun hL => ?_)
        · have : (mc c != true) = false := by rw [hmc, hL]; rfl
          rw [this]; exact last
        · have : (mc c != dg c) = false := by rw [hmc, Bool.eq_false_iff.2 hL]; simp
          rw [this]; exact last
  have K4 : Ev (fun k => laws_FnNmByte.j4 k a0 a1 a2 a3 (c.toNat : Int) (lt (c.toNat : Int)) (dg c) false) true := by
    refine Ev.step (fun k => by simp only [laws_FnNmByte.j4]; rfl) ?_
    refine Ev.no (by simp) ?_
    obtain ⟨u, v, a, hB, q1, q2⟩ := clo_is a1 a3 w3'.1 w3'.2 c (by omega) hp1
    by_cases ha : a = 46 ∨ a = 47
    · exact Ev.call (q1 ha) (Ev.no (by simp) K5)
    · simp only [not_or] at ha
      refine Ev.call (q2 ha.1 ha.2) (Ev.yes rfl ?_)
      have hz : (mkb (u ++ c :: v)).size = a1.size := by
        rw [← B_length, B_mkb]
        have : (B a1).length = (u ++ a :: v).length := by rw [hB]
        rw [B_length] at this
        simp at this ⊢; omega
      have hm : 46 ∈ B (mkb (u ++ c :: v)) := by
        rw [B_mkb]
        rw [hB] at i2
        exact mem_change i2 (Ne.symm ha.1)
      have m := iface_ev (mkb (u ++ c :: v)) hm (by omega)
      rw [hB] at i3
      rw [hz, decide_eq_true i1, B_mkb, nv_change u v a c ha.1 hc46 i3, Bool.and_true] at m
      refine Ev.bind m ?_
      exact three _ _ _ _ (fun k b => laws_FnNmByte.j5 k a0 a1 a2 a3 (c.toNat : Int) (lt (c.toNat : Int)) (dg c) b) true hld (by rw [hmc]) K5
  refine Ev.step (fun k => by simp only [laws_FnNmByte.j3]; rfl) ?_
  obtain ⟨u, v, a, hB, q1, q2⟩ := clo_is a0 a3 w3'.1 w3'.2 c (by omega) hp0
  by_cases ha : a = 46 ∨ a = 47
  · exact Ev.call (q1 ha) (Ev.no (by simp) K4)
  · simp only [not_or] at ha
    refine Ev.call (q2 ha.1 ha.2) (Ev.yes rfl ?_)
    have hz : (mkb (u ++ c :: v)).size = a0.size := by
      rw [← B_length, B_mkb]
      have : (B a0).length = (u ++ a :: v).length := by rw [hB]
      rw [B_length] at this
      simp at this ⊢; omega
    have hm : 46 ∉ B (mkb (u ++ c :: v)) := by
      rw [B_mkb]
      intro h
      rw [hB] at g2
      exact g2 (mem_change h (Ne.symm hc46))
    have m := member_ev (mkb (u ++ c :: v)) hm (by omega)
    rw [hB] at g3
    rw [hz, decide_eq_true g1, B_mkb, nv_change u v a c ha.1 hc46 g3, Bool.and_true] at m
    refine Ev.bind m ?_
    exact three _ _ _ _ (fun k b => laws_FnNmByte.j4 k a0 a1 a2 a3 (c.toNat : Int) (lt (c.toNat : Int)) (dg c) b) true hld (by rw [hmc]) K4

end Go.Proofs.Ytheopfecoakhnaa.Pure
