import Derived.Test.YtoaehanfknjngaaDoorExt4
namespace Go.Proofs.YtoaehanfknjngaaDoor.Ext
set_option linter.unusedVariables false
set_option linter.unusedSimpArgs false
open Go.RowKit Go.Proofs.YtoaehanfknjngaaDoorW.PrintWords Go.Proofs.YtoaehanfknjngaaDoorW.PrintLast Go.Proofs.YtoaehanfknjngaaDoorW.PrintMore Go.Proofs.YtoaehanfknjngaaDoor.Com

set_option maxRecDepth 100000 in
/-- A bracket that is not closed. -/
theorem vl_open (a : ByteArray) (x y z : Int) (g : Nat) (w : World) (hs : a.size ≠ 0) (hd : deep x y z = true) (h40 : bt a 0 = 40) (hi : fm 40 41 (B a) 0 0 = -1) (hD : Dep w g x y z) (hsz : a.size ≤ 4294967296) :
  Calls Tryd.prog 60 #[.string a, .pointer (some ⟨g, 0, none⟩)] w (VPost false E0 w) := by
 have hne := ne_str hs
 have hne2 := ne_str2 hs
 have AD := Aside0.mk hD
 have HD := Aside0.mk hd
 have hpos : 0 < a.size := by omega
 have hx0 := first_byte a _ h40
 have HF := Aside0.mk ((fm_is a 40 41 hsz (by omega)).trans (by rw [hi]))
 clear hd h40 hD hi hs
 go_enter Tryd.func60, Tryd.ntmps60
 go_wp2_with (first | (go_at_call 32; refine (valid_call g x y z _ ?_).mono ?_; exact AD.out; rintro e w' ⟨rfl, ⟨nd, rfl⟩⟩; rw [HD.out]) | (go_at_call 61; refine (dbus_findMatching.calls _ _ _ (-1) _ HF.out).mono ?_; rintro e w' ⟨rfl, hb⟩; have HB := Aside0.mk hb; clear hb))
 go_ret2
 exact ⟨_, rfl, EB_err _ _, by repeat (first | exact Below.refl _ _ | apply below_alloc | apply pw_below_drewN | apply below_drew1 | exact below_step (by repeat (first | exact Below.refl _ _ | apply pw_below_drewN)) HB.out)⟩

/-- What is left is no longer than what was there. -/
theorem vs_le (k : Nat) : (∀ s x y z b r, vs k s x y z = some (b, r) → r.size ≤ s.size) ∧ (∀ s i x y z b r, vd k s i x y z = some (b, r) → r.size ≤ s.size) ∧ (∀ s q x y z b r, vl k s q x y z = some (b, r) → r.size ≤ q.size) := by
 induction k with
 | zero => exact ⟨fun s x y z b r h => by simp [vs] at h, fun s i x y z b r h => by simp [vd] at h, fun s q x y z b r h => by simp [vl] at h⟩
 | succ k ih =>
  obtain ⟨i1, i2, i3⟩ := ih
  have e0 : ∀ {b c : Bool} {r : ByteArray} {n : Nat}, some (c, E0) = some (b, r) → r.size ≤ n := by
   intro b c r n h
   simp only [Option.some.injEq, Prod.mk.injEq] at h
   rw [← h.2]; exact Nat.zero_le _
  have ex : ∀ {b c : Bool} {r s : ByteArray} {i j : Nat}, some (c, s.extract i j) = some (b, r) → r.size ≤ s.size := by
   intro b c r s i j h
   simp only [Option.some.injEq, Prod.mk.injEq] at h
   rw [← h.2, ByteArray.size_extract]; omega
  refine ⟨fun s x y z b r h => ?_, fun s i x y z b r h => ?_, fun s q x y z b r h => ?_⟩
  ·rw [vs] at h
   split at h
   ·exact e0 h
   split at h
   ·exact e0 h
   split at h
   ·exact ex h
   split at h
   ·split at h
    ·split at h
     ·exact i2 _ _ _ _ _ _ _ h
     ·have := i1 _ _ _ _ _ _ h; rw [ByteArray.size_extract] at this; omega
    ·have := i1 _ _ _ _ _ _ h; rw [ByteArray.size_extract] at this; omega
   split at h
   ·split at h
    ·exact e0 h
    split at h
    ·split at h
     ·have := i3 _ _ _ _ _ _ _ h; rw [ByteArray.size_extract] at this; omega
     ·simp at h
    ·simp at h
   ·exact e0 h
  ·rw [vd] at h
   split at h
   ·exact e0 h
   split at h
   ·split at h
    ·split at h
     ·exact e0 h
     ·obtain ⟨p, _, h⟩ := Option.bind_eq_some_iff.mp h
      split at h
      ·obtain ⟨q, _, h⟩ := Option.bind_eq_some_iff.mp h
       split at h
       ·split at h
        ·exact ex h
        ·exact e0 h
       ·exact e0 h
      ·exact e0 h
    ·simp at h
   ·simp at h
  ·rw [vl] at h
   split at h
   ·simp only [Option.some.injEq, Prod.mk.injEq] at h
    rw [h.2]; exact Nat.le_refl _
   ·obtain ⟨p, _, h⟩ := Option.bind_eq_some_iff.mp h
    split at h
    ·exact i3 _ _ _ _ _ _ _ h
    ·exact e0 h

/-- What holds at the head of the brackets' loop. -/
def LRel (k : Nat) (rr : ByteArray) (x y z : Int) (b : Bool) (r : ByteArray) (w : World) (kq : Nat) (v0 v4 : Value) (w' : World) : Prop :=
 kq ≤ k ∧ Below w.heap.size w w' ∧ ((∃ s : ByteArray, v0 = .string s ∧ s.size ≤ 4294967296 ∧ v4 = .nilIface ∧ vl kq s rr x y z = some (b, r)) ∨ (∃ s : ByteArray, ∃ t u, v0 = .string s ∧ v4 = .iface t u ∧ b = false ∧ r = E0))

set_option maxHeartbeats 2000000 in
set_option maxRecDepth 100000 in
/-- Types within brackets. -/
theorem vl_shut (k : Nat) (ih : ∀ m, m ≤ k → Reads m) (a : ByteArray) (x y z : Int) (g : Nat) (b : Bool) (r : ByteArray) (w : World) (hs : a.size ≠ 0) (hd : deep x y z = true) (h40 : bt a 0 = 40) (j : Nat) (hj : fm 40 41 (B a) 0 0 = (j : Int)) (hj1 : 1 ≤ j) (hj2 : j < a.size) (s2 rr : ByteArray) (hs2 : s2 = a.extract 1 j) (hrr : rr = a.extract (j + 1) a.size)
  (H : vl k s2 rr x y z = some (b, r)) (hD : Dep w g x y z) (hx : -1 ≤ x) (hy : -1 ≤ y) (hz : -1 ≤ z) (hsz : a.size ≤ 4294967296) :
  Calls Tryd.prog 60 #[.string a, .pointer (some ⟨g, 0, none⟩)] w (VPost b r w) := by
 obtain ⟨hx2, hy2, hz2⟩ : x ≤ 32 ∧ y ≤ 32 ∧ z ≤ 32 := by simpa [deep] using hd
 have hne := ne_str hs
 have hne2 := ne_str2 hs
 have IH := Aside0.mk ih
 have AD := Aside0.mk hD
 have HD := Aside0.mk hd
 have hpos : 0 < a.size := by omega
 have hx0 := first_byte a _ h40
 have HF := Aside0.mk ((fm_is a 40 41 hsz (by omega)).trans (by rw [hj]))
 have hlt := hD.lt
 have hsl : ∀ W : World, (Instr.slice 9 (.string a) (some (.int .i64 1)) (some (.int .i64 (j : Int))) none).run Tryd.prog W = .ok (.string s2) W := fun W => by
  rw [run_slice_string (P := Tryd.prog) (w := W) 9 a .i64 .i64 1 (j : Int) (Tryd.underlying9) (by omega) (by omega) (by omega), hs2]
  rfl
 have hsr : ∀ W : World, (Instr.slice 9 (.string a) (some (.int .i64 ((j : Int) + 1))) none none).run Tryd.prog W = .ok (.string rr) W := fun W => by
  rw [run_slice_string_l (P := Tryd.prog) W 9 a Tryd.underlying9 .i64 ((j : Int) + 1) (by omega) (by omega), hrr]
  have e1 : ((j : Int) + 1).toNat = j + 1 := by omega
  rw [e1]
 have s2le : s2.size ≤ 4294967296 := by rw [hs2, ByteArray.size_extract]; omega
 have AH := Aside0.mk H
 clear hd h40 hD hj hs ih hs2 hrr H
 go_enter Tryd.func60, Tryd.ntmps60
 go_wp2_with (first | (go_at_call 32; refine (valid_call g x y z _ ?_).mono ?_; exact AD.out; rintro e w' ⟨rfl, ⟨nd, rfl⟩⟩; rw [HD.out]) | (go_at_call 61; refine (dbus_findMatching.calls _ _ _ (j : Int) _ HF.out).mono ?_; rintro e w' ⟨rfl, hb⟩; have HB1 := Aside0.mk (below_step (w := w) (W := w.drewN nd) (by repeat (first | exact Below.refl _ _ | apply pw_below_drewN)) hb); clear hb))
 go_loopg [0, 4] k (LRel k rr x y z b r w)
 case atStart => exact ⟨Nat.le_refl _, HB1.out, .inl ⟨s2, rfl, s2le, rfl, AH.out⟩⟩
 case round =>
  clear AH HB1 HF hsl hsr
  obtain ⟨hkq, hB, hrel⟩ := hrel
  have HBr := Aside0.mk hB
  obtain ⟨k0, k1, k2⟩ := Dep.below (g := g) (x := x) (y := y) (z := z) AD.out HBr.out
  have hnew1 : wr.heap.size ≠ g := (by have := HBr.out.size; omega)
  clear hB
  rcases hrel with ⟨s, rfl, hsl, rfl, hv⟩ | ⟨s, ty, u, rfl, rfl, rfl, rfl⟩
  ·by_cases h0 : s.size = 0
   ·have hn : s.toList = [] := B_nil.2 (List.eq_nil_of_length_eq_zero (by rw [B_length]; exact h0))
    have n1 : (s.toList == ([] : List UInt8)) = true := beq_iff_eq.2 hn
    have n2 : (s.toList != ([] : List UInt8)) = false := by rw [bne, n1]; rfl
    cases gk with
    | zero => exact absurd hv (by simp [vl])
    | succ k3 =>
     rw [vl, if_pos h0] at hv
     simp only [Option.some.injEq, Prod.mk.injEq] at hv
     obtain ⟨rfl, rfl⟩ := hv
     clear hn h0
     go_wp2
     go_ret2
     exact ⟨_, rfl, EB_nil, by repeat (first | exact HBr.out | apply below_alloc | apply pw_below_drewN | apply below_drew1)⟩
   ·have n1 := ne_str h0
    have n2 := ne_str2 h0
    cases gk with
    | zero => exact absurd hv (by simp [vl])
    | succ k3 =>
     rw [vl, if_neg h0] at hv
     obtain ⟨⟨b1, r1⟩, h1, hv⟩ := Option.bind_eq_some_iff.mp hv
     have A1 := Aside0.mk h1
     have AV := Aside0.mk hv
     have hkk : k3 ≤ k := by omega
     clear h0 h1 hv
     go_wp2_with (first | (go_at_call 39; refine (str_call x y z _ (by omega) (by omega)).mono ?_; rintro e w2 ⟨rfl, rfl⟩) | (go_at_call 60; refine (Reads.go (IH.out k3 hkk) _ x (y + 1) z _ b1 r1 _ A1.out (Dep.new _ _ _ _) (by omega) (by omega) (by omega) (by omega) (by omega) (by omega) hsl).mono ?_; rintro e w3 ⟨ev, rfl, he, hb⟩; have HB3 := Aside0.mk (below_step (w := w) (by repeat (first | exact HBr.out | apply below_alloc | apply pw_below_drewN | apply below_drew1)) hb); clear hb))
     have r1le : r1.size ≤ 4294967296 := Nat.le_trans ((vs_le k3).1 _ _ _ _ _ _ A1.out) hsl
     go_roundg k3
     case measure => omega
     case rel =>
      refine ⟨by omega, HB3.out, ?_⟩
      cases b1 with
      | true => exact .inl ⟨r1, rfl, r1le, he, AV.out⟩
      | false =>
       obtain ⟨t, u, rfl⟩ := he
       have := AV.out
       simp only [Bool.false_eq_true, if_false, Option.some.injEq, Prod.mk.injEq] at this
       exact .inr ⟨r1, t, u, rfl, rfl, this.1.symm, this.2.symm⟩
  ·go_wp2
   go_ret2
   exact ⟨_, rfl, EB_err _ _, by repeat (first | exact HBr.out | apply below_alloc | apply pw_below_drewN | apply below_drew1)⟩

theorem Reads.all : ∀ k, Reads k := by
 intro k
 induction k using Nat.strongRecOn with
 | _ k ih =>
  intro a x y z g b r w h hD h1 h2 h3 h4 h5 h6 h7
  cases k with
  | zero => simp [vs] at h
  | succ k =>
   have ih' : ∀ m, m ≤ k → Reads m := fun m hm => ih m (by omega)
   rw [vs] at h
   by_cases c1 : a.size = 0
   ·rw [if_pos c1] at h
    simp only [Option.some.injEq, Prod.mk.injEq] at h
    obtain ⟨rfl, rfl⟩ := h
    exact vs_empty a g w c1
   rw [if_neg c1] at h
   by_cases c2 : deep x y z = false
   ·rw [if_pos c2] at h
    simp only [Option.some.injEq, Prod.mk.injEq] at h
    obtain ⟨rfl, rfl⟩ := h
    exact vs_deep a x y z g w c1 c2 hD
   rw [if_neg c2] at h
   have c2' : deep x y z = true := by simpa using c2
   by_cases c3 : one (bt a 0) = true
   ·rw [if_pos c3] at h
    simp only [Option.some.injEq, Prod.mk.injEq] at h
    obtain ⟨rfl, rfl⟩ := h
    exact vs_one a x y z g w c1 c2' c3 hD
   rw [if_neg c3] at h
   have c3' : one (bt a 0) = false := by simpa using c3
   by_cases c4 : bt a 0 = 97
   ·rw [if_pos c4] at h
    by_cases c5 : 1 < a.size
    ·rw [if_pos c5] at h
     by_cases c6 : bt a 1 = 123
     ·rw [if_pos c6] at h
      cases k with
      | zero => simp [vd] at h
      | succ k =>
       rw [vd] at h
       by_cases c7 : fm 123 125 (B (a.extract 1 a.size)) 0 0 = -1
       ·rw [if_pos c7] at h
        simp only [Option.some.injEq, Prod.mk.injEq] at h
        obtain ⟨rfl, rfl⟩ := h
        exact vd_open a x y z g w c5 c2' c4 c6 c7 hD h7
       rw [if_neg c7] at h
       by_cases c8 : 1 ≤ fm 123 125 (B (a.extract 1 a.size)) 0 0
       ·rw [if_pos c8] at h
        by_cases c9 : fm 123 125 (B (a.extract 1 a.size)) 0 0 + 1 < (a.size : Int)
        ·rw [if_pos c9] at h
         obtain ⟨j, hj⟩ := Int.eq_ofNat_of_zero_le (show 0 ≤ fm 123 125 (B (a.extract 1 a.size)) 0 0 by omega)
         rw [hj] at h c8 c9
         have e1 : (((j : Nat) : Int) + 1).toNat = j + 1 := by omega
         have e2 : (((j : Nat) : Int) + 2).toNat = j + 1 + 1 := by omega
         rw [e1, e2] at h
         have ihk : Reads k := ih' k (by omega)
         by_cases d1 : (a.extract 2 (j + 1)).size = 0
         ·rw [if_pos d1] at h
          simp only [Option.some.injEq, Prod.mk.injEq] at h
          obtain ⟨rfl, rfl⟩ := h
          exact vd_none k ihk a x y z g w c5 c2' c4 c6 j hj (by omega) (by omega) hD h1 h3 h5 h7 _ rfl d1
         rw [if_neg d1] at h
         obtain ⟨⟨b1, r1⟩, H1, h⟩ := Option.bind_eq_some_iff.mp h
         cases b1 with
         | false =>
          simp only [Bool.false_eq_true, if_false, Option.some.injEq, Prod.mk.injEq] at h
          obtain ⟨rfl, rfl⟩ := h
          exact vd_key k ihk a x y z g w c5 c2' c4 c6 j hj (by omega) (by omega) hD h1 h3 h5 h7 _ rfl d1 r1 H1
         | true =>
          simp only [if_true] at h
          obtain ⟨⟨b2, r2⟩, H2, h⟩ := Option.bind_eq_some_iff.mp h
          cases b2 with
          | false =>
           simp only [Bool.false_eq_true, if_false, Option.some.injEq, Prod.mk.injEq] at h
           obtain ⟨rfl, rfl⟩ := h
           exact vd_val k ihk a x y z g w c5 c2' c4 c6 j hj (by omega) (by omega) hD h1 h3 h5 h7 _ rfl d1 r1 H1 r2 H2
          | true =>
           simp only [if_true] at h
           by_cases d2 : r2.size = 0
           ·rw [if_pos d2] at h
            simp only [Option.some.injEq, Prod.mk.injEq] at h
            obtain ⟨rfl, rfl⟩ := h
            exact vd_ok k ihk a x y z g w c5 c2' c4 c6 j hj (by omega) (by omega) hD h1 h3 h5 h7 _ rfl d1 r1 H1 r2 H2 d2
           ·rw [if_neg d2] at h
            simp only [Option.some.injEq, Prod.mk.injEq] at h
            obtain ⟨rfl, rfl⟩ := h
            exact vd_more k ihk a x y z g w c5 c2' c4 c6 j hj (by omega) (by omega) hD h1 h3 h5 h7 _ rfl d1 r1 H1 r2 H2 d2
        ·rw [if_neg c9] at h; simp at h
       ·rw [if_neg c8] at h; simp at h
     ·rw [if_neg c6] at h
      exact vs_arr k (ih' k (Nat.le_refl _)) a x y z g b r w c1 c2' c4 (fun _ => c6) h hD h1 h3 h5 h7
    ·rw [if_neg c5] at h
     exact vs_arr k (ih' k (Nat.le_refl _)) a x y z g b r w c1 c2' c4 (fun hh => absurd hh c5) h hD h1 h3 h5 h7
   rw [if_neg c4] at h
   by_cases c5 : bt a 0 = 40
   ·rw [if_pos c5] at h
    by_cases c7 : fm 40 41 (B a) 0 0 = -1
    ·rw [if_pos c7] at h
     simp only [Option.some.injEq, Prod.mk.injEq] at h
     obtain ⟨rfl, rfl⟩ := h
     exact vl_open a x y z g w c1 c2' c5 c7 hD h7
    rw [if_neg c7] at h
    by_cases c8 : 1 ≤ fm 40 41 (B a) 0 0
    ·rw [if_pos c8] at h
     by_cases c9 : fm 40 41 (B a) 0 0 < (a.size : Int)
     ·rw [if_pos c9] at h
      obtain ⟨j, hj⟩ := Int.eq_ofNat_of_zero_le (show 0 ≤ fm 40 41 (B a) 0 0 by omega)
      rw [hj] at h c8 c9
      have e1 : (((j : Nat) : Int)).toNat = j := by omega
      have e2 : (((j : Nat) : Int) + 1).toNat = j + 1 := by omega
      rw [e1, e2] at h
      exact vl_shut k ih' a x y z g b r w c1 c2' c5 j hj (by omega) (by omega) _ _ rfl rfl h hD h1 h3 h5 h7
     ·rw [if_neg c9] at h; simp at h
    ·rw [if_neg c8] at h; simp at h
   ·rw [if_neg c5] at h
    simp only [Option.some.injEq, Prod.mk.injEq] at h
    obtain ⟨rfl, rfl⟩ := h
    exact vs_else a x y z g w c1 c2' c3' c4 c5 hD
end Go.Proofs.YtoaehanfknjngaaDoor.Ext
