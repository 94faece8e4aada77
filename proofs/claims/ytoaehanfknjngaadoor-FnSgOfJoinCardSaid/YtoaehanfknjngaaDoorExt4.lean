import Derived.Test.YtoaehanfknjngaaDoorExt3
import Derived.Laws.Strings2
import Derived.Test.YtoaehanfknjngaaDoorWMore
namespace Go.Proofs.YtoaehanfknjngaaDoor.Ext
set_option linter.unusedVariables false
set_option linter.unusedSimpArgs false
open Go.RowKit Go.Proofs.YtoaehanfknjngaaDoorW.PrintWords Go.Proofs.YtoaehanfknjngaaDoorW.PrintLast Go.Proofs.YtoaehanfknjngaaDoorW.PrintMore Go.Proofs.YtoaehanfknjngaaDoor.Com

theorem fm_is (s : ByteArray) (l r : Int) (hs : s.size ≤ 4294967296) (h : 0 ≤ l ∧ l < 128 ∧ 0 ≤ r ∧ r < 128) : dbus_findMatching.f s l r = some (fm l r (B s) 0 0) := by
 unfold dbus_findMatching.f
 rw [if_pos ⟨by omega, h.1, h.2.1, h.2.2.1, h.2.2.2⟩]; rfl

set_option maxRecDepth 100000 in
/-- A dict whose brace is not closed. -/
theorem vd_open (a : ByteArray) (x y z : Int) (g : Nat) (w : World) (hs : 1 < a.size) (hd : deep x y z = true) (h97 : bt a 0 = 97) (h123 : bt a 1 = 123) (hi : fm 123 125 (B (a.extract 1 a.size)) 0 0 = -1) (hD : Dep w g x y z) (hsz : a.size ≤ 4294967296) :
  Calls Tryd.prog 60 #[.string a, .pointer (some ⟨g, 0, none⟩)] w (VPost false E0 w) := by
 have hne := ne_str (a := a) (by omega)
 have hne2 := ne_str2 (a := a) (by omega)
 have AD := Aside0.mk hD
 have HD := Aside0.mk hd
 have hpos : 0 < a.size := by omega
 have hx0 := first_byte a _ h97
 have hx1 : ∀ (h : 1 < a.size), ((a[1]'h).toNat : Int) = 123 := fun h => (second_byte a h).trans h123
 have q1 : ((1 : Int) ≤ (a.size : Int)) = True := eq_true (by omega)
 have q2 : (1 ≤ a.size) = True := eq_true (by omega)
 have HF := Aside0.mk ((fm_is (a.extract 1 a.size) 123 125 (by rw [ByteArray.size_extract]; omega) (by omega)).trans (by rw [hi]))
 clear hd h97 h123 hD hi
 go_enter Tryd.func60, Tryd.ntmps60
 go_wp2_with (first | (go_at_call 32; refine (valid_call g x y z _ ?_).mono ?_; exact AD.out; rintro e w' ⟨rfl, ⟨nd, rfl⟩⟩; rw [HD.out]) | (go_at_call 61; refine (dbus_findMatching.calls _ _ _ (-1) _ HF.out).mono ?_; rintro e w' ⟨rfl, hb⟩; have HB := Aside0.mk hb; clear hb))
 go_ret2
 exact ⟨_, rfl, EB_err _ _, by repeat (first | exact Below.refl _ _ | apply below_alloc | apply pw_below_drewN | apply below_drew1 | exact below_step (by repeat (first | exact Below.refl _ _ | apply pw_below_drewN)) HB.out)⟩

theorem Reads.go {k : Nat} (h : Reads k) (a : ByteArray) (x y z : Int) (g : Nat) (b : Bool) (r : ByteArray) (w : World) (H : vs k a x y z = some (b, r)) (hD : Dep w g x y z) (h1 : -1 ≤ x) (h2 : x ≤ 1000) (h3 : -1 ≤ y) (h4 : y ≤ 1000) (h5 : -1 ≤ z) (h6 : z ≤ 1000) (h7 : a.size ≤ 4294967296) :
  Calls Tryd.prog 60 #[.string a, .pointer (some ⟨g, 0, none⟩)] w (VPost b r w) := h a x y z g b r w H hD h1 h2 h3 h4 h5 h6 h7
/-- A load, or another operation that comes to a value. -/
theorem load_ {P : Program} {ops : Array Oper} {Q : Exit → Act → World → Prop} {oi : Oper} {N : Option Tmp} {a : Act} {w : World} {K : Act → World → Prop} (v : Value) (hw : Region.wanted oi (yielded ops a.tmps) = true) (hN : oi.dst = N) (hrun : (execOp a.eval oi).run P w = .ok (.value v) w)
  (h : K (a.put N v) w) : if Region.wanted oi (yielded ops a.tmps) = true then Oper.wp P oi a w K Q else K (a.put N undef) w := by
 rw [if_pos hw]
 subst hN
 unfold Oper.wp
 rw [hrun, Oper.upon_value]
 exact h
noncomputable def T31 : Bool × List (List Nat × List Nat) := rtab .any (opsOf Tryd.f60 31)
theorem tab31 : rtab .any (opsOf Tryd.f60 31) = T31 := rfl
noncomputable def T34 : Bool × List (List Nat × List Nat) := rtab .any (opsOf Tryd.f60 34)
theorem tab34 : rtab .any (opsOf Tryd.f60 34) = T34 := rfl

set_option maxRecDepth 100000 in
/-- A dict with nothing in it. -/
theorem vd_none (k : Nat) (ih : Reads k) (a : ByteArray) (x y z : Int) (g : Nat) (w : World) (hs : 1 < a.size) (hd : deep x y z = true) (h97 : bt a 0 = 97) (h123 : bt a 1 = 123) (j : Nat) (hj : fm 123 125 (B (a.extract 1 a.size)) 0 0 = (j : Int)) (hj1 : 1 ≤ j) (hj2 : j + 1 < a.size) (hD : Dep w g x y z) (hx : -1 ≤ x) (hy : -1 ≤ y) (hz : -1 ≤ z) (hsz : a.size ≤ 4294967296) (s2 : ByteArray) (hs2 : s2 = a.extract 2 (j + 1)) (he : s2.size = 0) :
  Calls Tryd.prog 60 #[.string a, .pointer (some ⟨g, 0, none⟩)] w (VPost false E0 w) := by
 obtain ⟨hx2, hy2, hz2⟩ : x ≤ 32 ∧ y ≤ 32 ∧ z ≤ 32 := by simpa [deep] using hd
 have hne := ne_str (a := a) (by omega)
 have hne2 := ne_str2 (a := a) (by omega)
 have IH := Aside0.mk ih
 have AD := Aside0.mk hD
 have HD := Aside0.mk hd
 have hpos : 0 < a.size := by omega
 have hx0 := first_byte a _ h97
 have hx1 : ∀ (h : 1 < a.size), ((a[1]'h).toNat : Int) = 123 := fun h => (second_byte a h).trans h123
 have q1 : ((1 : Int) ≤ (a.size : Int)) = True := eq_true (by omega)
 have q2 : (1 ≤ a.size) = True := eq_true (by omega)
 have HF := Aside0.mk ((fm_is (a.extract 1 a.size) 123 125 (by rw [ByteArray.size_extract]; omega) (by omega)).trans (by rw [hj]))
 have hlt := hD.lt
 have hnew : w.heap.size ≠ g := by omega
 have hsl : ∀ W : World, (Instr.slice 9 (.string a) (some (.int .i64 2)) (some (.int .i64 ((j : Int) + 1))) none).run Tryd.prog W = .ok (.string s2) W := fun W => by
  rw [run_slice_string (P := Tryd.prog) (w := W) 9 a .i64 .i64 2 ((j : Int) + 1) (Tryd.underlying9) (by omega) (by omega) (by omega), hs2]
  have e1 : ((j : Int) + 1).toNat = j + 1 := by omega
  rw [e1]; rfl
 have HS2 := Aside0.mk hs2
 have s2le : s2.size ≤ 4294967296 := by rw [hs2, ByteArray.size_extract]; omega
 obtain ⟨h0, hc1, hc2⟩ := id hD
 have z1 : ((s2.size : Int) == 0) = true := by rw [he]; rfl
 clear hd h97 h123 hj ih hs2 he
 go_enter Tryd.func60, Tryd.ntmps60
 go_wp2_with (first | (go_at_call 32; refine (valid_call g x y z _ ?_).mono ?_; exact AD.out; rintro e w' ⟨rfl, ⟨nd, rfl⟩⟩; rw [HD.out]) | (go_at_call 61; refine (dbus_findMatching.calls _ _ _ (j : Int) _ HF.out).mono ?_; rintro e w' ⟨rfl, hb⟩; have HB1 := Aside0.mk (below_step (w := w) (W := w.drewN nd) (by repeat (first | exact Below.refl _ _ | apply pw_below_drewN)) hb); obtain ⟨k0, k1, k2⟩ := Dep.below (g := g) (x := x) (y := y) (z := z) AD.out HB1.out; have hnew1 : w'.heap.size ≠ g := (by have := HB1.out.size; omega); clear hb))
 go_ret2
 exact ⟨_, rfl, EB_err _ _, HB1.out⟩

set_option maxHeartbeats 2000000 in
set_option maxHeartbeats 2000000 in
set_option maxHeartbeats 2000000 in
set_option maxRecDepth 100000 in
/-- A dict whose key is no type. -/
theorem vd_key (k : Nat) (ih : Reads k) (a : ByteArray) (x y z : Int) (g : Nat) (w : World) (hs : 1 < a.size) (hd : deep x y z = true) (h97 : bt a 0 = 97) (h123 : bt a 1 = 123) (j : Nat) (hj : fm 123 125 (B (a.extract 1 a.size)) 0 0 = (j : Int)) (hj1 : 1 ≤ j) (hj2 : j + 1 < a.size) (hD : Dep w g x y z) (hx : -1 ≤ x) (hy : -1 ≤ y) (hz : -1 ≤ z) (hsz : a.size ≤ 4294967296) (s2 : ByteArray) (hs2 : s2 = a.extract 2 (j + 1)) (he : s2.size ≠ 0) (r1 : ByteArray) (H1 : vs k (s2.extract 0 1) (x + 1) y (z + 1) = some (false, r1)) :
  Calls Tryd.prog 60 #[.string a, .pointer (some ⟨g, 0, none⟩)] w (VPost false E0 w) := by
 obtain ⟨hx2, hy2, hz2⟩ : x ≤ 32 ∧ y ≤ 32 ∧ z ≤ 32 := by simpa [deep] using hd
 have hne := ne_str (a := a) (by omega)
 have hne2 := ne_str2 (a := a) (by omega)
 have IH := Aside0.mk ih
 have AD := Aside0.mk hD
 have HD := Aside0.mk hd
 have hpos : 0 < a.size := by omega
 have hx0 := first_byte a _ h97
 have hx1 : ∀ (h : 1 < a.size), ((a[1]'h).toNat : Int) = 123 := fun h => (second_byte a h).trans h123
 have q1 : ((1 : Int) ≤ (a.size : Int)) = True := eq_true (by omega)
 have q2 : (1 ≤ a.size) = True := eq_true (by omega)
 have HF := Aside0.mk ((fm_is (a.extract 1 a.size) 123 125 (by rw [ByteArray.size_extract]; omega) (by omega)).trans (by rw [hj]))
 have hlt := hD.lt
 have hnew : w.heap.size ≠ g := by omega
 have hsl : ∀ W : World, (Instr.slice 9 (.string a) (some (.int .i64 2)) (some (.int .i64 ((j : Int) + 1))) none).run Tryd.prog W = .ok (.string s2) W := fun W => by
  rw [run_slice_string (P := Tryd.prog) (w := W) 9 a .i64 .i64 2 ((j : Int) + 1) (Tryd.underlying9) (by omega) (by omega) (by omega), hs2]
  have e1 : ((j : Int) + 1).toNat = j + 1 := by omega
  rw [e1]; rfl
 have HS2 := Aside0.mk hs2
 have s2le : s2.size ≤ 4294967296 := by rw [hs2, ByteArray.size_extract]; omega
 obtain ⟨h0, hc1, hc2⟩ := id hD
 have z1 : ((s2.size : Int) == 0) = false := by rw [beq_eq_false_iff_ne]; omega
 have z2 : ((1 : Int) ≤ (s2.size : Int)) = True := eq_true (by omega)
 have z3 : (1 ≤ s2.size) = True := eq_true (by omega)
 have A1 := Aside0.mk H1
 clear hd h97 h123 hj ih hs2 he H1
 go_enter Tryd.func60, Tryd.ntmps60
 go_wp2_with (first | (go_at_call 32; refine (valid_call g x y z _ ?_).mono ?_; exact AD.out; rintro e w' ⟨rfl, ⟨nd, rfl⟩⟩; rw [HD.out]) | (go_at_call 61; refine (dbus_findMatching.calls _ _ _ (j : Int) _ HF.out).mono ?_; rintro e w' ⟨rfl, hb⟩; have HB1 := Aside0.mk (below_step (w := w) (W := w.drewN nd) (by repeat (first | exact Below.refl _ _ | apply pw_below_drewN)) hb); obtain ⟨k0, k1, k2⟩ := Dep.below (g := g) (x := x) (y := y) (z := z) AD.out HB1.out; have hnew1 : w'.heap.size ≠ g := (by have := HB1.out.size; omega); clear hb))
 refine start_ (n := 14) (S := fun _ => True) (ds := []) #[false, false, false, false, false, false, false, false, false, false, false, false, false, false] (by kernel_rfl) rfl rfl trivial (fun hHeld => ?_); refine with_tab tab31 (fun HT_ => ?_)
 refine pure_ (i := 0) (N := some 74) (v := ?_) (a' := ?_) #[true, false, false, false, false, false, false, false, false, false, false, false, false, false] rfl rfl (any_of HT_.out (by kernel_rfl)) (fun _ _ _ h => h) (Or.inl ⟨by rfl, ?_⟩) ?_ ?_
 rotate_left
 ·intro w_
  go_simp
  with_reducible rfl
 rotate_left
 ·simp only [Act.put, List.setIfInBounds_toArray, List.set_cons_zero, List.set_cons_succ, i64_w, i32_w]
  rfl
 refine pure_ (i := 1) (N := some 75) (v := ?_) (a' := ?_) #[true, true, false, false, false, false, false, false, false, false, false, false, false, false] rfl rfl (any_of HT_.out (by kernel_rfl)) (fun _ _ _ h => h) (Or.inl ⟨by rfl, ?_⟩) ?_ ?_
 rotate_left
 ·intro w_
  go_simp
  with_reducible rfl
 rotate_left
 ·simp only [Act.put, List.setIfInBounds_toArray, List.set_cons_zero, List.set_cons_succ, i64_w, i32_w]
  rfl
 refine pure_ (i := 2) (N := some 76) (v := ?_) (a' := ?_) #[true, true, true, false, false, false, false, false, false, false, false, false, false, false] rfl rfl (any_of HT_.out (by kernel_rfl)) (fun _ _ _ h => h) (Or.inl ⟨by rfl, ?_⟩) ?_ ?_
 rotate_left
 ·intro w_
  go_simp
  with_reducible rfl
 rotate_left
 ·simp only [Act.put, List.setIfInBounds_toArray, List.set_cons_zero, List.set_cons_succ, i64_w, i32_w]
  rfl
 refine pure_ (i := 3) (N := some 77) (v := ?_) (a' := ?_) #[true, true, true, true, false, false, false, false, false, false, false, false, false, false] rfl rfl (any_of HT_.out (by kernel_rfl)) (fun _ _ _ h => h) (Or.inl ⟨by rfl, ?_⟩) ?_ ?_
 rotate_left
 ·intro w_
  go_simp
  with_reducible rfl
 rotate_left
 ·simp only [Act.put, List.setIfInBounds_toArray, List.set_cons_zero, List.set_cons_succ, i64_w, i32_w]
  rfl
 refine one_ (i := 4) (N := some 78) #[true, true, true, true, true, false, false, false, false, false, false, false, false, false] rfl rfl (one_of HT_.out (by kernel_rfl)) (by decide) (fun K hK => ?_)
 refine load_ (.agg #[.int .i64 x, .int .i64 y, .int .i64 z]) (by rfl) rfl (by go_simp) ?_
 refine hK.out _ _ trivial (fun hHeld => ?_)
 clear hK K
 refine norm_ (a' := ?_) ?_ ?_
 rotate_left
 ·show Act.put _ (some 78) _ = _
  simp only [Act.put, List.setIfInBounds_toArray, List.set_cons_zero, List.set_cons_succ, i64_w, i32_w]
  rfl
 refine one_ (i := 5) (N := some 79) #[true, true, true, true, true, true, false, false, false, false, false, false, false, false] rfl rfl (one_of HT_.out (by kernel_rfl)) (by decide) (fun K hK => ?_)
 refine goes_ Tryd.func40 (by kernel_rfl) rfl #[.agg #[.int .i64 x, .int .i64 y, .int .i64 z]] (by rfl) rfl rfl (by (try simp only [List.map_toArray, List.map_cons, List.map_nil]); first | done | rfl) ?_
 with_reducible refine (arr_call x y z _ (by omega) (by omega)).mono ?_
 rintro e w2 ⟨rfl, rfl⟩
 refine ⟨_, rfl, ?_⟩
 refine hK.out _ _ trivial (fun hHeld => ?_)
 clear hK K
 refine norm_ (a' := ?_) ?_ ?_
 rotate_left
 ·show Act.put _ (some 79) _ = _
  simp only [Act.put, List.setIfInBounds_toArray, List.set_cons_zero, List.set_cons_succ, i64_w, i32_w]
  rfl
 refine pure_ (i := 6) (N := some 80) (v := ?_) (a' := ?_) #[true, true, true, true, true, true, true, false, false, false, false, false, false, false] rfl rfl (any_of HT_.out (by kernel_rfl)) (fun _ _ _ h => h) (Or.inl ⟨by rfl, ?_⟩) ?_ ?_
 rotate_left
 ·intro w_
  go_simp
  with_reducible rfl
 rotate_left
 ·simp only [Act.put, List.setIfInBounds_toArray, List.set_cons_zero, List.set_cons_succ, i64_w, i32_w]
  rfl
 refine one_ (i := 7) (N := some 81) #[true, true, true, true, true, true, true, true, false, false, false, false, false, false] rfl rfl (one_of HT_.out (by kernel_rfl)) (by decide) (fun K hK => ?_)
 refine load_ (.agg #[.int .i64 (x + 1), .int .i64 y, .int .i64 z]) (by rfl) rfl (by go_simp) ?_
 refine hK.out _ _ trivial (fun hHeld => ?_)
 clear hK K
 refine norm_ (a' := ?_) ?_ ?_
 rotate_left
 ·show Act.put _ (some 81) _ = _
  simp only [Act.put, List.setIfInBounds_toArray, List.set_cons_zero, List.set_cons_succ, i64_w, i32_w]
  rfl
 refine one_ (i := 8) (N := some 82) #[true, true, true, true, true, true, true, true, true, false, false, false, false, false] rfl rfl (one_of HT_.out (by kernel_rfl)) (by decide) (fun K hK => ?_)
 refine goes_ Tryd.func43 (by kernel_rfl) rfl #[.agg #[.int .i64 (x + 1), .int .i64 y, .int .i64 z]] (by rfl) rfl rfl (by (try simp only [List.map_toArray, List.map_cons, List.map_nil]); first | done | rfl) ?_
 with_reducible refine (ent_call (x + 1) y z _ (by omega) (by omega)).mono ?_
 rintro e w2 ⟨rfl, rfl⟩
 refine ⟨_, rfl, ?_⟩
 refine hK.out _ _ trivial (fun hHeld => ?_)
 clear hK K
 refine norm_ (a' := ?_) ?_ ?_
 rotate_left
 ·show Act.put _ (some 82) _ = _
  simp only [Act.put, List.setIfInBounds_toArray, List.set_cons_zero, List.set_cons_succ, i64_w, i32_w]
  rfl
 refine one_ (i := 9) (N := some 83) #[true, true, true, true, true, true, true, true, true, true, false, false, false, false] rfl rfl (one_of HT_.out (by kernel_rfl)) (by decide) (fun K hK => ?_)
 refine goes_ Tryd.func60 (by kernel_rfl) rfl #[.string (s2.extract 0 1), .pointer (some ⟨_, 0, none⟩)] (by rfl) rfl rfl (by (try simp only [List.map_toArray, List.map_cons, List.map_nil]); first | done | rfl) ?_
 with_reducible refine (Reads.go IH.out _ (x + 1) y (z + 1) _ false r1 _ A1.out (Dep.new _ _ _ _) (by omega) (by omega) (by omega) (by omega) (by omega) (by omega) (by rw [ByteArray.size_extract]; omega)).mono ?_
 rintro e w3 ⟨ev3, rfl, he3, hb⟩
 refine ⟨_, rfl, ?_⟩
 have HB2 := Aside0.mk (below_step (w := w) (by repeat (first | exact HB1.out | apply below_alloc | apply pw_below_drewN | apply below_drew1)) hb)
 obtain ⟨m0, m1, m2⟩ := Dep.below (g := g) (x := x) (y := y) (z := z) AD.out HB2.out
 have hnew3 : w3.heap.size ≠ g := (by have := HB2.out.size; omega)
 clear hb
 refine hK.out _ _ trivial (fun hHeld => ?_)
 clear hK K
 refine norm_ (a' := ?_) ?_ ?_
 rotate_left
 ·show Act.put _ (some 83) _ = _
  simp only [Act.put, List.setIfInBounds_toArray, List.set_cons_zero, List.set_cons_succ, i64_w, i32_w]
  rfl
 refine pure_ (i := 10) (N := some 73) (v := ?_) (a' := ?_) #[true, true, true, true, true, true, true, true, true, true, true, false, false, false] rfl rfl (any_of HT_.out (by kernel_rfl)) (fun _ _ _ h => h) (Or.inl ⟨by rfl, ?_⟩) ?_ ?_
 rotate_left
 ·intro w_
  go_simp
  with_reducible rfl
 rotate_left
 ·simp only [Act.put, List.setIfInBounds_toArray, List.set_cons_zero, List.set_cons_succ, i64_w, i32_w]
  rfl
 refine pure_ (i := 11) (N := some 84) (v := ?_) (a' := ?_) #[true, true, true, true, true, true, true, true, true, true, true, true, false, false] rfl rfl (any_of HT_.out (by kernel_rfl)) (fun _ _ _ h => h) (Or.inl ⟨by rfl, ?_⟩) ?_ ?_
 rotate_left
 ·intro w_
  go_simp
  with_reducible rfl
 rotate_left
 ·simp only [Act.put, List.setIfInBounds_toArray, List.set_cons_zero, List.set_cons_succ, i64_w, i32_w]
  rfl
 refine pure_ (i := 12) (N := some 85) (v := ?_) (a' := ?_) #[true, true, true, true, true, true, true, true, true, true, true, true, true, false] rfl rfl (any_of HT_.out (by kernel_rfl)) (fun _ _ _ h => h) (Or.inl ⟨by rfl, ?_⟩) ?_ ?_
 rotate_left
 ·intro w_
  go_simp
  with_reducible rfl
 rotate_left
 ·simp only [Act.put, List.setIfInBounds_toArray, List.set_cons_zero, List.set_cons_succ, i64_w, i32_w]
  rfl
 refine pure_ (i := 13) (N := some 4) (v := ?_) (a' := ?_) #[true, true, true, true, true, true, true, true, true, true, true, true, true, true] rfl rfl (any_of HT_.out (by kernel_rfl)) (fun _ _ _ h => h) (Or.inl ⟨by rfl, ?_⟩) ?_ ?_
 rotate_left
 ·intro w_
  go_simp
  with_reducible rfl
 rotate_left
 ·simp only [Act.put, List.setIfInBounds_toArray, List.set_cons_zero, List.set_cons_succ, i64_w, i32_w]
  rfl
 refine done_ (done_of HT_.out (by kernel_rfl)) ?_
 obtain ⟨ty3, u3, rfl⟩ : ∃ t u, ev3 = .iface t u := he3
 go_wp2
 go_ret2
 exact ⟨_, rfl, EB_err _ _, HB2.out⟩

set_option maxHeartbeats 2000000 in
set_option maxRecDepth 100000 in
/-- A dict whose value is no type. -/
theorem vd_val (k : Nat) (ih : Reads k) (a : ByteArray) (x y z : Int) (g : Nat) (w : World) (hs : 1 < a.size) (hd : deep x y z = true) (h97 : bt a 0 = 97) (h123 : bt a 1 = 123) (j : Nat) (hj : fm 123 125 (B (a.extract 1 a.size)) 0 0 = (j : Int)) (hj1 : 1 ≤ j) (hj2 : j + 1 < a.size) (hD : Dep w g x y z) (hx : -1 ≤ x) (hy : -1 ≤ y) (hz : -1 ≤ z) (hsz : a.size ≤ 4294967296) (s2 : ByteArray) (hs2 : s2 = a.extract 2 (j + 1)) (he : s2.size ≠ 0) (r1 : ByteArray) (H1 : vs k (s2.extract 0 1) (x + 1) y (z + 1) = some (true, r1)) (r2 : ByteArray) (H2 : vs k (s2.extract 1 s2.size) (x + 1) y (z + 1) = some (false, r2)) :
  Calls Tryd.prog 60 #[.string a, .pointer (some ⟨g, 0, none⟩)] w (VPost false E0 w) := by
 obtain ⟨hx2, hy2, hz2⟩ : x ≤ 32 ∧ y ≤ 32 ∧ z ≤ 32 := by simpa [deep] using hd
 have hne := ne_str (a := a) (by omega)
 have hne2 := ne_str2 (a := a) (by omega)
 have IH := Aside0.mk ih
 have AD := Aside0.mk hD
 have HD := Aside0.mk hd
 have hpos : 0 < a.size := by omega
 have hx0 := first_byte a _ h97
 have hx1 : ∀ (h : 1 < a.size), ((a[1]'h).toNat : Int) = 123 := fun h => (second_byte a h).trans h123
 have q1 : ((1 : Int) ≤ (a.size : Int)) = True := eq_true (by omega)
 have q2 : (1 ≤ a.size) = True := eq_true (by omega)
 have HF := Aside0.mk ((fm_is (a.extract 1 a.size) 123 125 (by rw [ByteArray.size_extract]; omega) (by omega)).trans (by rw [hj]))
 have hlt := hD.lt
 have hnew : w.heap.size ≠ g := by omega
 have hsl : ∀ W : World, (Instr.slice 9 (.string a) (some (.int .i64 2)) (some (.int .i64 ((j : Int) + 1))) none).run Tryd.prog W = .ok (.string s2) W := fun W => by
  rw [run_slice_string (P := Tryd.prog) (w := W) 9 a .i64 .i64 2 ((j : Int) + 1) (Tryd.underlying9) (by omega) (by omega) (by omega), hs2]
  have e1 : ((j : Int) + 1).toNat = j + 1 := by omega
  rw [e1]; rfl
 have HS2 := Aside0.mk hs2
 have s2le : s2.size ≤ 4294967296 := by rw [hs2, ByteArray.size_extract]; omega
 obtain ⟨h0, hc1, hc2⟩ := id hD
 have z1 : ((s2.size : Int) == 0) = false := by rw [beq_eq_false_iff_ne]; omega
 have z2 : ((1 : Int) ≤ (s2.size : Int)) = True := eq_true (by omega)
 have z3 : (1 ≤ s2.size) = True := eq_true (by omega)
 have A1 := Aside0.mk H1
 have A2 := Aside0.mk H2
 clear hd h97 h123 hj ih hs2 he H1 H2
 go_enter Tryd.func60, Tryd.ntmps60
 go_wp2_with (first | (go_at_call 32; refine (valid_call g x y z _ ?_).mono ?_; exact AD.out; rintro e w' ⟨rfl, ⟨nd, rfl⟩⟩; rw [HD.out]) | (go_at_call 61; refine (dbus_findMatching.calls _ _ _ (j : Int) _ HF.out).mono ?_; rintro e w' ⟨rfl, hb⟩; have HB1 := Aside0.mk (below_step (w := w) (W := w.drewN nd) (by repeat (first | exact Below.refl _ _ | apply pw_below_drewN)) hb); obtain ⟨k0, k1, k2⟩ := Dep.below (g := g) (x := x) (y := y) (z := z) AD.out HB1.out; have hnew1 : w'.heap.size ≠ g := (by have := HB1.out.size; omega); clear hb))
 refine start_ (n := 14) (S := fun _ => True) (ds := []) #[false, false, false, false, false, false, false, false, false, false, false, false, false, false] (by kernel_rfl) rfl rfl trivial (fun hHeld => ?_); refine with_tab tab31 (fun HT_ => ?_)
 refine pure_ (i := 0) (N := some 74) (v := ?_) (a' := ?_) #[true, false, false, false, false, false, false, false, false, false, false, false, false, false] rfl rfl (any_of HT_.out (by kernel_rfl)) (fun _ _ _ h => h) (Or.inl ⟨by rfl, ?_⟩) ?_ ?_
 rotate_left
 ·intro w_
  go_simp
  with_reducible rfl
 rotate_left
 ·simp only [Act.put, List.setIfInBounds_toArray, List.set_cons_zero, List.set_cons_succ, i64_w, i32_w]
  rfl
 refine pure_ (i := 1) (N := some 75) (v := ?_) (a' := ?_) #[true, true, false, false, false, false, false, false, false, false, false, false, false, false] rfl rfl (any_of HT_.out (by kernel_rfl)) (fun _ _ _ h => h) (Or.inl ⟨by rfl, ?_⟩) ?_ ?_
 rotate_left
 ·intro w_
  go_simp
  with_reducible rfl
 rotate_left
 ·simp only [Act.put, List.setIfInBounds_toArray, List.set_cons_zero, List.set_cons_succ, i64_w, i32_w]
  rfl
 refine pure_ (i := 2) (N := some 76) (v := ?_) (a' := ?_) #[true, true, true, false, false, false, false, false, false, false, false, false, false, false] rfl rfl (any_of HT_.out (by kernel_rfl)) (fun _ _ _ h => h) (Or.inl ⟨by rfl, ?_⟩) ?_ ?_
 rotate_left
 ·intro w_
  go_simp
  with_reducible rfl
 rotate_left
 ·simp only [Act.put, List.setIfInBounds_toArray, List.set_cons_zero, List.set_cons_succ, i64_w, i32_w]
  rfl
 refine pure_ (i := 3) (N := some 77) (v := ?_) (a' := ?_) #[true, true, true, true, false, false, false, false, false, false, false, false, false, false] rfl rfl (any_of HT_.out (by kernel_rfl)) (fun _ _ _ h => h) (Or.inl ⟨by rfl, ?_⟩) ?_ ?_
 rotate_left
 ·intro w_
  go_simp
  with_reducible rfl
 rotate_left
 ·simp only [Act.put, List.setIfInBounds_toArray, List.set_cons_zero, List.set_cons_succ, i64_w, i32_w]
  rfl
 refine one_ (i := 4) (N := some 78) #[true, true, true, true, true, false, false, false, false, false, false, false, false, false] rfl rfl (one_of HT_.out (by kernel_rfl)) (by decide) (fun K hK => ?_)
 refine load_ (.agg #[.int .i64 x, .int .i64 y, .int .i64 z]) (by rfl) rfl (by go_simp) ?_
 refine hK.out _ _ trivial (fun hHeld => ?_)
 clear hK K
 refine norm_ (a' := ?_) ?_ ?_
 rotate_left
 ·show Act.put _ (some 78) _ = _
  simp only [Act.put, List.setIfInBounds_toArray, List.set_cons_zero, List.set_cons_succ, i64_w, i32_w]
  rfl
 refine one_ (i := 5) (N := some 79) #[true, true, true, true, true, true, false, false, false, false, false, false, false, false] rfl rfl (one_of HT_.out (by kernel_rfl)) (by decide) (fun K hK => ?_)
 refine goes_ Tryd.func40 (by kernel_rfl) rfl #[.agg #[.int .i64 x, .int .i64 y, .int .i64 z]] (by rfl) rfl rfl (by (try simp only [List.map_toArray, List.map_cons, List.map_nil]); first | done | rfl) ?_
 with_reducible refine (arr_call x y z _ (by omega) (by omega)).mono ?_
 rintro e w2 ⟨rfl, rfl⟩
 refine ⟨_, rfl, ?_⟩
 refine hK.out _ _ trivial (fun hHeld => ?_)
 clear hK K
 refine norm_ (a' := ?_) ?_ ?_
 rotate_left
 ·show Act.put _ (some 79) _ = _
  simp only [Act.put, List.setIfInBounds_toArray, List.set_cons_zero, List.set_cons_succ, i64_w, i32_w]
  rfl
 refine pure_ (i := 6) (N := some 80) (v := ?_) (a' := ?_) #[true, true, true, true, true, true, true, false, false, false, false, false, false, false] rfl rfl (any_of HT_.out (by kernel_rfl)) (fun _ _ _ h => h) (Or.inl ⟨by rfl, ?_⟩) ?_ ?_
 rotate_left
 ·intro w_
  go_simp
  with_reducible rfl
 rotate_left
 ·simp only [Act.put, List.setIfInBounds_toArray, List.set_cons_zero, List.set_cons_succ, i64_w, i32_w]
  rfl
 refine one_ (i := 7) (N := some 81) #[true, true, true, true, true, true, true, true, false, false, false, false, false, false] rfl rfl (one_of HT_.out (by kernel_rfl)) (by decide) (fun K hK => ?_)
 refine load_ (.agg #[.int .i64 (x + 1), .int .i64 y, .int .i64 z]) (by rfl) rfl (by go_simp) ?_
 refine hK.out _ _ trivial (fun hHeld => ?_)
 clear hK K
 refine norm_ (a' := ?_) ?_ ?_
 rotate_left
 ·show Act.put _ (some 81) _ = _
  simp only [Act.put, List.setIfInBounds_toArray, List.set_cons_zero, List.set_cons_succ, i64_w, i32_w]
  rfl
 refine one_ (i := 8) (N := some 82) #[true, true, true, true, true, true, true, true, true, false, false, false, false, false] rfl rfl (one_of HT_.out (by kernel_rfl)) (by decide) (fun K hK => ?_)
 refine goes_ Tryd.func43 (by kernel_rfl) rfl #[.agg #[.int .i64 (x + 1), .int .i64 y, .int .i64 z]] (by rfl) rfl rfl (by (try simp only [List.map_toArray, List.map_cons, List.map_nil]); first | done | rfl) ?_
 with_reducible refine (ent_call (x + 1) y z _ (by omega) (by omega)).mono ?_
 rintro e w2 ⟨rfl, rfl⟩
 refine ⟨_, rfl, ?_⟩
 refine hK.out _ _ trivial (fun hHeld => ?_)
 clear hK K
 refine norm_ (a' := ?_) ?_ ?_
 rotate_left
 ·show Act.put _ (some 82) _ = _
  simp only [Act.put, List.setIfInBounds_toArray, List.set_cons_zero, List.set_cons_succ, i64_w, i32_w]
  rfl
 refine one_ (i := 9) (N := some 83) #[true, true, true, true, true, true, true, true, true, true, false, false, false, false] rfl rfl (one_of HT_.out (by kernel_rfl)) (by decide) (fun K hK => ?_)
 refine goes_ Tryd.func60 (by kernel_rfl) rfl #[.string (s2.extract 0 1), .pointer (some ⟨_, 0, none⟩)] (by rfl) rfl rfl (by (try simp only [List.map_toArray, List.map_cons, List.map_nil]); first | done | rfl) ?_
 with_reducible refine (Reads.go IH.out _ (x + 1) y (z + 1) _ true r1 _ A1.out (Dep.new _ _ _ _) (by omega) (by omega) (by omega) (by omega) (by omega) (by omega) (by rw [ByteArray.size_extract]; omega)).mono ?_
 rintro e w3 ⟨ev3, rfl, he3, hb⟩
 refine ⟨_, rfl, ?_⟩
 have HB2 := Aside0.mk (below_step (w := w) (by repeat (first | exact HB1.out | apply below_alloc | apply pw_below_drewN | apply below_drew1)) hb)
 obtain ⟨m0, m1, m2⟩ := Dep.below (g := g) (x := x) (y := y) (z := z) AD.out HB2.out
 have hnew3 : w3.heap.size ≠ g := (by have := HB2.out.size; omega)
 clear hb
 refine hK.out _ _ trivial (fun hHeld => ?_)
 clear hK K
 refine norm_ (a' := ?_) ?_ ?_
 rotate_left
 ·show Act.put _ (some 83) _ = _
  simp only [Act.put, List.setIfInBounds_toArray, List.set_cons_zero, List.set_cons_succ, i64_w, i32_w]
  rfl
 refine pure_ (i := 10) (N := some 73) (v := ?_) (a' := ?_) #[true, true, true, true, true, true, true, true, true, true, true, false, false, false] rfl rfl (any_of HT_.out (by kernel_rfl)) (fun _ _ _ h => h) (Or.inl ⟨by rfl, ?_⟩) ?_ ?_
 rotate_left
 ·intro w_
  go_simp
  with_reducible rfl
 rotate_left
 ·simp only [Act.put, List.setIfInBounds_toArray, List.set_cons_zero, List.set_cons_succ, i64_w, i32_w]
  rfl
 refine pure_ (i := 11) (N := some 84) (v := ?_) (a' := ?_) #[true, true, true, true, true, true, true, true, true, true, true, true, false, false] rfl rfl (any_of HT_.out (by kernel_rfl)) (fun _ _ _ h => h) (Or.inl ⟨by rfl, ?_⟩) ?_ ?_
 rotate_left
 ·intro w_
  go_simp
  with_reducible rfl
 rotate_left
 ·simp only [Act.put, List.setIfInBounds_toArray, List.set_cons_zero, List.set_cons_succ, i64_w, i32_w]
  rfl
 refine pure_ (i := 12) (N := some 85) (v := ?_) (a' := ?_) #[true, true, true, true, true, true, true, true, true, true, true, true, true, false] rfl rfl (any_of HT_.out (by kernel_rfl)) (fun _ _ _ h => h) (Or.inl ⟨by rfl, ?_⟩) ?_ ?_
 rotate_left
 ·intro w_
  go_simp
  with_reducible rfl
 rotate_left
 ·simp only [Act.put, List.setIfInBounds_toArray, List.set_cons_zero, List.set_cons_succ, i64_w, i32_w]
  rfl
 refine pure_ (i := 13) (N := some 4) (v := ?_) (a' := ?_) #[true, true, true, true, true, true, true, true, true, true, true, true, true, true] rfl rfl (any_of HT_.out (by kernel_rfl)) (fun _ _ _ h => h) (Or.inl ⟨by rfl, ?_⟩) ?_ ?_
 rotate_left
 ·intro w_
  go_simp
  with_reducible rfl
 rotate_left
 ·simp only [Act.put, List.setIfInBounds_toArray, List.set_cons_zero, List.set_cons_succ, i64_w, i32_w]
  rfl
 refine done_ (done_of HT_.out (by kernel_rfl)) ?_
 obtain rfl : ev3 = .nilIface := he3
 go_wp2_with fail
 refine start_ (n := 15) (S := fun _ => True) (ds := []) #[false, false, false, false, false, false, false, false, false, false, false, false, false, false, false] (by kernel_rfl) rfl rfl trivial (fun hHeld => ?_); refine with_tab tab34 (fun HT_ => ?_)
 refine pure_ (i := 0) (N := some 90) (v := ?_) (a' := ?_) #[true, false, false, false, false, false, false, false, false, false, false, false, false, false, false] rfl rfl (any_of HT_.out (by kernel_rfl)) (fun _ _ _ h => h) (Or.inl ⟨by rfl, ?_⟩) ?_ ?_
 rotate_left
 ·intro w_
  go_simp
  with_reducible rfl
 rotate_left
 ·simp only [Act.put, List.setIfInBounds_toArray, List.set_cons_zero, List.set_cons_succ, i64_w, i32_w]
  rfl
 refine pure_ (i := 1) (N := some 91) (v := ?_) (a' := ?_) #[true, true, false, false, false, false, false, false, false, false, false, false, false, false, false] rfl rfl (any_of HT_.out (by kernel_rfl)) (fun _ _ _ h => h) (Or.inl ⟨by rfl, ?_⟩) ?_ ?_
 rotate_left
 ·intro w_
  go_simp
  with_reducible rfl
 rotate_left
 ·simp only [Act.put, List.setIfInBounds_toArray, List.set_cons_zero, List.set_cons_succ, i64_w, i32_w]
  rfl
 refine pure_ (i := 2) (N := some 92) (v := ?_) (a' := ?_) #[true, true, true, false, false, false, false, false, false, false, false, false, false, false, false] rfl rfl (any_of HT_.out (by kernel_rfl)) (fun _ _ _ h => h) (Or.inl ⟨by rfl, ?_⟩) ?_ ?_
 rotate_left
 ·intro w_
  go_simp
  with_reducible rfl
 rotate_left
 ·simp only [Act.put, List.setIfInBounds_toArray, List.set_cons_zero, List.set_cons_succ, i64_w, i32_w]
  rfl
 refine pure_ (i := 3) (N := some 93) (v := ?_) (a' := ?_) #[true, true, true, true, false, false, false, false, false, false, false, false, false, false, false] rfl rfl (any_of HT_.out (by kernel_rfl)) (fun _ _ _ h => h) (Or.inl ⟨by rfl, ?_⟩) ?_ ?_
 rotate_left
 ·intro w_
  go_simp
  with_reducible rfl
 rotate_left
 ·simp only [Act.put, List.setIfInBounds_toArray, List.set_cons_zero, List.set_cons_succ, i64_w, i32_w]
  rfl
 refine one_ (i := 4) (N := some 94) #[true, true, true, true, true, false, false, false, false, false, false, false, false, false, false] rfl rfl (one_of HT_.out (by kernel_rfl)) (by decide) (fun K hK => ?_)
 refine load_ (.agg #[.int .i64 x, .int .i64 y, .int .i64 z]) (by rfl) rfl (by go_simp) ?_
 refine hK.out _ _ trivial (fun hHeld => ?_)
 clear hK K
 refine norm_ (a' := ?_) ?_ ?_
 rotate_left
 ·show Act.put _ (some 94) _ = _
  simp only [Act.put, List.setIfInBounds_toArray, List.set_cons_zero, List.set_cons_succ, i64_w, i32_w]
  rfl
 refine one_ (i := 5) (N := some 95) #[true, true, true, true, true, true, false, false, false, false, false, false, false, false, false] rfl rfl (one_of HT_.out (by kernel_rfl)) (by decide) (fun K hK => ?_)
 refine goes_ Tryd.func40 (by kernel_rfl) rfl #[.agg #[.int .i64 x, .int .i64 y, .int .i64 z]] (by rfl) rfl rfl (by (try simp only [List.map_toArray, List.map_cons, List.map_nil]); first | done | rfl) ?_
 with_reducible refine (arr_call x y z _ (by omega) (by omega)).mono ?_
 rintro e w2 ⟨rfl, rfl⟩
 refine ⟨_, rfl, ?_⟩
 refine hK.out _ _ trivial (fun hHeld => ?_)
 clear hK K
 refine norm_ (a' := ?_) ?_ ?_
 rotate_left
 ·show Act.put _ (some 95) _ = _
  simp only [Act.put, List.setIfInBounds_toArray, List.set_cons_zero, List.set_cons_succ, i64_w, i32_w]
  rfl
 refine pure_ (i := 6) (N := some 96) (v := ?_) (a' := ?_) #[true, true, true, true, true, true, true, false, false, false, false, false, false, false, false] rfl rfl (any_of HT_.out (by kernel_rfl)) (fun _ _ _ h => h) (Or.inl ⟨by rfl, ?_⟩) ?_ ?_
 rotate_left
 ·intro w_
  go_simp
  with_reducible rfl
 rotate_left
 ·simp only [Act.put, List.setIfInBounds_toArray, List.set_cons_zero, List.set_cons_succ, i64_w, i32_w]
  rfl
 refine one_ (i := 7) (N := some 97) #[true, true, true, true, true, true, true, true, false, false, false, false, false, false, false] rfl rfl (one_of HT_.out (by kernel_rfl)) (by decide) (fun K hK => ?_)
 refine load_ (.agg #[.int .i64 (x + 1), .int .i64 y, .int .i64 z]) (by rfl) rfl (by go_simp) ?_
 refine hK.out _ _ trivial (fun hHeld => ?_)
 clear hK K
 refine norm_ (a' := ?_) ?_ ?_
 rotate_left
 ·show Act.put _ (some 97) _ = _
  simp only [Act.put, List.setIfInBounds_toArray, List.set_cons_zero, List.set_cons_succ, i64_w, i32_w]
  rfl
 refine one_ (i := 8) (N := some 98) #[true, true, true, true, true, true, true, true, true, false, false, false, false, false, false] rfl rfl (one_of HT_.out (by kernel_rfl)) (by decide) (fun K hK => ?_)
 refine goes_ Tryd.func43 (by kernel_rfl) rfl #[.agg #[.int .i64 (x + 1), .int .i64 y, .int .i64 z]] (by rfl) rfl rfl (by (try simp only [List.map_toArray, List.map_cons, List.map_nil]); first | done | rfl) ?_
 with_reducible refine (ent_call (x + 1) y z _ (by omega) (by omega)).mono ?_
 rintro e w2 ⟨rfl, rfl⟩
 refine ⟨_, rfl, ?_⟩
 refine hK.out _ _ trivial (fun hHeld => ?_)
 clear hK K
 refine norm_ (a' := ?_) ?_ ?_
 rotate_left
 ·show Act.put _ (some 98) _ = _
  simp only [Act.put, List.setIfInBounds_toArray, List.set_cons_zero, List.set_cons_succ, i64_w, i32_w]
  rfl
 refine one_ (i := 9) (N := some 99) #[true, true, true, true, true, true, true, true, true, true, false, false, false, false, false] rfl rfl (one_of HT_.out (by kernel_rfl)) (by decide) (fun K hK => ?_)
 refine goes_ Tryd.func60 (by kernel_rfl) rfl #[.string (s2.extract 1 s2.size), .pointer (some ⟨_, 0, none⟩)] (by rfl) rfl rfl (by (try simp only [List.map_toArray, List.map_cons, List.map_nil]); first | done | rfl) ?_
 with_reducible refine (Reads.go IH.out _ (x + 1) y (z + 1) _ false r2 _ A2.out (Dep.new _ _ _ _) (by omega) (by omega) (by omega) (by omega) (by omega) (by omega) (by rw [ByteArray.size_extract]; omega)).mono ?_
 rintro e w4 ⟨ev4, rfl, he4, hb⟩
 refine ⟨_, rfl, ?_⟩
 have HB3 := Aside0.mk (below_step (w := w) (by repeat (first | exact HB2.out | apply below_alloc | apply pw_below_drewN | apply below_drew1)) hb)
 obtain ⟨m0, m1, m2⟩ := Dep.below (g := g) (x := x) (y := y) (z := z) AD.out HB3.out
 have hnew4 : w4.heap.size ≠ g := (by have := HB3.out.size; omega)
 clear hb
 refine hK.out _ _ trivial (fun hHeld => ?_)
 clear hK K
 refine norm_ (a' := ?_) ?_ ?_
 rotate_left
 ·show Act.put _ (some 99) _ = _
  simp only [Act.put, List.setIfInBounds_toArray, List.set_cons_zero, List.set_cons_succ, i64_w, i32_w]
  rfl
 refine pure_ (i := 10) (N := some 89) (v := ?_) (a' := ?_) #[true, true, true, true, true, true, true, true, true, true, true, false, false, false, false] rfl rfl (any_of HT_.out (by kernel_rfl)) (fun _ _ _ h => h) (Or.inl ⟨by rfl, ?_⟩) ?_ ?_
 rotate_left
 ·intro w_
  go_simp
  with_reducible rfl
 rotate_left
 ·simp only [Act.put, List.setIfInBounds_toArray, List.set_cons_zero, List.set_cons_succ, i64_w, i32_w]
  rfl
 refine pure_ (i := 11) (N := some 100) (v := ?_) (a' := ?_) #[true, true, true, true, true, true, true, true, true, true, true, true, false, false, false] rfl rfl (any_of HT_.out (by kernel_rfl)) (fun _ _ _ h => h) (Or.inl ⟨by rfl, ?_⟩) ?_ ?_
 rotate_left
 ·intro w_
  go_simp
  with_reducible rfl
 rotate_left
 ·simp only [Act.put, List.setIfInBounds_toArray, List.set_cons_zero, List.set_cons_succ, i64_w, i32_w]
  rfl
 refine pure_ (i := 12) (N := some 101) (v := ?_) (a' := ?_) #[true, true, true, true, true, true, true, true, true, true, true, true, true, false, false] rfl rfl (any_of HT_.out (by kernel_rfl)) (fun _ _ _ h => h) (Or.inl ⟨by rfl, ?_⟩) ?_ ?_
 rotate_left
 ·intro w_
  go_simp
  with_reducible rfl
 rotate_left
 ·simp only [Act.put, List.setIfInBounds_toArray, List.set_cons_zero, List.set_cons_succ, i64_w, i32_w]
  rfl
 refine pure_ (i := 13) (N := some 7) (v := ?_) (a' := ?_) #[true, true, true, true, true, true, true, true, true, true, true, true, true, true, false] rfl rfl (any_of HT_.out (by kernel_rfl)) (fun _ _ _ h => h) (Or.inl ⟨by rfl, ?_⟩) ?_ ?_
 rotate_left
 ·intro w_
  go_simp
  with_reducible rfl
 rotate_left
 ·simp only [Act.put, List.setIfInBounds_toArray, List.set_cons_zero, List.set_cons_succ, i64_w, i32_w]
  rfl
 refine pure_ (i := 14) (N := some 8) (v := ?_) (a' := ?_) #[true, true, true, true, true, true, true, true, true, true, true, true, true, true, true] rfl rfl (any_of HT_.out (by kernel_rfl)) (fun _ _ _ h => h) (Or.inl ⟨by rfl, ?_⟩) ?_ ?_
 rotate_left
 ·intro w_
  go_simp
  with_reducible rfl
 rotate_left
 ·simp only [Act.put, List.setIfInBounds_toArray, List.set_cons_zero, List.set_cons_succ, i64_w, i32_w]
  rfl
 refine done_ (done_of HT_.out (by kernel_rfl)) ?_
 obtain ⟨ty4, u4, rfl⟩ : ∃ t u, ev4 = .iface t u := he4
 go_wp2
 go_ret2
 exact ⟨_, rfl, EB_err _ _, HB3.out⟩

set_option maxHeartbeats 2000000 in
set_option maxRecDepth 100000 in
/-- A dict with more than one value. -/
theorem vd_more (k : Nat) (ih : Reads k) (a : ByteArray) (x y z : Int) (g : Nat) (w : World) (hs : 1 < a.size) (hd : deep x y z = true) (h97 : bt a 0 = 97) (h123 : bt a 1 = 123) (j : Nat) (hj : fm 123 125 (B (a.extract 1 a.size)) 0 0 = (j : Int)) (hj1 : 1 ≤ j) (hj2 : j + 1 < a.size) (hD : Dep w g x y z) (hx : -1 ≤ x) (hy : -1 ≤ y) (hz : -1 ≤ z) (hsz : a.size ≤ 4294967296) (s2 : ByteArray) (hs2 : s2 = a.extract 2 (j + 1)) (he : s2.size ≠ 0) (r1 : ByteArray) (H1 : vs k (s2.extract 0 1) (x + 1) y (z + 1) = some (true, r1)) (r2 : ByteArray) (H2 : vs k (s2.extract 1 s2.size) (x + 1) y (z + 1) = some (true, r2)) (h2 : r2.size ≠ 0) :
  Calls Tryd.prog 60 #[.string a, .pointer (some ⟨g, 0, none⟩)] w (VPost false E0 w) := by
 obtain ⟨hx2, hy2, hz2⟩ : x ≤ 32 ∧ y ≤ 32 ∧ z ≤ 32 := by simpa [deep] using hd
 have hne := ne_str (a := a) (by omega)
 have hne2 := ne_str2 (a := a) (by omega)
 have IH := Aside0.mk ih
 have AD := Aside0.mk hD
 have HD := Aside0.mk hd
 have hpos : 0 < a.size := by omega
 have hx0 := first_byte a _ h97
 have hx1 : ∀ (h : 1 < a.size), ((a[1]'h).toNat : Int) = 123 := fun h => (second_byte a h).trans h123
 have q1 : ((1 : Int) ≤ (a.size : Int)) = True := eq_true (by omega)
 have q2 : (1 ≤ a.size) = True := eq_true (by omega)
 have HF := Aside0.mk ((fm_is (a.extract 1 a.size) 123 125 (by rw [ByteArray.size_extract]; omega) (by omega)).trans (by rw [hj]))
 have hlt := hD.lt
 have hnew : w.heap.size ≠ g := by omega
 have hsl : ∀ W : World, (Instr.slice 9 (.string a) (some (.int .i64 2)) (some (.int .i64 ((j : Int) + 1))) none).run Tryd.prog W = .ok (.string s2) W := fun W => by
  rw [run_slice_string (P := Tryd.prog) (w := W) 9 a .i64 .i64 2 ((j : Int) + 1) (Tryd.underlying9) (by omega) (by omega) (by omega), hs2]
  have e1 : ((j : Int) + 1).toNat = j + 1 := by omega
  rw [e1]; rfl
 have HS2 := Aside0.mk hs2
 have s2le : s2.size ≤ 4294967296 := by rw [hs2, ByteArray.size_extract]; omega
 obtain ⟨h0, hc1, hc2⟩ := id hD
 have z1 : ((s2.size : Int) == 0) = false := by rw [beq_eq_false_iff_ne]; omega
 have z2 : ((1 : Int) ≤ (s2.size : Int)) = True := eq_true (by omega)
 have z3 : (1 ≤ s2.size) = True := eq_true (by omega)
 have A1 := Aside0.mk H1
 have A2 := Aside0.mk H2
 have n1 := ne_str h2
 have n2 := ne_str2 h2
 clear hd h97 h123 hj ih hs2 he H1 H2
 go_enter Tryd.func60, Tryd.ntmps60
 go_wp2_with (first | (go_at_call 32; refine (valid_call g x y z _ ?_).mono ?_; exact AD.out; rintro e w' ⟨rfl, ⟨nd, rfl⟩⟩; rw [HD.out]) | (go_at_call 61; refine (dbus_findMatching.calls _ _ _ (j : Int) _ HF.out).mono ?_; rintro e w' ⟨rfl, hb⟩; have HB1 := Aside0.mk (below_step (w := w) (W := w.drewN nd) (by repeat (first | exact Below.refl _ _ | apply pw_below_drewN)) hb); obtain ⟨k0, k1, k2⟩ := Dep.below (g := g) (x := x) (y := y) (z := z) AD.out HB1.out; have hnew1 : w'.heap.size ≠ g := (by have := HB1.out.size; omega); clear hb))
 refine start_ (n := 14) (S := fun _ => True) (ds := []) #[false, false, false, false, false, false, false, false, false, false, false, false, false, false] (by kernel_rfl) rfl rfl trivial (fun hHeld => ?_); refine with_tab tab31 (fun HT_ => ?_)
 refine pure_ (i := 0) (N := some 74) (v := ?_) (a' := ?_) #[true, false, false, false, false, false, false, false, false, false, false, false, false, false] rfl rfl (any_of HT_.out (by kernel_rfl)) (fun _ _ _ h => h) (Or.inl ⟨by rfl, ?_⟩) ?_ ?_
 rotate_left
 ·intro w_
  go_simp
  with_reducible rfl
 rotate_left
 ·simp only [Act.put, List.setIfInBounds_toArray, List.set_cons_zero, List.set_cons_succ, i64_w, i32_w]
  rfl
 refine pure_ (i := 1) (N := some 75) (v := ?_) (a' := ?_) #[true, true, false, false, false, false, false, false, false, false, false, false, false, false] rfl rfl (any_of HT_.out (by kernel_rfl)) (fun _ _ _ h => h) (Or.inl ⟨by rfl, ?_⟩) ?_ ?_
 rotate_left
 ·intro w_
  go_simp
  with_reducible rfl
 rotate_left
 ·simp only [Act.put, List.setIfInBounds_toArray, List.set_cons_zero, List.set_cons_succ, i64_w, i32_w]
  rfl
 refine pure_ (i := 2) (N := some 76) (v := ?_) (a' := ?_) #[true, true, true, false, false, false, false, false, false, false, false, false, false, false] rfl rfl (any_of HT_.out (by kernel_rfl)) (fun _ _ _ h => h) (Or.inl ⟨by rfl, ?_⟩) ?_ ?_
 rotate_left
 ·intro w_
  go_simp
  with_reducible rfl
 rotate_left
 ·simp only [Act.put, List.setIfInBounds_toArray, List.set_cons_zero, List.set_cons_succ, i64_w, i32_w]
  rfl
 refine pure_ (i := 3) (N := some 77) (v := ?_) (a' := ?_) #[true, true, true, true, false, false, false, false, false, false, false, false, false, false] rfl rfl (any_of HT_.out (by kernel_rfl)) (fun _ _ _ h => h) (Or.inl ⟨by rfl, ?_⟩) ?_ ?_
 rotate_left
 ·intro w_
  go_simp
  with_reducible rfl
 rotate_left
 ·simp only [Act.put, List.setIfInBounds_toArray, List.set_cons_zero, List.set_cons_succ, i64_w, i32_w]
  rfl
 refine one_ (i := 4) (N := some 78) #[true, true, true, true, true, false, false, false, false, false, false, false, false, false] rfl rfl (one_of HT_.out (by kernel_rfl)) (by decide) (fun K hK => ?_)
 refine load_ (.agg #[.int .i64 x, .int .i64 y, .int .i64 z]) (by rfl) rfl (by go_simp) ?_
 refine hK.out _ _ trivial (fun hHeld => ?_)
 clear hK K
 refine norm_ (a' := ?_) ?_ ?_
 rotate_left
 ·show Act.put _ (some 78) _ = _
  simp only [Act.put, List.setIfInBounds_toArray, List.set_cons_zero, List.set_cons_succ, i64_w, i32_w]
  rfl
 refine one_ (i := 5) (N := some 79) #[true, true, true, true, true, true, false, false, false, false, false, false, false, false] rfl rfl (one_of HT_.out (by kernel_rfl)) (by decide) (fun K hK => ?_)
 refine goes_ Tryd.func40 (by kernel_rfl) rfl #[.agg #[.int .i64 x, .int .i64 y, .int .i64 z]] (by rfl) rfl rfl (by (try simp only [List.map_toArray, List.map_cons, List.map_nil]); first | done | rfl) ?_
 with_reducible refine (arr_call x y z _ (by omega) (by omega)).mono ?_
 rintro e w2 ⟨rfl, rfl⟩
 refine ⟨_, rfl, ?_⟩
 refine hK.out _ _ trivial (fun hHeld => ?_)
 clear hK K
 refine norm_ (a' := ?_) ?_ ?_
 rotate_left
 ·show Act.put _ (some 79) _ = _
  simp only [Act.put, List.setIfInBounds_toArray, List.set_cons_zero, List.set_cons_succ, i64_w, i32_w]
  rfl
 refine pure_ (i := 6) (N := some 80) (v := ?_) (a' := ?_) #[true, true, true, true, true, true, true, false, false, false, false, false, false, false] rfl rfl (any_of HT_.out (by kernel_rfl)) (fun _ _ _ h => h) (Or.inl ⟨by rfl, ?_⟩) ?_ ?_
 rotate_left
 ·intro w_
  go_simp
  with_reducible rfl
 rotate_left
 ·simp only [Act.put, List.setIfInBounds_toArray, List.set_cons_zero, List.set_cons_succ, i64_w, i32_w]
  rfl
 refine one_ (i := 7) (N := some 81) #[true, true, true, true, true, true, true, true, false, false, false, false, false, false] rfl rfl (one_of HT_.out (by kernel_rfl)) (by decide) (fun K hK => ?_)
 refine load_ (.agg #[.int .i64 (x + 1), .int .i64 y, .int .i64 z]) (by rfl) rfl (by go_simp) ?_
 refine hK.out _ _ trivial (fun hHeld => ?_)
 clear hK K
 refine norm_ (a' := ?_) ?_ ?_
 rotate_left
 ·show Act.put _ (some 81) _ = _
  simp only [Act.put, List.setIfInBounds_toArray, List.set_cons_zero, List.set_cons_succ, i64_w, i32_w]
  rfl
 refine one_ (i := 8) (N := some 82) #[true, true, true, true, true, true, true, true, true, false, false, false, false, false] rfl rfl (one_of HT_.out (by kernel_rfl)) (by decide) (fun K hK => ?_)
 refine goes_ Tryd.func43 (by kernel_rfl) rfl #[.agg #[.int .i64 (x + 1), .int .i64 y, .int .i64 z]] (by rfl) rfl rfl (by (try simp only [List.map_toArray, List.map_cons, List.map_nil]); first | done | rfl) ?_
 with_reducible refine (ent_call (x + 1) y z _ (by omega) (by omega)).mono ?_
 rintro e w2 ⟨rfl, rfl⟩
 refine ⟨_, rfl, ?_⟩
 refine hK.out _ _ trivial (fun hHeld => ?_)
 clear hK K
 refine norm_ (a' := ?_) ?_ ?_
 rotate_left
 ·show Act.put _ (some 82) _ = _
  simp only [Act.put, List.setIfInBounds_toArray, List.set_cons_zero, List.set_cons_succ, i64_w, i32_w]
  rfl
 refine one_ (i := 9) (N := some 83) #[true, true, true, true, true, true, true, true, true, true, false, false, false, false] rfl rfl (one_of HT_.out (by kernel_rfl)) (by decide) (fun K hK => ?_)
 refine goes_ Tryd.func60 (by kernel_rfl) rfl #[.string (s2.extract 0 1), .pointer (some ⟨_, 0, none⟩)] (by rfl) rfl rfl (by (try simp only [List.map_toArray, List.map_cons, List.map_nil]); first | done | rfl) ?_
 with_reducible refine (Reads.go IH.out _ (x + 1) y (z + 1) _ true r1 _ A1.out (Dep.new _ _ _ _) (by omega) (by omega) (by omega) (by omega) (by omega) (by omega) (by rw [ByteArray.size_extract]; omega)).mono ?_
 rintro e w3 ⟨ev3, rfl, he3, hb⟩
 refine ⟨_, rfl, ?_⟩
 have HB2 := Aside0.mk (below_step (w := w) (by repeat (first | exact HB1.out | apply below_alloc | apply pw_below_drewN | apply below_drew1)) hb)
 obtain ⟨m0, m1, m2⟩ := Dep.below (g := g) (x := x) (y := y) (z := z) AD.out HB2.out
 have hnew3 : w3.heap.size ≠ g := (by have := HB2.out.size; omega)
 clear hb
 refine hK.out _ _ trivial (fun hHeld => ?_)
 clear hK K
 refine norm_ (a' := ?_) ?_ ?_
 rotate_left
 ·show Act.put _ (some 83) _ = _
  simp only [Act.put, List.setIfInBounds_toArray, List.set_cons_zero, List.set_cons_succ, i64_w, i32_w]
  rfl
 refine pure_ (i := 10) (N := some 73) (v := ?_) (a' := ?_) #[true, true, true, true, true, true, true, true, true, true, true, false, false, false] rfl rfl (any_of HT_.out (by kernel_rfl)) (fun _ _ _ h => h) (Or.inl ⟨by rfl, ?_⟩) ?_ ?_
 rotate_left
 ·intro w_
  go_simp
  with_reducible rfl
 rotate_left
 ·simp only [Act.put, List.setIfInBounds_toArray, List.set_cons_zero, List.set_cons_succ, i64_w, i32_w]
  rfl
 refine pure_ (i := 11) (N := some 84) (v := ?_) (a' := ?_) #[true, true, true, true, true, true, true, true, true, true, true, true, false, false] rfl rfl (any_of HT_.out (by kernel_rfl)) (fun _ _ _ h => h) (Or.inl ⟨by rfl, ?_⟩) ?_ ?_
 rotate_left
 ·intro w_
  go_simp
  with_reducible rfl
 rotate_left
 ·simp only [Act.put, List.setIfInBounds_toArray, List.set_cons_zero, List.set_cons_succ, i64_w, i32_w]
  rfl
 refine pure_ (i := 12) (N := some 85) (v := ?_) (a' := ?_) #[true, true, true, true, true, true, true, true, true, true, true, true, true, false] rfl rfl (any_of HT_.out (by kernel_rfl)) (fun _ _ _ h => h) (Or.inl ⟨by rfl, ?_⟩) ?_ ?_
 rotate_left
 ·intro w_
  go_simp
  with_reducible rfl
 rotate_left
 ·simp only [Act.put, List.setIfInBounds_toArray, List.set_cons_zero, List.set_cons_succ, i64_w, i32_w]
  rfl
 refine pure_ (i := 13) (N := some 4) (v := ?_) (a' := ?_) #[true, true, true, true, true, true, true, true, true, true, true, true, true, true] rfl rfl (any_of HT_.out (by kernel_rfl)) (fun _ _ _ h => h) (Or.inl ⟨by rfl, ?_⟩) ?_ ?_
 rotate_left
 ·intro w_
  go_simp
  with_reducible rfl
 rotate_left
 ·simp only [Act.put, List.setIfInBounds_toArray, List.set_cons_zero, List.set_cons_succ, i64_w, i32_w]
  rfl
 refine done_ (done_of HT_.out (by kernel_rfl)) ?_
 obtain rfl : ev3 = .nilIface := he3
 go_wp2_with fail
 refine start_ (n := 15) (S := fun _ => True) (ds := []) #[false, false, false, false, false, false, false, false, false, false, false, false, false, false, false] (by kernel_rfl) rfl rfl trivial (fun hHeld => ?_); refine with_tab tab34 (fun HT_ => ?_)
 refine pure_ (i := 0) (N := some 90) (v := ?_) (a' := ?_) #[true, false, false, false, false, false, false, false, false, false, false, false, false, false, false] rfl rfl (any_of HT_.out (by kernel_rfl)) (fun _ _ _ h => h) (Or.inl ⟨by rfl, ?_⟩) ?_ ?_
 rotate_left
 ·intro w_
  go_simp
  with_reducible rfl
 rotate_left
 ·simp only [Act.put, List.setIfInBounds_toArray, List.set_cons_zero, List.set_cons_succ, i64_w, i32_w]
  rfl
 refine pure_ (i := 1) (N := some 91) (v := ?_) (a' := ?_) #[true, true, false, false, false, false, false, false, false, false, false, false, false, false, false] rfl rfl (any_of HT_.out (by kernel_rfl)) (fun _ _ _ h => h) (Or.inl ⟨by rfl, ?_⟩) ?_ ?_
 rotate_left
 ·intro w_
  go_simp
  with_reducible rfl
 rotate_left
 ·simp only [Act.put, List.setIfInBounds_toArray, List.set_cons_zero, List.set_cons_succ, i64_w, i32_w]
  rfl
 refine pure_ (i := 2) (N := some 92) (v := ?_) (a' := ?_) #[true, true, true, false, false, false, false, false, false, false, false, false, false, false, false] rfl rfl (any_of HT_.out (by kernel_rfl)) (fun _ _ _ h => h) (Or.inl ⟨by rfl, ?_⟩) ?_ ?_
 rotate_left
 ·intro w_
  go_simp
  with_reducible rfl
 rotate_left
 ·simp only [Act.put, List.setIfInBounds_toArray, List.set_cons_zero, List.set_cons_succ, i64_w, i32_w]
  rfl
 refine pure_ (i := 3) (N := some 93) (v := ?_) (a' := ?_) #[true, true, true, true, false, false, false, false, false, false, false, false, false, false, false] rfl rfl (any_of HT_.out (by kernel_rfl)) (fun _ _ _ h => h) (Or.inl ⟨by rfl, ?_⟩) ?_ ?_
 rotate_left
 ·intro w_
  go_simp
  with_reducible rfl
 rotate_left
 ·simp only [Act.put, List.setIfInBounds_toArray, List.set_cons_zero, List.set_cons_succ, i64_w, i32_w]
  rfl
 refine one_ (i := 4) (N := some 94) #[true, true, true, true, true, false, false, false, false, false, false, false, false, false, false] rfl rfl (one_of HT_.out (by kernel_rfl)) (by decide) (fun K hK => ?_)
 refine load_ (.agg #[.int .i64 x, .int .i64 y, .int .i64 z]) (by rfl) rfl (by go_simp) ?_
 refine hK.out _ _ trivial (fun hHeld => ?_)
 clear hK K
 refine norm_ (a' := ?_) ?_ ?_
 rotate_left
 ·show Act.put _ (some 94) _ = _
  simp only [Act.put, List.setIfInBounds_toArray, List.set_cons_zero, List.set_cons_succ, i64_w, i32_w]
  rfl
 refine one_ (i := 5) (N := some 95) #[true, true, true, true, true, true, false, false, false, false, false, false, false, false, false] rfl rfl (one_of HT_.out (by kernel_rfl)) (by decide) (fun K hK => ?_)
 refine goes_ Tryd.func40 (by kernel_rfl) rfl #[.agg #[.int .i64 x, .int .i64 y, .int .i64 z]] (by rfl) rfl rfl (by (try simp only [List.map_toArray, List.map_cons, List.map_nil]); first | done | rfl) ?_
 with_reducible refine (arr_call x y z _ (by omega) (by omega)).mono ?_
 rintro e w2 ⟨rfl, rfl⟩
 refine ⟨_, rfl, ?_⟩
 refine hK.out _ _ trivial (fun hHeld => ?_)
 clear hK K
 refine norm_ (a' := ?_) ?_ ?_
 rotate_left
 ·show Act.put _ (some 95) _ = _
  simp only [Act.put, List.setIfInBounds_toArray, List.set_cons_zero, List.set_cons_succ, i64_w, i32_w]
  rfl
 refine pure_ (i := 6) (N := some 96) (v := ?_) (a' := ?_) #[true, true, true, true, true, true, true, false, false, false, false, false, false, false, false] rfl rfl (any_of HT_.out (by kernel_rfl)) (fun _ _ _ h => h) (Or.inl ⟨by rfl, ?_⟩) ?_ ?_
 rotate_left
 ·intro w_
  go_simp
  with_reducible rfl
 rotate_left
 ·simp only [Act.put, List.setIfInBounds_toArray, List.set_cons_zero, List.set_cons_succ, i64_w, i32_w]
  rfl
 refine one_ (i := 7) (N := some 97) #[true, true, true, true, true, true, true, true, false, false, false, false, false, false, false] rfl rfl (one_of HT_.out (by kernel_rfl)) (by decide) (fun K hK => ?_)
 refine load_ (.agg #[.int .i64 (x + 1), .int .i64 y, .int .i64 z]) (by rfl) rfl (by go_simp) ?_
 refine hK.out _ _ trivial (fun hHeld => ?_)
 clear hK K
 refine norm_ (a' := ?_) ?_ ?_
 rotate_left
 ·show Act.put _ (some 97) _ = _
  simp only [Act.put, List.setIfInBounds_toArray, List.set_cons_zero, List.set_cons_succ, i64_w, i32_w]
  rfl
 refine one_ (i := 8) (N := some 98) #[true, true, true, true, true, true, true, true, true, false, false, false, false, false, false] rfl rfl (one_of HT_.out (by kernel_rfl)) (by decide) (fun K hK => ?_)
 refine goes_ Tryd.func43 (by kernel_rfl) rfl #[.agg #[.int .i64 (x + 1), .int .i64 y, .int .i64 z]] (by rfl) rfl rfl (by (try simp only [List.map_toArray, List.map_cons, List.map_nil]); first | done | rfl) ?_
 with_reducible refine (ent_call (x + 1) y z _ (by omega) (by omega)).mono ?_
 rintro e w2 ⟨rfl, rfl⟩
 refine ⟨_, rfl, ?_⟩
 refine hK.out _ _ trivial (fun hHeld => ?_)
 clear hK K
 refine norm_ (a' := ?_) ?_ ?_
 rotate_left
 ·show Act.put _ (some 98) _ = _
  simp only [Act.put, List.setIfInBounds_toArray, List.set_cons_zero, List.set_cons_succ, i64_w, i32_w]
  rfl
 refine one_ (i := 9) (N := some 99) #[true, true, true, true, true, true, true, true, true, true, false, false, false, false, false] rfl rfl (one_of HT_.out (by kernel_rfl)) (by decide) (fun K hK => ?_)
 refine goes_ Tryd.func60 (by kernel_rfl) rfl #[.string (s2.extract 1 s2.size), .pointer (some ⟨_, 0, none⟩)] (by rfl) rfl rfl (by (try simp only [List.map_toArray, List.map_cons, List.map_nil]); first | done | rfl) ?_
 with_reducible refine (Reads.go IH.out _ (x + 1) y (z + 1) _ true r2 _ A2.out (Dep.new _ _ _ _) (by omega) (by omega) (by omega) (by omega) (by omega) (by omega) (by rw [ByteArray.size_extract]; omega)).mono ?_
 rintro e w4 ⟨ev4, rfl, he4, hb⟩
 refine ⟨_, rfl, ?_⟩
 have HB3 := Aside0.mk (below_step (w := w) (by repeat (first | exact HB2.out | apply below_alloc | apply pw_below_drewN | apply below_drew1)) hb)
 obtain ⟨m0, m1, m2⟩ := Dep.below (g := g) (x := x) (y := y) (z := z) AD.out HB3.out
 have hnew4 : w4.heap.size ≠ g := (by have := HB3.out.size; omega)
 clear hb
 refine hK.out _ _ trivial (fun hHeld => ?_)
 clear hK K
 refine norm_ (a' := ?_) ?_ ?_
 rotate_left
 ·show Act.put _ (some 99) _ = _
  simp only [Act.put, List.setIfInBounds_toArray, List.set_cons_zero, List.set_cons_succ, i64_w, i32_w]
  rfl
 refine pure_ (i := 10) (N := some 89) (v := ?_) (a' := ?_) #[true, true, true, true, true, true, true, true, true, true, true, false, false, false, false] rfl rfl (any_of HT_.out (by kernel_rfl)) (fun _ _ _ h => h) (Or.inl ⟨by rfl, ?_⟩) ?_ ?_
 rotate_left
 ·intro w_
  go_simp
  with_reducible rfl
 rotate_left
 ·simp only [Act.put, List.setIfInBounds_toArray, List.set_cons_zero, List.set_cons_succ, i64_w, i32_w]
  rfl
 refine pure_ (i := 11) (N := some 100) (v := ?_) (a' := ?_) #[true, true, true, true, true, true, true, true, true, true, true, true, false, false, false] rfl rfl (any_of HT_.out (by kernel_rfl)) (fun _ _ _ h => h) (Or.inl ⟨by rfl, ?_⟩) ?_ ?_
 rotate_left
 ·intro w_
  go_simp
  with_reducible rfl
 rotate_left
 ·simp only [Act.put, List.setIfInBounds_toArray, List.set_cons_zero, List.set_cons_succ, i64_w, i32_w]
  rfl
 refine pure_ (i := 12) (N := some 101) (v := ?_) (a' := ?_) #[true, true, true, true, true, true, true, true, true, true, true, true, true, false, false] rfl rfl (any_of HT_.out (by kernel_rfl)) (fun _ _ _ h => h) (Or.inl ⟨by rfl, ?_⟩) ?_ ?_
 rotate_left
 ·intro w_
  go_simp
  with_reducible rfl
 rotate_left
 ·simp only [Act.put, List.setIfInBounds_toArray, List.set_cons_zero, List.set_cons_succ, i64_w, i32_w]
  rfl
 refine pure_ (i := 13) (N := some 7) (v := ?_) (a' := ?_) #[true, true, true, true, true, true, true, true, true, true, true, true, true, true, false] rfl rfl (any_of HT_.out (by kernel_rfl)) (fun _ _ _ h => h) (Or.inl ⟨by rfl, ?_⟩) ?_ ?_
 rotate_left
 ·intro w_
  go_simp
  with_reducible rfl
 rotate_left
 ·simp only [Act.put, List.setIfInBounds_toArray, List.set_cons_zero, List.set_cons_succ, i64_w, i32_w]
  rfl
 refine pure_ (i := 14) (N := some 8) (v := ?_) (a' := ?_) #[true, true, true, true, true, true, true, true, true, true, true, true, true, true, true] rfl rfl (any_of HT_.out (by kernel_rfl)) (fun _ _ _ h => h) (Or.inl ⟨by rfl, ?_⟩) ?_ ?_
 rotate_left
 ·intro w_
  go_simp
  with_reducible rfl
 rotate_left
 ·simp only [Act.put, List.setIfInBounds_toArray, List.set_cons_zero, List.set_cons_succ, i64_w, i32_w]
  rfl
 refine done_ (done_of HT_.out (by kernel_rfl)) ?_
 obtain rfl : ev4 = .nilIface := he4
 go_wp2
 go_ret2
 exact ⟨_, rfl, EB_err _ _, HB3.out⟩

set_option maxHeartbeats 2000000 in
set_option maxRecDepth 100000 in
/-- A dict. -/
theorem vd_ok (k : Nat) (ih : Reads k) (a : ByteArray) (x y z : Int) (g : Nat) (w : World) (hs : 1 < a.size) (hd : deep x y z = true) (h97 : bt a 0 = 97) (h123 : bt a 1 = 123) (j : Nat) (hj : fm 123 125 (B (a.extract 1 a.size)) 0 0 = (j : Int)) (hj1 : 1 ≤ j) (hj2 : j + 1 < a.size) (hD : Dep w g x y z) (hx : -1 ≤ x) (hy : -1 ≤ y) (hz : -1 ≤ z) (hsz : a.size ≤ 4294967296) (s2 : ByteArray) (hs2 : s2 = a.extract 2 (j + 1)) (he : s2.size ≠ 0) (r1 : ByteArray) (H1 : vs k (s2.extract 0 1) (x + 1) y (z + 1) = some (true, r1)) (r2 : ByteArray) (H2 : vs k (s2.extract 1 s2.size) (x + 1) y (z + 1) = some (true, r2)) (h2 : r2.size = 0) :
  Calls Tryd.prog 60 #[.string a, .pointer (some ⟨g, 0, none⟩)] w (VPost true (a.extract (j + 1 + 1) a.size) w) := by
 obtain ⟨hx2, hy2, hz2⟩ : x ≤ 32 ∧ y ≤ 32 ∧ z ≤ 32 := by simpa [deep] using hd
 have hne := ne_str (a := a) (by omega)
 have hne2 := ne_str2 (a := a) (by omega)
 have IH := Aside0.mk ih
 have AD := Aside0.mk hD
 have HD := Aside0.mk hd
 have hpos : 0 < a.size := by omega
 have hx0 := first_byte a _ h97
 have hx1 : ∀ (h : 1 < a.size), ((a[1]'h).toNat : Int) = 123 := fun h => (second_byte a h).trans h123
 have q1 : ((1 : Int) ≤ (a.size : Int)) = True := eq_true (by omega)
 have q2 : (1 ≤ a.size) = True := eq_true (by omega)
 have HF := Aside0.mk ((fm_is (a.extract 1 a.size) 123 125 (by rw [ByteArray.size_extract]; omega) (by omega)).trans (by rw [hj]))
 have hlt := hD.lt
 have hnew : w.heap.size ≠ g := by omega
 have hsl : ∀ W : World, (Instr.slice 9 (.string a) (some (.int .i64 2)) (some (.int .i64 ((j : Int) + 1))) none).run Tryd.prog W = .ok (.string s2) W := fun W => by
  rw [run_slice_string (P := Tryd.prog) (w := W) 9 a .i64 .i64 2 ((j : Int) + 1) (Tryd.underlying9) (by omega) (by omega) (by omega), hs2]
  have e1 : ((j : Int) + 1).toNat = j + 1 := by omega
  rw [e1]; rfl
 have HS2 := Aside0.mk hs2
 have s2le : s2.size ≤ 4294967296 := by rw [hs2, ByteArray.size_extract]; omega
 obtain ⟨h0, hc1, hc2⟩ := id hD
 have z1 : ((s2.size : Int) == 0) = false := by rw [beq_eq_false_iff_ne]; omega
 have z2 : ((1 : Int) ≤ (s2.size : Int)) = True := eq_true (by omega)
 have z3 : (1 ≤ s2.size) = True := eq_true (by omega)
 have A1 := Aside0.mk H1
 have A2 := Aside0.mk H2
 have hn : r2.toList = [] := B_nil.2 (List.eq_nil_of_length_eq_zero (by rw [B_length]; exact h2))
 have n1 : (r2.toList == ([] : List UInt8)) = true := beq_iff_eq.2 hn
 have n2 : (r2.toList != ([] : List UInt8)) = false := by rw [bne, n1]; rfl
 clear hd h97 h123 hj ih hs2 he H1 H2 hn h2
 go_enter Tryd.func60, Tryd.ntmps60
 go_wp2_with (first | (go_at_call 32; refine (valid_call g x y z _ ?_).mono ?_; exact AD.out; rintro e w' ⟨rfl, ⟨nd, rfl⟩⟩; rw [HD.out]) | (go_at_call 61; refine (dbus_findMatching.calls _ _ _ (j : Int) _ HF.out).mono ?_; rintro e w' ⟨rfl, hb⟩; have HB1 := Aside0.mk (below_step (w := w) (W := w.drewN nd) (by repeat (first | exact Below.refl _ _ | apply pw_below_drewN)) hb); obtain ⟨k0, k1, k2⟩ := Dep.below (g := g) (x := x) (y := y) (z := z) AD.out HB1.out; have hnew1 : w'.heap.size ≠ g := (by have := HB1.out.size; omega); clear hb))
 refine start_ (n := 14) (S := fun _ => True) (ds := []) #[false, false, false, false, false, false, false, false, false, false, false, false, false, false] (by kernel_rfl) rfl rfl trivial (fun hHeld => ?_); refine with_tab tab31 (fun HT_ => ?_)
 refine pure_ (i := 0) (N := some 74) (v := ?_) (a' := ?_) #[true, false, false, false, false, false, false, false, false, false, false, false, false, false] rfl rfl (any_of HT_.out (by kernel_rfl)) (fun _ _ _ h => h) (Or.inl ⟨by rfl, ?_⟩) ?_ ?_
 rotate_left
 ·intro w_
  go_simp
  with_reducible rfl
 rotate_left
 ·simp only [Act.put, List.setIfInBounds_toArray, List.set_cons_zero, List.set_cons_succ, i64_w, i32_w]
  rfl
 refine pure_ (i := 1) (N := some 75) (v := ?_) (a' := ?_) #[true, true, false, false, false, false, false, false, false, false, false, false, false, false] rfl rfl (any_of HT_.out (by kernel_rfl)) (fun _ _ _ h => h) (Or.inl ⟨by rfl, ?_⟩) ?_ ?_
 rotate_left
 ·intro w_
  go_simp
  with_reducible rfl
 rotate_left
 ·simp only [Act.put, List.setIfInBounds_toArray, List.set_cons_zero, List.set_cons_succ, i64_w, i32_w]
  rfl
 refine pure_ (i := 2) (N := some 76) (v := ?_) (a' := ?_) #[true, true, true, false, false, false, false, false, false, false, false, false, false, false] rfl rfl (any_of HT_.out (by kernel_rfl)) (fun _ _ _ h => h) (Or.inl ⟨by rfl, ?_⟩) ?_ ?_
 rotate_left
 ·intro w_
  go_simp
  with_reducible rfl
 rotate_left
 ·simp only [Act.put, List.setIfInBounds_toArray, List.set_cons_zero, List.set_cons_succ, i64_w, i32_w]
  rfl
 refine pure_ (i := 3) (N := some 77) (v := ?_) (a' := ?_) #[true, true, true, true, false, false, false, false, false, false, false, false, false, false] rfl rfl (any_of HT_.out (by kernel_rfl)) (fun _ _ _ h => h) (Or.inl ⟨by rfl, ?_⟩) ?_ ?_
 rotate_left
 ·intro w_
  go_simp
  with_reducible rfl
 rotate_left
 ·simp only [Act.put, List.setIfInBounds_toArray, List.set_cons_zero, List.set_cons_succ, i64_w, i32_w]
  rfl
 refine one_ (i := 4) (N := some 78) #[true, true, true, true, true, false, false, false, false, false, false, false, false, false] rfl rfl (one_of HT_.out (by kernel_rfl)) (by decide) (fun K hK => ?_)
 refine load_ (.agg #[.int .i64 x, .int .i64 y, .int .i64 z]) (by rfl) rfl (by go_simp) ?_
 refine hK.out _ _ trivial (fun hHeld => ?_)
 clear hK K
 refine norm_ (a' := ?_) ?_ ?_
 rotate_left
 ·show Act.put _ (some 78) _ = _
  simp only [Act.put, List.setIfInBounds_toArray, List.set_cons_zero, List.set_cons_succ, i64_w, i32_w]
  rfl
 refine one_ (i := 5) (N := some 79) #[true, true, true, true, true, true, false, false, false, false, false, false, false, false] rfl rfl (one_of HT_.out (by kernel_rfl)) (by decide) (fun K hK => ?_)
 refine goes_ Tryd.func40 (by kernel_rfl) rfl #[.agg #[.int .i64 x, .int .i64 y, .int .i64 z]] (by rfl) rfl rfl (by (try simp only [List.map_toArray, List.map_cons, List.map_nil]); first | done | rfl) ?_
 with_reducible refine (arr_call x y z _ (by omega) (by omega)).mono ?_
 rintro e w2 ⟨rfl, rfl⟩
 refine ⟨_, rfl, ?_⟩
 refine hK.out _ _ trivial (fun hHeld => ?_)
 clear hK K
 refine norm_ (a' := ?_) ?_ ?_
 rotate_left
 ·show Act.put _ (some 79) _ = _
  simp only [Act.put, List.setIfInBounds_toArray, List.set_cons_zero, List.set_cons_succ, i64_w, i32_w]
  rfl
 refine pure_ (i := 6) (N := some 80) (v := ?_) (a' := ?_) #[true, true, true, true, true, true, true, false, false, false, false, false, false, false] rfl rfl (any_of HT_.out (by kernel_rfl)) (fun _ _ _ h => h) (Or.inl ⟨by rfl, ?_⟩) ?_ ?_
 rotate_left
 ·intro w_
  go_simp
  with_reducible rfl
 rotate_left
 ·simp only [Act.put, List.setIfInBounds_toArray, List.set_cons_zero, List.set_cons_succ, i64_w, i32_w]
  rfl
 refine one_ (i := 7) (N := some 81) #[true, true, true, true, true, true, true, true, false, false, false, false, false, false] rfl rfl (one_of HT_.out (by kernel_rfl)) (by decide) (fun K hK => ?_)
 refine load_ (.agg #[.int .i64 (x + 1), .int .i64 y, .int .i64 z]) (by rfl) rfl (by go_simp) ?_
 refine hK.out _ _ trivial (fun hHeld => ?_)
 clear hK K
 refine norm_ (a' := ?_) ?_ ?_
 rotate_left
 ·show Act.put _ (some 81) _ = _
  simp only [Act.put, List.setIfInBounds_toArray, List.set_cons_zero, List.set_cons_succ, i64_w, i32_w]
  rfl
 refine one_ (i := 8) (N := some 82) #[true, true, true, true, true, true, true, true, true, false, false, false, false, false] rfl rfl (one_of HT_.out (by kernel_rfl)) (by decide) (fun K hK => ?_)
 refine goes_ Tryd.func43 (by kernel_rfl) rfl #[.agg #[.int .i64 (x + 1), .int .i64 y, .int .i64 z]] (by rfl) rfl rfl (by (try simp only [List.map_toArray, List.map_cons, List.map_nil]); first | done | rfl) ?_
 with_reducible refine (ent_call (x + 1) y z _ (by omega) (by omega)).mono ?_
 rintro e w2 ⟨rfl, rfl⟩
 refine ⟨_, rfl, ?_⟩
 refine hK.out _ _ trivial (fun hHeld => ?_)
 clear hK K
 refine norm_ (a' := ?_) ?_ ?_
 rotate_left
 ·show Act.put _ (some 82) _ = _
  simp only [Act.put, List.setIfInBounds_toArray, List.set_cons_zero, List.set_cons_succ, i64_w, i32_w]
  rfl
 refine one_ (i := 9) (N := some 83) #[true, true, true, true, true, true, true, true, true, true, false, false, false, false] rfl rfl (one_of HT_.out (by kernel_rfl)) (by decide) (fun K hK => ?_)
 refine goes_ Tryd.func60 (by kernel_rfl) rfl #[.string (s2.extract 0 1), .pointer (some ⟨_, 0, none⟩)] (by rfl) rfl rfl (by (try simp only [List.map_toArray, List.map_cons, List.map_nil]); first | done | rfl) ?_
 with_reducible refine (Reads.go IH.out _ (x + 1) y (z + 1) _ true r1 _ A1.out (Dep.new _ _ _ _) (by omega) (by omega) (by omega) (by omega) (by omega) (by omega) (by rw [ByteArray.size_extract]; omega)).mono ?_
 rintro e w3 ⟨ev3, rfl, he3, hb⟩
 refine ⟨_, rfl, ?_⟩
 have HB2 := Aside0.mk (below_step (w := w) (by repeat (first | exact HB1.out | apply below_alloc | apply pw_below_drewN | apply below_drew1)) hb)
 obtain ⟨m0, m1, m2⟩ := Dep.below (g := g) (x := x) (y := y) (z := z) AD.out HB2.out
 have hnew3 : w3.heap.size ≠ g := (by have := HB2.out.size; omega)
 clear hb
 refine hK.out _ _ trivial (fun hHeld => ?_)
 clear hK K
 refine norm_ (a' := ?_) ?_ ?_
 rotate_left
 ·show Act.put _ (some 83) _ = _
  simp only [Act.put, List.setIfInBounds_toArray, List.set_cons_zero, List.set_cons_succ, i64_w, i32_w]
  rfl
 refine pure_ (i := 10) (N := some 73) (v := ?_) (a' := ?_) #[true, true, true, true, true, true, true, true, true, true, true, false, false, false] rfl rfl (any_of HT_.out (by kernel_rfl)) (fun _ _ _ h => h) (Or.inl ⟨by rfl, ?_⟩) ?_ ?_
 rotate_left
 ·intro w_
  go_simp
  with_reducible rfl
 rotate_left
 ·simp only [Act.put, List.setIfInBounds_toArray, List.set_cons_zero, List.set_cons_succ, i64_w, i32_w]
  rfl
 refine pure_ (i := 11) (N := some 84) (v := ?_) (a' := ?_) #[true, true, true, true, true, true, true, true, true, true, true, true, false, false] rfl rfl (any_of HT_.out (by kernel_rfl)) (fun _ _ _ h => h) (Or.inl ⟨by rfl, ?_⟩) ?_ ?_
 rotate_left
 ·intro w_
  go_simp
  with_reducible rfl
 rotate_left
 ·simp only [Act.put, List.setIfInBounds_toArray, List.set_cons_zero, List.set_cons_succ, i64_w, i32_w]
  rfl
 refine pure_ (i := 12) (N := some 85) (v := ?_) (a' := ?_) #[true, true, true, true, true, true, true, true, true, true, true, true, true, false] rfl rfl (any_of HT_.out (by kernel_rfl)) (fun _ _ _ h => h) (Or.inl ⟨by rfl, ?_⟩) ?_ ?_
 rotate_left
 ·intro w_
  go_simp
  with_reducible rfl
 rotate_left
 ·simp only [Act.put, List.setIfInBounds_toArray, List.set_cons_zero, List.set_cons_succ, i64_w, i32_w]
  rfl
 refine pure_ (i := 13) (N := some 4) (v := ?_) (a' := ?_) #[true, true, true, true, true, true, true, true, true, true, true, true, true, true] rfl rfl (any_of HT_.out (by kernel_rfl)) (fun _ _ _ h => h) (Or.inl ⟨by rfl, ?_⟩) ?_ ?_
 rotate_left
 ·intro w_
  go_simp
  with_reducible rfl
 rotate_left
 ·simp only [Act.put, List.setIfInBounds_toArray, List.set_cons_zero, List.set_cons_succ, i64_w, i32_w]
  rfl
 refine done_ (done_of HT_.out (by kernel_rfl)) ?_
 obtain rfl : ev3 = .nilIface := he3
 go_wp2_with fail
 refine start_ (n := 15) (S := fun _ => True) (ds := []) #[false, false, false, false, false, false, false, false, false, false, false, false, false, false, false] (by kernel_rfl) rfl rfl trivial (fun hHeld => ?_); refine with_tab tab34 (fun HT_ => ?_)
 refine pure_ (i := 0) (N := some 90) (v := ?_) (a' := ?_) #[true, false, false, false, false, false, false, false, false, false, false, false, false, false, false] rfl rfl (any_of HT_.out (by kernel_rfl)) (fun _ _ _ h => h) (Or.inl ⟨by rfl, ?_⟩) ?_ ?_
 rotate_left
 ·intro w_
  go_simp
  with_reducible rfl
 rotate_left
 ·simp only [Act.put, List.setIfInBounds_toArray, List.set_cons_zero, List.set_cons_succ, i64_w, i32_w]
  rfl
 refine pure_ (i := 1) (N := some 91) (v := ?_) (a' := ?_) #[true, true, false, false, false, false, false, false, false, false, false, false, false, false, false] rfl rfl (any_of HT_.out (by kernel_rfl)) (fun _ _ _ h => h) (Or.inl ⟨by rfl, ?_⟩) ?_ ?_
 rotate_left
 ·intro w_
  go_simp
  with_reducible rfl
 rotate_left
 ·simp only [Act.put, List.setIfInBounds_toArray, List.set_cons_zero, List.set_cons_succ, i64_w, i32_w]
  rfl
 refine pure_ (i := 2) (N := some 92) (v := ?_) (a' := ?_) #[true, true, true, false, false, false, false, false, false, false, false, false, false, false, false] rfl rfl (any_of HT_.out (by kernel_rfl)) (fun _ _ _ h => h) (Or.inl ⟨by rfl, ?_⟩) ?_ ?_
 rotate_left
 ·intro w_
  go_simp
  with_reducible rfl
 rotate_left
 ·simp only [Act.put, List.setIfInBounds_toArray, List.set_cons_zero, List.set_cons_succ, i64_w, i32_w]
  rfl
 refine pure_ (i := 3) (N := some 93) (v := ?_) (a' := ?_) #[true, true, true, true, false, false, false, false, false, false, false, false, false, false, false] rfl rfl (any_of HT_.out (by kernel_rfl)) (fun _ _ _ h => h) (Or.inl ⟨by rfl, ?_⟩) ?_ ?_
 rotate_left
 ·intro w_
  go_simp
  with_reducible rfl
 rotate_left
 ·simp only [Act.put, List.setIfInBounds_toArray, List.set_cons_zero, List.set_cons_succ, i64_w, i32_w]
  rfl
 refine one_ (i := 4) (N := some 94) #[true, true, true, true, true, false, false, false, false, false, false, false, false, false, false] rfl rfl (one_of HT_.out (by kernel_rfl)) (by decide) (fun K hK => ?_)
 refine load_ (.agg #[.int .i64 x, .int .i64 y, .int .i64 z]) (by rfl) rfl (by go_simp) ?_
 refine hK.out _ _ trivial (fun hHeld => ?_)
 clear hK K
 refine norm_ (a' := ?_) ?_ ?_
 rotate_left
 ·show Act.put _ (some 94) _ = _
  simp only [Act.put, List.setIfInBounds_toArray, List.set_cons_zero, List.set_cons_succ, i64_w, i32_w]
  rfl
 refine one_ (i := 5) (N := some 95) #[true, true, true, true, true, true, false, false, false, false, false, false, false, false, false] rfl rfl (one_of HT_.out (by kernel_rfl)) (by decide) (fun K hK => ?_)
 refine goes_ Tryd.func40 (by kernel_rfl) rfl #[.agg #[.int .i64 x, .int .i64 y, .int .i64 z]] (by rfl) rfl rfl (by (try simp only [List.map_toArray, List.map_cons, List.map_nil]); first | done | rfl) ?_
 with_reducible refine (arr_call x y z _ (by omega) (by omega)).mono ?_
 rintro e w2 ⟨rfl, rfl⟩
 refine ⟨_, rfl, ?_⟩
 refine hK.out _ _ trivial (fun hHeld => ?_)
 clear hK K
 refine norm_ (a' := ?_) ?_ ?_
 rotate_left
 ·show Act.put _ (some 95) _ = _
  simp only [Act.put, List.setIfInBounds_toArray, List.set_cons_zero, List.set_cons_succ, i64_w, i32_w]
  rfl
 refine pure_ (i := 6) (N := some 96) (v := ?_) (a' := ?_) #[true, true, true, true, true, true, true, false, false, false, false, false, false, false, false] rfl rfl (any_of HT_.out (by kernel_rfl)) (fun _ _ _ h => h) (Or.inl ⟨by rfl, ?_⟩) ?_ ?_
 rotate_left
 ·intro w_
  go_simp
  with_reducible rfl
 rotate_left
 ·simp only [Act.put, List.setIfInBounds_toArray, List.set_cons_zero, List.set_cons_succ, i64_w, i32_w]
  rfl
 refine one_ (i := 7) (N := some 97) #[true, true, true, true, true, true, true, true, false, false, false, false, false, false, false] rfl rfl (one_of HT_.out (by kernel_rfl)) (by decide) (fun K hK => ?_)
 refine load_ (.agg #[.int .i64 (x + 1), .int .i64 y, .int .i64 z]) (by rfl) rfl (by go_simp) ?_
 refine hK.out _ _ trivial (fun hHeld => ?_)
 clear hK K
 refine norm_ (a' := ?_) ?_ ?_
 rotate_left
 ·show Act.put _ (some 97) _ = _
  simp only [Act.put, List.setIfInBounds_toArray, List.set_cons_zero, List.set_cons_succ, i64_w, i32_w]
  rfl
 refine one_ (i := 8) (N := some 98) #[true, true, true, true, true, true, true, true, true, false, false, false, false, false, false] rfl rfl (one_of HT_.out (by kernel_rfl)) (by decide) (fun K hK => ?_)
 refine goes_ Tryd.func43 (by kernel_rfl) rfl #[.agg #[.int .i64 (x + 1), .int .i64 y, .int .i64 z]] (by rfl) rfl rfl (by (try simp only [List.map_toArray, List.map_cons, List.map_nil]); first | done | rfl) ?_
 with_reducible refine (ent_call (x + 1) y z _ (by omega) (by omega)).mono ?_
 rintro e w2 ⟨rfl, rfl⟩
 refine ⟨_, rfl, ?_⟩
 refine hK.out _ _ trivial (fun hHeld => ?_)
 clear hK K
 refine norm_ (a' := ?_) ?_ ?_
 rotate_left
 ·show Act.put _ (some 98) _ = _
  simp only [Act.put, List.setIfInBounds_toArray, List.set_cons_zero, List.set_cons_succ, i64_w, i32_w]
  rfl
 refine one_ (i := 9) (N := some 99) #[true, true, true, true, true, true, true, true, true, true, false, false, false, false, false] rfl rfl (one_of HT_.out (by kernel_rfl)) (by decide) (fun K hK => ?_)
 refine goes_ Tryd.func60 (by kernel_rfl) rfl #[.string (s2.extract 1 s2.size), .pointer (some ⟨_, 0, none⟩)] (by rfl) rfl rfl (by (try simp only [List.map_toArray, List.map_cons, List.map_nil]); first | done | rfl) ?_
 with_reducible refine (Reads.go IH.out _ (x + 1) y (z + 1) _ true r2 _ A2.out (Dep.new _ _ _ _) (by omega) (by omega) (by omega) (by omega) (by omega) (by omega) (by rw [ByteArray.size_extract]; omega)).mono ?_
 rintro e w4 ⟨ev4, rfl, he4, hb⟩
 refine ⟨_, rfl, ?_⟩
 have HB3 := Aside0.mk (below_step (w := w) (by repeat (first | exact HB2.out | apply below_alloc | apply pw_below_drewN | apply below_drew1)) hb)
 obtain ⟨m0, m1, m2⟩ := Dep.below (g := g) (x := x) (y := y) (z := z) AD.out HB3.out
 have hnew4 : w4.heap.size ≠ g := (by have := HB3.out.size; omega)
 clear hb
 refine hK.out _ _ trivial (fun hHeld => ?_)
 clear hK K
 refine norm_ (a' := ?_) ?_ ?_
 rotate_left
 ·show Act.put _ (some 99) _ = _
  simp only [Act.put, List.setIfInBounds_toArray, List.set_cons_zero, List.set_cons_succ, i64_w, i32_w]
  rfl
 refine pure_ (i := 10) (N := some 89) (v := ?_) (a' := ?_) #[true, true, true, true, true, true, true, true, true, true, true, false, false, false, false] rfl rfl (any_of HT_.out (by kernel_rfl)) (fun _ _ _ h => h) (Or.inl ⟨by rfl, ?_⟩) ?_ ?_
 rotate_left
 ·intro w_
  go_simp
  with_reducible rfl
 rotate_left
 ·simp only [Act.put, List.setIfInBounds_toArray, List.set_cons_zero, List.set_cons_succ, i64_w, i32_w]
  rfl
 refine pure_ (i := 11) (N := some 100) (v := ?_) (a' := ?_) #[true, true, true, true, true, true, true, true, true, true, true, true, false, false, false] rfl rfl (any_of HT_.out (by kernel_rfl)) (fun _ _ _ h => h) (Or.inl ⟨by rfl, ?_⟩) ?_ ?_
 rotate_left
 ·intro w_
  go_simp
  with_reducible rfl
 rotate_left
 ·simp only [Act.put, List.setIfInBounds_toArray, List.set_cons_zero, List.set_cons_succ, i64_w, i32_w]
  rfl
 refine pure_ (i := 12) (N := some 101) (v := ?_) (a' := ?_) #[true, true, true, true, true, true, true, true, true, true, true, true, true, false, false] rfl rfl (any_of HT_.out (by kernel_rfl)) (fun _ _ _ h => h) (Or.inl ⟨by rfl, ?_⟩) ?_ ?_
 rotate_left
 ·intro w_
  go_simp
  with_reducible rfl
 rotate_left
 ·simp only [Act.put, List.setIfInBounds_toArray, List.set_cons_zero, List.set_cons_succ, i64_w, i32_w]
  rfl
 refine pure_ (i := 13) (N := some 7) (v := ?_) (a' := ?_) #[true, true, true, true, true, true, true, true, true, true, true, true, true, true, false] rfl rfl (any_of HT_.out (by kernel_rfl)) (fun _ _ _ h => h) (Or.inl ⟨by rfl, ?_⟩) ?_ ?_
 rotate_left
 ·intro w_
  go_simp
  with_reducible rfl
 rotate_left
 ·simp only [Act.put, List.setIfInBounds_toArray, List.set_cons_zero, List.set_cons_succ, i64_w, i32_w]
  rfl
 refine pure_ (i := 14) (N := some 8) (v := ?_) (a' := ?_) #[true, true, true, true, true, true, true, true, true, true, true, true, true, true, true] rfl rfl (any_of HT_.out (by kernel_rfl)) (fun _ _ _ h => h) (Or.inl ⟨by rfl, ?_⟩) ?_ ?_
 rotate_left
 ·intro w_
  go_simp
  with_reducible rfl
 rotate_left
 ·simp only [Act.put, List.setIfInBounds_toArray, List.set_cons_zero, List.set_cons_succ, i64_w, i32_w]
  rfl
 refine done_ (done_of HT_.out (by kernel_rfl)) ?_
 obtain rfl : ev4 = .nilIface := he4
 go_wp2
 go_ret2
 exact ⟨_, rfl, EB_nil, HB3.out⟩
end Go.Proofs.YtoaehanfknjngaaDoor.Ext
