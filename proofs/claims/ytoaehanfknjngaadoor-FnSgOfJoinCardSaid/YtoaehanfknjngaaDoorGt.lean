import Derived.Test.YtoaehanfknjngaaDoorGs
import Derived.Test.YtoaehanfknjngaaDoorZe
namespace Go.Proofs.YtoaehanfknjngaaDoor.Gt
set_option linter.unusedVariables false
set_option linter.unusedSimpArgs false
open Go.RowKit Go.Proofs.YtoaehanfknjngaaDoor.Ext Go.Proofs.YtoaehanfknjngaaDoor.L Go.Proofs.YtoaehanfknjngaaDoorW.PrintWords Go.Proofs.YtoaehanfknjngaaDoorW.PrintLast Go.Proofs.YtoaehanfknjngaaDoorW.PrintMore
open Go.Proofs.YtoaehanfknjngaaDoor.Com Go.Proofs.YtoaehanfknjngaaDoor.Tree Go.Proofs.YtoaehanfknjngaaDoor.Sg Go.Proofs.YtoaehanfknjngaaDoor.Dt Go.Proofs.YtoaehanfknjngaaDoor.Gs Go.Proofs.YtoaehanfknjngaaDoor.Ze

theorem fld (a : ByteArray) (W : World) : (Instr.field 73 (.agg #[.string a, .string ⟨#[]⟩, .string ⟨#[]⟩]) 0).run Tryd.prog W = .ok (.string a) W := by kernel_rfl

/-- The types of a list. -/
def ls : Ts → List T
 | .nil => []
 | .more t ts => t :: ls ts
theorem fl_ls : ∀ ts : Ts, fl ts = (ls ts).map fun t => mkb (gt t)
 | .nil => rfl
 | .more t ts => by simp only [fl, ls, List.map_cons, fl_ls ts]
theorem txts_ls : ∀ ts : Ts, txts ts = ((ls ts).map txt).flatten
 | .nil => rfl
 | .more t ts => by simp only [txts, ls, List.map_cons, List.flatten_cons, txts_ls ts]
theorem all_ls {P : T → Prop} : ∀ {ts : Ts}, All P ts → ∀ t ∈ ls ts, P t
 | .nil, _, t, h => by cases h
 | .more a ts, ha, t, h => by
  rcases List.mem_cons.1 h with rfl | h
  ·exact ha.1
  ·exact all_ls ha.2 t h
theorem fitss_ls {x y z : Int} : ∀ {ts : Ts}, fitss ts x y z = true → ∀ t ∈ ls ts, fits t x y z = true
 | .nil, _, t, h => by cases h
 | .more a ts, ha, t, h => by
  simp only [fitss, Bool.and_eq_true] at ha
  rcases List.mem_cons.1 h with rfl | h
  ·exact ha.1
  ·exact fitss_ls ha.2 t h
theorem mem_len {t : T} : ∀ {l : List T}, t ∈ l → (txt t).length ≤ ((l.map txt).flatten).length := fun h => List.Sublist.length_le (List.sublist_flatten_of_mem (List.mem_map_of_mem h))

def T26_47 : Bool × List (List Nat × List Nat) := (true, [([], []), ([], []), ([], []), ([1, 2], [1, 2]), ([3], [3]), ([], []), ([5], [5]), ([6], [6]), ([7, 3], [7]), ([4, 8, 8], [4, 8]), ([0, 9], [0, 9]), ([10, 9, 0, 1, 2, 3, 4, 5, 6, 7, 8, 9, 10], [0, 10])])
def B26_47 : List Nat := [0, 0, 0, 6, 14, 0, 32, 96, 238, 510, 1023, 2047]
theorem tab26_47 : rtab .any (opsOf Tryd.f26 47) = T26_47 := by kernel_rfl
theorem bits26_47 : waitsOk T26_47.2 B26_47 = true := by kernel_rfl

set_option maxHeartbeats 8000000 in
set_option maxRecDepth 100000 in
theorem gs_struct (ts : Ts) (hno : ne ts = true) (ho : oks ts = true) (ih : All GS ts) : GS (.s ts) := by
 intro s g x y z w hB hf hl hD hx hy hz
 have hB' : B s = 40 :: (gts ts ++ [41]) := hB
 have AD := Aside0.mk hD
 have hdp := fits_deep hf
 have HD := Aside0.mk (deep_of hdp)
 have hmf : ∀ (fn : Fn) (first cap : Array Value) (w : World), (Instr.makeFunc fn first cap).run Tryd.prog w = .ok (.func fn first cap) w := fun _ _ _ _ => rfl
 have hl' : (txts ts).length ≤ 253 := by simp only [txt, List.length_cons, List.length_append, List.length_nil] at hl; omega
 have hg := gts_len ts
 have hz0 := size_pos hB'
 have hz1 : s.size ≤ 900 := by simp only [List.length_append, List.length_singleton] at hz0; omega
 have hk := Aside0.mk ((kind_is s 40 _ hB').trans (show some (kd 40) = some 18 by decide))
 have HNI := Aside0.mk (num_is ts s ho hB' hz1)
 have HFI := Aside0.mk (fun i h => field_is ts s ho hB' hz1 i h)
 have hfs : fitss ts (32 - x) (32 - (y + 1)) (32 - z) = true := by simp only [fits, Bool.and_eq_true] at hf; rw [show 32 - (y + 1) = 32 - y - 1 from by omega]; exact hf.2
 have HFS := Aside0.mk hfs
 have HIH := Aside0.mk ih
 have HL := Aside0.mk hl'
 have HNE := Aside0.mk hno
 have hpos : 0 < s.size := by omega
 have hne := ne_str (a := s) (by omega)
 have v118 : (s.toList == ([118] : List UInt8)) = false := by rw [beq_eq_false_iff_ne, B_toList, hB']; simp
 have v103 : (s.toList == ([103] : List UInt8)) = false := by rw [beq_eq_false_iff_ne, B_toList, hB']; simp
 have h2 : 2 ≤ s.size := by rw [hz0]; simp
 obtain ⟨n, hn⟩ : ∃ n, n = (fl ts).length := ⟨_, rfl⟩
 have hns : n ≤ 253 := by have := fl_length ts; omega
 have HN := Aside0.mk hn
 rw [← hn] at HNI
 clear hB hB' hf hl hD ih hz0 hfs hl' hg hno ho hn
 go_enter_defers Tryd.func26, Tryd.ntmps26
 go_wp2_with (first
  | (go_at_call 32; (with_reducible refine (valid_call g x y z _ (Dep.below AD.out (below_alloc (Below.refl _ _) _))).mono ?_); rintro e w' ⟨rfl, ⟨nd, rfl⟩⟩; rw [HD.out])
  | (go_at_call 34; (with_reducible refine (dbus_zzType_Kind.calls 9 _ _ _ hk.out).mono ?_); rintro e w2 ⟨rfl, ⟨nd2, rfl⟩⟩))
 go_loopw [5, 6] (fun v5 v6 wr => ∃ (j : Nat) (acc : ByteArray), v6 = .int .i64 j ∧ v5 = .string acc ∧ j ≤ n ∧ Aside0 (B acc = (((ls ts).take j).map txt).flatten) ∧ Aside0 (Below w.heap.size w wr) ∧ Aside0 (wr.heap[w.heap.size]? = some (.cells #[.string ⟨#[]⟩] 9 (0, 0)))) (fun _ v6 _ => n - (intOf v6).toNat)
 case atStart => exact ⟨0, ⟨#[]⟩, rfl, rfl, Nat.zero_le _, ⟨rfl⟩, ⟨by repeat (first | exact Below.refl _ _ | apply below_alloc | apply pw_below_drewN)⟩, ⟨by repeat (first | exact blk_new w _ | refine blk_drewN ?_ _)⟩⟩
 case round =>
  obtain ⟨j, acc, rfl, rfl, hj, HA, HB, HBK⟩ := hrel
  have HNL : Aside0 (n = (ls ts).length) := ⟨by rw [HN.out, fl_ls, List.length_map]⟩
  have hac : acc.size ≤ 253 := by
   rw [← B_length, HA.out]
   have h1 := HL.out
   rw [txts_ls] at h1
   have h2 : (((ls ts).take j).map txt).flatten.length ≤ ((ls ts).map txt).flatten.length := by
    conv => rhs; rw [← List.take_append_drop j (ls ts), List.map_append, List.flatten_append, List.length_append]
    omega
   omega
  by_cases hjl : j < n
  ·have hju : j < (ls ts).length := by have := HNL.out; omega
   have hjf : j < (fl ts).length := by have := HN.out; omega
   obtain ⟨tj, htj⟩ : ∃ t, t = (ls ts)[j]'hju := ⟨_, rfl⟩
   have hmem : tj ∈ ls ts := by rw [htj]; exact List.getElem_mem hju
   have IHJ := Aside0.mk (all_ls HIH.out tj hmem)
   have hfj := Aside0.mk (fitss_ls HFS.out tj hmem)
   have hlj : Aside0 ((txt tj).length ≤ 255) := ⟨by have h1 := HL.out; rw [txts_ls] at h1; have := mem_len hmem; omega⟩
   obtain ⟨fj, hfje⟩ : ∃ f, f = (fl ts)[j]'hjf := ⟨_, rfl⟩
   have hBj : Aside0 (B fj = gt tj) := ⟨by rw [hfje, htj]; simp only [fl_ls, List.getElem_map]; rfl⟩
   have HTK : Aside0 ((((ls ts).take (j + 1)).map txt).flatten = (((ls ts).take j).map txt).flatten ++ txt tj) := ⟨by rw [List.take_succ_eq_append_getElem hju, ← htj, List.map_append, List.flatten_append]; simp⟩
   have HFJ : Aside0 (dbus_zzType_Field.f 2000 s (j : Int) = some (fj, (⟨#[]⟩ : ByteArray), (⟨#[]⟩ : ByteArray))) := ⟨by rw [hfje]; exact HFI.out j hjf⟩
   have q1 : ((j : Int) < (n : Int)) = True := eq_true (by omega)
   have q2 : (j < n) = True := eq_true hjl
   have HJL := Aside0.mk hjl
   have hfld : ∀ W : World, (Instr.field 73 (.agg #[.string fj, .string ⟨#[]⟩, .string ⟨#[]⟩]) 0).run Tryd.prog W = .ok (.string fj) W := fun W => fld fj W
   clear hmem htj hfje hju hjl hjf
   go_wp2_with (first
    | (go_at_call 36; (with_reducible refine (dbus_zzType_NumField.calls 2000 _ _ _ HNI.out).mono ?_); rintro e w2 ⟨rfl, hb2⟩; have HB2 := Aside0.mk (below_step HB.out hb2); have BK2 := Aside0.mk (blk_below HBK.out hb2); clear hb2)
    | (go_at_call 37; (with_reducible refine (dbus_zzType_Field.calls 2000 s _ _ _ _ _ HFJ.out).mono ?_); rintro e w3 ⟨rfl, hb3⟩; have HB3 := Aside0.mk (below_step HB2.out hb3); have BK3 := Aside0.mk (blk_below BK2.out hb3); clear hb3)
    | (go_at_call 38; (with_reducible refine (dbus_zzTag_Get.calls _ _ _ _ rfl).mono ?_); rintro e w4 ⟨rfl, ⟨nd4, rfl⟩⟩))
   refine start_ (n := 12) (S := fun w' => w'.cell? ⟨g, 0, none⟩ = some (.int .i64 x) ∧ w'.cell? ⟨g, 1, none⟩ = some (.int .i64 y) ∧ w'.cell? ⟨g, 2, none⟩ = some (.int .i64 z)) (ds := []) #[false, false, false, false, false, false, false, false, false, false, false, false] (by kernel_rfl) rfl rfl (Dep.below AD.out (by repeat (first | exact HB3.out | apply below_alloc | apply pw_below_drewN | apply below_drew1))) (fun hHeld => ?_); refine with_tabW tab26_47 bits26_47 (fun HT_ HW_ => ?_)
   refine pure_ (i := 0) (N := some 74) (v := ?_) (a' := ?_) #[true, false, false, false, false, false, false, false, false, false, false, false] rfl rfl (any_of HT_.out (by kernel_rfl)) (fun c_ a_ w_ h_ => leaves_congr (put_results a_ 74 _ (by decide)) _ _ _ h_) (Or.inl ⟨by rfl, ?_⟩) ?_ ?_
   rotate_left
   ·intro w_
    go_simp
    with_reducible rfl
   rotate_left
   ·simp only [Act.put, List.setIfInBounds_toArray, List.set_cons_zero, List.set_cons_succ, i64_w, i32_w]
    rfl
   refine pure_ (i := 1) (N := some 75) (v := ?_) (a' := ?_) #[true, true, false, false, false, false, false, false, false, false, false, false] rfl rfl (any_of HT_.out (by kernel_rfl)) (fun c_ a_ w_ h_ => leaves_congr (put_results a_ 75 _ (by decide)) _ _ _ h_) (Or.inl ⟨by rfl, ?_⟩) ?_ ?_
   rotate_left
   ·intro w_
    go_simp
    with_reducible rfl
   rotate_left
   ·simp only [Act.put, List.setIfInBounds_toArray, List.set_cons_zero, List.set_cons_succ, i64_w, i32_w]
    rfl
   refine pure_ (i := 2) (N := some 76) (v := ?_) (a' := ?_) #[true, true, true, false, false, false, false, false, false, false, false, false] rfl rfl (any_of HT_.out (by kernel_rfl)) (fun c_ a_ w_ h_ => leaves_congr (put_results a_ 76 _ (by decide)) _ _ _ h_) (Or.inl ⟨by rfl, ?_⟩) ?_ ?_
   rotate_left
   ·intro w_
    go_simp
    with_reducible rfl
   rotate_left
   ·simp only [Act.put, List.setIfInBounds_toArray, List.set_cons_zero, List.set_cons_succ, i64_w, i32_w]
    rfl
   refine pure_ (i := 5) (N := some 79) (v := ?_) (a' := ?_) #[true, true, true, false, false, true, false, false, false, false, false, false] rfl rfl (any_of HT_.out (by kernel_rfl)) (fun c_ a_ w_ h_ => leaves_congr (put_results a_ 79 _ (by decide)) _ _ _ h_) (Or.inl ⟨by rfl, ?_⟩) ?_ ?_
   rotate_left
   ·intro w_
    go_simp
    with_reducible rfl
   rotate_left
   ·simp only [Act.put, List.setIfInBounds_toArray, List.set_cons_zero, List.set_cons_succ, i64_w, i32_w]
    rfl
   refine pure_ (i := 6) (N := some 80) (v := ?_) (a' := ?_) #[true, true, true, false, false, true, true, false, false, false, false, false] rfl rfl (any_of HT_.out (by kernel_rfl)) (fun c_ a_ w_ h_ => leaves_congr (put_results a_ 80 _ (by decide)) _ _ _ h_) (Or.inl ⟨by rfl, ?_⟩) ?_ ?_
   rotate_left
   ·intro w_
    go_simp
    with_reducible rfl
   rotate_left
   ·simp only [Act.put, List.setIfInBounds_toArray, List.set_cons_zero, List.set_cons_succ, i64_w, i32_w]
    rfl
   refine take_ (i := 7) (N := some 81) (v := ?_) (a' := ?_) #[true, true, true, false, false, true, true, true, false, false, false, false] rfl rfl (take_ofW HT_.out HW_.out (by kernel_rfl)) (fun c_ a_ w_ h_ => leaves_congr (put_results a_ 81 _ (by decide)) _ _ _ h_) (Or.inl ⟨by rfl, ?_⟩) hHeld ?_ ?_
   rotate_left
   ·rintro w_ ⟨s0, s1, s2⟩
    go_simp
    with_reducible rfl
   rotate_left
   ·simp only [Act.put, List.setIfInBounds_toArray, List.set_cons_zero, List.set_cons_succ, i64_w, i32_w]
    rfl
   refine one_ (i := 3) (N := some 77) #[true, true, true, true, false, true, true, true, false, false, false, false] rfl rfl (one_of HT_.out (by kernel_rfl)) (by decide) (fun K hK => ?_)
   refine goes_ Tryd.func37 (by kernel_rfl) rfl #[.string s, .int .i64 (j : Int)] (by rfl) rfl rfl (by (try simp only [List.map_toArray, List.map_cons, List.map_nil]); first | done | rfl) ?_
   with_reducible refine (dbus_zzType_Field.calls 2000 s _ _ _ _ _ HFJ.out).mono ?_
   rintro e w5 ⟨rfl, hb5⟩
   have HB5 := Aside0.mk (below_step (w := w) (by repeat (first | exact HB3.out | apply below_alloc | apply pw_below_drewN | apply below_drew1)) hb5)
   have BK5 : Aside0 (w5.heap[w.heap.size]? = some (.cells #[.string ⟨#[]⟩] 9 (0, 0))) := ⟨blk_below (by repeat (first | exact BK3.out | refine blk_alloc ?_ _ | refine blk_drewN ?_ _ | refine blk_drew ?_)) hb5⟩
   clear hb5
   refine ⟨_, rfl, ?_⟩
   refine hK.out _ _ (Dep.below AD.out HB5.out) (fun hHeld => ?_)
   clear hK K
   refine norm_ (a' := ?_) ?_ ?_
   rotate_left
   ·show Act.put _ (some 77) _ = _
    simp only [Act.put, List.setIfInBounds_toArray, List.set_cons_zero, List.set_cons_succ, i64_w, i32_w]
    rfl
   refine pure_ (i := 4) (N := some 78) (v := ?_) (a' := ?_) #[true, true, true, true, true, true, true, true, false, false, false, false] rfl rfl (any_of HT_.out (by kernel_rfl)) (fun c_ a_ w_ h_ => leaves_congr (put_results a_ 78 _ (by decide)) _ _ _ h_) (Or.inl ⟨by rfl, ?_⟩) ?_ ?_
   rotate_left
   ·intro w_
    go_simp
    with_reducible rfl
   rotate_left
   ·simp only [Act.put, List.setIfInBounds_toArray, List.set_cons_zero, List.set_cons_succ, i64_w, i32_w]
    rfl
   refine one_ (i := 8) (N := some 82) #[true, true, true, true, true, true, true, true, true, false, false, false] rfl rfl (one_of HT_.out (by kernel_rfl)) (by decide) (fun K hK => ?_)
   refine goes_ Tryd.func39 (by kernel_rfl) rfl #[.agg #[.int .i64 x, .int .i64 y, .int .i64 z]] (by rfl) rfl rfl (by (try simp only [List.map_toArray, List.map_cons, List.map_nil]); first | done | rfl) ?_
   with_reducible refine (str_call x y z _ (by omega) (by omega)).mono ?_
   rintro e w2 ⟨rfl, rfl⟩
   refine ⟨_, rfl, ?_⟩
   refine hK.out _ _ (Dep.below AD.out (below_alloc HB5.out _)) (fun hHeld => ?_)
   clear hK K
   refine norm_ (a' := ?_) ?_ ?_
   rotate_left
   ·show Act.put _ (some 82) _ = _
    simp only [Act.put, List.setIfInBounds_toArray, List.set_cons_zero, List.set_cons_succ, i64_w, i32_w]
    rfl
   refine one_ (i := 9) (N := some 83) #[true, true, true, true, true, true, true, true, true, true, false, false] rfl rfl (one_of HT_.out (by kernel_rfl)) (by decide) (fun K hK => ?_)
   refine goes_ Tryd.func26 (by kernel_rfl) rfl #[.string fj, .pointer (some ⟨_, 0, none⟩)] (by rfl) rfl rfl (by (try simp only [List.map_toArray, List.map_cons, List.map_nil]); first | done | rfl) ?_
   with_reducible refine (GS.go IHJ.out _ _ x (y + 1) z _ hBj.out hfj.out hlj.out (Dep.new _ _ _ _) (by omega) (by omega) (by omega)).mono ?_
   rintro e w6 ⟨r6, rfl, hr6, hb6⟩
   have HR6 := Aside0.mk hr6
   have HB6 := Aside0.mk (below_step (w := w) (below_alloc HB5.out _) hb6)
   have BK6 := Aside0.mk (blk_below (blk_alloc BK5.out _) hb6)
   have hr6s : r6.size ≤ 255 := (by rw [← B_length, hr6]; exact hlj.out)
   have hq6 : (9223372036854775807 < acc.size + r6.size) = False := eq_false (by omega)
   clear hr6 hb6
   refine ⟨_, rfl, ?_⟩
   refine hK.out _ _ (Dep.below AD.out HB6.out) (fun hHeld => ?_)
   clear hK K
   refine norm_ (a' := ?_) ?_ ?_
   rotate_left
   ·show Act.put _ (some 83) _ = _
    simp only [Act.put, List.setIfInBounds_toArray, List.set_cons_zero, List.set_cons_succ, i64_w, i32_w]
    rfl
   refine pure_ (i := 10) (N := some 84) (v := ?_) (a' := ?_) #[true, true, true, true, true, true, true, true, true, true, true, false] rfl rfl (any_of HT_.out (by kernel_rfl)) (fun c_ a_ w_ h_ => leaves_congr (put_results a_ 84 _ (by decide)) _ _ _ h_) (Or.inl ⟨by rfl, ?_⟩) ?_ ?_
   rotate_left
   ·intro w_
    go_simp
    with_reducible rfl
   rotate_left
   ·simp only [Act.put, List.setIfInBounds_toArray, List.set_cons_zero, List.set_cons_succ, i64_w, i32_w]
    rfl
   refine pure_ (i := 11) (N := some 5) (v := ?_) (a' := ?_) #[true, true, true, true, true, true, true, true, true, true, true, true] rfl rfl (any_of HT_.out (by kernel_rfl)) (fun c_ a_ w_ h_ => leaves_congr (put_results a_ 5 _ (by decide)) _ _ _ h_) (Or.inl ⟨by rfl, ?_⟩) ?_ ?_
   rotate_left
   ·intro w_
    go_simp
    with_reducible rfl
   rotate_left
   ·simp only [Act.put, List.setIfInBounds_toArray, List.set_cons_zero, List.set_cons_succ, i64_w, i32_w]
    rfl
   refine done_ (done_of HT_.out (by kernel_rfl)) ?_
   go_wp2
   go_roundw
   case rel => exact ⟨j + 1, _, by go_num, rfl, by have := HJL.out; omega, ⟨by rw [B_append, HA.out, HR6.out, HTK.out]⟩, ⟨HB6.out⟩, ⟨BK6.out⟩⟩
   case measure => have := HJL.out; simp [intOf]; omega
  ·obtain rfl : n = j := by omega
   have HT : Aside0 (B acc = txts ts) := ⟨by rw [HA.out, txts_ls, List.take_of_length_le (by have := HNL.out; omega)]⟩
   have hz1 : 0 < acc.size := by
    rw [← B_length, HT.out]
    have h1 := HNE.out
    cases ts with
    | nil => cases h1
    | more t ts => have := txt_pos t; simp only [txts, List.length_append]; omega
   have z1 : ((acc.size : Int) == 0) = false := by rw [beq_eq_false_iff_ne]; omega
   have z2 : (acc.size == 0) = false := by rw [beq_eq_false_iff_ne]; omega
   have z3 : (acc.size = 0) = False := eq_false (by omega)
   go_wp2_with (first
    | (go_at_call 36; (with_reducible refine (dbus_zzType_NumField.calls 2000 _ _ _ HNI.out).mono ?_); rintro e w2 ⟨rfl, hb2⟩; have HB3 := Aside0.mk (below_step HB.out hb2); have BKS := Aside0.mk (blk_below HBK.out hb2); have hs27 := (blk_cell BKS.out 0).trans rfl; have hfs27 := blk_frozen BKS.out 0; clear hb2))
   refine leaves_cons (f := 33) (args := #[.pointer (some ⟨w.heap.size, 0, none⟩)]) (by simp) (by simp [go_sem]) ?_
   have hfin := (blk_cell (blk_set BKS.out 0 (.string (((⟨#[40]⟩ : ByteArray) ++ acc) ++ ⟨#[41]⟩))) 0).trans rfl
   have hbel := below_set (v := .string (((⟨#[40]⟩ : ByteArray) ++ acc) ++ ⟨#[41]⟩)) (j := 0) HB3.out (Nat.le_refl _)
   generalize (w2.setCell ⟨w.heap.size, 0, none⟩ (.string (((⟨#[40]⟩ : ByteArray) ++ acc) ++ ⟨#[41]⟩))) = wf at hfin hbel ⊢
   refine (len_ok ⟨w.heap.size, 0, none⟩ _ _ hfin (by rw [ByteArray.size_append, ByteArray.size_append]; show 1 + acc.size + 1 ≤ 255; omega)).mono ?_
   rintro e u' w'' ⟨rfl, rfl, rfl⟩
   simp [Leaves, settle, results, Tryd.results26, go_sem, hfin]
   exact ⟨_, rfl, by rw [B_append, B_append, HT.out]; rfl, hbel⟩

mutual
/-- No dict's keys are booleans or signatures. -/
def keys : T → Bool
 | .b _ => true
 | .d k t => k != 98 && (k != 103 && keys t)
 | .a t => keys t
 | .s ts => keyss ts
def keyss : Ts → Bool
 | .nil => true
 | .more t ts => keys t && keyss ts
end

mutual
theorem getSig : ∀ t : T, ok t = true → keys t = true → GS t
 | .b c, ho, hk => gs_letter c (by simpa [ok] using ho)
 | .a t, ho, hk => gs_array t (getSig t (by simpa [ok] using ho) (by simpa [keys] using hk))
 | .d k t, ho, hk => by
  simp only [ok, Bool.and_eq_true] at ho
  simp only [keys, Bool.and_eq_true, bne_iff_ne, ne_eq] at hk
  exact gs_dict k t ho.1 hk.1 hk.2.1 (getSig t ho.2 hk.2.2)
 | .s ts, ho, hk => by
  simp only [ok, Bool.and_eq_true] at ho
  exact gs_struct ts ho.1 ho.2 (getSigs ts ho.2 (by simpa [keys] using hk))
theorem getSigs : ∀ ts : Ts, oks ts = true → keyss ts = true → All GS ts
 | .nil, ho, hk => trivial
 | .more t ts, ho, hk => by
  simp only [oks, Bool.and_eq_true] at ho
  simp only [keyss, Bool.and_eq_true] at hk
  exact ⟨getSig t ho.1 hk.1, getSigs ts ho.2 hk.2⟩
end
end Go.Proofs.YtoaehanfknjngaaDoor.Gt
