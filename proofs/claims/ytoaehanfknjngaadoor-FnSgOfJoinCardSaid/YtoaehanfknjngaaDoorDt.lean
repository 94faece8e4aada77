import Derived.Test.YtoaehanfknjngaaDoorSg
import Derived.Test.YtoaehanfknjngaaDoorL1
import Derived.Test.YtoaehanfknjngaaDoorL2
import Derived.Test.YtoaehanfknjngaaDoorL3
import Derived.Test.YtoaehanfknjngaaDoorWMore
import Derived.Defers
import Derived.Recover
import Derived.Laws.Pointers
import Derived.Outline
import Derived.IntWalk
namespace Go.Proofs.YtoaehanfknjngaaDoor.Dt
set_option linter.unusedVariables false
set_option linter.unusedSimpArgs false
open Go.RowKit Go.Proofs.YtoaehanfknjngaaDoor.Ext Go.Proofs.YtoaehanfknjngaaDoor.L Go.Proofs.YtoaehanfknjngaaDoorW.PrintWords Go.Proofs.YtoaehanfknjngaaDoorW.PrintLast Go.Proofs.YtoaehanfknjngaaDoorW.PrintMore
open Go.Proofs.YtoaehanfknjngaaDoor.Com Go.Proofs.YtoaehanfknjngaaDoor.Tree Go.Proofs.YtoaehanfknjngaaDoor.Sg

mutual
/-- The text of a type's Go type. -/
def gt : T → List UInt8
 | .b c => [c]
 | .d k t => 123 :: k :: gt t
 | .a t => 91 :: gt t
 | .s ts => 40 :: (gts ts ++ [41])
def gts : Ts → List UInt8
 | .nil => []
 | .more t ts => gt t ++ gts ts
end

def mkb (l : List UInt8) : ByteArray := ⟨l.toArray⟩
theorem B_mkb (l : List UInt8) : B (mkb l) = l := rfl

mutual
theorem gt_len : ∀ t : T, (gt t).length ≤ (txt t).length
 | .b _ => Nat.le_refl _
 | .d k t => by have := gt_len t; simp only [gt, txt, List.length_cons, List.length_append]; omega
 | .a t => by have := gt_len t; simp only [gt, txt, List.length_cons]; omega
 | .s ts => by have := gts_len ts; simp only [gt, txt, List.length_cons, List.length_append]; omega
theorem gts_len : ∀ ts : Ts, (gts ts).length ≤ (txts ts).length
 | .nil => Nat.le_refl _
 | .more t ts => by have := gt_len t; have := gts_len ts; simp only [gts, txts, List.length_append]; omega
end

theorem zz_letter (c : UInt8) (h : (basic c || c == 118) = true) : dbus_zzSigToType.f (c.toNat : Int) = some (mkb [c], true) := by
 have H : ∀ n : Fin 256, (basic (UInt8.ofNat n.val) || UInt8.ofNat n.val == 118) = true → dbus_zzSigToType.f (n.val : Int) = some (mkb [UInt8.ofNat n.val], true) := by decide +kernel
 have := H ⟨c.toNat, c.toNat_lt⟩
 simp only [UInt8.ofNat_toNat] at this
 exact this h

theorem vs_one_of (t : T) (u : List UInt8) (s : ByteArray) (ho : ok t = true) (hf : fits t 32 32 32 = true) (hB : B s = txt t ++ u) : ∃ K r, vs K s 0 0 0 = some (true, r) ∧ B r = u := by
 obtain ⟨r, hr, hu⟩ := (read_tree (txt t).length).1 t s u 0 0 0 (Nat.le_refl _) ho hB
 have e : fits t (32 - 0) (32 - 0) (32 - 0) = true := hf
 rw [e] at hr
 rw [if_pos e] at hu
 obtain ⟨K, hK⟩ := hr
 exact ⟨K, r, hK K (Nat.le_refl _), hu⟩

def TPost (t : T) (w : World) (e : Ending) (w' : World) : Prop := ∃ r : ByteArray, e = .returned (.string r) ∧ B r = gt t ∧ Below w.heap.size w w'
def OPost (t : T) (u : List UInt8) (w : World) (e : Ending) (w' : World) : Prop := ∃ a b : ByteArray, e = .returned (.tuple #[.string a, .string b]) ∧ B a = txt t ∧ B b = u ∧ Below w.heap.size w w'

theorem nil_ev {ev : Value} (h : EB ev true) : ev = .nilIface := h

set_option maxHeartbeats 1000000 in
theorem doorOne (t : T) (u : List UInt8) (s : ByteArray) (w : World) (ho : ok t = true) (hf : fits t 32 32 32 = true) (hB : B s = txt t ++ u) (hs : s.size ≤ 255) :
  Calls Tryd.prog 57 #[.string s] w (OPost t u w) := by
 obtain ⟨K, r, hv, hr⟩ := vs_one_of t u s ho hf hB
 have HV := Aside0.mk hv
 have hle : Aside0 (s.size ≤ 4294967296) := ⟨by omega⟩
 have z1 : s.size = (txt t).length + u.length := by rw [← B_length, hB, List.length_append]
 have z2 : r.size = u.length := by rw [← B_length, hr]
 have hrs : r.size ≤ s.size := by omega
 have hA : Aside0 (B (s.extract 0 (s.size - r.size)) = txt t) := ⟨by
  rw [B_to, hB, z1, z2, Nat.add_sub_cancel, List.take_left]⟩
 have hR := Aside0.mk hr
 have q0 : ((s.size : Int) - (r.size : Int)) = ((s.size - r.size : Nat) : Int) := by omega
 have q1 : (0 : Int) ≤ (s.size : Int) - (r.size : Int) := by omega
 have q2 : ((s.size : Int) - (r.size : Int)) ≤ (s.size : Int) := by omega
 have hsl : ∀ W : World, (Instr.slice 9 (.string s) none (some (.int .i64 ((s.size : Int) - (r.size : Int)))) none).run Tryd.prog W = .ok (.string (s.extract 0 (s.size - r.size))) W := fun W => by
  rw [q0, run_slice_string_h (P := Tryd.prog) W 9 s Tryd.underlying9 .i64 ((s.size - r.size : Nat) : Int) (by omega) (by omega)]
  rfl
 clear hv hf hB ho z1 z2 hr q0
 go_enter Tryd.func57, Tryd.ntmps57
 go_wp2_with (first
  | (go_at_call 60; (with_reducible refine (Reads.go (Reads.all K) s 0 0 0 w.heap.size true r _ HV.out (Dep.new _ _ _ _) (by omega) (by omega) (by omega) (by omega) (by omega) (by omega) hle.out).mono ?_); rintro e w' ⟨ev, rfl, hev, hb⟩; obtain rfl := nil_ev hev; have HB := Aside0.mk hb; clear hb hev))
 go_ret2
 exact ⟨_, _, rfl, hA.out, hR.out, below_step (below_alloc (Below.refl _ _) _) HB.out⟩
/-- The region in which two calls stand (a dict's key and its elements). -/
def T49_4 : Bool × List (List Nat × List Nat) := (true, [([], []), ([0], [0]), ([1], [1]), ([], []), ([], []), ([4], [4]), ([5], [5]), ([3, 6], [3, 6]), ([7, 2], [7]), ([2, 8, 8], [2, 8]), ([9, 9, 0, 1, 2, 3, 4, 5, 6, 7, 8, 9], [9])])
def B49_4 : List Nat := [0, 1, 3, 0, 0, 16, 48, 120, 255, 511, 1023]
theorem tab49_4 : rtab .any (opsOf Tryd.f49 4) = T49_4 := by kernel_rfl
theorem bits49_4 : waitsOk T49_4.2 B49_4 = true := by kernel_rfl

theorem map_is (k r : ByteArray) (hk : k.size ≤ 300) (h : r.size ≤ 300) : dbus_zzMapOf.f k r = some (((⟨#[123]⟩ : ByteArray) ++ k) ++ r) := by
 have z1 : (⟨#[123]⟩ : ByteArray).size = 1 := rfl
 have z2 : ((⟨#[123]⟩ : ByteArray) ++ k).size = 1 + k.size := by rw [ByteArray.size_append]; rfl
 unfold dbus_zzMapOf.f
 rw [if_pos (by omega), z2, if_pos (by omega)]

/-- doorType's contract at a type. -/
def DT (t : T) : Prop := ∀ (s : ByteArray) (w : World), B s = txt t → s.size ≤ 255 → Calls Tryd.prog 49 #[.string s] w (TPost t w)
theorem DT.go {t : T} (h : DT t) (s : ByteArray) (w : World) (hB : B s = txt t) (hs : s.size ≤ 255) : Calls Tryd.prog 49 #[.string s] w (TPost t w) := h s w hB hs

set_option maxHeartbeats 1000000 in
theorem dt_letter (c : UInt8) (ho : (basic c || c == 118) = true) : DT (.b c) := by
 intro s w hB hs
 have hb0 := first_of (s := s) (c := c) (l := []) hB
 have hsz := size_pos (s := s) (c := c) (l := []) hB
 have hz := Aside0.mk (zz_letter c ho)
 have hne := letter_ne c ho
 have h97 : ((c.toNat : Int) == 97) = false := beq_eq_false_iff_ne.2 (by intro e; exact hne.2.2.2.2 ((byte_eq c 97 (by omega)).1 e))
 have h40 : ((c.toNat : Int) == 40) = false := beq_eq_false_iff_ne.2 (by intro e; exact hne.1 ((byte_eq c 40 (by omega)).1 e))
 have hpos : 0 < s.size := by rw [hsz]; omega
 have hx0 := first_byte s _ hb0
 clear hb0 hsz hB ho hne hs
 go_enter Tryd.func49, Tryd.ntmps49
 go_wp2_with (first
  | (go_at_call 58; (with_reducible refine (dbus_zzSigToType.calls _ _ _ _ hz.out).mono ?_); rintro e w2 ⟨rfl, ⟨nd, rfl⟩⟩))
 go_ret
 exact ⟨mkb [c], rfl, rfl, pw_below_drewN (Below.refl _ _) _⟩

set_option maxHeartbeats 1000000 in
theorem dt_array (t : T) (ho : ok t = true) (ih : DT t) : DT (.a t) := by
 intro s w hB hs
 have hb0 := first_of (s := s) (c := 97) (l := txt t) hB
 have hsz := size_pos (s := s) (c := 97) (l := txt t) hB
 obtain ⟨c1, l1, h1, hc1⟩ := txt_head t ho
 have hne := head_ne c1 hc1
 have hb1 : bt s 1 = (c1.toNat : Int) := (bt_drop (s := s) (i := 1) (c := c1) (t := l1) (by rw [hB]; show txt t = _; exact h1)).1
 have h123 : (bt s 1 == 123) = false := beq_eq_false_iff_ne.2 (by rw [hb1]; intro e; exact hne.1 ((byte_eq c1 123 (by omega)).1 e))
 have hpos : 0 < s.size := by rw [hsz]; omega
 have hpos1 : 1 < s.size := by rw [hsz, h1]; simp
 have hx0 := first_byte s 97 hb0
 have hx1 := second_byte s
 have q1 : ((1 : Int) ≤ (s.size : Int)) = True := eq_true (by omega)
 have q2 : (1 ≤ s.size) = True := eq_true (by omega)
 have hB1 : Aside0 (B (s.extract 1 s.size) = txt t) := ⟨by rw [B_from, hB]; rfl⟩
 have hs1 : Aside0 ((s.extract 1 s.size).size ≤ 255) := ⟨by rw [ByteArray.size_extract]; omega⟩
 have IH := Aside0.mk ih
 have htt := gt_len t
 have hsz2 : (txt t).length ≤ 255 := by rw [hsz] at hs; omega
 clear hb0 hsz hB ho hs ih hb1 hne hc1 h1
 go_enter Tryd.func49, Tryd.ntmps49
 go_wp2_with (first
  | (go_at_call 49; (with_reducible refine (DT.go IH.out _ _ hB1.out hs1.out).mono ?_); rintro e w3 ⟨r3, rfl, hr3, hb3⟩; have HR3 := Aside0.mk hr3; have HB3 := Aside0.mk hb3; clear hr3 hb3)
  | (go_at_call 44; (with_reducible refine (dbus_zzSliceOf.calls r3 ((⟨#[91]⟩ : ByteArray) ++ r3) _ (by unfold dbus_zzSliceOf.f; rw [if_pos (by have := congrArg List.length HR3.out; rw [B_length] at this; omega)])).mono ?_); rintro e w4 ⟨rfl, ⟨nd4, rfl⟩⟩))
 go_ret
 exact ⟨_, rfl, by rw [B_append, HR3.out]; rfl, pw_below_drewN HB3.out _⟩

set_option maxHeartbeats 2000000 in
set_option maxRecDepth 100000 in
theorem dt_dict (k : UInt8) (t : T) (hk : basic k = true) (ho : ok t = true) (ih : DT t) : DT (.d k t) := by
 intro s w hB hs
 have hB' : B s = 97 :: 123 :: k :: (txt t ++ [125]) := hB
 have hb0 := first_of (s := s) (c := 97) (l := 123 :: k :: (txt t ++ [125])) hB
 have hsz : s.size = (txt t).length + 3 + 1 := by rw [size_pos (s := s) (c := 97) (l := 123 :: k :: (txt t ++ [125])) hB]; simp
 have hb1 : bt s 1 = 123 := (bt_drop (s := s) (i := 1) (c := 123) (t := k :: (txt t ++ [125])) (by rw [hB']; rfl)).1
 have hpos : 0 < s.size := by omega
 have hpos1 : 1 < s.size := by omega
 have hx0 := first_byte s 97 hb0
 have hx1 : ∀ (h : 1 < s.size), ((s[1]'h).toNat : Int) = 123 := fun h' => (second_byte s h').trans hb1
 have hBk : Aside0 (B (s.extract 2 3) = txt (.b k)) := ⟨by rw [B_extract, hB']; rfl⟩
 have hsk : Aside0 ((s.extract 2 3).size ≤ 255) := ⟨by rw [ByteArray.size_extract]; omega⟩
 have hB1 : Aside0 (B (s.extract 3 (s.size - 1)) = txt t) := ⟨by
  rw [B_extract, hB', hsz]
  show List.take ((txt t).length + 3 + 1 - 1 - 3) (txt t ++ [125]) = _
  rw [show (txt t).length + 3 + 1 - 1 - 3 = (txt t).length from by omega, List.take_left]⟩
 have hs1 : Aside0 ((s.extract 3 (s.size - 1)).size ≤ 255) := ⟨by rw [ByteArray.size_extract]; omega⟩
 have HKL := Aside0.mk (dt_letter k (by rw [hk]; rfl))
 have IH := Aside0.mk ih
 have htt := gt_len t
 have hsz2 : (txt t).length ≤ 255 := by omega
 have hslk : ∀ W : World, (Instr.slice 9 (.string s) (some (.int .i64 2)) (some (.int .i64 3)) none).run Tryd.prog W = .ok (.string (s.extract 2 3)) W := fun W => by
  rw [run_slice_string (P := Tryd.prog) (w := W) 9 s .i64 .i64 2 3 (Tryd.underlying9) (by omega) (by omega) (by omega)]
  rfl
 have hsl3 : ∀ W : World, (Instr.slice 9 (.string s) (some (.int .i64 3)) (some (.int .i64 ((s.size : Int) - 1))) none).run Tryd.prog W = .ok (.string (s.extract 3 (s.size - 1))) W := fun W => by
  rw [run_slice_string (P := Tryd.prog) (w := W) 9 s .i64 .i64 3 ((s.size : Int) - 1) (Tryd.underlying9) (by omega) (by omega) (by omega), show ((s.size : Int) - 1).toNat = s.size - 1 from by omega]
  rfl
 have hw1 : IntKind.i64.wrap ((s.size : Int) - 1) = (s.size : Int) - 1 := IntWalk.i64_in _ (by omega)
 clear hb0 hB hB' ho hs ih hb1 hsz hk
 go_enter Tryd.func49, Tryd.ntmps49
 go_wp2
 refine start_ (n := 11) (S := fun _ => True) (ds := []) #[false, false, false, false, false, false, false, false, false, false, false] (by kernel_rfl) rfl rfl trivial (fun hHeld => ?_); refine with_tabW tab49_4 bits49_4 (fun HT_ HW_ => ?_)
 refine pure_ (i := 0) (N := some 20) (v := ?_) (a' := ?_) #[true, false, false, false, false, false, false, false, false, false, false] rfl rfl (any_of HT_.out (by kernel_rfl)) (fun _ _ _ h => h) (Or.inl ⟨by rfl, ?_⟩) ?_ ?_
 rotate_left
 ·intro w_
  go_simp
  with_reducible rfl
 rotate_left
 ·simp only [Act.put, List.setIfInBounds_toArray, List.set_cons_zero, List.set_cons_succ, i64_w, i32_w]
  rfl
 refine pure_ (i := 1) (N := some 21) (v := ?_) (a' := ?_) #[true, true, false, false, false, false, false, false, false, false, false] rfl rfl (any_of HT_.out (by kernel_rfl)) (fun _ _ _ h => h) (Or.inl ⟨by rfl, ?_⟩) ?_ ?_
 rotate_left
 ·intro w_
  go_simp
  with_reducible rfl
 rotate_left
 ·simp only [Act.put, List.setIfInBounds_toArray, List.set_cons_zero, List.set_cons_succ, i64_w, i32_w]
  rfl
 refine pure_ (i := 3) (N := some 23) (v := ?_) (a' := ?_) #[true, true, false, true, false, false, false, false, false, false, false] rfl rfl (any_of HT_.out (by kernel_rfl)) (fun _ _ _ h => h) (Or.inl ⟨by rfl, ?_⟩) ?_ ?_
 rotate_left
 ·intro w_
  go_simp
  with_reducible rfl
 rotate_left
 ·simp only [Act.put, List.setIfInBounds_toArray, List.set_cons_zero, List.set_cons_succ, i64_w, i32_w]
  rfl
 refine pure_ (i := 4) (N := some 24) (v := ?_) (a' := ?_) #[true, true, false, true, true, false, false, false, false, false, false] rfl rfl (any_of HT_.out (by kernel_rfl)) (fun _ _ _ h => h) (Or.inl ⟨by rfl, ?_⟩) ?_ ?_
 rotate_left
 ·intro w_
  go_simp
  with_reducible rfl
 rotate_left
 ·simp only [Act.put, List.setIfInBounds_toArray, List.set_cons_zero, List.set_cons_succ, i64_w, i32_w]
  rfl
 refine pure_ (i := 5) (N := some 25) (v := ?_) (a' := ?_) #[true, true, false, true, true, true, false, false, false, false, false] rfl rfl (any_of HT_.out (by kernel_rfl)) (fun _ _ _ h => h) (Or.inl ⟨by rfl, ?_⟩) ?_ ?_
 rotate_left
 ·intro w_
  go_simp
  with_reducible rfl
 rotate_left
 ·simp only [Act.put, List.setIfInBounds_toArray, List.set_cons_zero, List.set_cons_succ, i64_w, i32_w]
  rfl
 refine pure_ (i := 6) (N := some 26) (v := ?_) (a' := ?_) #[true, true, false, true, true, true, true, false, false, false, false] rfl rfl (any_of HT_.out (by kernel_rfl)) (fun _ _ _ h => h) (Or.inl ⟨by rfl, ?_⟩) ?_ ?_
 rotate_left
 ·intro w_
  go_simp
  with_reducible rfl
 rotate_left
 ·simp only [Act.put, List.setIfInBounds_toArray, List.set_cons_zero, List.set_cons_succ, i64_w, i32_w]
  rfl
 refine pure_ (i := 7) (N := some 27) (v := ?_) (a' := ?_) #[true, true, false, true, true, true, true, true, false, false, false] rfl rfl (any_of HT_.out (by kernel_rfl)) (fun _ _ _ h => h) (Or.inl ⟨by rfl, ?_⟩) ?_ ?_
 rotate_left
 ·intro w_
  go_simp
  with_reducible rfl
 rotate_left
 ·simp only [Act.put, List.setIfInBounds_toArray, List.set_cons_zero, List.set_cons_succ, i64_w, i32_w]
  rfl
 refine one_ (i := 2) (N := some 22) #[true, true, true, true, true, true, true, true, false, false, false] rfl rfl (one_of HT_.out (by kernel_rfl)) (by decide) (fun K hK => ?_)
 refine goes_ Tryd.func49 (by kernel_rfl) rfl #[.string (s.extract 2 3)] (by rfl) rfl rfl (by (try simp only [List.map_toArray, List.map_cons, List.map_nil]); first | done | rfl) ?_
 with_reducible refine (DT.go HKL.out _ _ hBk.out hsk.out).mono ?_
 rintro e w2 ⟨rk, rfl, hrk, hbk⟩
 have HRK := Aside0.mk hrk
 have HBK := Aside0.mk hbk
 clear hrk hbk
 refine ⟨_, rfl, ?_⟩
 refine hK.out _ _ trivial (fun hHeld => ?_)
 clear hK K
 refine norm_ (a' := ?_) ?_ ?_
 rotate_left
 ·show Act.put _ (some 22) _ = _
  simp only [Act.put, List.setIfInBounds_toArray, List.set_cons_zero, List.set_cons_succ, i64_w, i32_w]
  rfl
 refine one_ (i := 8) (N := some 28) #[true, true, true, true, true, true, true, true, true, false, false] rfl rfl (one_of HT_.out (by kernel_rfl)) (by decide) (fun K hK => ?_)
 refine goes_ Tryd.func49 (by kernel_rfl) rfl #[.string (s.extract 3 (s.size - 1))] (by rfl) rfl rfl (by (try simp only [List.map_toArray, List.map_cons, List.map_nil]); first | done | rfl) ?_
 with_reducible refine (DT.go IH.out _ _ hB1.out hs1.out).mono ?_
 rintro e w3 ⟨r3, rfl, hr3, hb3⟩
 have HR3 := Aside0.mk hr3
 have HB3 := Aside0.mk hb3
 clear hr3 hb3
 refine ⟨_, rfl, ?_⟩
 refine hK.out _ _ trivial (fun hHeld => ?_)
 clear hK K
 refine norm_ (a' := ?_) ?_ ?_
 rotate_left
 ·show Act.put _ (some 28) _ = _
  simp only [Act.put, List.setIfInBounds_toArray, List.set_cons_zero, List.set_cons_succ, i64_w, i32_w]
  rfl
 refine one_ (i := 9) (N := some 29) #[true, true, true, true, true, true, true, true, true, true, false] rfl rfl (one_of HT_.out (by kernel_rfl)) (by decide) (fun K hK => ?_)
 refine goes_ Tryd.func45 (by kernel_rfl) rfl #[.string rk, .string r3] (by rfl) rfl rfl (by (try simp only [List.map_toArray, List.map_cons, List.map_nil]); first | done | rfl) ?_
 with_reducible refine (dbus_zzMapOf.calls rk r3 (((⟨#[123]⟩ : ByteArray) ++ rk) ++ r3) _ (map_is rk r3 (by have := congrArg List.length HRK.out; rw [B_length] at this; simp only [gt, List.length_singleton] at this; omega) (by have := congrArg List.length HR3.out; rw [B_length] at this; omega))).mono ?_
 rintro e w4 ⟨rfl, ⟨nd4, rfl⟩⟩
 refine ⟨_, rfl, ?_⟩
 refine hK.out _ _ trivial (fun hHeld => ?_)
 clear hK K
 refine norm_ (a' := ?_) ?_ ?_
 rotate_left
 ·show Act.put _ (some 29) _ = _
  simp only [Act.put, List.setIfInBounds_toArray, List.set_cons_zero, List.set_cons_succ, i64_w, i32_w]
  rfl
 refine pure_ (i := 10) (N := some 2) (v := ?_) (a' := ?_) #[true, true, true, true, true, true, true, true, true, true, true] rfl rfl (any_of HT_.out (by kernel_rfl)) (fun _ _ _ h => h) (Or.inl ⟨by rfl, ?_⟩) ?_ ?_
 rotate_left
 ·intro w_
  go_simp
  with_reducible rfl
 rotate_left
 ·simp only [Act.put, List.setIfInBounds_toArray, List.set_cons_zero, List.set_cons_succ, i64_w, i32_w]
  rfl
 refine done_ (done_of HT_.out (by kernel_rfl)) ?_
 go_wp2
 go_ret
 exact ⟨_, rfl, by rw [B_append, B_append, HRK.out, HR3.out]; rfl, by repeat (first | exact HBK.out | apply pw_below_drewN | refine below_step ?_ HB3.out | refine below_step ?_ HBK.out | apply below_drew1 | exact Below.refl _ _)⟩

/-- What each type of a list has. -/
def All (P : T → Prop) : Ts → Prop
 | .nil => True
 | .more t ts => P t ∧ All P ts
def strLen : Value → Nat
 | .string s => s.size
 | _ => 0

set_option maxHeartbeats 4000000 in
set_option maxRecDepth 100000 in
theorem dt_struct (ts : Ts) (hno : ne ts = true) (ho : oks ts = true) (hf : fitss ts 32 32 32 = true) (ih : All DT ts) : DT (.s ts) := by
 intro s w hB hs
 have hB' : B s = 40 :: (txts ts ++ [41]) := hB
 have hb0 := first_of (s := s) (c := 40) (l := txts ts ++ [41]) hB
 have hsz : s.size = (txts ts).length + 1 + 1 := by rw [size_pos (s := s) (c := 40) (l := txts ts ++ [41]) hB]; simp
 have hpos : 0 < s.size := by omega
 have hx0 := first_byte s 40 hb0
 obtain ⟨r0, hr0⟩ : ∃ r0, r0 = s.extract 1 (s.size - 1) := ⟨_, rfl⟩
 have hR0 : B r0 = txts ts := by
  rw [hr0, B_extract, hB', hsz]
  show List.take ((txts ts).length + 1 + 1 - 1 - 1) (txts ts ++ [41]) = _
  rw [show (txts ts).length + 1 + 1 - 1 - 1 = (txts ts).length from by omega, List.take_left]
 have hsl : ∀ W : World, (Instr.slice 9 (.string s) (some (.int .i64 1)) (some (.int .i64 ((s.size : Int) - 1))) none).run Tryd.prog W = .ok (.string r0) W := fun W => by
  rw [run_slice_string (P := Tryd.prog) (w := W) 9 s .i64 .i64 1 ((s.size : Int) - 1) (Tryd.underlying9) (by omega) (by omega) (by omega), show ((s.size : Int) - 1).toNat = s.size - 1 from by omega, hr0]
  rfl
 have hL0 : (txts ts).length ≤ 253 := by omega
 have hst : Aside0 (∃ tl : Ts, B r0 = txts tl ∧ oks tl = true ∧ fitss tl 32 32 32 = true ∧ All DT tl ∧ gts ts = gts .nil ++ gts tl ∧ (gts (.nil : Ts)).length + (txts tl).length ≤ 253) := ⟨ts, hR0, ho, hf, ih, rfl, by simp [gts]; omega⟩
 have hg := gts_len ts
 clear hb0 hsz hB hB' ho hf ih hno hr0 hR0
 go_enter Tryd.func49, Tryd.ntmps49
 go_wp2
 go_loopw [3, 4] (fun v3 v4 wr => ∃ (acc rest : ByteArray) (dn : List UInt8), v3 = .string acc ∧ v4 = .string rest ∧ Aside0 (B acc = 40 :: dn) ∧ Aside0 (∃ tl : Ts, B rest = txts tl ∧ oks tl = true ∧ fitss tl 32 32 32 = true ∧ All DT tl ∧ gts ts = dn ++ gts tl ∧ dn.length + (txts tl).length ≤ 253) ∧ Aside0 (Below w.heap.size w wr)) (fun _ v4 _ => strLen v4)
 case atStart => exact ⟨⟨#[40]⟩, r0, [], rfl, rfl, ⟨rfl⟩, hst, ⟨Below.refl _ _⟩⟩
 case round =>
  obtain ⟨acc, rest, dn, rfl, rfl, HA, HT, HB⟩ := hrel
  obtain ⟨tl, h1, h2, h3, h4, h5, h6⟩ := HT.out
  cases tl with
  | nil =>
   have h0 : rest.size = 0 := by rw [← B_length, h1]; rfl
   have hn : rest.toList = [] := B_nil.2 h1
   have n1 : (rest.toList == ([] : List UInt8)) = true := beq_iff_eq.2 hn
   have n2 : (rest.toList != ([] : List UInt8)) = false := by rw [bne, n1]; rfl
   have hac : acc.size ≤ 300 := by rw [← B_length, HA.out]; simp only [List.length_cons]; omega
   have H5 := Aside0.mk h5
   clear hn h0 h1 h2 h3 h4 h5 HT hst
   go_wp2
   go_ret
   exact ⟨_, rfl, by rw [B_append, HA.out]; show 40 :: dn ++ [41] = 40 :: (gts ts ++ [41]); rw [H5.out]; simp [gts], HB.out⟩
  | more t tl =>
   have hto : ok t = true ∧ oks tl = true := by simpa [oks] using h2
   have htf : fits t 32 32 32 = true ∧ fitss tl 32 32 32 = true := by simpa [fitss] using h3
   have hp := txt_pos t
   have hl : rest.size = (txt t).length + (txts tl).length := by rw [← B_length, h1]; simp [txts]
   have hl6 : dn.length + ((txt t).length + (txts tl).length) ≤ 253 := by simpa [txts] using h6
   have n1 := ne_str (a := rest) (by omega)
   have n2 := ne_str2 (a := rest) (by omega)
   have hac : acc.size ≤ 300 := by rw [← B_length, HA.out]; simp only [List.length_cons]; omega
   have hrs : Aside0 (rest.size ≤ 255) := ⟨by omega⟩
   have H1 : Aside0 (B rest = txt t ++ txts tl) := ⟨h1⟩
   have HO := Aside0.mk hto
   have HF := Aside0.mk htf
   have H4 : Aside0 (DT t ∧ All DT tl) := ⟨h4⟩
   have H5 : Aside0 (gts ts = dn ++ (gt t ++ gts tl)) := ⟨h5⟩
   have H6 := Aside0.mk hl6
   have hgt := gt_len t
   have HL := Aside0.mk hl
   have HP := Aside0.mk hp
   clear h1 h2 h3 h4 h5 h6 hto htf hl HT hst hp hl6
   go_wp2_with (first
    | (go_at_call 57; (with_reducible refine (doorOne t (txts tl) rest _ HO.out.1 HF.out.1 H1.out hrs.out).mono ?_); rintro e w2 ⟨a, b, rfl, ha, hb, hb2⟩; have HAA := Aside0.mk ha; have HBB := Aside0.mk hb; have HB2 := Aside0.mk hb2; clear ha hb hb2)
    | (go_at_call 49; (with_reducible refine (DT.go H4.out.1 a _ HAA.out (by rw [← B_length, HAA.out]; have := H6.out; omega)).mono ?_); rintro e w3 ⟨r3, rfl, hr3, hb3⟩; have HR3 := Aside0.mk hr3; have HB3 := Aside0.mk hb3; have hr3s : r3.size ≤ 255 := (by rw [← B_length, HR3.out]; have := H6.out; omega); clear hr3 hb3))
   go_roundw
   case rel => exact ⟨_, _, dn ++ gt t, rfl, rfl, ⟨by rw [B_append, HA.out, HR3.out]; rfl⟩, ⟨tl, HBB.out, HO.out.2, HF.out.2, H4.out.2, by rw [H5.out, List.append_assoc], by rw [List.length_append]; have := H6.out; omega⟩, ⟨below_step (below_step HB.out HB2.out) HB3.out⟩⟩
   case measure =>
    have e1 : b.size = (txts tl).length := by rw [← B_length, HBB.out]
    have := HL.out
    have := HP.out
    simp only [strLen]
    omega

mutual
theorem fits_mono : ∀ (t : T) (x y z x' y' z' : Int), x ≤ x' → y ≤ y' → z ≤ z' → fits t x y z = true → fits t x' y' z' = true
 | .b c, x, y, z, x', y', z', hx, hy, hz, h => by
  simp only [fits, room, Bool.and_eq_true, decide_eq_true_eq] at h ⊢; omega
 | .d k t, x, y, z, x', y', z', hx, hy, hz, h => by
  simp only [fits, room, Bool.and_eq_true, decide_eq_true_eq] at h ⊢
  exact ⟨by omega, fits_mono t _ _ _ _ _ _ (by omega) hy (by omega) h.2⟩
 | .a t, x, y, z, x', y', z', hx, hy, hz, h => by
  simp only [fits, room, Bool.and_eq_true, decide_eq_true_eq] at h ⊢
  exact ⟨by omega, fits_mono t _ _ _ _ _ _ (by omega) hy hz h.2⟩
 | .s ts, x, y, z, x', y', z', hx, hy, hz, h => by
  simp only [fits, room, Bool.and_eq_true, decide_eq_true_eq] at h ⊢
  exact ⟨by omega, fitss_mono ts _ _ _ _ _ _ hx (by omega) hz h.2⟩
theorem fitss_mono : ∀ (ts : Ts) (x y z x' y' z' : Int), x ≤ x' → y ≤ y' → z ≤ z' → fitss ts x y z = true → fitss ts x' y' z' = true
 | .nil, x, y, z, x', y', z', hx, hy, hz, h => rfl
 | .more t ts, x, y, z, x', y', z', hx, hy, hz, h => by
  simp only [fitss, Bool.and_eq_true] at h ⊢
  exact ⟨fits_mono t _ _ _ _ _ _ hx hy hz h.1, fitss_mono ts _ _ _ _ _ _ hx hy hz h.2⟩
end
theorem fits_a {t : T} (h : fits (.a t) 32 32 32 = true) : fits t 32 32 32 = true := by
 simp only [fits, Bool.and_eq_true] at h
 exact fits_mono t _ _ _ _ _ _ (by omega) (by omega) (by omega) h.2
theorem fits_d {k : UInt8} {t : T} (h : fits (.d k t) 32 32 32 = true) : fits t 32 32 32 = true := by
 simp only [fits, Bool.and_eq_true] at h
 exact fits_mono t _ _ _ _ _ _ (by omega) (by omega) (by omega) h.2
theorem fits_s {ts : Ts} (h : fits (.s ts) 32 32 32 = true) : fitss ts 32 32 32 = true := by
 simp only [fits, Bool.and_eq_true] at h
 exact fitss_mono ts _ _ _ _ _ _ (by omega) (by omega) (by omega) h.2

mutual
/-- doorType, at every type. -/
theorem doorType : ∀ (t : T), ok t = true → fits t 32 32 32 = true → DT t
 | .b c, ho, hf => dt_letter c (by simpa [ok] using ho)
 | .a t, ho, hf => dt_array t (by simpa [ok] using ho) (doorType t (by simpa [ok] using ho) (fits_a hf))
 | .d k t, ho, hf => dt_dict k t (by simp [ok] at ho; exact ho.1) (by simp [ok] at ho; exact ho.2) (doorType t (by simp [ok] at ho; exact ho.2) (fits_d hf))
 | .s ts, ho, hf => dt_struct ts (by simp [ok] at ho; exact ho.1) (by simp [ok] at ho; exact ho.2) (fits_s hf) (doorTypes ts (by simp [ok] at ho; exact ho.2) (fits_s hf))
theorem doorTypes : ∀ (ts : Ts), oks ts = true → fitss ts 32 32 32 = true → All DT ts
 | .nil, ho, hf => trivial
 | .more t ts, ho, hf => ⟨doorType t (by simp [oks] at ho; exact ho.1) (by simp [fitss] at hf; exact hf.1), doorTypes ts (by simp [oks] at ho; exact ho.2) (by simp [fitss] at hf; exact hf.2)⟩
end
end Go.Proofs.YtoaehanfknjngaaDoor.Dt
