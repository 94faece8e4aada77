/-
The type of a signature, and whether it can be a key: told by walks, for signatures that are one complete type.
-/
import Derived.Test.YtlnkgifpiinnoaaSg
import Derived.Test.YtlnkgifpiinnoaaL1
import Derived.Test.YtlnkgifpiinnoaaL2
import Derived.Defers
import Derived.Recover
import Derived.Laws.Pointers
import Derived.Outline
namespace Go.Proofs.Ytlnkgifpiinnoaa.Ky
set_option linter.unusedVariables false
set_option linter.unusedSimpArgs false
open Go.RowKit Go.Proofs.Ytlnkgifpiinnoaa.Ext Go.Proofs.Ytlnkgifpiinnoaa.L Go.Proofs.YtlnkgifpiinnoaaW.PrintWords Go.Proofs.YtlnkgifpiinnoaaW.PrintLast Go.Proofs.YtlnkgifpiinnoaaW.PrintMore
open Go.Proofs.Ytlnkgifpiinnoaa.Com Go.Proofs.Ytlnkgifpiinnoaa.Tree Go.Proofs.Ytlnkgifpiinnoaa.Sg

/-- The text of a type's Go type. -/
def tt : T → List UInt8
  | .b c => [c]
  | .d k t => 123 :: k :: tt t
  | .a t => 91 :: tt t
  | .s _ => [91, 42]

def mkb (l : List UInt8) : ByteArray := ⟨l.toArray⟩
theorem B_mkb (l : List UInt8) : B (mkb l) = l := rfl

theorem tt_len : ∀ t : T, (tt t).length ≤ (txt t).length
  | .b _ => Nat.le_refl _
  | .d k t => by have := tt_len t; simp only [tt, txt, List.length_cons, List.length_append]; omega
  | .a t => by have := tt_len t; simp only [tt, txt, List.length_cons]; omega
  | .s ts => by simp [tt, txt]

theorem zz_letter (c : UInt8) (h : (basic c || c == 118) = true) : dbus_zzSigToType.f (c.toNat : Int) = some (mkb [c], true) := by
  have H : ∀ n : Fin 256, (basic (UInt8.ofNat n.val) || UInt8.ofNat n.val == 118) = true → dbus_zzSigToType.f (n.val : Int) = some (mkb [UInt8.ofNat n.val], true) := by decide +kernel
  have := H ⟨c.toNat, c.toNat_lt⟩
  simp only [UInt8.ofNat_toNat] at this
  exact this h

theorem vs_tree (t : T) (s : ByteArray) (ho : ok t = true) (hf : fits t 32 32 32 = true) (hB : B s = txt t) : ∃ K r, vs K s 0 0 0 = some (true, r) := by
  obtain ⟨r, hr, _⟩ := (read_tree (txt t).length).1 t s [] 0 0 0 (Nat.le_refl _) ho (by rw [hB, List.append_nil])
  have e : fits t (32 - 0) (32 - 0) (32 - 0) = true := hf
  rw [e] at hr
  obtain ⟨K, hK⟩ := hr
  exact ⟨K, r, hK K (Nat.le_refl _)⟩

def TPost (t : T) (w : World) (e : Ending) (w' : World) : Prop := ∃ r : ByteArray, e = .returned (.string r) ∧ B r = tt t ∧ Below w.heap.size w w'

theorem nil_ev {ev : Value} (h : EB ev true) : ev = .nilIface := h

set_option maxHeartbeats 1000000 in
theorem tf_letter (c : UInt8) (s : ByteArray) (w : World) (ho : ok (.b c) = true) (hf : fits (.b c) 32 32 32 = true) (hB : B s = txt (.b c)) :
    Calls Try.prog 20 #[.string s] w (TPost (.b c) w) := by
  obtain ⟨K, r, hv⟩ := vs_tree (.b c) s ho hf hB
  have hb0 := first_of (s := s) (c := c) (l := []) hB
  have hsz := size_pos (s := s) (c := c) (l := []) hB
  have hz := Aside0.mk (zz_letter c ho)
  have HV := Aside0.mk hv
  have hpos : 0 < s.size := by rw [hsz]; omega
  have hx0 := first_byte s _ hb0
  have hle : Aside0 (s.size ≤ 4294967296) := ⟨by rw [hsz]; simp⟩
  clear hv hb0 hsz hf hB ho
  go_enter Try.func20, Try.ntmps20
  go_wp2_with (first
    | (go_at_call 28; refine (Reads.go (Reads.all K) s 0 0 0 w.heap.size true r _ HV.out (Dep.new _ _ _ _) (by omega) (by omega) (by omega) (by omega) (by omega) (by omega) hle.out).mono ?_; rintro e w' ⟨ev, rfl, hev, hb⟩; obtain rfl := nil_ev hev; have HB := Aside0.mk hb; clear hb hev)
    | (go_at_call 29; refine (dbus_zzSigToType.calls _ _ _ _ hz.out).mono ?_; rintro e w2 ⟨rfl, ⟨nd, rfl⟩⟩))
  go_ret
  exact ⟨mkb [c], rfl, rfl, pw_below_drewN (below_step (below_alloc (Below.refl _ _) _) HB.out) _⟩

set_option maxHeartbeats 1000000 in
theorem tf_struct (ts : Ts) (s : ByteArray) (w : World) (ho : ok (.s ts) = true) (hf : fits (.s ts) 32 32 32 = true) (hB : B s = txt (.s ts)) (hs : s.size ≤ 255) :
    Calls Try.prog 20 #[.string s] w (TPost (.s ts) w) := by
  obtain ⟨K, r, hv⟩ := vs_tree (.s ts) s ho hf hB
  have hb0 := first_of (s := s) (c := 40) (l := txts ts ++ [41]) hB
  have hsz := size_pos (s := s) (c := 40) (l := txts ts ++ [41]) hB
  have hz : Aside0 (dbus_zzSigToType.f (40 : Int) = some (⟨#[]⟩, false)) := ⟨by decide +kernel⟩
  have HV := Aside0.mk hv
  have hpos : 0 < s.size := by rw [hsz]; omega
  have hx0 := first_byte s 40 hb0
  have hle : Aside0 (s.size ≤ 4294967296) := ⟨by omega⟩
  clear hv hb0 hsz hf hB ho hs
  go_enter Try.func20, Try.ntmps20
  go_wp2_with (first
    | (go_at_call 28; refine (Reads.go (Reads.all K) s 0 0 0 w.heap.size true r _ HV.out (Dep.new _ _ _ _) (by omega) (by omega) (by omega) (by omega) (by omega) (by omega) hle.out).mono ?_; rintro e w' ⟨ev, rfl, hev, hb⟩; obtain rfl := nil_ev hev; have HB := Aside0.mk hb; clear hb hev)
    | (go_at_call 29; refine (dbus_zzSigToType.calls _ _ _ _ hz.out).mono ?_; rintro e w2 ⟨rfl, ⟨nd, rfl⟩⟩))
  go_ret
  exact ⟨mkb [91, 42], rfl, rfl, pw_below_drewN (below_step (below_alloc (Below.refl _ _) _) HB.out) _⟩

set_option maxHeartbeats 1000000 in
theorem tf_array (t : T) (ih : ∀ (s : ByteArray) (w : World), B s = txt t → s.size ≤ 255 → Calls Try.prog 20 #[.string s] w (TPost t w)) (s : ByteArray) (w : World) (ho : ok (.a t) = true) (hf : fits (.a t) 32 32 32 = true) (hB : B s = txt (.a t)) (hs : s.size ≤ 255) :
    Calls Try.prog 20 #[.string s] w (TPost (.a t) w) := by
  obtain ⟨K, r, hv⟩ := vs_tree (.a t) s ho hf hB
  have hb0 := first_of (s := s) (c := 97) (l := txt t) hB
  have hsz := size_pos (s := s) (c := 97) (l := txt t) hB
  obtain ⟨c1, l1, h1, hc1⟩ := txt_head t ho
  have hne := head_ne c1 hc1
  have hb1 : bt s 1 = (c1.toNat : Int) := (bt_drop (s := s) (i := 1) (c := c1) (t := l1) (by rw [hB]; show txt t = _; exact h1)).1
  have h123 : (bt s 1 == 123) = false := beq_eq_false_iff_ne.2 (by rw [hb1]; intro e; exact hne.1 ((byte_eq c1 123 (by omega)).1 e))
  have hz : Aside0 (dbus_zzSigToType.f (97 : Int) = some (⟨#[]⟩, false)) := ⟨by decide +kernel⟩
  have HV := Aside0.mk hv
  have hpos : 0 < s.size := by rw [hsz]; omega
  have hpos1 : 1 < s.size := by rw [hsz, h1]; simp
  have hx0 := first_byte s 97 hb0
  have hx1 := second_byte s
  have hle : Aside0 (s.size ≤ 4294967296) := ⟨by omega⟩
  have q1 : ((1 : Int) ≤ (s.size : Int)) = True := eq_true (by omega)
  have q2 : (1 ≤ s.size) = True := eq_true (by omega)
  have hB1 : Aside0 (B (s.extract 1 s.size) = txt t) := ⟨by rw [B_from, hB]; rfl⟩
  have hs1 : Aside0 ((s.extract 1 s.size).size ≤ 255) := ⟨by rw [ByteArray.size_extract]; omega⟩
  have IH := Aside0.mk ih
  have htt := tt_len t
  have hsz2 : (txt t).length ≤ 255 := by rw [hsz] at hs; omega
  clear hv hb0 hsz hf hB ho hs ih hb1 hne hc1 h1
  go_enter Try.func20, Try.ntmps20
  go_wp2_with (first
    | (go_at_call 28; refine (Reads.go (Reads.all K) s 0 0 0 w.heap.size true r _ HV.out (Dep.new _ _ _ _) (by omega) (by omega) (by omega) (by omega) (by omega) (by omega) hle.out).mono ?_; rintro e w' ⟨ev, rfl, hev, hb⟩; obtain rfl := nil_ev hev; have HB := Aside0.mk hb; clear hb hev)
    | (go_at_call 29; refine (dbus_zzSigToType.calls _ _ _ _ hz.out).mono ?_; rintro e w2 ⟨rfl, ⟨nd, rfl⟩⟩)
    | (go_at_call 20; refine (IH.out _ _ hB1.out hs1.out).mono ?_; rintro e w3 ⟨r3, rfl, hr3, hb3⟩; have HR3 := Aside0.mk hr3; have HB3 := Aside0.mk hb3; clear hr3 hb3)
    | (go_at_call 32; refine (dbus_zzSliceOf.calls r3 ((⟨#[91]⟩ : ByteArray) ++ r3) _ (by unfold dbus_zzSliceOf.f; rw [if_pos (by have := congrArg List.length HR3.out; rw [B_length] at this; omega)])).mono ?_; rintro e w4 ⟨rfl, ⟨nd4, rfl⟩⟩))
  go_ret
  exact ⟨_, rfl, by rw [B_append, HR3.out]; rfl, pw_below_drewN (below_step (pw_below_drewN (below_step (below_alloc (Below.refl _ _) _) HB.out) _) HB3.out) _⟩

theorem last_is (s : ByteArray) (m : Nat) (hs : s.size = m + 1) (hm : m ≤ 255) (hb : bt s (m : Int) = 125) : strings_LastIndexByte.f 3 s 125 = some (m : Int) := by
  unfold strings_LastIndexByte.f bytealg_LastIndexByteString.f
  have hw : wrap64 ((s.size : Int) - 1) = (m : Int) := by rw [wrap_of (by omega) (by omega)]; omega
  rw [hw, bytealg_LastIndexByteString.l0, if_pos (by omega), if_pos (by omega), if_pos (by omega), if_pos hb]
  rfl

theorem map_is (k : UInt8) (r : ByteArray) (h : r.size ≤ 300) : dbus_zzMapOf.f (mkb [k]) r = some (((⟨#[123]⟩ : ByteArray) ++ mkb [k]) ++ r) := by
  have z1 : (mkb [k]).size = 1 := rfl
  have z2 : ((⟨#[123]⟩ : ByteArray) ++ mkb [k]).size = 2 := by rw [ByteArray.size_append]; rfl
  unfold dbus_zzMapOf.f
  rw [z1, if_pos (by omega), z2, if_pos (by omega)]

set_option maxHeartbeats 2000000 in
theorem tf_dict (k : UInt8) (t : T) (ih : ∀ (s : ByteArray) (w : World), B s = txt t → s.size ≤ 255 → Calls Try.prog 20 #[.string s] w (TPost t w)) (s : ByteArray) (w : World) (ho : ok (.d k t) = true) (hf : fits (.d k t) 32 32 32 = true) (hB : B s = txt (.d k t)) (hs : s.size ≤ 255) :
    Calls Try.prog 20 #[.string s] w (TPost (.d k t) w) := by
  obtain ⟨K, r, hv⟩ := vs_tree (.d k t) s ho hf hB
  have hB' : B s = 97 :: 123 :: k :: (txt t ++ [125]) := hB
  have hb0 := first_of (s := s) (c := 97) (l := 123 :: k :: (txt t ++ [125])) hB
  have hsz : s.size = (txt t).length + 3 + 1 := by rw [size_pos (s := s) (c := 97) (l := 123 :: k :: (txt t ++ [125])) hB]; simp
  have hb1 : bt s 1 = 123 := (bt_drop (s := s) (i := 1) (c := 123) (t := k :: (txt t ++ [125])) (by rw [hB']; rfl)).1
  have hb2 : bt s 2 = (k.toNat : Int) := (bt_drop (s := s) (i := 2) (c := k) (t := txt t ++ [125]) (by rw [hB']; rfl)).1
  have hbm : bt s (((txt t).length + 3 : Nat) : Int) = 125 := (bt_drop (s := s) (i := (txt t).length + 3) (c := 125) (t := []) (by
    rw [hB', show (txt t).length + 3 = 3 + (txt t).length from by omega, ← List.drop_drop]
    show List.drop (txt t).length (txt t ++ [125]) = [125]
    rw [List.drop_left])).1
  have hz : Aside0 (dbus_zzSigToType.f (97 : Int) = some (⟨#[]⟩, false)) := ⟨by decide +kernel⟩
  have hok : basic k = true ∧ ok t = true := by simpa [ok] using ho
  have hzk : Aside0 (dbus_zzSigToType.f (k.toNat : Int) = some (mkb [k], true)) := ⟨zz_letter k (by rw [hok.1]; rfl)⟩
  have HL := Aside0.mk (last_is s _ hsz (by omega) hbm)
  have HV := Aside0.mk hv
  have hpos : 0 < s.size := by omega
  have hpos1 : 1 < s.size := by omega
  have hpos2 : 2 < s.size := by omega
  have hx0 := first_byte s 97 hb0
  have hx1 : ∀ (h : 1 < s.size), ((s[1]'h).toNat : Int) = 123 := fun h' => (second_byte s h').trans hb1
  have hx2 : ∀ (h : 2 < s.size), ((s[2]'h).toNat : Int) = (k.toNat : Int) := fun h' => (bt_at s 2 h').trans hb2
  have hle : Aside0 (s.size ≤ 4294967296) := ⟨by omega⟩
  obtain ⟨m, hm⟩ : ∃ m : Nat, m = (txt t).length + 3 := ⟨_, rfl⟩
  rw [← hm] at HL hsz
  have hB1 : Aside0 (B (s.extract 3 m) = txt t) := ⟨by
    rw [B_extract, hB', hm]
    show List.take ((txt t).length + 3 - 3) (txt t ++ [125]) = _
    rw [Nat.add_sub_cancel, List.take_left]⟩
  have hs1 : Aside0 ((s.extract 3 m).size ≤ 255) := ⟨by rw [ByteArray.size_extract]; omega⟩
  have IH := Aside0.mk ih
  have htt := tt_len t
  have hsz2 : (txt t).length ≤ 255 := by omega
  have q1 : ((3 : Int) ≤ (m : Int)) = True := eq_true (by omega)
  have q2 : ((m : Int) ≤ (s.size : Int)) = True := eq_true (by omega)
  have q3 : (3 ≤ m) = True := eq_true (by omega)
  have q4 : (m ≤ s.size) = True := eq_true (by omega)
  clear hv hb0 hf hB hB' ho hs ih hb1 hb2 hbm hok hm hsz
  go_enter Try.func20, Try.ntmps20
  go_wp2_with (first
    | (go_at_call 28; (with_reducible refine (Reads.go (Reads.all K) s 0 0 0 w.heap.size true r _ HV.out (Dep.new _ _ _ _) (by omega) (by omega) (by omega) (by omega) (by omega) (by omega) hle.out).mono ?_); rintro e w' ⟨ev, rfl, hev, hb⟩; obtain rfl := nil_ev hev; have HB := Aside0.mk hb; clear hb hev)
    | (go_at_call 29; (with_reducible refine (dbus_zzSigToType.calls _ _ _ _ hz.out).mono ?_); rintro e w2 ⟨rfl, ⟨nd, rfl⟩⟩)
    | (go_at_call 29; (with_reducible refine (dbus_zzSigToType.calls _ _ _ _ hzk.out).mono ?_); rintro e w2 ⟨rfl, ⟨ndk, rfl⟩⟩)
    | (go_at_call 30; (with_reducible refine (strings_LastIndexByte.calls 3 _ _ _ _ HL.out).mono ?_); rintro e w2 ⟨rfl, ⟨ndl, rfl⟩⟩)
    | (go_at_call 20; refine (IH.out _ _ hB1.out hs1.out).mono ?_; rintro e w3 ⟨r3, rfl, hr3, hb3⟩; have HR3 := Aside0.mk hr3; have HB3 := Aside0.mk hb3; clear hr3 hb3)
    | (go_at_call 31; (with_reducible refine (dbus_zzMapOf.calls (mkb [k]) r3 (((⟨#[123]⟩ : ByteArray) ++ mkb [k]) ++ r3) _ (map_is k r3 (by have := congrArg List.length HR3.out; rw [B_length] at this; omega))).mono ?_); rintro e w4 ⟨rfl, ⟨nd4, rfl⟩⟩))
  go_ret
  exact ⟨_, rfl, by rw [B_append, B_append, HR3.out]; rfl, by repeat (first | exact HB3.out | apply pw_below_drewN | refine below_step ?_ HB3.out | refine below_step ?_ HB.out | exact below_alloc (Below.refl _ _) _)⟩

mutual
theorem fits_mono : ∀ (t : T) (x y z x' y' z' : Int), x ≤ x' → y ≤ y' → z ≤ z' → fits t x y z = true → fits t x' y' z' = true
  | .b c, x, y, z, x', y', z', hx, hy, hz, h => by
    simp only [fits, room, Bool.and_eq_true, decide_eq_true_eq] at h ⊢; omega
  | .d k t, x, y, z, x', y', z', hx, hy, hz, h => by
    simp only [fits, room, Bool.and_eq_true, decide_eq_true_eq] at h ⊢
    exact ⟨by omega, fits_mono t _ _ _ _ _ _ (by omega) hy (by omega) h.2⟩
  | .a t, x, y, z, x', y', z', hx, hy, hz, h => by
    simp only [fits, room, Bool.and_eq_true, decide_eq_true_eq] at h ⊢
    exact ⟨by omega, fits_mono t _ _ _ _ _ _ (by omega) hy hz h.2⟩
  | .s ts, x, y, z, x', y', z', hx, hy, hz, h => by
    simp only [fits, room, Bool.and_eq_true, decide_eq_true_eq] at h ⊢
    exact ⟨by omega, fitss_mono ts _ _ _ _ _ _ hx (by omega) hz h.2⟩
theorem fitss_mono : ∀ (ts : Ts) (x y z x' y' z' : Int), x ≤ x' → y ≤ y' → z ≤ z' → fitss ts x y z = true → fitss ts x' y' z' = true
  | .nil, x, y, z, x', y', z', hx, hy, hz, h => rfl
  | .more t ts, x, y, z, x', y', z', hx, hy, hz, h => by
    simp only [fitss, Bool.and_eq_true] at h ⊢
    exact ⟨fits_mono t _ _ _ _ _ _ hx hy hz h.1, fitss_mono ts _ _ _ _ _ _ hx hy hz h.2⟩
end
theorem fits_a {t : T} (h : fits (.a t) 32 32 32 = true) : fits t 32 32 32 = true := by
  simp only [fits, Bool.and_eq_true] at h
  exact fits_mono t _ _ _ _ _ _ (by omega) (by omega) (by omega) h.2
theorem fits_d {k : UInt8} {t : T} (h : fits (.d k t) 32 32 32 = true) : fits t 32 32 32 = true := by
  simp only [fits, Bool.and_eq_true] at h
  exact fits_mono t _ _ _ _ _ _ (by omega) (by omega) (by omega) h.2

theorem typeFor_tree : ∀ (t : T), ok t = true → fits t 32 32 32 = true → ∀ (s : ByteArray) (w : World), B s = txt t → s.size ≤ 255 → Calls Try.prog 20 #[.string s] w (TPost t w)
  | .b c, ho, hf, s, w, hB, hs => tf_letter c s w ho hf hB
  | .s ts, ho, hf, s, w, hB, hs => tf_struct ts s w ho hf hB hs
  | .a t, ho, hf, s, w, hB, hs => tf_array t (typeFor_tree t ho (fits_a hf)) s w ho hf hB hs
  | .d k t, ho, hf, s, w, hB, hs => tf_dict k t (typeFor_tree t (by simp [ok] at ho; exact ho.2) (fits_d hf)) s w ho hf hB hs

/-! ### isKeyType -/
/-- The first letter of a type's Go type. -/
def hd : T → UInt8
  | .b c => c
  | .d _ _ => 123
  | .a _ => 91
  | .s _ => 91
theorem tt_hd (t : T) : ∃ l, tt t = hd t :: l := by cases t <;> exact ⟨_, rfl⟩
def kb (c : UInt8) : Bool := c == 121 || (c == 110 || (c == 113 || (c == 105 || (c == 72 || (c == 117 || (c == 104 || (c == 120 || (c == 116 || (c == 100 || (c == 115 || c == 111))))))))))
theorem key_first (s : ByteArray) (c : UInt8) (l : List UInt8) (h : B s = c :: l) : dbus_isKeyType.f 9 s = dbus_isKeyType.f 9 (mkb [c]) := by
  have h0 := first_of h
  have h1 : bt (mkb [c]) 0 = (c.toNat : Int) := first_of (s := mkb [c]) (c := c) (l := []) rfl
  have z := size_pos h
  have z1 : (mkb [c]).size = 1 := rfl
  have n0 : ¬ s.toList = ([] : List UInt8) := by rw [B_toList, h]; simp
  have n1 : ¬ (mkb [c]).toList = ([] : List UInt8) := by rw [B_toList, B_mkb]; simp
  have p0 : (0 : Int) < (s.size : Int) := by omega
  have p1 : (0 : Int) < ((mkb [c]).size : Int) := by omega
  have e : dbus_zzType_Kind.f 9 s = dbus_zzType_Kind.f 9 (mkb [c]) := by
    unfold dbus_zzType_Kind.f
    rw [if_neg n0, if_neg n1, if_pos p0, if_pos p1, h0, h1]
  unfold dbus_isKeyType.f
  rw [e]
theorem key_is (s : ByteArray) (c : UInt8) (l : List UInt8) (h : B s = c :: l) : dbus_isKeyType.f 9 s = some (kb c) := by
  rw [key_first s c l h]
  have H : ∀ n : Fin 256, dbus_isKeyType.f 9 (mkb [UInt8.ofNat n.val]) = some (kb (UInt8.ofNat n.val)) := by decide +kernel
  have := H ⟨c.toNat, c.toNat_lt⟩
  simp only [UInt8.ofNat_toNat] at this
  exact this

/-! ### DoorKey -/
theorem catch_idle (p : Addr) (w : World) :
    CallsD Try.prog 18 #[.pointer (some p)] .returning w fun e u' w' => e = .returned (.tuple #[]) ∧ u' = .returning ∧ w' = w := by
  refine callsD_of_wpS Try.func18 rfl fun c₀ cs hu => ?_
  apply wpS_seq
  apply wpS_region
  simp [wpOpsS, go_sem, recoverD, hu, Try.ntmps18, Exit.thenS]
  refine wpS_cond (t := false) (by simp [Act.eval, Array.replicate]) ?_
  simp only [Bool.false_eq_true, if_false]
  refine wpS_of_wp (wp_skip ?_)
  cases c₀
  simp_all [bodyPostS, results, Try.results18]

/-- The type that a text is. -/
def tree (s : ByteArray) : Option T := match parse (2 * s.size + 1) (B s) 32 32 32 with
  | some (t, []) => some t
  | _ => none
theorem tree_is {s : ByteArray} {t : T} (h : tree s = some t) : ok t = true ∧ fits t 32 32 32 = true ∧ B s = txt t := by
  unfold tree at h
  split at h
  · rename_i t' he
    obtain rfl := Option.some.inj h
    obtain ⟨h1, h2, h3⟩ := (parse_is _).1 _ _ _ _ _ _ he
    exact ⟨h1, h2, by rw [h3, List.append_nil]⟩
  · cases h
theorem tree_of {s : ByteArray} {t : T} (ho : ok t = true) (hf : fits t 32 32 32 = true) (hB : B s = txt t) : tree s = some t := by
  unfold tree
  have := parse_txt t (2 * s.size + 1) [] 32 32 32 ho (by rw [← B_length, hB]; omega)
  rw [List.append_nil, ← hB, if_pos hf] at this
  rw [this]
def dbus_DoorKey.f (s : ByteArray) : Option Bool := (tree s).bind fun t => if s.size ≤ 255 then some (kb (hd t)) else none

set_option maxHeartbeats 1000000 in
theorem dbus_DoorKey.calls (s : ByteArray) (r : Bool) (w : World) (h : dbus_DoorKey.f s = some r) :
    Calls Try.prog 14 #[.string s] w fun e w' => e = .returned (.bool r) ∧ Below w.heap.size w w' := by
  unfold dbus_DoorKey.f at h
  obtain ⟨t, ht, h⟩ := Option.bind_eq_some_iff.1 h
  split at h
  case isFalse => cases h
  case isTrue hs =>
  obtain rfl := Option.some.inj h
  obtain ⟨ho, hf, hB⟩ := tree_is ht
  clear h ht
  have hmf : ∀ (fn : Fn) (first cap : Array Value) (w : World), (Instr.makeFunc fn first cap).run Try.prog w = .ok (.func fn first cap) w := fun _ _ _ _ => rfl
  have HT := Aside0.mk (typeFor_tree t ho hf s)
  have HB := Aside0.mk hB
  have hs_ := Aside0.mk hs
  obtain ⟨l, hl⟩ := tt_hd t
  have hl_ := Aside0.mk hl
  clear ho hf hB hs hl
  go_enter_defers Try.func14, Try.ntmps14
  go_wp2_with (first
    | (go_at_call 20; refine (HT.out _ HB.out hs_.out).mono ?_; rintro e w1 ⟨r1, rfl, hr1, hb1⟩; have HR1 := Aside0.mk (hr1.trans hl_.out); have HB1 := Aside0.mk hb1; have BK := blk_below (blk_new w (.cells #[.bool false] 4)) hb1; have hcc := blk_cell BK 0; have hff := blk_frozen BK 0; have hcc2 : w1.cell? ⟨w.heap.size, 0, none⟩ = some (.bool false) := hcc; clear hr1 hb1 hcc BK)
    | (go_at_call 19; refine (dbus_isKeyType.calls 9 r1 _ _ (key_is r1 _ _ HR1.out)).mono ?_; rintro e w2 ⟨rfl, ⟨nd, rfl⟩⟩))
  refine leaves_cons (f := 18) (args := #[.pointer (some ⟨w.heap.size, 0, none⟩)]) (by simp) (by simp [go_sem]) ?_
  refine (catch_idle ⟨w.heap.size, 0, none⟩ _).mono ?_
  rintro e u' w'' ⟨rfl, rfl, rfl⟩
  have HBf : Below w.heap.size w ((w1.drewN nd).setCell ⟨w.heap.size, 0, none⟩ (.bool (kb (hd t)))) := (pw_below_drewN (below_step (below_alloc (Below.refl _ _) _) HB1.out) nd).setCell (Nat.le_refl _) _
  have hfin : ((w1.drewN nd).setCell ⟨w.heap.size, 0, none⟩ (.bool (kb (hd t)))).cell? ⟨w.heap.size, 0, none⟩ = some (.bool (kb (hd t))) := World.cell?_setCell_same _ _ _ hcc2
  generalize (w1.drewN nd).setCell ⟨w.heap.size, 0, none⟩ (.bool (kb (hd t))) = wf at HBf hfin ⊢
  simp [Leaves, settle, results, Try.results14, go_sem, hfin]
  exact HBf

/-! ### a row of bytes out of a constant text: marked, and read -/
def KC (w : World) (A : Option Addr) (n c : Nat) (xs : List Int) : Prop := n = xs.length ∧ n ≤ c ∧ Kd.C (Kd.int .u8) w A xs.length xs
theorem KC_below {w w1 : World} {A : Option Addr} {n c : Nat} {xs : List Int} (h : KC w A n c xs) (hb : Below w.heap.size w w1) : KC w1 A n c xs := ⟨h.1, h.2.1, Kd.C_below h.2.2 hb⟩
theorem KC_alloc {w : World} {A : Option Addr} {n c : Nat} {xs : List Int} {o : Obj} (h : KC w A n c xs) : KC (w.alloc o) A n c xs := KC_below h (below_alloc (Below.refl _ _) o)
theorem KC_drewN {w : World} {A : Option Addr} {n c : Nat} {xs : List Int} {k : Nat} (h : KC w A n c xs) : KC (w.drewN k) A n c xs := KC_below h (pw_below_drewN (Below.refl _ _) k)
theorem KC_drew {w : World} {A : Option Addr} {n c : Nat} {xs : List Int} (h : KC w A n c xs) : KC w.drew A n c xs := KC_below h (below_drew1 (Below.refl _ _))
theorem cell_freeze (w : World) (p a : Addr) (n : Nat) : (w.freeze p n).cell? a = w.cell? a := by
  unfold World.freeze
  split
  · rfl
  · simp only [World.cell?, Array.getElem?_modify]
    by_cases h : p.block = a.block
    · rw [if_pos h]
      cases w.heap[a.block]? with
      | none => rfl
      | some o => cases o <;> rfl
    · rw [if_neg h]
theorem wpList_mark {ops : Array Oper} {rest : List Oper} {o : Oper} {a : Act} {Q : Exit → Act → World → Prop} {w0 W : World} (hgd : o.guard = none) (x : Operand) (ho : o.op = .convert 23 23 x) (A : Option Addr) (n c : Nat) (xs : List Int) (base : Nat) (ok : Nat → Prop)
    (hx : a.eval x = .slice A n c) (HO : Kd.R (Kd.int .u8) 5 W base ok (.slice A n c) xs) (hn : 0 < n) (hb : w0.heap.size ≤ base) (HB : Below w0.heap.size w0 W)
    (h : ∀ w1, KC w1 A n c xs → Below w0.heap.size w0 w1 → wpList Try.prog ops Q rest (a.put o.dst (.slice A n c)) w1) : wpList Try.prog ops Q (o :: rest) a W := by
  obtain ⟨h1, h2, h3⟩ := Kd.R_reads' HO
  have hown := Kd.own_of_R HO
  rcases hown.2 with ⟨he, _⟩ | ⟨g, cap, cur, he, hg, hh, _⟩
  · injection he with _ he _
    omega
  · injection he with e1 e2 e3
    subst e1
    have hsh : W.shape? g = some (5, cur.size) := by unfold World.shape?; rw [hh]
    have hrun : (convert 23 23 (.slice (some ⟨g, 0, none⟩) n c)).run Try.prog W = .ok (.slice (some ⟨g, 0, none⟩) n c) (W.freeze ⟨g, cur.size, none⟩ 1) := by
      simp [convert, run_underlying Try.underlying23, run_underlying Try.underlying5, markStringish, hsh]
    refine wpList_plain hgd fun K hK => ?_
    unfold Oper.wp execOp
    simp only [ho, hx, Sem.run_bind, Sem.run_pure, Result.andThen_ok, hrun]
    refine hK _ _ (h _ ⟨h1, h2, ?_⟩ ?_)
    · obtain ⟨q1, q2, q3⟩ := h3
      refine ⟨q1, q2, fun hp => ?_⟩
      obtain ⟨ad, e, hc⟩ := q3 hp
      refine ⟨ad, e, fun j p hj => ?_⟩
      obtain ⟨cs, z1, z2, z3⟩ := hc j p hj
      exact ⟨cs, z1, z2, fun i u hu => by rw [cell_freeze]; exact z3 i u hu⟩
    · refine HB.trans ⟨rfl, rfl, rfl, by simp [World.freeze], fun i hi => ?_⟩
      have hne : g ≠ i := by omega
      simp [World.freeze, Array.getElem?_modify, hne]

end Go.Proofs.Ytlnkgifpiinnoaa.Ky
