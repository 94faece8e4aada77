/-
What is proved: the walk of varParseString, DoorUnquote and impl.VtUnquote.
-/
import Derived.Test.YthhehbocbhhbbaaDoorVq
import Derived.Test.YthhehbocbhhbbaaDoorWWords
namespace Go.Proofs.YthhehbocbhhbbaaDoor.Vr
set_option linter.unusedVariables false
set_option linter.unusedSimpArgs false
open Go.RowKit Go.Proofs.YthhehbocbhhbbaaDoor.Pn Go.Proofs.YthhehbocbhhbbaaDoor.Vp Go.Proofs.YthhehbocbhhbbaaDoor.Vq

def szOf : Value → Nat
  | .string t => t.size
  | _ => 0
/-- What varParseString answers. -/
def ansS : Option (List UInt8) → Ending → Prop
  | some l, e => e = .returned (.tuple #[.string ⟨l.toArray⟩, .nilIface])
  | none, e => ∃ tp p, e = .returned (.tuple #[.string ⟨#[]⟩, .iface tp p])

theorem back {B b : Nat} {acc : List UInt8} {r : Int} {W : World} (h1 : Lib.IsBuffer 48 5 B b (Lib.byteCells acc ++ Lib.runeCells r) W) : Lib.IsBuffer 48 5 B b (Lib.byteCells (acc ++ Lib.encodeRune r)) W := by
  rw [Lib.byteCells_append, Lib.byteCells_encodeRune]; exact h1
theorem i32_wrap (v : Nat) (h : v < 4294967296) : IntKind.i32.wrap (v : Int) = i32 v := by
  unfold i32
  rw [IntKind.wrap_i32]
  split <;> omega

set_option maxHeartbeats 64000000 in
set_option maxRecDepth 100000 in
theorem walk (s : ByteArray) (h2 : 2 ≤ s.size) (hs : s.size ≤ 1099511627776) (w : World) (hT : Tabs w) :
    Calls Tryd.prog 19 #[.string s] w fun e w' => ansS (vp s.size (s.extract 1 (s.size - 1)) []) e ∧ Below w.heap.size w w' := by
  obtain ⟨R, hR⟩ : ∃ R, R = vp s.size (s.extract 1 (s.size - 1)) [] := ⟨_, rfl⟩
  rw [← hR]
  have HR := Lib.hid hR
  clear hR
  have hlt := hT.lt
  have q1 : ((1 : Int) ≤ (s.size : Int) - 1) = True := eq_true (by omega)
  have q2 : ((s.size : Int) - 1 ≤ (s.size : Int)) = True := eq_true (by omega)
  have q3 : ((0 : Int) ≤ (s.size : Int) - 1) = True := eq_true (by omega)
  go_enter Tryd.func19, Tryd.ntmps19
  go_wp2
  go_loopw [0] (fun v W => ∃ (t : ByteArray) (acc : List UInt8) (k : Nat), v = .string t ∧ Lib.IsBuffer 48 5 w.heap.size w.heap.size (Lib.byteCells acc) W ∧ Below w.heap.size w W ∧ Hid (vp k t acc = R ∧ t.size < k ∧ acc.length + 4 * t.size ≤ 4398046511104)) (fun v _ => szOf v)
  case atStart =>
    refine ⟨_, [], s.size, rfl, Lib.fresh_isBuffer 48 5 w, (Below.refl _ w).alloc (Nat.le_refl _) _, Lib.hid ⟨HR.out.symm, ?_, ?_⟩⟩
    · rw [ByteArray.size_extract]; omega
    · rw [ByteArray.size_extract]; simp only [List.length_nil]; omega
  case round =>
    clear q1 q2 q3
    obtain ⟨t, acc, k, rfl, hI, hbw, hh⟩ := hrel
    obtain ⟨hv, hk, hal⟩ := hh.out
    clear hh
    have hTW := hT.below hbw hT.lt
    have hsz := hbw.size
    obtain ⟨k, rfl⟩ : ∃ k', k = k' + 1 := ⟨k - 1, by omega⟩
    by_cases h0 : t.size = 0
    · have hv := vp_end hv h0
      subst hv
      go_wp2_with (go_at_call 25; refine (Tryd.Buffer_String w.heap.size w.heap.size acc _ hI).mono ?_; rintro e W1 ⟨rfl, n, rfl⟩)
      go_ret2
      exact ⟨rfl, hbw.trans ⟨rfl, rfl, rfl, Nat.le_refl _, fun _ _ => rfl⟩⟩
    · obtain ⟨r, n, hd⟩ : ∃ r n, Lib.decodeGo t = (r, n) := ⟨_, _, rfl⟩
      have hn := dg_le t
      have hp := dg_pos t h0
      have hr := dg_lt t
      rw [hd] at hn hp hr
      have c1 := Tryd.utf8_DecodeRuneInString t _ hTW.1
      rw [hd] at c1
      simp only at c1 hn hp hr
      by_cases hbad : r = 65533 ∧ n = 1
      · have hv := vp_bad hd hv h0 hbad
        subst hv
        obtain ⟨rfl, rfl⟩ := hbad
        have Hd := Lib.hid hd
        clear hd
        go_wp2_with (first | (go_at_call 21; refine c1.mono ?_; rintro e W1 ⟨rfl, b1⟩) | (go_at_call 22; refine (newErr _ _).mono ?_; rintro e W2 ⟨⟨tp, p, rfl⟩, b2⟩))
        go_ret2
        exact ⟨⟨_, _, rfl⟩, hbw.trans ((b1.trans (b2.mono b1.size)).mono hsz)⟩
      · obtain ⟨t1, e1⟩ : ∃ t1, t.extract n t.size = t1 := ⟨_, rfl⟩
        by_cases h92 : r = 92
        · subst h92
          have z1 : t1.size = t.size - n := by rw [← e1, ByteArray.size_extract]; omega
          obtain ⟨r2, n2, hd2⟩ : ∃ r n, Lib.decodeGo t1 = (r, n) := ⟨_, _, rfl⟩
          have hn2 := dg_le t1
          have hr2 := dg_lt t1
          rw [hd2] at hn2 hr2
          have c2 : ∀ W', Tabs W' → _ := fun W' (hT' : Tabs W') => Tryd.utf8_DecodeRuneInString t1 W' hT'.1
          rw [hd2] at c2
          simp only at c2 hn2 hr2
          obtain ⟨t2, e2⟩ : ∃ t2, t1.extract n2 t1.size = t2 := ⟨_, rfl⟩
          have z2 : t2.size = t1.size - n2 := by rw [← e2, ByteArray.size_extract]; omega
          have zz : t2.size < t.size := by omega
          clear z1 z2
          by_cases hb2 : r2 = 65533 ∧ n2 = 1
          · focus
              have hv := vp_bad2 hd hv h0 e1 hd2 hb2
              subst hv
              obtain ⟨rfl, rfl⟩ := hb2
              clear hd hd2
              go_wp2_with (first
                | (go_at_call 21; first | ((with_reducible refine c1.mono ?_); rintro e W1 ⟨rfl, b1⟩; have hI1 := hI.old b1; have s1 := b1.size; have hT1 := hTW.below b1 hTW.lt) | ((with_reducible refine (c2 _ (by assumption)).mono ?_); rintro e W2 ⟨rfl, b2⟩; have hI2 := hI1.old b2; have s2 := b2.size; have hT2 := hT1.below b2 hT1.lt))
                | (go_at_call 22; refine (newErr _ _).mono ?_; rintro e W8 ⟨⟨tp, p, rfl⟩, b8⟩)
                | (go_at_call 23; refine (Tryd.Buffer_WriteRune_k w.heap.size w.heap.size _ _ (by omega) (by omega) _ (by first | exact hI3 | exact hI2 | exact hI1) (by omega) (Lib.byteCells_one _) (by rw [Lib.byteCells_length]; omega)).mono ?_; rintro e W9 ⟨rfl, h9, b9, k9⟩))
              go_ret2
              exact ⟨⟨_, _, rfl⟩, hbw.trans ((b1.mono hsz).trans ((b2.mono (Nat.le_trans hsz s1)).trans (b8.mono (Nat.le_trans hsz (Nat.le_trans s1 s2)))))⟩
          by_cases h : r2 = 65533
          · focus
              obtain rfl : r2 = 65533 := h
              have hn1 : n2 ≠ 1 := fun e => hb2 ⟨rfl, e⟩
              have hv := vp_esc hd hv h0 e1 hd2 hb2 (by omega) (by omega) (by omega)
              rw [e2] at hv
              have he : ech 65533 = 65533 := rfl
              rw [he] at hv
              have HN := Lib.hid (⟨hv, hk, hal⟩ : _ ∧ _ ∧ _)
              clear hv hk hd hd2 he
              go_wp2_with (first
                | (go_at_call 21; first | ((with_reducible refine c1.mono ?_); rintro e W1 ⟨rfl, b1⟩; have hI1 := hI.old b1; have s1 := b1.size; have hT1 := hTW.below b1 hTW.lt) | ((with_reducible refine (c2 _ (by assumption)).mono ?_); rintro e W2 ⟨rfl, b2⟩; have hI2 := hI1.old b2; have s2 := b2.size; have hT2 := hT1.below b2 hT1.lt))
                | (go_at_call 22; refine (newErr _ _).mono ?_; rintro e W8 ⟨⟨tp, p, rfl⟩, b8⟩)
                | (go_at_call 23; refine (Tryd.Buffer_WriteRune_k w.heap.size w.heap.size _ _ (by omega) (by omega) _ (by first | exact hI3 | exact hI2 | exact hI1) (by omega) (Lib.byteCells_one _) (by rw [Lib.byteCells_length]; omega)).mono ?_; rintro e W9 ⟨rfl, h9, b9, k9⟩))
              obtain ⟨hv, hk, hal⟩ := HN.out
              refine ⟨⟨_, _, k, rfl, back h9, hbw.trans ((b1.mono hsz).trans ((b2.mono (Nat.le_trans hsz s1)).trans b9)), Lib.hid ⟨hv, ?_, ?_⟩⟩, ?_⟩
              · omega
              · rw [List.length_append]; have := (enc_le ((65533 : Nat) : Int)).2; have := (enc_le (65533 : Int)).2; omega
              · show t2.size < t.size
                omega
          have n0 := h
          clear h
          by_cases h : r2 = 97
          · focus
              obtain rfl : r2 = 97 := h
              have hv := vp_esc hd hv h0 e1 hd2 hb2 (by decide) (by decide) (by decide)
              rw [e2] at hv
              have HN := Lib.hid (⟨hv, hk, hal⟩ : _ ∧ _ ∧ _)
              clear hv hk hd hd2
              go_wp2_with (first
                | (go_at_call 21; first | ((with_reducible refine c1.mono ?_); rintro e W1 ⟨rfl, b1⟩; have hI1 := hI.old b1; have s1 := b1.size; have hT1 := hTW.below b1 hTW.lt) | ((with_reducible refine (c2 _ (by assumption)).mono ?_); rintro e W2 ⟨rfl, b2⟩; have hI2 := hI1.old b2; have s2 := b2.size; have hT2 := hT1.below b2 hT1.lt))
                | (go_at_call 22; refine (newErr _ _).mono ?_; rintro e W8 ⟨⟨tp, p, rfl⟩, b8⟩)
                | (go_at_call 23; refine (Tryd.Buffer_WriteRune_k w.heap.size w.heap.size _ _ (by omega) (by omega) _ (by first | exact hI3 | exact hI2 | exact hI1) (by omega) (Lib.byteCells_one _) (by rw [Lib.byteCells_length]; omega)).mono ?_; rintro e W9 ⟨rfl, h9, b9, k9⟩))
              obtain ⟨hv, hk, hal⟩ := HN.out
              refine ⟨⟨_, _, k, rfl, back h9, hbw.trans ((b1.mono hsz).trans ((b2.mono (Nat.le_trans hsz s1)).trans b9)), Lib.hid ⟨hv, ?_, ?_⟩⟩, ?_⟩
              · omega
              · rw [List.length_append]; have := (enc_le (7 : Int)).2; omega
              · show t2.size < t.size
                omega
          have n1 := h
          clear h
          by_cases h : r2 = 98
          · focus
              obtain rfl : r2 = 98 := h
              have hv := vp_esc hd hv h0 e1 hd2 hb2 (by decide) (by decide) (by decide)
              rw [e2] at hv
              have HN := Lib.hid (⟨hv, hk, hal⟩ : _ ∧ _ ∧ _)
              clear hv hk hd hd2
              go_wp2_with (first
                | (go_at_call 21; first | ((with_reducible refine c1.mono ?_); rintro e W1 ⟨rfl, b1⟩; have hI1 := hI.old b1; have s1 := b1.size; have hT1 := hTW.below b1 hTW.lt) | ((with_reducible refine (c2 _ (by assumption)).mono ?_); rintro e W2 ⟨rfl, b2⟩; have hI2 := hI1.old b2; have s2 := b2.size; have hT2 := hT1.below b2 hT1.lt))
                | (go_at_call 22; refine (newErr _ _).mono ?_; rintro e W8 ⟨⟨tp, p, rfl⟩, b8⟩)
                | (go_at_call 23; refine (Tryd.Buffer_WriteRune_k w.heap.size w.heap.size _ _ (by omega) (by omega) _ (by first | exact hI3 | exact hI2 | exact hI1) (by omega) (Lib.byteCells_one _) (by rw [Lib.byteCells_length]; omega)).mono ?_; rintro e W9 ⟨rfl, h9, b9, k9⟩))
              obtain ⟨hv, hk, hal⟩ := HN.out
              refine ⟨⟨_, _, k, rfl, back h9, hbw.trans ((b1.mono hsz).trans ((b2.mono (Nat.le_trans hsz s1)).trans b9)), Lib.hid ⟨hv, ?_, ?_⟩⟩, ?_⟩
              · omega
              · rw [List.length_append]; have := (enc_le (8 : Int)).2; omega
              · show t2.size < t.size
                omega
          have n2 := h
          clear h
          by_cases h : r2 = 102
          · focus
              obtain rfl : r2 = 102 := h
              have hv := vp_esc hd hv h0 e1 hd2 hb2 (by decide) (by decide) (by decide)
              rw [e2] at hv
              have HN := Lib.hid (⟨hv, hk, hal⟩ : _ ∧ _ ∧ _)
              clear hv hk hd hd2
              go_wp2_with (first
                | (go_at_call 21; first | ((with_reducible refine c1.mono ?_); rintro e W1 ⟨rfl, b1⟩; have hI1 := hI.old b1; have s1 := b1.size; have hT1 := hTW.below b1 hTW.lt) | ((with_reducible refine (c2 _ (by assumption)).mono ?_); rintro e W2 ⟨rfl, b2⟩; have hI2 := hI1.old b2; have s2 := b2.size; have hT2 := hT1.below b2 hT1.lt))
                | (go_at_call 22; refine (newErr _ _).mono ?_; rintro e W8 ⟨⟨tp, p, rfl⟩, b8⟩)
                | (go_at_call 23; refine (Tryd.Buffer_WriteRune_k w.heap.size w.heap.size _ _ (by omega) (by omega) _ (by first | exact hI3 | exact hI2 | exact hI1) (by omega) (Lib.byteCells_one _) (by rw [Lib.byteCells_length]; omega)).mono ?_; rintro e W9 ⟨rfl, h9, b9, k9⟩))
              obtain ⟨hv, hk, hal⟩ := HN.out
              refine ⟨⟨_, _, k, rfl, back h9, hbw.trans ((b1.mono hsz).trans ((b2.mono (Nat.le_trans hsz s1)).trans b9)), Lib.hid ⟨hv, ?_, ?_⟩⟩, ?_⟩
              · omega
              · rw [List.length_append]; have := (enc_le (12 : Int)).2; omega
              · show t2.size < t.size
                omega
          have n3 := h
          clear h
          by_cases h : r2 = 110
          · focus
              obtain rfl : r2 = 110 := h
              have hv := vp_esc hd hv h0 e1 hd2 hb2 (by decide) (by decide) (by decide)
              rw [e2] at hv
              have HN := Lib.hid (⟨hv, hk, hal⟩ : _ ∧ _ ∧ _)
              clear hv hk hd hd2
              go_wp2_with (first
                | (go_at_call 21; first | ((with_reducible refine c1.mono ?_); rintro e W1 ⟨rfl, b1⟩; have hI1 := hI.old b1; have s1 := b1.size; have hT1 := hTW.below b1 hTW.lt) | ((with_reducible refine (c2 _ (by assumption)).mono ?_); rintro e W2 ⟨rfl, b2⟩; have hI2 := hI1.old b2; have s2 := b2.size; have hT2 := hT1.below b2 hT1.lt))
                | (go_at_call 22; refine (newErr _ _).mono ?_; rintro e W8 ⟨⟨tp, p, rfl⟩, b8⟩)
                | (go_at_call 23; refine (Tryd.Buffer_WriteRune_k w.heap.size w.heap.size _ _ (by omega) (by omega) _ (by first | exact hI3 | exact hI2 | exact hI1) (by omega) (Lib.byteCells_one _) (by rw [Lib.byteCells_length]; omega)).mono ?_; rintro e W9 ⟨rfl, h9, b9, k9⟩))
              obtain ⟨hv, hk, hal⟩ := HN.out
              refine ⟨⟨_, _, k, rfl, back h9, hbw.trans ((b1.mono hsz).trans ((b2.mono (Nat.le_trans hsz s1)).trans b9)), Lib.hid ⟨hv, ?_, ?_⟩⟩, ?_⟩
              · omega
              · rw [List.length_append]; have := (enc_le (10 : Int)).2; omega
              · show t2.size < t.size
                omega
          have n4 := h
          clear h
          by_cases h : r2 = 114
          · focus
              obtain rfl : r2 = 114 := h
              have hv := vp_esc hd hv h0 e1 hd2 hb2 (by decide) (by decide) (by decide)
              rw [e2] at hv
              have HN := Lib.hid (⟨hv, hk, hal⟩ : _ ∧ _ ∧ _)
              clear hv hk hd hd2
              go_wp2_with (first
                | (go_at_call 21; first | ((with_reducible refine c1.mono ?_); rintro e W1 ⟨rfl, b1⟩; have hI1 := hI.old b1; have s1 := b1.size; have hT1 := hTW.below b1 hTW.lt) | ((with_reducible refine (c2 _ (by assumption)).mono ?_); rintro e W2 ⟨rfl, b2⟩; have hI2 := hI1.old b2; have s2 := b2.size; have hT2 := hT1.below b2 hT1.lt))
                | (go_at_call 22; refine (newErr _ _).mono ?_; rintro e W8 ⟨⟨tp, p, rfl⟩, b8⟩)
                | (go_at_call 23; refine (Tryd.Buffer_WriteRune_k w.heap.size w.heap.size _ _ (by omega) (by omega) _ (by first | exact hI3 | exact hI2 | exact hI1) (by omega) (Lib.byteCells_one _) (by rw [Lib.byteCells_length]; omega)).mono ?_; rintro e W9 ⟨rfl, h9, b9, k9⟩))
              obtain ⟨hv, hk, hal⟩ := HN.out
              refine ⟨⟨_, _, k, rfl, back h9, hbw.trans ((b1.mono hsz).trans ((b2.mono (Nat.le_trans hsz s1)).trans b9)), Lib.hid ⟨hv, ?_, ?_⟩⟩, ?_⟩
              · omega
              · rw [List.length_append]; have := (enc_le (13 : Int)).2; omega
              · show t2.size < t.size
                omega
          have n5 := h
          clear h
          by_cases h : r2 = 116
          · focus
              obtain rfl : r2 = 116 := h
              have hv := vp_esc hd hv h0 e1 hd2 hb2 (by decide) (by decide) (by decide)
              rw [e2] at hv
              have HN := Lib.hid (⟨hv, hk, hal⟩ : _ ∧ _ ∧ _)
              clear hv hk hd hd2
              go_wp2_with (first
                | (go_at_call 21; first | ((with_reducible refine c1.mono ?_); rintro e W1 ⟨rfl, b1⟩; have hI1 := hI.old b1; have s1 := b1.size; have hT1 := hTW.below b1 hTW.lt) | ((with_reducible refine (c2 _ (by assumption)).mono ?_); rintro e W2 ⟨rfl, b2⟩; have hI2 := hI1.old b2; have s2 := b2.size; have hT2 := hT1.below b2 hT1.lt))
                | (go_at_call 22; refine (newErr _ _).mono ?_; rintro e W8 ⟨⟨tp, p, rfl⟩, b8⟩)
                | (go_at_call 23; refine (Tryd.Buffer_WriteRune_k w.heap.size w.heap.size _ _ (by omega) (by omega) _ (by first | exact hI3 | exact hI2 | exact hI1) (by omega) (Lib.byteCells_one _) (by rw [Lib.byteCells_length]; omega)).mono ?_; rintro e W9 ⟨rfl, h9, b9, k9⟩))
              obtain ⟨hv, hk, hal⟩ := HN.out
              refine ⟨⟨_, _, k, rfl, back h9, hbw.trans ((b1.mono hsz).trans ((b2.mono (Nat.le_trans hsz s1)).trans b9)), Lib.hid ⟨hv, ?_, ?_⟩⟩, ?_⟩
              · omega
              · rw [List.length_append]; have := (enc_le (9 : Int)).2; omega
              · show t2.size < t.size
                omega
          have n6 := h
          clear h
          by_cases h : r2 = 10
          · focus
              obtain rfl : r2 = 10 := h
              have hv := vp_nl hd hv h0 e1 hd2 hb2 rfl
              rw [e2] at hv
              have HN := Lib.hid (⟨hv, hk, hal⟩ : _ ∧ _ ∧ _)
              clear hv hk hd hd2
              go_wp2_with (first
                | (go_at_call 21; first | ((with_reducible refine c1.mono ?_); rintro e W1 ⟨rfl, b1⟩; have hI1 := hI.old b1; have s1 := b1.size; have hT1 := hTW.below b1 hTW.lt) | ((with_reducible refine (c2 _ (by assumption)).mono ?_); rintro e W2 ⟨rfl, b2⟩; have hI2 := hI1.old b2; have s2 := b2.size; have hT2 := hT1.below b2 hT1.lt))
                | (go_at_call 22; refine (newErr _ _).mono ?_; rintro e W8 ⟨⟨tp, p, rfl⟩, b8⟩)
                | (go_at_call 23; refine (Tryd.Buffer_WriteRune_k w.heap.size w.heap.size _ _ (by omega) (by omega) _ (by first | exact hI3 | exact hI2 | exact hI1) (by omega) (Lib.byteCells_one _) (by rw [Lib.byteCells_length]; omega)).mono ?_; rintro e W9 ⟨rfl, h9, b9, k9⟩))
              obtain ⟨hv, hk, hal⟩ := HN.out
              refine ⟨⟨_, acc, k, rfl, hI2, hbw.trans ((b1.mono hsz).trans (b2.mono (Nat.le_trans hsz s1))), Lib.hid ⟨hv, ?_, ?_⟩⟩, ?_⟩
              · omega
              · omega
              · show t2.size < t.size
                omega
          have n7 := h
          clear h
          by_cases h : r2 = 117
          · focus
              obtain rfl : r2 = 117 := h
              by_cases h5 : t2.size < 4
              · have hv := vp_short hd hv h0 e1 hd2 4 (by omega) (by rw [e2]; exact h5)
                subst hv
                clear hd hd2
                have h5i : (t2.size : Int) < 4 := by omega
                go_wp2_with (first
                  | (go_at_call 21; first | ((with_reducible refine c1.mono ?_); rintro e W1 ⟨rfl, b1⟩; have hI1 := hI.old b1; have s1 := b1.size; have hT1 := hTW.below b1 hTW.lt) | ((with_reducible refine (c2 _ (by assumption)).mono ?_); rintro e W2 ⟨rfl, b2⟩; have hI2 := hI1.old b2; have s2 := b2.size; have hT2 := hT1.below b2 hT1.lt))
                  | (go_at_call 22; refine (newErr _ _).mono ?_; rintro e W8 ⟨⟨tp, p, rfl⟩, b8⟩)
                  | (go_at_call 23; refine (Tryd.Buffer_WriteRune_k w.heap.size w.heap.size _ _ (by omega) (by omega) _ (by first | exact hI3 | exact hI2 | exact hI1) (by omega) (Lib.byteCells_one _) (by rw [Lib.byteCells_length]; omega)).mono ?_; rintro e W9 ⟨rfl, h9, b9, k9⟩))
                go_ret2
                exact ⟨⟨_, _, rfl⟩, hbw.trans ((b1.mono hsz).trans ((b2.mono (Nat.le_trans hsz s1)).trans (b8.mono (Nat.le_trans hsz (Nat.le_trans s1 s2)))))⟩
              · obtain ⟨t3, e3⟩ : ∃ t3, t2.extract 0 4 = t3 := ⟨_, rfl⟩
                obtain ⟨t4, e4⟩ : ∃ t4, t2.extract 4 t2.size = t4 := ⟨_, rfl⟩
                have z3 : t3.size = 4 := by rw [← e3, ByteArray.size_extract]; omega
                have z4 : t4.size = t2.size - 4 := by rw [← e4, ByteArray.size_extract]; omega
                have h5i : ((4 : Int) ≤ (t2.size : Int)) = True := eq_true (by omega)
                have h5j : ¬ (t2.size : Int) < 4 := by omega
                cases hpx : px 0 t3.data.toList with
                | none =>
                  have hv := vp_nohex hd hv h0 e1 hd2 4 (by omega) (by rw [e2]; exact h5) (by rw [e2, e3]; exact hpx)
                  subst hv
                  clear hd hd2
                  have c3 : ∀ W', Tabs W' → Calls Tryd.prog 24 #[.string t3, .int .i64 16, .int .i64 32] W' fun e w' => (∃ tp p, e = .returned (.tuple #[.int .u64 0, .iface tp p])) ∧ Below W'.heap.size W' w' := fun W' hT' => pub_none t3 (by omega) (by omega) hpx W' hT'
                  clear hpx
                  have Z3 := Lib.hid z3
                  have Z4 := Lib.hid z4
                  clear z3 z4
                  go_wp2_with (first
                    | (go_at_call 21; first | ((with_reducible refine c1.mono ?_); rintro e W1 ⟨rfl, b1⟩; have hI1 := hI.old b1; have s1 := b1.size; have hT1 := hTW.below b1 hTW.lt) | ((with_reducible refine (c2 _ (by assumption)).mono ?_); rintro e W2 ⟨rfl, b2⟩; have hI2 := hI1.old b2; have s2 := b2.size; have hT2 := hT1.below b2 hT1.lt))
                    | (go_at_call 22; refine (newErr _ _).mono ?_; rintro e W8 ⟨⟨tp, p, rfl⟩, b8⟩)
                    | (go_at_call 24; refine (c3 _ (by assumption)).mono ?_; rintro e W8 ⟨⟨tp, p, rfl⟩, b8⟩)
                    | (go_at_call 23; refine (Tryd.Buffer_WriteRune_k w.heap.size w.heap.size _ _ (by omega) (by omega) _ (by first | exact hI3 | exact hI2 | exact hI1) (by omega) (Lib.byteCells_one _) (by rw [Lib.byteCells_length]; omega)).mono ?_; rintro e W9 ⟨rfl, h9, b9, k9⟩))
                  go_ret2
                  exact ⟨⟨_, _, rfl⟩, hbw.trans ((b1.mono hsz).trans ((b2.mono (Nat.le_trans hsz s1)).trans (b8.mono (Nat.le_trans hsz (Nat.le_trans s1 s2)))))⟩
                | some v =>
                  have hv := vp_hex hd hv h0 e1 hd2 4 v (by omega) (by rw [e2]; exact h5) (by rw [e2, e3]; exact hpx)
                  rw [e2, e4] at hv
                  have hvl := px_u32 t3 (by omega) v hpx
                  obtain ⟨hi0, hi1⟩ := i32_range v hvl
                  have hwr := i32_wrap v hvl
                  have c3 : ∀ W', Calls Tryd.prog 24 #[.string t3, .int .i64 16, .int .i64 32] W' fun e w' => e = .returned (.tuple #[.int .u64 v, .nilIface]) ∧ Below W'.heap.size W' w' := fun W' => pub_some t3 (by omega) (by omega) v hpx W'
                  have HN := Lib.hid (⟨hv, hk, hal⟩ : _ ∧ _ ∧ _)
                  have hel := enc_le (i32 v)
                  clear hv hk hd hd2 hpx
                  have Z3 := Lib.hid z3
                  have Z4 := Lib.hid z4
                  clear z3 z4
                  generalize i32 v = iv at *
                  go_wp2_with (first
                    | (go_at_call 21; first | ((with_reducible refine c1.mono ?_); rintro e W1 ⟨rfl, b1⟩; have hI1 := hI.old b1; have s1 := b1.size; have hT1 := hTW.below b1 hTW.lt) | ((with_reducible refine (c2 _ (by assumption)).mono ?_); rintro e W2 ⟨rfl, b2⟩; have hI2 := hI1.old b2; have s2 := b2.size; have hT2 := hT1.below b2 hT1.lt))
                    | (go_at_call 22; refine (newErr _ _).mono ?_; rintro e W8 ⟨⟨tp, p, rfl⟩, b8⟩)
                    | (go_at_call 24; refine (c3 _).mono ?_; rintro e W3 ⟨rfl, b3⟩; have hI3 := hI2.old b3; have s3 := b3.size)
                    | (go_at_call 23; refine (Tryd.Buffer_WriteRune_k w.heap.size w.heap.size _ _ (by omega) (by omega) _ (by first | exact hI3 | exact hI2 | exact hI1) (by omega) (Lib.byteCells_one _) (by rw [Lib.byteCells_length]; omega)).mono ?_; rintro e W9 ⟨rfl, h9, b9, k9⟩))
                  obtain ⟨hv, hk, hal⟩ := HN.out
                  have z4 := Z4.out
                  refine ⟨⟨_, _, k, rfl, back h9, hbw.trans ((b1.mono hsz).trans ((b2.mono (Nat.le_trans hsz s1)).trans ((b3.mono (Nat.le_trans hsz (Nat.le_trans s1 s2))).trans b9))), Lib.hid ⟨hv, ?_, ?_⟩⟩, ?_⟩
                  · omega
                  · rw [List.length_append]; omega
                  · show t4.size < t.size
                    omega
          have n8 := h
          clear h
          by_cases h : r2 = 85
          · focus
              obtain rfl : r2 = 85 := h
              by_cases h5 : t2.size < 8
              · have hv := vp_short hd hv h0 e1 hd2 8 (by omega) (by rw [e2]; exact h5)
                subst hv
                clear hd hd2
                have h5i : (t2.size : Int) < 8 := by omega
                go_wp2_with (first
                  | (go_at_call 21; first | ((with_reducible refine c1.mono ?_); rintro e W1 ⟨rfl, b1⟩; have hI1 := hI.old b1; have s1 := b1.size; have hT1 := hTW.below b1 hTW.lt) | ((with_reducible refine (c2 _ (by assumption)).mono ?_); rintro e W2 ⟨rfl, b2⟩; have hI2 := hI1.old b2; have s2 := b2.size; have hT2 := hT1.below b2 hT1.lt))
                  | (go_at_call 22; refine (newErr _ _).mono ?_; rintro e W8 ⟨⟨tp, p, rfl⟩, b8⟩)
                  | (go_at_call 23; refine (Tryd.Buffer_WriteRune_k w.heap.size w.heap.size _ _ (by omega) (by omega) _ (by first | exact hI3 | exact hI2 | exact hI1) (by omega) (Lib.byteCells_one _) (by rw [Lib.byteCells_length]; omega)).mono ?_; rintro e W9 ⟨rfl, h9, b9, k9⟩))
                go_ret2
                exact ⟨⟨_, _, rfl⟩, hbw.trans ((b1.mono hsz).trans ((b2.mono (Nat.le_trans hsz s1)).trans (b8.mono (Nat.le_trans hsz (Nat.le_trans s1 s2)))))⟩
              · obtain ⟨t3, e3⟩ : ∃ t3, t2.extract 0 8 = t3 := ⟨_, rfl⟩
                obtain ⟨t4, e4⟩ : ∃ t4, t2.extract 8 t2.size = t4 := ⟨_, rfl⟩
                have z3 : t3.size = 8 := by rw [← e3, ByteArray.size_extract]; omega
                have z4 : t4.size = t2.size - 8 := by rw [← e4, ByteArray.size_extract]; omega
                have h5i : ((8 : Int) ≤ (t2.size : Int)) = True := eq_true (by omega)
                have h5j : ¬ (t2.size : Int) < 8 := by omega
                cases hpx : px 0 t3.data.toList with
                | none =>
                  have hv := vp_nohex hd hv h0 e1 hd2 8 (by omega) (by rw [e2]; exact h5) (by rw [e2, e3]; exact hpx)
                  subst hv
                  clear hd hd2
                  have c3 : ∀ W', Tabs W' → Calls Tryd.prog 24 #[.string t3, .int .i64 16, .int .i64 32] W' fun e w' => (∃ tp p, e = .returned (.tuple #[.int .u64 0, .iface tp p])) ∧ Below W'.heap.size W' w' := fun W' hT' => pub_none t3 (by omega) (by omega) hpx W' hT'
                  clear hpx
                  have Z3 := Lib.hid z3
                  have Z4 := Lib.hid z4
                  clear z3 z4
                  go_wp2_with (first
                    | (go_at_call 21; first | ((with_reducible refine c1.mono ?_); rintro e W1 ⟨rfl, b1⟩; have hI1 := hI.old b1; have s1 := b1.size; have hT1 := hTW.below b1 hTW.lt) | ((with_reducible refine (c2 _ (by assumption)).mono ?_); rintro e W2 ⟨rfl, b2⟩; have hI2 := hI1.old b2; have s2 := b2.size; have hT2 := hT1.below b2 hT1.lt))
                    | (go_at_call 22; refine (newErr _ _).mono ?_; rintro e W8 ⟨⟨tp, p, rfl⟩, b8⟩)
                    | (go_at_call 24; refine (c3 _ (by assumption)).mono ?_; rintro e W8 ⟨⟨tp, p, rfl⟩, b8⟩)
                    | (go_at_call 23; refine (Tryd.Buffer_WriteRune_k w.heap.size w.heap.size _ _ (by omega) (by omega) _ (by first | exact hI3 | exact hI2 | exact hI1) (by omega) (Lib.byteCells_one _) (by rw [Lib.byteCells_length]; omega)).mono ?_; rintro e W9 ⟨rfl, h9, b9, k9⟩))
                  go_ret2
                  exact ⟨⟨_, _, rfl⟩, hbw.trans ((b1.mono hsz).trans ((b2.mono (Nat.le_trans hsz s1)).trans (b8.mono (Nat.le_trans hsz (Nat.le_trans s1 s2)))))⟩
                | some v =>
                  have hv := vp_hex hd hv h0 e1 hd2 8 v (by omega) (by rw [e2]; exact h5) (by rw [e2, e3]; exact hpx)
                  rw [e2, e4] at hv
                  have hvl := px_u32 t3 (by omega) v hpx
                  obtain ⟨hi0, hi1⟩ := i32_range v hvl
                  have hwr := i32_wrap v hvl
                  have c3 : ∀ W', Calls Tryd.prog 24 #[.string t3, .int .i64 16, .int .i64 32] W' fun e w' => e = .returned (.tuple #[.int .u64 v, .nilIface]) ∧ Below W'.heap.size W' w' := fun W' => pub_some t3 (by omega) (by omega) v hpx W'
                  have HN := Lib.hid (⟨hv, hk, hal⟩ : _ ∧ _ ∧ _)
                  have hel := enc_le (i32 v)
                  clear hv hk hd hd2 hpx
                  have Z3 := Lib.hid z3
                  have Z4 := Lib.hid z4
                  clear z3 z4
                  generalize i32 v = iv at *
                  go_wp2_with (first
                    | (go_at_call 21; first | ((with_reducible refine c1.mono ?_); rintro e W1 ⟨rfl, b1⟩; have hI1 := hI.old b1; have s1 := b1.size; have hT1 := hTW.below b1 hTW.lt) | ((with_reducible refine (c2 _ (by assumption)).mono ?_); rintro e W2 ⟨rfl, b2⟩; have hI2 := hI1.old b2; have s2 := b2.size; have hT2 := hT1.below b2 hT1.lt))
                    | (go_at_call 22; refine (newErr _ _).mono ?_; rintro e W8 ⟨⟨tp, p, rfl⟩, b8⟩)
                    | (go_at_call 24; refine (c3 _).mono ?_; rintro e W3 ⟨rfl, b3⟩; have hI3 := hI2.old b3; have s3 := b3.size)
                    | (go_at_call 23; refine (Tryd.Buffer_WriteRune_k w.heap.size w.heap.size _ _ (by omega) (by omega) _ (by first | exact hI3 | exact hI2 | exact hI1) (by omega) (Lib.byteCells_one _) (by rw [Lib.byteCells_length]; omega)).mono ?_; rintro e W9 ⟨rfl, h9, b9, k9⟩))
                  obtain ⟨hv, hk, hal⟩ := HN.out
                  have z4 := Z4.out
                  refine ⟨⟨_, _, k, rfl, back h9, hbw.trans ((b1.mono hsz).trans ((b2.mono (Nat.le_trans hsz s1)).trans ((b3.mono (Nat.le_trans hsz (Nat.le_trans s1 s2))).trans b9))), Lib.hid ⟨hv, ?_, ?_⟩⟩, ?_⟩
                  · omega
                  · rw [List.length_append]; omega
                  · show t4.size < t.size
                    omega
          have n9 := h
          clear h
          focus
            have hv := vp_esc hd hv h0 e1 hd2 hb2 (by omega) (by omega) (by omega)
            rw [e2] at hv
            have he : ech r2 = r2 := ech_id r2 (by omega) (by omega) (by omega) (by omega) (by omega) (by omega)
            rw [he] at hv
            have HN := Lib.hid (⟨hv, hk, hal⟩ : _ ∧ _ ∧ _)
            clear hv hk hd hd2 he
            go_wp2_with (first
              | (go_at_call 21; first | ((with_reducible refine c1.mono ?_); rintro e W1 ⟨rfl, b1⟩; have hI1 := hI.old b1; have s1 := b1.size; have hT1 := hTW.below b1 hTW.lt) | ((with_reducible refine (c2 _ (by assumption)).mono ?_); rintro e W2 ⟨rfl, b2⟩; have hI2 := hI1.old b2; have s2 := b2.size; have hT2 := hT1.below b2 hT1.lt))
              | (go_at_call 22; refine (newErr _ _).mono ?_; rintro e W8 ⟨⟨tp, p, rfl⟩, b8⟩)
              | (go_at_call 23; refine (Tryd.Buffer_WriteRune_k w.heap.size w.heap.size _ _ (by omega) (by omega) _ (by first | exact hI3 | exact hI2 | exact hI1) (by omega) (Lib.byteCells_one _) (by rw [Lib.byteCells_length]; omega)).mono ?_; rintro e W9 ⟨rfl, h9, b9, k9⟩))
            obtain ⟨hv, hk, hal⟩ := HN.out
            refine ⟨⟨_, _, k, rfl, back h9, hbw.trans ((b1.mono hsz).trans ((b2.mono (Nat.le_trans hsz s1)).trans b9)), Lib.hid ⟨hv, ?_, ?_⟩⟩, ?_⟩
            · omega
            · rw [List.length_append]; have := (enc_le ((r2 : Nat) : Int)).2; have := (enc_le (65533 : Int)).2; omega
            · show t2.size < t.size
              omega
        · have hv := vp_char hd hv h0 hbad h92
          rw [e1] at hv
          clear hd
          have HN := Lib.hid (⟨hv, hk, hal⟩ : _ ∧ _ ∧ _)
          clear hv hk
          by_cases h65 : r = 65533
          · subst h65
            have hn1 : n ≠ 1 := fun e => hbad ⟨rfl, e⟩
            go_wp2_with (first
              | (go_at_call 21; first | ((with_reducible refine c1.mono ?_); rintro e W1 ⟨rfl, b1⟩; have hI1 := hI.old b1; have s1 := b1.size; have hT1 := hTW.below b1 hTW.lt) | ((with_reducible refine (c2 _ (by assumption)).mono ?_); rintro e W2 ⟨rfl, b2⟩; have hI2 := hI1.old b2; have s2 := b2.size; have hT2 := hT1.below b2 hT1.lt))
              | (go_at_call 22; refine (newErr _ _).mono ?_; rintro e W8 ⟨⟨tp, p, rfl⟩, b8⟩)
              | (go_at_call 23; refine (Tryd.Buffer_WriteRune_k w.heap.size w.heap.size _ _ (by omega) (by omega) _ (by first | exact hI3 | exact hI2 | exact hI1) (by omega) (Lib.byteCells_one _) (by rw [Lib.byteCells_length]; omega)).mono ?_; rintro e W9 ⟨rfl, h9, b9, k9⟩))
            obtain ⟨hv, hk, hal⟩ := HN.out
            refine ⟨⟨_, _, k, rfl, back h9, hbw.trans ((b1.mono hsz).trans b9), Lib.hid ⟨hv, ?_, ?_⟩⟩, ?_⟩
            · rw [← e1, ByteArray.size_extract]; omega
            · rw [← e1, List.length_append, ByteArray.size_extract]; have := (enc_le ((65533 : Nat) : Int)).2; have := (enc_le (65533 : Int)).2; omega
            · show t1.size < t.size
              rw [← e1, ByteArray.size_extract]; omega
          · skip
            go_wp2_with (first
              | (go_at_call 21; first | ((with_reducible refine c1.mono ?_); rintro e W1 ⟨rfl, b1⟩; have hI1 := hI.old b1; have s1 := b1.size; have hT1 := hTW.below b1 hTW.lt) | ((with_reducible refine (c2 _ (by assumption)).mono ?_); rintro e W2 ⟨rfl, b2⟩; have hI2 := hI1.old b2; have s2 := b2.size; have hT2 := hT1.below b2 hT1.lt))
              | (go_at_call 22; refine (newErr _ _).mono ?_; rintro e W8 ⟨⟨tp, p, rfl⟩, b8⟩)
              | (go_at_call 23; refine (Tryd.Buffer_WriteRune_k w.heap.size w.heap.size _ _ (by omega) (by omega) _ (by first | exact hI3 | exact hI2 | exact hI1) (by omega) (Lib.byteCells_one _) (by rw [Lib.byteCells_length]; omega)).mono ?_; rintro e W9 ⟨rfl, h9, b9, k9⟩))
            obtain ⟨hv, hk, hal⟩ := HN.out
            refine ⟨⟨_, _, k, rfl, back h9, hbw.trans ((b1.mono hsz).trans b9), Lib.hid ⟨hv, ?_, ?_⟩⟩, ?_⟩
            · rw [← e1, ByteArray.size_extract]; omega
            · rw [← e1, List.length_append, ByteArray.size_extract]; have := (enc_le r).2; omega
            · show t1.size < t.size
              rw [← e1, ByteArray.size_extract]; omega
end Go.Proofs.YthhehbocbhhbbaaDoor.Vr
