/-
What is proved: of a string as strconv.Quote writes it the program's characters are the string; for every input.
-/
import Derived.Test.YthhehbocbhhbbaaDoorUd
import Derived.Test.YthhehbocbhhbbaaDoorQ5
namespace Go.Proofs.YthhehbocbhhbbaaDoor.PureG
set_option linter.unusedVariables false
set_option linter.unusedSimpArgs false
open Go.RowKit Go.Proofs.YthhehbocbhhbbaaDoorW.PrintWords Go.Proofs.YthhehbocbhhbbaaDoor.Q Go.Proofs.YthhehbocbhhbbaaDoor.Com Go.Proofs.YthhehbocbhhbbaaDoor.Us Go.Proofs.YthhehbocbhhbbaaDoor.Ut Go.Proofs.YthhehbocbhhbbaaDoor.Ua Go.Proofs.YthhehbocbhhbbaaDoor.Ub Go.Proofs.YthhehbocbhhbbaaDoor.Uc Go.Proofs.YthhehbocbhhbbaaDoor.Ud Go.Proofs.YthhehbocbhhbbaaDoor.Vq Go.Proofs.YthhehbocbhhbbaaDoor.Pn

def enc (q : List Int) : List UInt8 := q.map fun n => UInt8.ofNat n.toNat
theorem B_str (q : List Int) : B (strOfNums q) = enc q := rfl
theorem enc_app (a b : List Int) : enc (a ++ b) = enc a ++ enc b := List.map_append
theorem str_S (q : List Int) : strOfNums (34 :: (q ++ [34])) = S 34 (strOfNums q) := by
  apply B_inj
  rw [B_S, B_str, B_str]
  show UInt8.ofNat 34 :: enc (q ++ [34]) = _
  rw [enc_app]; rfl

theorem valid_asc : ∀ (l : List UInt8), (∀ c ∈ l, c.toNat < 128) → Valid l
  | [], _ => Valid.nil
  | c :: r, h => by
    have hc := h c (List.mem_cons_self ..)
    have := Valid.cons c.toNat r (by unfold okr; omega) (valid_asc r fun x hx => h x (List.mem_cons_of_mem _ hx))
    rw [eb1 hc, UInt8.ofNat_toNat] at this
    exact this
theorem oki_plain (m : UInt8) : ∀ (l : List UInt8), (∀ c ∈ l, c ≠ 92 ∧ c ≠ m) → OKI m l = true
  | [], _ => rfl
  | [c], h => by
    have := h c (List.mem_cons_self ..)
    simp [OKI, this.1, this.2]
  | c :: d :: r, h => by
    have := h c (List.mem_cons_self ..)
    have ih := oki_plain m (d :: r) fun x hx => h x (List.mem_cons_of_mem _ hx)
    simp only [OKI, if_neg this.1, ih, Bool.and_true, bne_iff_ne, ne_eq]
    exact this.2

theorem hexd (d : Nat) (h : d < 16) : hexv (UInt8.ofNat (Lib.hexDigit d).toNat) = some d ∧ UInt8.ofNat (Lib.hexDigit d).toNat ≠ 92 ∧ UInt8.ofNat (Lib.hexDigit d).toNat ≠ 34 ∧ (UInt8.ofNat (Lib.hexDigit d).toNat).toNat < 128 := by
  have hk : ∀ n : Fin 16, hexv (UInt8.ofNat (Lib.hexDigit n.val).toNat) = some n.val ∧ UInt8.ofNat (Lib.hexDigit n.val).toNat ≠ 92 ∧ UInt8.ofNat (Lib.hexDigit n.val).toNat ≠ 34 ∧ (UInt8.ofNat (Lib.hexDigit n.val).toNat).toNat < 128 := by decide +kernel
  exact hk ⟨d, h⟩
theorem digs (r : Nat) : ∀ (n acc : Nat), px acc (enc (Lib.hexDigits r n)) = some (acc * 16 ^ n + r % 16 ^ n) ∧ (enc (Lib.hexDigits r n)).length = n ∧ ∀ c ∈ enc (Lib.hexDigits r n), (c ≠ 92 ∧ c ≠ 34) ∧ c.toNat < 128
  | 0, acc => by
    refine ⟨?_, rfl, fun c hc => by cases hc⟩
    show some acc = _
    rw [Nat.pow_zero, Nat.mul_one, Nat.mod_one, Nat.add_zero]
  | n + 1, acc => by
    have hd16 : r / 16 ^ n % 16 < 16 := Nat.mod_lt _ (by decide)
    obtain ⟨h1, h2, h3, h4⟩ := hexd _ hd16
    obtain ⟨i1, i2, i3⟩ := digs r n (acc * 16 + r / 16 ^ n % 16)
    have e : enc (Lib.hexDigits r (n + 1)) = UInt8.ofNat (Lib.hexDigit (r / 16 ^ n % 16)).toNat :: enc (Lib.hexDigits r n) := rfl
    rw [e]
    refine ⟨?_, by rw [List.length_cons, i2], fun c hc => ?_⟩
    · simp only [px, h1]
      rw [i1, Nat.pow_succ, Nat.mod_mul, Nat.add_mul, Nat.mul_assoc, Nat.mul_comm 16 (16 ^ n), Nat.mul_comm (r / 16 ^ n % 16) (16 ^ n)]
      congr 1
      omega
    · rcases List.mem_cons.1 hc with rfl | hc
      · exact ⟨⟨h2, h3⟩, h4⟩
      · exact i3 c hc

def Al (c : UInt8) : Prop := c.toNat ≠ 127 ∧ (c.toNat < 32 → 7 ≤ c.toNat ∧ c.toNat ≠ 11 ∧ c.toNat ≤ 13)
/-- A rune's escape is read as the rune. -/
def Good (e : List UInt8) (r : Nat) : Prop := Valid e ∧ OKI 34 e = true ∧ U e [] = some (eb r)
theorem good_esc (d : UInt8) (r : Nat) (h1 : d.toNat < 128) (h2 : d ≠ 10) (h3 : ¬ (d = 117 ∨ d = 85)) (hr : r < 128) (h4 : ech d.toNat = r) : Good [92, d] r := by
  refine ⟨valid_asc _ (fun c hc => ?_), by simp [OKI], ?_⟩
  · simp only [List.mem_cons, List.not_mem_nil, or_false] at hc
    rcases hc with rfl | rfl
    · decide
    · exact h1
  · rw [U_esc, if_neg h2, if_neg h3, U_nil, h4, eb1 hr]; rfl
theorem good_hex (d : UInt8) (q r : Nat) (hd : (d = 117 ∧ q = 4) ∨ (d = 85 ∧ q = 8)) (ho : okr r) (hr : r < 16 ^ q) : Good (92 :: d :: enc (Lib.hexDigits r q)) r := by
  obtain ⟨h1, h2, h3⟩ := digs r q 0
  have hr2 : r < 2147483648 := by unfold okr at ho; omega
  rw [Nat.zero_mul, Nat.zero_add, Nat.mod_eq_of_lt hr] at h1
  refine ⟨valid_asc _ (fun c hc => ?_), ?_, ?_⟩
  · rcases List.mem_cons.1 hc with rfl | hc
    · decide
    · rcases List.mem_cons.1 hc with rfl | hc
      · rcases hd with ⟨rfl, _⟩ | ⟨rfl, _⟩ <;> decide
      · exact (h3 c hc).2
  · have := oki_plain 34 _ fun c hc => (h3 c hc).1
    simp only [OKI, if_pos]
    exact this
  · have hq : (if d = 117 then 4 else 8) = q := by rcases hd with ⟨rfl, rfl⟩ | ⟨rfl, rfl⟩ <;> rfl
    have hd10 : d ≠ 10 := by rcases hd with ⟨rfl, rfl⟩ | ⟨rfl, rfl⟩ <;> decide
    have hdu : d = 117 ∨ d = 85 := by rcases hd with ⟨rfl, rfl⟩ | ⟨rfl, rfl⟩ <;> decide
    rw [U_esc, if_neg hd10, if_pos hdu, hq, if_neg (by omega), List.take_of_length_le (by omega), h1, List.drop_of_length_le (by omega)]
    show U [] ([] ++ Lib.encodeRune (i32 r)) = _
    rw [U_nil]
    unfold i32 eb
    rw [if_pos hr2]; rfl
theorem good (T : Lib.PrintTabs) (r : Nat) (ho : okr r) (hal : r < 128 → r ≠ 127 ∧ (r < 32 → 7 ≤ r ∧ r ≠ 11 ∧ r ≤ 13)) : Good (enc (Lib.escRune T (r : Int))) r := by
  have ho' := ho
  unfold okr at ho'
  unfold Lib.escRune
  by_cases c0 : (r : Int) = 34 ∨ (r : Int) = 92
  · rw [if_pos c0]
    have e : r = 34 ∨ r = 92 := by omega
    rcases e with rfl | rfl
    · exact good_esc 34 34 (by decide) (by decide) (by decide) (by decide) (by decide)
    · exact good_esc 92 92 (by decide) (by decide) (by decide) (by decide) (by decide)
  rw [if_neg c0]
  by_cases c1 : Lib.isPrintR T (r : Int) = true
  · rw [if_pos c1]
    have e : enc (Lib.encodeRuneZ (r : Int)) = eb r := rfl
    rw [e]
    have hne : ∀ c ∈ eb r, c ≠ 92 ∧ c ≠ 34 := by
      intro c hc
      by_cases h1 : r < 128
      · rw [eb1 h1, List.mem_singleton] at hc
        rw [hc]
        exact ⟨fun e => c0 (.inr (by have := ofNat_inj (a := r) (b := 92) (by omega) (by decide) e; omega)), fun e => c0 (.inl (by have := ofNat_inj (a := r) (b := 34) (by omega) (by decide) e; omega))⟩
      · have := eb_high (by omega) ho c hc
        exact ⟨ne92 this, fun e => by subst e; exact absurd this (by decide)⟩
    refine ⟨?_, oki_plain 34 _ hne, ?_⟩
    · have := Valid.cons r [] ho Valid.nil
      rwa [List.append_nil] at this
    · have := U_plain (eb r) [] [] fun c hc => (hne c hc).1
      rw [List.append_nil] at this
      rw [this, U_nil]; rfl
  rw [if_neg c1]
  by_cases c2 : (r : Int) = 7
  · rw [if_pos c2]
    obtain rfl : r = 7 := by omega
    exact good_esc 97 7 (by decide) (by decide) (by decide) (by decide) (by decide)
  rw [if_neg c2]
  by_cases c3 : (r : Int) = 8
  · rw [if_pos c3]
    obtain rfl : r = 8 := by omega
    exact good_esc 98 8 (by decide) (by decide) (by decide) (by decide) (by decide)
  rw [if_neg c3]
  by_cases c4 : (r : Int) = 12
  · rw [if_pos c4]
    obtain rfl : r = 12 := by omega
    exact good_esc 102 12 (by decide) (by decide) (by decide) (by decide) (by decide)
  rw [if_neg c4]
  by_cases c5 : (r : Int) = 10
  · rw [if_pos c5]
    obtain rfl : r = 10 := by omega
    exact good_esc 110 10 (by decide) (by decide) (by decide) (by decide) (by decide)
  rw [if_neg c5]
  by_cases c6 : (r : Int) = 13
  · rw [if_pos c6]
    obtain rfl : r = 13 := by omega
    exact good_esc 114 13 (by decide) (by decide) (by decide) (by decide) (by decide)
  rw [if_neg c6]
  by_cases c7 : (r : Int) = 9
  · rw [if_pos c7]
    obtain rfl : r = 9 := by omega
    exact good_esc 116 9 (by decide) (by decide) (by decide) (by decide) (by decide)
  rw [if_neg c7]
  by_cases c8 : (r : Int) = 11
  · have := hal (by omega); omega
  rw [if_neg c8]
  by_cases c9 : (r : Int) < 32 ∨ (r : Int) = 127
  · have := hal (by omega); omega
  rw [if_neg c9]
  have hvr : Lib.validRune (r : Int) = true := by
    simp only [Lib.validRune, decide_eq_true_eq]; omega
  rw [if_neg (by rw [hvr]; simp)]
  rw [Int.toNat_natCast]
  by_cases c10 : (r : Int) < 65536
  · rw [if_pos c10]
    exact good_hex 117 4 r (.inl ⟨rfl, rfl⟩) ho (by omega)
  · rw [if_neg c10]
    exact good_hex 85 8 r (.inr ⟨rfl, rfl⟩) ho (by omega)

theorem quote_ok (T : Lib.PrintTabs) : ∀ (f : Nat) (l : List UInt8), l.length ≤ f → Valid l → (∀ c ∈ l, Al c) →
    Valid (enc (Lib.quoteFrom T f (mkb l))) ∧ OKI 34 (enc (Lib.quoteFrom T f (mkb l))) = true ∧ U (enc (Lib.quoteFrom T f (mkb l))) [] = some l := by
  intro f
  induction f with
  | zero =>
    intro l hl hv ha
    obtain rfl : l = [] := List.eq_nil_of_length_eq_zero (by omega)
    exact ⟨Valid.nil, rfl, U_nil []⟩
  | succ f ih =>
    intro l hl hv ha
    by_cases hne : l = []
    · subst hne
      have e : Lib.quoteFrom T (f + 1) (mkb []) = [] := by rw [Lib.quoteFrom, if_neg (by rw [size_mkb]; simp)]
      rw [e]
      exact ⟨Valid.nil, rfl, U_nil []⟩
    obtain ⟨r, l', ho, hv', rfl⟩ := valid_inv hv hne
    have hlen := eb_len r
    rw [List.length_append] at hl
    have hsz : (mkb (eb r ++ l')).size = (eb r).length + l'.length := by rw [size_mkb, List.length_append]
    have hd := dec_eb r ho l'
    unfold Lib.decodeGo at hd
    rw [if_neg (by omega)] at hd
    have e : Lib.quoteFrom T (f + 1) (mkb (eb r ++ l')) = Lib.escRune T (r : Int) ++ Lib.quoteFrom T f (mkb l') := by
      rw [Lib.quoteFrom, if_pos (by omega), hd]
      show Lib.quoteStep T (mkb (eb r ++ l')) ++ Lib.quoteFrom T f ((mkb (eb r ++ l')).extract (eb r).length (mkb (eb r ++ l')).size) = _
      rw [drop_eb]
      congr 1
      unfold Lib.quoteStep
      rw [hd, if_neg (fun h => eb_not_bad ho ⟨h.2, h.1⟩)]
    rw [e, enc_app]
    have hal : r < 128 → r ≠ 127 ∧ (r < 32 → 7 ≤ r ∧ r ≠ 11 ∧ r ≤ 13) := by
      intro h1
      have := ha (UInt8.ofNat r) (by rw [eb1 h1]; simp)
      unfold Al at this
      rw [ofNat_val (by omega)] at this
      exact this
    obtain ⟨g1, g2, g3⟩ := good T r ho hal
    obtain ⟨i1, i2, i3⟩ := ih l' (by omega) hv' (fun c hc => ha c (List.mem_append_right _ hc))
    refine ⟨valid_app g1 i1, oki_app 34 _ _ _ (Nat.le_refl _) g2 i2, ?_⟩
    rw [(U_all 34 _ _ [] _ (Nat.le_refl _) g2 g3).1, U_acc _ _ _ (Nat.le_refl _), i3]
    rfl

theorem j1_ev (s : ByteArray) (hs : s.size ≤ 4096) (hv : Valid (B s)) (ha : ∀ c ∈ B s, Al c) : Ev (fun k => laws_FnVtUnquoteGo.j1 k s false) true := by
  have hq : Gv.strconv_Quote.f s = some (S 34 (strOfNums (Lib.quoteFrom Lib.goPrintTabs s.size s))) := by
    unfold Gv.strconv_Quote.f
    rw [if_pos (by omega)]
    unfold Lib.quoteZ
    rw [str_S]
  obtain ⟨h1, h2, h3⟩ := quote_ok Lib.goPrintTabs s.size (B s) (by rw [B_length]; exact Nat.le_refl _) hv ha
  rw [mkb_B, ← B_str] at h1 h2 h3
  have hl : (strOfNums (Lib.quoteFrom Lib.goPrintTabs s.size s)).size ≤ 2147483647 := by
    have := Lib.quoteZ_length_le Lib.goPrintTabs s
    unfold Lib.quoteZ at this
    rw [← B_length, B_str]
    unfold enc
    rw [List.length_map]
    simp only [List.length_cons, List.length_append, List.length_nil] at this
    omega
  have hu := unq 34 _ hl h1 h2
  rw [h3] at hu
  refine Ev.step (fun k => by rw [laws_FnVtUnquoteGo.j1]) ?_
  refine Ev.no Bool.false_ne_true (Ev.call hq (Ev.call (show Gv.impl_VtUnquote.f _ = some (mkb (B s), true) from hu) (Ev.yes rfl (Ev.is ?_))))
  show ((mkb (B s)).toList == s.toList) = true
  rw [mkb_B]
  exact beq_self_eq_true _

theorem loop (s : ByteArray) (hs : s.size ≤ 2147483647) : ∀ (n i : Nat), s.size = i + n → (∀ c ∈ (B s).take i, Al c) → Ev (fun k => laws_FnVtUnquoteGo.l0 k s (i : Int)) true := by
  intro n
  induction n with
  | zero =>
    intro i hn hal
    have q : ¬ (i : Int) < (s.size : Int) := by omega
    rw [List.take_of_length_le (by rw [B_length]; omega)] at hal
    have out : Ev (fun k => laws_FnVtUnquoteGo.j1 k s true) true := by
      refine Ev.step (fun k => by rw [laws_FnVtUnquoteGo.j1]) ?_
      exact Ev.yes rfl (Ev.now _)
    obtain ⟨t, ht, hv⟩ := utf8_ev s (by omega)
    refine Ev.step (fun k => by rw [laws_FnVtUnquoteGo.l0]) ?_
    refine Ev.no q (Ev.both (fun _ => out) (fun c => Ev.bind ht ?_))
    cases t with
    | false => exact out
    | true => exact j1_ev s (by omega) (hv rfl) hal
  | succ n ih =>
    intro i hn hal
    obtain ⟨c, t, hd⟩ := drop_at (s := s) (i := i) (by omega)
    obtain ⟨hb, hi, _⟩ := bt_drop hd
    have q1 : (i : Int) < (s.size : Int) := by omega
    have q2 : (0 : Int) ≤ (i : Int) := by omega
    have htk : (B s).take (i + 1) = (B s).take i ++ [c] := by
      rw [List.take_add, hd]; rfl
    have go : Al c → Ev (fun k => laws_FnVtUnquoteGo.l0 k s ((i + 1 : Nat) : Int)) true := fun hc => ih (i + 1) (by omega) (fun x hx => by
      rw [htk] at hx
      rcases List.mem_append.1 hx with hx | hx
      · exact hal x hx
      · rw [List.mem_singleton.1 hx]; exact hc)
    refine Ev.step (fun k => by rw [laws_FnVtUnquoteGo.l0, hb, w_next i (by omega)]) ?_
    refine Ev.yes q1 (Ev.yes q2 (Ev.both (fun _ => Ev.now _) (fun c1 => ?_)))
    refine Ev.both (fun c2 => ?_) (fun c2 => go ⟨by omega, by omega⟩)
    exact Ev.both (fun _ => Ev.now _) (fun c3 => Ev.both (fun _ => Ev.now _) (fun c4 => Ev.both (fun _ => Ev.now _) (fun c5 => go ⟨by omega, by omega⟩)))

theorem FnVtUnquoteGo : ∀ (a0 : ByteArray), ∃ k, laws_FnVtUnquoteGo.f k a0 = some true := by
  intro a0
  apply Ev.rounds
  unfold laws_FnVtUnquoteGo.f
  exact Ev.both (fun _ => Ev.now _) (fun c => loop a0 (by omega) a0.size 0 (by omega) (fun x hx => by cases hx))
end Go.Proofs.YthhehbocbhhbbaaDoor.PureG
