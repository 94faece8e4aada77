/-
spec.Unquoted reads a string byte by byte: the whole of it.
-/
import Derived.Test.YthhehbocbhhbbaaDoorUb
namespace Go.Proofs.YthhehbocbhhbbaaDoor.Uc
set_option linter.unusedVariables false
set_option linter.unusedSimpArgs false
open Go.RowKit Go.Proofs.YthhehbocbhhbbaaDoorW.PrintWords Go.Proofs.YthhehbocbhhbbaaDoor.Q Go.Proofs.YthhehbocbhhbbaaDoor.Com Go.Proofs.YthhehbocbhhbbaaDoor.Us Go.Proofs.YthhehbocbhhbbaaDoor.Ut Go.Proofs.YthhehbocbhhbbaaDoor.Ua Go.Proofs.YthhehbocbhhbbaaDoor.Ub Go.Proofs.YthhehbocbhhbbaaDoor.Vq Go.Proofs.YthhehbocbhhbbaaDoor.Pn

theorem w_end (s : ByteArray) (hs : s.size ≤ 3000000000) : wrap64 ((s.size : Int) - 1) = (s.size : Int) - 1 := wrap_of (by omega) (by omega)
theorem w_next (i : Nat) (h : i ≤ 3000000000) : wrap64 ((i : Int) + 1) = ((i + 1 : Nat) : Int) := by rw [wrap_of (by omega) (by omega)]; omega

section
variable (s : ByteArray) (hs : s.size ≤ 3000000000) (acc : List UInt8) (i : Nat)
include hs
theorem un_end (h : s.size ≤ i + 1) : Ev (fun k => spec_Unquoted.l0 k s (zs acc) (i : Int)) (mkb acc, true) := by
  have q1 : ¬ (i : Int) < (s.size : Int) - 1 := by omega
  refine Ev.step (fun k => by rw [spec_Unquoted.l0, w_end s hs]) ?_
  exact Ev.no q1 (Ev.is (by rw [zs_str]))
theorem un_char (c : UInt8) (t : List UInt8) (r : ByteArray × Bool) (h1 : c ≠ 92) (ha : acc.length < 1099511627776) (hd : (B s).drop i = c :: t) (ht : t ≠ []) (h : Ev (fun k => spec_Unquoted.l0 k s (zs (acc ++ [c])) ((i + 1 : Nat) : Int)) r) : Ev (fun k => spec_Unquoted.l0 k s (zs acc) (i : Int)) r := by
  obtain ⟨hb, hi, _⟩ := bt_drop hd
  have hz := drop_size hd
  have htl : 1 ≤ t.length := by cases t with
    | nil => exact absurd rfl ht
    | cons _ _ => simp
  have q1 : (i : Int) < (s.size : Int) - 1 := by omega
  have q2 : (0 : Int) ≤ (i : Int) := by omega
  have q3 : (i : Int) < (s.size : Int) := by omega
  have q4 : ¬ bt s (i : Int) = 92 := by rw [hb]; exact toInt_ne h1
  have q5 : (zs acc).length < 140737488355328 := by rw [zs_len]; omega
  have e : zs acc ++ [bt s (i : Int)] = zs (acc ++ [c]) := by rw [hb, ← zs_app]; rfl
  refine Ev.step (fun k => by rw [spec_Unquoted.l0, w_end s hs, w_next i (by omega)]) ?_
  rw [e]
  exact Ev.yes q1 (Ev.yes q2 (Ev.yes q3 (Ev.no q4 (Ev.yes q5 h))))
theorem un_esc (d : UInt8) (t : List UInt8) (r : ByteArray × Bool) (hd : (B s).drop i = 92 :: d :: t) (h : Ev (fun k => spec_Unquoted.j1 k s (zs acc) ((i + 1 : Nat) : Int) (d.toNat : Int) (d.toNat : Int) (decide (d = 117 ∨ d = 85))) r) : Ev (fun k => spec_Unquoted.l0 k s (zs acc) (i : Int)) r := by
  obtain ⟨hb, hi, hn⟩ := bt_drop hd
  obtain ⟨hb2, hi2, _⟩ := bt_drop hn
  have hz := drop_size hd
  rw [List.length_cons] at hz
  have q1 : (i : Int) < (s.size : Int) - 1 := by omega
  have q2 : (0 : Int) ≤ (i : Int) := by omega
  have q3 : (i : Int) < (s.size : Int) := by omega
  have q4 : bt s (i : Int) = 92 := by rw [hb]; rfl
  have q5 : (0 : Int) ≤ ((i + 1 : Nat) : Int) := by omega
  have q6 : ((i + 1 : Nat) : Int) < (s.size : Int) := by omega
  refine Ev.step (fun k => by rw [spec_Unquoted.l0, w_end s hs, w_next i (by omega)]) ?_
  refine Ev.yes q1 (Ev.yes q2 (Ev.yes q3 (Ev.yes q4 (Ev.yes q5 (Ev.yes q6 ?_)))))
  rw [hb2]
  by_cases h117 : d = 117
  · subst h117
    rw [decide_eq_true (Or.inl rfl)] at h
    exact Ev.yes rfl h
  · have q7 : ¬ (d.toNat : Int) = 117 := toInt_ne (b := 117) h117
    refine Ev.no q7 ?_
    have e : ((d.toNat : Int) == 85) = decide (d = 117 ∨ d = 85) := by
      by_cases h85 : d = 85
      · subst h85; rfl
      · rw [decide_eq_false (by rintro (h | h) <;> contradiction), beq_eq_false_iff_ne]; exact toInt_ne (b := 85) h85
    rw [e]
    exact h
theorem un_nl (x : Int) (r : ByteArray × Bool) (hi : i ≤ 3000000000) (h : Ev (fun k => spec_Unquoted.l0 k s (zs acc) ((i + 1 : Nat) : Int)) r) : Ev (fun k => spec_Unquoted.j1 k s (zs acc) (i : Int) x 10 false) r := by
  have _ := hs
  refine Ev.step (fun k => by rw [spec_Unquoted.j1, w_next i hi]) ?_
  exact Ev.no Bool.false_ne_true (Ev.yes rfl h)
theorem un_plain (d : UInt8) (r : ByteArray × Bool) (hi : i ≤ 3000000000) (ha : acc.length < 1099511627776) (h10 : d ≠ 10) (h : Ev (fun k => spec_Unquoted.l0 k s (zs (acc ++ [UInt8.ofNat (ech d.toNat)])) ((i + 1 : Nat) : Int)) r) : Ev (fun k => spec_Unquoted.j1 k s (zs acc) (i : Int) (d.toNat : Int) (d.toNat : Int) false) r := by
  have _ := hs
  have q1 : ¬ (d.toNat : Int) = 10 := toInt_ne (b := 10) h10
  have q2 : (zs acc).length < 140737488355328 := by rw [zs_len]; omega
  have e : zs (acc ++ [UInt8.ofNat (ech d.toNat)]) = zs acc ++ [((ech d.toNat : Nat) : Int)] := by
    rw [← zs_app]
    congr 1
    show [((UInt8.ofNat (ech d.toNat)).toNat : Int)] = _
    rw [ofNat_val (ech_256 d)]
  rw [e] at h
  refine Ev.step (fun k => by rw [spec_Unquoted.j1, w_next i hi]) ?_
  exact Ev.no Bool.false_ne_true (Ev.no q1 (Ev.bind (esc_ev d) (Ev.yes q2 h)))
theorem un_hexstart (d : UInt8) (x : Int) (r : ByteArray × Bool) (many : Nat) (hm : (d = 117 ∧ many = 4) ∨ (d = 85 ∧ many = 8)) (h : Ev (fun k => spec_Unquoted.l1 k s (zs acc) (i : Int) ((0 : Nat) : Int) (many : Int) ((0 : Nat) : Int)) r) : Ev (fun k => spec_Unquoted.j1 k s (zs acc) (i : Int) (d.toNat : Int) x true) r := by
  have _ := hs
  refine Ev.step (fun k => by rw [spec_Unquoted.j1]) ?_
  refine Ev.yes rfl ?_
  rcases hm with ⟨rfl, rfl⟩ | ⟨rfl, rfl⟩
  · refine Ev.no (by decide) ?_
    exact Ev.step (fun k => by rw [spec_Unquoted.j2]; rfl) h
  · refine Ev.yes (by decide) ?_
    exact Ev.step (fun k => by rw [spec_Unquoted.j2]; rfl) h
theorem un_hexend (v many : Nat) (r : ByteArray × Bool) (hi : i ≤ 3000000000) (ha : acc.length < 1099511627776) (hv : v < 4294967296) (h : Ev (fun k => spec_Unquoted.l0 k s (zs (acc ++ Lib.encodeRune (i32 v))) ((i + 1 : Nat) : Int)) r) : Ev (fun k => spec_Unquoted.l1 k s (zs acc) (i : Int) (v : Int) (many : Int) (many : Int)) r := by
  have _ := hs
  rw [fix_enc v hv] at h
  have hap := app_ev acc (fix v) (fix_ok v) ha
  have q0 : ¬ (many : Int) < (many : Int) := by omega
  refine Ev.step (fun k => by rw [spec_Unquoted.l1, w_next i hi]) ?_
  refine Ev.no q0 ?_
  unfold fix at hap h
  by_cases h1 : v > 1114111
  · have q1 : (v : Int) > 1114111 := by omega
    rw [if_pos h1] at hap h
    exact Ev.yes q1 (Ev.bind hap h)
  · have q1 : ¬ (v : Int) > 1114111 := by omega
    rw [if_neg h1] at hap h
    refine Ev.no q1 ?_
    by_cases h2 : 55296 ≤ v
    · have q2 : (55296 : Int) ≤ (v : Int) := by omega
      refine Ev.yes q2 ?_
      by_cases h3 : v < 57344
      · have q3 : (v : Int) < 57344 := by omega
        rw [if_pos ⟨h2, h3⟩] at hap h
        exact Ev.yes q3 (Ev.bind hap h)
      · have q3 : ¬ (v : Int) < 57344 := by omega
        rw [if_neg (fun e => h3 e.2)] at hap h
        exact Ev.no q3 (Ev.bind hap h)
    · have q2 : ¬ (55296 : Int) ≤ (v : Int) := by omega
      rw [if_neg (fun e => h2 e.1)] at hap h
      exact Ev.no q2 (Ev.bind hap h)
theorem un_hexcut (v many j : Nat) (hj : j < many) (hi : s.size ≤ i + 2) (hi2 : i ≤ 3000000000) : Ev (fun k => spec_Unquoted.l1 k s (zs acc) (i : Int) (v : Int) (many : Int) (j : Int)) (⟨#[]⟩, false) := by
  have q0 : (j : Int) < (many : Int) := by omega
  have q1 : ¬ ((i + 1 : Nat) : Int) < (s.size : Int) - 1 := by omega
  refine Ev.step (fun k => by rw [spec_Unquoted.l1, w_end s hs, w_next i hi2]) ?_
  exact Ev.yes q0 (Ev.no q1 (Ev.now _))
theorem or_is (v d : Nat) (hv : v < 4294967296) (hd : d < 16) : Go.bits .or .i64 (wrap64 ((v : Int) * 16)) (wrap64 (d : Int)) = ((v * 16 + d : Nat) : Int) := by
  have _ := hs
  rw [wrap_of (a := (v : Int) * 16) (by omega) (by omega), wrap_of (a := (d : Int)) (by omega) (by omega)]
  rw [bits_join .i64 63 (by decide) (fun n h0 h1 => by rw [IntKind.wrap_i64]; omega) 4 ((v : Int) * 16) (d : Int) (by omega) (by omega) (by omega) (by omega) (by omega) (by omega)]
  omega
theorem hexv_lt {c : UInt8} {d : Nat} (hx : hexv c = some d) : d < 16 := by
  have _ := hs
  unfold hexv at hx
  split at hx
  · obtain rfl := Option.some.inj hx; omega
  · split at hx
    · obtain rfl := Option.some.inj hx; omega
    · cases hx
theorem un_hexnone (c : UInt8) (t : List UInt8) (v many j : Nat) (hj : j < many) (hd : (B s).drop (i + 1) = c :: t) (ht : t ≠ []) (hx : hexv c = none) : Ev (fun k => spec_Unquoted.l1 k s (zs acc) (i : Int) (v : Int) (many : Int) (j : Int)) (⟨#[]⟩, false) := by
  obtain ⟨hb, hi, _⟩ := bt_drop hd
  have hz := drop_size hd
  have htl : 1 ≤ t.length := by cases t with
    | nil => exact absurd rfl ht
    | cons _ _ => simp
  have q0 : (j : Int) < (many : Int) := by omega
  have q1 : ((i + 1 : Nat) : Int) < (s.size : Int) - 1 := by omega
  have q2 : (0 : Int) ≤ ((i + 1 : Nat) : Int) := by omega
  have q3 : ((i + 1 : Nat) : Int) < (s.size : Int) := by omega
  obtain ⟨x, he, _⟩ := hex_ev c
  rw [hx, ← hb] at he
  refine Ev.step (fun k => by rw [spec_Unquoted.l1, w_end s hs, w_next i (by omega)]) ?_
  exact Ev.yes q0 (Ev.yes q1 (Ev.yes q2 (Ev.yes q3 (Ev.bind he (Ev.no (by simp) (Ev.now _))))))
theorem un_hexsome (c : UInt8) (t : List UInt8) (v many j d : Nat) (r : ByteArray × Bool) (hv : v < 4294967296) (hj : j < many) (hm : many ≤ 8) (hd : (B s).drop (i + 1) = c :: t) (ht : t ≠ []) (hx : hexv c = some d) (h : Ev (fun k => spec_Unquoted.l1 k s (zs acc) ((i + 1 : Nat) : Int) ((v * 16 + d : Nat) : Int) (many : Int) ((j + 1 : Nat) : Int)) r) : Ev (fun k => spec_Unquoted.l1 k s (zs acc) (i : Int) (v : Int) (many : Int) (j : Int)) r := by
  obtain ⟨hb, hi, _⟩ := bt_drop hd
  have hz := drop_size hd
  have htl : 1 ≤ t.length := by cases t with
    | nil => exact absurd rfl ht
    | cons _ _ => simp
  have q0 : (j : Int) < (many : Int) := by omega
  have q1 : ((i + 1 : Nat) : Int) < (s.size : Int) - 1 := by omega
  have q2 : (0 : Int) ≤ ((i + 1 : Nat) : Int) := by omega
  have q3 : ((i + 1 : Nat) : Int) < (s.size : Int) := by omega
  obtain ⟨x, he, hxd⟩ := hex_ev c
  have hd16 := hexv_lt s hs hx
  obtain rfl := hxd d hx
  rw [hx, ← hb] at he
  refine Ev.step (fun k => by rw [spec_Unquoted.l1, w_end s hs, w_next i (by omega)]) ?_
  refine Ev.yes q0 (Ev.yes q1 (Ev.yes q2 (Ev.yes q3 (Ev.bind he (Ev.yes rfl ?_)))))
  have e1 : wrap64 ((j : Int) + 1) = ((j + 1 : Nat) : Int) := w_next j (by omega)
  show Ev (fun k => spec_Unquoted.l1 k s (zs acc) ((i + 1 : Nat) : Int) (Go.bits .or .i64 (wrap64 ((v : Int) * 16)) (wrap64 (d : Int))) (many : Int) (wrap64 ((j : Int) + 1))) r
  rw [or_is s hs v d hv hd16, e1]
  exact h
/-- The digits behind u or U. -/
theorem un_hex (m : UInt8) (many : Nat) (hm : many ≤ 8) (ans : ByteArray × Bool) (ha : acc.length < 1099511627776) : ∀ (rem j v : Nat) (l : List UInt8) (i : Nat), j + rem = many → v < 16 ^ j → (B s).drop (i + 1) = l ++ [m] →
    ((l.length < rem ∨ px v (l.take rem) = none) → ans = (⟨#[]⟩, false)) → (∀ v', rem ≤ l.length → px v (l.take rem) = some v' → Ev (fun k => spec_Unquoted.l0 k s (zs (acc ++ Lib.encodeRune (i32 v'))) ((i + rem + 1 : Nat) : Int)) ans) →
    Ev (fun k => spec_Unquoted.l1 k s (zs acc) (i : Int) (v : Int) (many : Int) (j : Int)) ans := by
  intro rem
  induction rem with
  | zero =>
    intro j v l i hj hv hd hno hyes
    obtain rfl : j = many := by omega
    have hp : (16 : Nat) ^ j ≤ 16 ^ 8 := Nat.pow_le_pow_right (by decide) hm
    have hi : i + 1 ≤ s.size := by
      have := congrArg List.length hd
      rw [List.length_drop, B_length, List.length_append, List.length_singleton] at this; omega
    exact un_hexend s hs acc i v j ans (by omega) ha (Nat.lt_of_lt_of_le hv (Nat.le_trans hp (by decide))) (hyes v (Nat.zero_le _) (by rw [List.take_zero]; rfl))
  | succ rem ih =>
    intro j v l i hj hv hd hno hyes
    have hi : i + 2 ≤ s.size := by
      have := congrArg List.length hd
      rw [List.length_drop, B_length, List.length_append, List.length_singleton] at this; omega
    cases l with
    | nil =>
      rw [hno (.inl (Nat.succ_pos _))]
      have hz := drop_size hd
      simp only [List.length_nil] at hz
      exact un_hexcut s hs acc i v many j (by omega) (by omega) (by omega)
    | cons c r =>
      rw [List.cons_append] at hd
      cases hx : hexv c with
      | none =>
        rw [hno (.inr (by rw [List.take_succ_cons]; simp only [px, hx]))]
        exact un_hexnone s hs acc i c _ v many j (by omega) hd (by simp) hx
      | some d =>
        have hp : (16 : Nat) ^ j ≤ 16 ^ 8 := Nat.pow_le_pow_right (by decide) (by omega)
        have hd16 := hexv_lt s hs hx
        have hv' : v < 4294967296 := Nat.lt_of_lt_of_le hv (Nat.le_trans hp (by decide))
        have e : px v ((c :: r).take (rem + 1)) = px (v * 16 + d) (r.take rem) := by rw [List.take_succ_cons]; simp only [px, hx]
        rw [e] at hno
        refine un_hexsome s hs acc i c _ v many j d ans hv' (by omega) hm hd (by simp) hx ?_
        refine ih (j + 1) (v * 16 + d) r (i + 1) (by omega) (by rw [Nat.pow_succ]; omega) (drop_next hd) (fun h => hno (h.imp (fun h => Nat.succ_lt_succ h) id)) (fun v' hl hp => ?_)
        have := hyes v' (Nat.succ_le_succ hl) (by rw [e]; exact hp)
        rw [show i + 1 + rem + 1 = i + (rem + 1) + 1 from by omega]
        exact this
end

theorem oki_px (m : UInt8) : ∀ (l : List UInt8) (n acc v : Nat), px acc (l.take n) = some v → OKI m l = true → True ∧ OKI m (l.drop n) = true
  | [], n, acc, v, _, ho => by simpa using ho
  | c :: r, 0, acc, v, _, ho => ⟨trivial, ho⟩
  | c :: r, n + 1, acc, v, hp, ho => by
    rw [List.take_succ_cons] at hp
    simp only [px] at hp
    cases hx : hexv c with
    | none => rw [hx] at hp; cases hp
    | some d =>
      rw [hx] at hp
      exact oki_px m r n _ v hp (oki_tail (hex_ne hx) ho).1
theorem un_loop (m : UInt8) (s : ByteArray) (hs : s.size ≤ 3000000000) : ∀ (n : Nat) (l acc : List UInt8) (i : Nat), l.length ≤ n → OKI m l = true → (B s).drop i = l ++ [m] → acc.length + 4 * l.length ≤ 100000000000 → Ev (fun k => spec_Unquoted.l0 k s (zs acc) (i : Int)) (ansU (U l acc)) := by
  intro n
  induction n with
  | zero =>
    intro l acc i hn ho hd ha
    obtain rfl : l = [] := List.eq_nil_of_length_eq_zero (by omega)
    have hz := drop_size hd
    simp only [List.length_nil] at hz
    rw [U_nil]
    exact un_end s hs acc i (by omega)
  | succ n ih =>
    intro l acc i hn ho hd ha
    cases l with
    | nil =>
      have hz := drop_size hd
      simp only [List.length_nil] at hz
      rw [U_nil]
      exact un_end s hs acc i (by omega)
    | cons c r =>
      rw [List.length_cons] at hn ha
      by_cases h92 : c = 92
      · subst h92
        obtain ⟨d, r', rfl, hor⟩ := oki_esc ho
        rw [List.length_cons] at hn ha
        have hz := drop_size hd
        have hd2 := drop_next hd
        have hd3 := drop_next hd2
        refine un_esc s hs acc i d (r' ++ [m]) _ hd ?_
        rw [U_esc]
        by_cases h10 : d = 10
        · subst h10
          rw [if_pos rfl, decide_eq_false (by decide)]
          exact un_nl s hs acc (i + 1) _ _ (by omega) (ih r' acc (i + 2) (by omega) hor hd3 (by omega))
        · rw [if_neg h10]
          by_cases hu : d = 117 ∨ d = 85
          · rw [if_pos hu, decide_eq_true hu]
            obtain ⟨q, hq, hq2⟩ : ∃ q, (if d = 117 then 4 else 8) = q ∧ ((d = 117 ∧ q = 4) ∨ (d = 85 ∧ q = 8)) := by
              rcases hu with rfl | rfl
              · exact ⟨4, rfl, .inl ⟨rfl, rfl⟩⟩
              · exact ⟨8, rfl, .inr ⟨rfl, rfl⟩⟩
            rw [hq]
            refine un_hexstart s hs acc (i + 1) d _ _ q hq2 ?_
            refine un_hex s hs acc m q (by omega) _ (by omega) q 0 0 r' (i + 1) (by omega) (by decide) hd3 (fun h => ?_) (fun v hl hp => ?_)
            · by_cases hl : r'.length < q
              · rw [if_pos hl]; rfl
              · rw [if_neg hl]
                rcases h with h | h
                · exact absurd h hl
                · rw [h]; rfl
            · rw [if_neg (by omega), hp]
              obtain ⟨_, ho3⟩ := oki_px m r' q 0 v hp hor
              have hen := enc_le (i32 v)
              refine ih (r'.drop q) (acc ++ Lib.encodeRune (i32 v)) (i + 1 + q + 1) (by rw [List.length_drop]; omega) ho3 ?_ (by rw [List.length_append, List.length_drop]; omega)
              rw [show i + 1 + q + 1 = (i + 1 + 1) + q from by omega, ← List.drop_drop, hd3]
              exact List.drop_append_of_le_length hl
          · rw [if_neg hu, decide_eq_false hu]
            exact un_plain s hs acc (i + 1) d _ (by omega) (by omega) h10 (ih r' _ (i + 2) (by omega) hor hd3 (by rw [List.length_append, List.length_singleton]; omega))
      · rw [U_char c r acc h92]
        exact un_char s hs acc i c (r ++ [m]) _ h92 (by omega) hd (by simp) (ih r (acc ++ [c]) (i + 1) (by omega) (oki_tail h92 ho).1 (drop_next hd) (by rw [List.length_append, List.length_singleton]; omega))
theorem unq_ev (m : UInt8) (a : ByteArray) (ha : a.size ≤ 2147483647) (ho : OKI m (B a) = true) : Ev (fun k => spec_Unquoted.f k (S m a)) (ansU (U (B a) [])) := by
  have hl := B_length a
  exact un_loop m (S m a) (by rw [S_size]; omega) (B a).length (B a) [] 1 (Nat.le_refl _) ho (by rw [B_S]; rfl) (by simp only [List.length_nil]; omega)
end Go.Proofs.YthhehbocbhhbbaaDoor.Uc
