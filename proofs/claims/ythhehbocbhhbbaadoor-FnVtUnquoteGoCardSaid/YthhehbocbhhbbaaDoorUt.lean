/-
The program's reading, rune by rune, is the reading byte by byte where the text is UTF-8.
-/
import Derived.Test.YthhehbocbhhbbaaDoorUs
namespace Go.Proofs.YthhehbocbhhbbaaDoor.Ut
set_option linter.unusedVariables false
set_option linter.unusedSimpArgs false
open Go.RowKit Go.Proofs.YthhehbocbhhbbaaDoor.Pn Go.Proofs.YthhehbocbhhbbaaDoor.Vp Go.Proofs.YthhehbocbhhbbaaDoor.Vq Go.Proofs.YthhehbocbhhbbaaDoor.Com Go.Proofs.YthhehbocbhhbbaaDoor.Us

theorem eb_not_bad {r : Nat} (ho : okr r) : ¬ (r = 65533 ∧ (eb r).length = 1) := by
  rintro ⟨rfl, h⟩
  rw [eb3 (by decide) (by decide) ho] at h
  simp at h
theorem drop_eb (r : Nat) (l : List UInt8) : (mkb (eb r ++ l)).extract (eb r).length (mkb (eb r ++ l)).size = mkb l := by
  rw [mkb_from, List.drop_left]
theorem eb92 : eb 92 = [92] := eb1 (by decide)
theorem ofNat_inj {a b : Nat} (ha : a < 256) (hb : b < 256) (h : UInt8.ofNat a = UInt8.ofNat b) : a = b := by
  have := congrArg UInt8.toNat h
  rw [ofNat_val ha, ofNat_val hb] at this
  exact this
theorem ech_lt {r : Nat} (h : r < 128) : ech r < 128 := by unfold ech; repeat' split
                                                           all_goals omega

set_option maxHeartbeats 4000000 in
theorem vp_U (m : UInt8) : ∀ (n : Nat) (l acc : List UInt8) (k : Nat), l.length ≤ n → l.length < k → Valid l → OKI m l = true → vp k (mkb l) acc = U l acc := by
  intro n
  induction n with
  | zero =>
    intro l acc k hn hk hv ho
    obtain rfl : l = [] := List.eq_nil_of_length_eq_zero (by omega)
    obtain ⟨k, rfl⟩ : ∃ k', k = k' + 1 := ⟨k - 1, by simp at hk; omega⟩
    rw [U_nil]
    exact vp_end rfl rfl
  | succ n ih =>
    intro l acc k hn hk hv ho
    obtain ⟨k, rfl⟩ : ∃ k', k = k' + 1 := ⟨k - 1, by omega⟩
    by_cases hl : l = []
    · subst hl
      rw [U_nil]
      exact vp_end rfl rfl
    obtain ⟨r, l1, hr, hv1, rfl⟩ := valid_inv hv hl
    have hd := dec_eb r hr l1
    have h0 : (mkb (eb r ++ l1)).size ≠ 0 := by rw [size_mkb, List.length_append]; have := (eb_len r).1; omega
    have hlen : (eb r ++ l1).length = (eb r).length + l1.length := List.length_append
    have hp := (eb_len r).1
    by_cases h92 : r = 92
    · subst h92
      have e1 := drop_eb 92 l1
      have hlen1 : (eb 92 ++ l1).length = l1.length + 1 := by rw [List.length_append, eb92, List.length_singleton, Nat.add_comm]
      rw [eb92, List.singleton_append] at ho
      clear hlen
      obtain ⟨d, r', rfl, hor⟩ := oki_esc ho
      obtain ⟨r2, l2, hr2, hv2, e2⟩ := valid_inv hv1 (by simp)
      have hd2 := dec_eb r2 hr2 l2
      rw [← e2] at hd2
      have e3 : (mkb (d :: r')).extract (eb r2).length (mkb (d :: r')).size = mkb l2 := by rw [e2]; exact drop_eb r2 l2
      have hb2 := eb_not_bad hr2
      have hlen2 : (d :: r').length = (eb r2).length + l2.length := by rw [e2, List.length_append]
      have hp2 := (eb_len r2).1
      rw [List.length_cons] at hlen1 hlen2
      have hl2 : l2.length ≤ n := by omega
      have hk2 : l2.length < k := by omega
      by_cases hasc : r2 < 128
      · have e4 := eb1 hasc
        rw [e4, List.singleton_append] at e2
        obtain ⟨e5, e6⟩ := List.cons.inj e2
        clear e2
        subst e6
        have hdv : d.toNat = r2 := by rw [e5, ofNat_val (by omega)]
        rw [eb92]
        show _ = U (92 :: d :: r') acc
        rw [U_esc]
        by_cases h10 : r2 = 10
        · subst h10
          rw [if_pos (by rw [e5]; rfl)]
          have := vp_nl (k := k) (acc := acc) hd rfl h0 e1 hd2 hb2 rfl
          rw [eb92] at this
          rw [← ih r' acc k hl2 hk2 hv2 hor, ← this, e3]
        · have hd10 : d ≠ 10 := fun e => h10 (by rw [← hdv, e]; rfl)
          rw [if_neg hd10]
          by_cases hu : r2 = 117 ∨ r2 = 85
          · have hdu : d = 117 ∨ d = 85 := by
              rcases hu with rfl | rfl
              · exact .inl (by rw [e5]; rfl)
              · exact .inr (by rw [e5]; rfl)
            rw [if_pos hdu]
            obtain ⟨q, hq, hq2⟩ : ∃ q, (if d = 117 then 4 else 8) = q ∧ ((r2 = 117 ∧ q = 4) ∨ (r2 = 85 ∧ q = 8)) := by
              rcases hu with rfl | rfl
              · exact ⟨4, if_pos (by rw [e5]; rfl), .inl ⟨rfl, rfl⟩⟩
              · exact ⟨8, if_neg (by rw [e5]; decide), .inr ⟨rfl, rfl⟩⟩
            rw [hq]
            have hsz : ((mkb (d :: r')).extract (eb r2).length (mkb (d :: r')).size).size = r'.length := by rw [e3, size_mkb]
            by_cases hs : r'.length < q
            · rw [if_pos hs]
              have := vp_short (k := k) (acc := acc) hd rfl h0 e1 hd2 q hq2 (by rw [hsz]; exact hs)
              rw [eb92] at this
              exact this
            · rw [if_neg hs]
              have ht : ((mkb (d :: r')).extract (eb r2).length (mkb (d :: r')).size).extract 0 q = mkb (r'.take q) := by rw [e3, mkb_to]
              cases hp : px 0 (r'.take q) with
              | none =>
                have := vp_nohex (k := k) (acc := acc) hd rfl h0 e1 hd2 q hq2 (by rw [hsz]; exact hs) (by rw [ht]; exact hp)
                rw [eb92] at this
                exact this
              | some v =>
                have := vp_hex (k := k) (acc := acc) hd rfl h0 e1 hd2 q v hq2 (by rw [hsz]; exact hs) (by rw [ht]; exact hp)
                rw [eb92] at this
                obtain ⟨hv3, ho3⟩ := px_tail r' q 0 v hp hv2 hor
                have hld : (r'.drop q).length ≤ r'.length := by rw [List.length_drop]; omega
                show _ = U (r'.drop q) (acc ++ Lib.encodeRune (i32 v))
                rw [← ih (r'.drop q) (acc ++ Lib.encodeRune (i32 v)) k (by omega) (by omega) hv3 ho3]
                rw [← this, e3, mkb_from]
          · have hdu : ¬ (d = 117 ∨ d = 85) := fun h => hu (by
              rcases h with h | h
              · exact .inl (by rw [← hdv, h]; rfl)
              · exact .inr (by rw [← hdv, h]; rfl))
            rw [if_neg hdu]
            have := vp_esc (k := k) (acc := acc) hd rfl h0 e1 hd2 hb2 h10 (fun h => hu (.inl h)) (fun h => hu (.inr h))
            rw [eb92] at this
            rw [hdv, ← ih r' (acc ++ [UInt8.ofNat (ech r2)]) k hl2 hk2 hv2 hor, ← eb1 (ech_lt hasc)]
            rw [← this, e3]
            rfl
      · have hh := eb_high (by omega) hr2
        have hid : ech r2 = r2 := ech_id r2 (by omega) (by omega) (by omega) (by omega) (by omega) (by omega)
        have := vp_esc (k := k) (acc := acc) hd rfl h0 e1 hd2 hb2 (by omega) (by omega) (by omega)
        rw [hid, e3] at this
        rw [← this]
        cases he : eb r2 with
        | nil => rw [he] at hp2; simp at hp2
        | cons d2 t =>
          rw [he] at e2 hh
          rw [List.cons_append] at e2
          obtain ⟨e5, e6⟩ := List.cons.inj e2
          clear e2
          subst e5
          have hd128 : 128 ≤ d.toNat := hh d (List.mem_cons_self ..)
          have ht : ∀ c ∈ t, c ≠ 92 := fun c hc => ne92 (hh c (List.mem_cons_of_mem _ hc))
          have hide : ech d.toNat = d.toNat := ech_id _ (by omega) (by omega) (by omega) (by omega) (by omega) (by omega)
          rw [eb92]
          show _ = U (92 :: d :: r') acc
          rw [U_esc, if_neg (fun e => by rw [e] at hd128; exact absurd hd128 (by decide)), if_neg (by rintro (e | e) <;> (rw [e] at hd128; exact absurd hd128 (by decide))), hide, UInt8.ofNat_toNat, e6, U_plain t l2 _ ht]
          have ho2 := oki_drop t l2 ht (by rw [← e6]; exact hor)
          rw [← ih l2 _ k hl2 hk2 hv2 ho2, List.append_assoc]
          show vp k (mkb l2) (acc ++ eb r2) = _
          rw [he]; rfl
    · have hv2 := vp_char (k := k) (acc := acc) hd rfl h0 (eb_not_bad hr) h92
      rw [drop_eb] at hv2
      have hne : ∀ c ∈ eb r, c ≠ 92 := by
        intro c hc
        by_cases h1 : r < 128
        · rw [eb1 h1, List.mem_singleton] at hc
          rw [hc]
          exact fun e => h92 (ofNat_inj (by omega) (by decide) e)
        · exact ne92 (eb_high (by omega) hr c hc)
      rw [U_plain (eb r) l1 acc hne, ← hv2]
      exact ih l1 (acc ++ eb r) k (by omega) (by omega) hv1 (oki_drop (eb r) l1 hne ho)
end Go.Proofs.YthhehbocbhhbbaaDoor.Ut
