/-
impl.VtUnquote of a string, in plain words; two insides, one behind the other.
-/
import Derived.Test.YthhehbocbhhbbaaDoorUc
import Derived.Test.YthhehbocbhhbbaaDoorVs
namespace Go.Proofs.YthhehbocbhhbbaaDoor.Ud
set_option linter.unusedVariables false
set_option linter.unusedSimpArgs false
open Go.RowKit Go.Proofs.YthhehbocbhhbbaaDoorW.PrintWords Go.Proofs.YthhehbocbhhbbaaDoor.Q Go.Proofs.YthhehbocbhhbbaaDoor.Com Go.Proofs.YthhehbocbhhbbaaDoor.Us Go.Proofs.YthhehbocbhhbbaaDoor.Ut Go.Proofs.YthhehbocbhhbbaaDoor.Ua Go.Proofs.YthhehbocbhhbbaaDoor.Ub Go.Proofs.YthhehbocbhhbbaaDoor.Uc Go.Proofs.YthhehbocbhhbbaaDoor.Vq Go.Proofs.YthhehbocbhhbbaaDoor.Pn Go.Proofs.YthhehbocbhhbbaaDoor.Vs

theorem S_in (m : UInt8) (a : ByteArray) : (S m a).extract 1 ((S m a).size - 1) = a := by
  apply B_inj
  rw [B_extract, B_S, S_size]
  show (B a ++ [m]).take (a.size + 2 - 1 - 1) = B a
  rw [show a.size + 2 - 1 - 1 = (B a).length from by rw [B_length]; omega, List.take_left]
theorem unq (m : UInt8) (a : ByteArray) (hs : a.size ≤ 2147483647) (hv : Valid (B a)) (ho : OKI m (B a) = true) : impl_VtUnquote.f (S m a) = some (ansU (U (B a) [])) := by
  have hz := S_size m a
  have hvp := vp_U m (B a).length (B a) [] (S m a).size (Nat.le_refl _) (by rw [B_length]; omega) hv ho
  rw [mkb_B] at hvp
  unfold impl_VtUnquote.f
  rw [if_pos (by omega), if_neg (by omega), S_in, hvp]
  cases U (B a) [] <;> rfl

theorem oki_app (m : UInt8) : ∀ (n : Nat) (l r : List UInt8), l.length ≤ n → OKI m l = true → OKI m r = true → OKI m (l ++ r) = true
  | 0, l, r, hn, _, hr => by
    obtain rfl : l = [] := List.eq_nil_of_length_eq_zero (by omega)
    exact hr
  | n + 1, [], r, _, _, hr => hr
  | n + 1, c :: t, r, hn, hl, hr => by
    rw [List.length_cons] at hn
    by_cases h92 : c = 92
    · subst h92
      obtain ⟨d, t', rfl, ho⟩ := oki_esc hl
      rw [List.length_cons] at hn
      have := oki_app m n t' r (by omega) ho hr
      simp only [List.cons_append, OKI, if_pos]
      exact this
    · obtain ⟨ht, hm⟩ := oki_tail h92 hl
      have h2 := oki_app m n t r (by omega) ht hr
      rw [List.cons_append]
      cases hx : t ++ r with
      | nil => simp [OKI, h92, hm]
      | cons d x => rw [hx] at h2; simp only [OKI, if_neg h92, h2, Bool.and_true, bne_iff_ne, ne_eq]; exact hm
theorem valid_app : ∀ {l r : List UInt8}, Valid l → Valid r → Valid (l ++ r) := by
  intro l r hl hr
  induction hl with
  | nil => exact hr
  | cons x t ho _ ih => rw [List.append_assoc]; exact Valid.cons x _ ho ih

theorem U_all (m : UInt8) : ∀ (n : Nat) (l acc x : List UInt8), l.length ≤ n → OKI m l = true → U l acc = some x → (∀ r, U (l ++ r) acc = U r x) ∧ x.length ≤ acc.length + 4 * l.length := by
  intro n
  induction n with
  | zero =>
    intro l acc x hn ho h
    obtain rfl : l = [] := List.eq_nil_of_length_eq_zero (by omega)
    rw [U_nil] at h
    obtain rfl := Option.some.inj h
    exact ⟨fun r => rfl, by omega⟩
  | succ n ih =>
    intro l acc x hn ho h
    cases l with
    | nil =>
      rw [U_nil] at h
      obtain rfl := Option.some.inj h
      exact ⟨fun r => rfl, by omega⟩
    | cons c t =>
      rw [List.length_cons] at hn
      by_cases h92 : c = 92
      · subst h92
        obtain ⟨d, t', rfl, hot⟩ := oki_esc ho
        rw [List.length_cons] at hn
        rw [U_esc] at h
        by_cases h10 : d = 10
        · rw [if_pos h10] at h
          obtain ⟨h1, h2⟩ := ih t' acc x (by omega) hot h
          refine ⟨fun r => ?_, by simp only [List.length_cons]; omega⟩
          rw [List.cons_append, List.cons_append, U_esc, if_pos h10]
          exact h1 r
        · rw [if_neg h10] at h
          by_cases hu : d = 117 ∨ d = 85
          · rw [if_pos hu] at h
            obtain ⟨q, hq⟩ : ∃ q, (if d = 117 then 4 else 8) = q := ⟨_, rfl⟩
            have hq4 : 4 ≤ q := by rw [← hq]; split <;> omega
            rw [hq] at h
            by_cases hl : t'.length < q
            · rw [if_pos hl] at h; cases h
            · rw [if_neg hl] at h
              cases hp : px 0 (t'.take q) with
              | none => rw [hp] at h; cases h
              | some v =>
                rw [hp] at h
                have hen := enc_le (i32 v)
                obtain ⟨h1, h2⟩ := ih (t'.drop q) (acc ++ Lib.encodeRune (i32 v)) x (by rw [List.length_drop]; omega) (oki_px m t' q 0 v hp hot).2 h
                rw [List.length_append, List.length_drop] at h2
                refine ⟨fun r => ?_, by simp only [List.length_cons]; omega⟩
                rw [List.cons_append, List.cons_append, U_esc, if_neg h10, if_pos hu, hq, if_neg (by rw [List.length_append]; omega), List.take_append_of_le_length (by omega), hp, List.drop_append_of_le_length (by omega)]
                exact h1 r
          · rw [if_neg hu] at h
            obtain ⟨h1, h2⟩ := ih t' _ x (by omega) hot h
            rw [List.length_append, List.length_singleton] at h2
            refine ⟨fun r => ?_, by simp only [List.length_cons]; omega⟩
            rw [List.cons_append, List.cons_append, U_esc, if_neg h10, if_neg hu]
            exact h1 r
      · rw [U_char c t acc h92] at h
        obtain ⟨h1, h2⟩ := ih t _ x (by omega) (oki_tail h92 ho).1 h
        rw [List.length_append, List.length_singleton] at h2
        refine ⟨fun r => ?_, by simp only [List.length_cons]; omega⟩
        rw [List.cons_append, U_char c _ acc h92]
        exact h1 r
theorem U_acc : ∀ (n : Nat) (l acc : List UInt8), l.length ≤ n → U l acc = (U l []).map (acc ++ ·) := by
  have key : ∀ (n : Nat) (l pre acc : List UInt8), l.length ≤ n → U l (pre ++ acc) = (U l acc).map (pre ++ ·) := by
    intro n
    induction n with
    | zero =>
      intro l pre acc hn
      obtain rfl : l = [] := List.eq_nil_of_length_eq_zero (by omega)
      rw [U_nil, U_nil]; rfl
    | succ n ih =>
      intro l pre acc hn
      cases l with
      | nil => rw [U_nil, U_nil]; rfl
      | cons c t =>
        rw [List.length_cons] at hn
        by_cases h92 : c = 92
        · subst h92
          cases t with
          | nil => conv => lhs; rw [U.eq_def]
                   conv => rhs; rw [U.eq_def]
                   rfl
          | cons d t' =>
            rw [List.length_cons] at hn
            rw [U_esc, U_esc]
            by_cases h10 : d = 10
            · rw [if_pos h10, if_pos h10]; exact ih t' pre acc (by omega)
            · rw [if_neg h10, if_neg h10]
              by_cases hu : d = 117 ∨ d = 85
              · rw [if_pos hu, if_pos hu]
                generalize (if d = 117 then 4 else 8) = q
                by_cases hl : t'.length < q
                · rw [if_pos hl, if_pos hl]; rfl
                · rw [if_neg hl, if_neg hl]
                  cases hp : px 0 (t'.take q) with
                  | none => rfl
                  | some v =>
                    show U (t'.drop q) ((pre ++ acc) ++ Lib.encodeRune (i32 v)) = (U (t'.drop q) (acc ++ Lib.encodeRune (i32 v))).map (pre ++ ·)
                    rw [List.append_assoc]
                    exact ih _ pre _ (by rw [List.length_drop]; omega)
              · rw [if_neg hu, if_neg hu, List.append_assoc]; exact ih t' pre _ (by omega)
        · rw [U_char c t _ h92, U_char c t _ h92, List.append_assoc]; exact ih t pre _ (by omega)
  intro n l acc hn
  have := key n l acc [] hn
  rw [List.append_nil] at this
  exact this
end Go.Proofs.YthhehbocbhhbbaaDoor.Ud
