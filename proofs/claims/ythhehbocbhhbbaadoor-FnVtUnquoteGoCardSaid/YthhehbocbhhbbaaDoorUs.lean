/-
What the inside of a string means, byte by byte; the program's reading of it, rune by rune, is the same where it is UTF-8.
-/
import Derived.Test.YthhehbocbhhbbaaDoorVq
import Derived.Test.YthhehbocbhhbbaaDoorCom
namespace Go.Proofs.YthhehbocbhhbbaaDoor.Us
set_option linter.unusedVariables false
set_option linter.unusedSimpArgs false
open Go.RowKit Go.Proofs.YthhehbocbhhbbaaDoor.Pn Go.Proofs.YthhehbocbhhbbaaDoor.Vp Go.Proofs.YthhehbocbhhbbaaDoor.Vq Go.Proofs.YthhehbocbhhbbaaDoor.Com

def mkb (l : List UInt8) : ByteArray := ⟨l.toArray⟩
theorem B_mkb (l : List UInt8) : B (mkb l) = l := rfl
theorem mkb_B (s : ByteArray) : mkb (B s) = s := B_inj rfl
theorem size_mkb (l : List UInt8) : (mkb l).size = l.length := by rw [← B_length, B_mkb]
theorem mkb_from (l : List UInt8) (n : Nat) : (mkb l).extract n (mkb l).size = mkb (l.drop n) := B_inj (by rw [B_from, B_mkb, B_mkb])
theorem mkb_to (l : List UInt8) (n : Nat) : (mkb l).extract 0 n = mkb (l.take n) := B_inj (by rw [B_to, B_mkb, B_mkb])

/-- A rune that UTF-8 writes. -/
def okr (r : Nat) : Prop := r < 55296 ∨ (57344 ≤ r ∧ r ≤ 1114111)
def eb (r : Nat) : List UInt8 := Lib.encodeRune (r : Int)
inductive Valid : List UInt8 → Prop
  | nil : Valid []
  | cons (r : Nat) (l : List UInt8) : okr r → Valid l → Valid (eb r ++ l)

theorem u8 (x : Int) (n : Nat) (h : x = (n : Int)) : x.toNat.toUInt8 = UInt8.ofNat n := by subst h; rfl
theorem eb1 {r : Nat} (h : r < 128) : eb r = [UInt8.ofNat r] := by
  unfold eb Lib.encodeRune
  rw [Lib.encodeRuneZ_one (by omega) (by omega)]
  rfl
theorem eb2 {r : Nat} (h0 : 128 ≤ r) (h : r < 2048) : eb r = [UInt8.ofNat (192 + r / 64), UInt8.ofNat (128 + r % 64)] := by
  unfold eb Lib.encodeRune
  rw [Lib.encodeRuneZ_two (by omega) (by omega)]
  simp only [List.map_cons, List.map_nil]
  rw [u8 _ (192 + r / 64) (by omega), u8 _ (128 + r % 64) (by omega)]
theorem eb3 {r : Nat} (h0 : 2048 ≤ r) (h : r < 65536) (ho : okr r) : eb r = [UInt8.ofNat (224 + r / 4096), UInt8.ofNat (128 + r / 64 % 64), UInt8.ofNat (128 + r % 64)] := by
  unfold eb Lib.encodeRune
  unfold okr at ho
  rw [Lib.encodeRuneZ_three (by omega)]
  simp only [List.map_cons, List.map_nil]
  rw [u8 _ (224 + r / 4096) (by omega), u8 _ (128 + r / 64 % 64) (by omega), u8 _ (128 + r % 64) (by omega)]
theorem eb4 {r : Nat} (h0 : 65536 ≤ r) (h : r ≤ 1114111) : eb r = [UInt8.ofNat (240 + r / 262144), UInt8.ofNat (128 + r / 4096 % 64), UInt8.ofNat (128 + r / 64 % 64), UInt8.ofNat (128 + r % 64)] := by
  unfold eb Lib.encodeRune
  rw [Lib.encodeRuneZ_four (by omega) (by omega)]
  simp only [List.map_cons, List.map_nil]
  rw [u8 _ (240 + r / 262144) (by omega), u8 _ (128 + r / 4096 % 64) (by omega), u8 _ (128 + r / 64 % 64) (by omega), u8 _ (128 + r % 64) (by omega)]
theorem ofNat_val {n : Nat} (h : n < 256) : (UInt8.ofNat n).toNat = n := by rw [UInt8.toNat_ofNat']; omega

theorem eb_high {r : Nat} (h : 128 ≤ r) (ho : okr r) : ∀ c ∈ eb r, 128 ≤ c.toNat := by
  intro c hc
  unfold okr at ho
  by_cases h2 : r < 2048
  · rw [eb2 h h2] at hc
    simp only [List.mem_cons, List.not_mem_nil, or_false] at hc
    rcases hc with rfl | rfl <;> (rw [ofNat_val (by omega)]; omega)
  · by_cases h3 : r < 65536
    · rw [eb3 (by omega) h3 ho] at hc
      simp only [List.mem_cons, List.not_mem_nil, or_false] at hc
      rcases hc with rfl | rfl | rfl <;> (rw [ofNat_val (by omega)]; omega)
    · rw [eb4 (by omega) (by omega)] at hc
      simp only [List.mem_cons, List.not_mem_nil, or_false] at hc
      rcases hc with rfl | rfl | rfl | rfl <;> (rw [ofNat_val (by omega)]; omega)
theorem eb_len (r : Nat) : 1 ≤ (eb r).length ∧ (eb r).length ≤ 4 := enc_le r

theorem dec_eb (r : Nat) (ho : okr r) (l : List UInt8) : Lib.decodeGo (mkb (eb r ++ l)) = (r, (eb r).length) := by
  have hne : (mkb (eb r ++ l)).size ≠ 0 := by rw [size_mkb, List.length_append]; have := (eb_len r).1; omega
  unfold Lib.decodeGo
  rw [if_neg hne, Lib.decode_at, size_mkb]
  unfold okr at ho
  by_cases h1 : r < 128
  · rw [eb1 h1]
    show Lib.decodeN _ (UInt8.ofNat r).toNat _ _ _ = _
    rw [ofNat_val (by omega)]
    unfold Lib.decodeN
    rw [if_pos h1]
    rfl
  · by_cases h2 : r < 2048
    · rw [eb2 (by omega) h2]
      show Lib.decodeN _ (UInt8.ofNat (192 + r / 64)).toNat (UInt8.ofNat (128 + r % 64)).toNat _ _ = (r, 2)
      rw [ofNat_val (by omega), ofNat_val (by omega)]
      have hl : 1 < ([UInt8.ofNat (192 + r / 64), UInt8.ofNat (128 + r % 64)] ++ l).length - 0 := by simp only [List.length_append, List.length_cons, List.length_nil]; omega
      unfold Lib.decodeN
      rw [if_neg (by omega), if_pos ⟨by omega, hl, by omega⟩, if_pos (by omega)]
      exact Prod.ext (by show _ = r; simp only; omega) rfl
    · by_cases h3 : r < 65536
      · rw [eb3 (by omega) h3 ho]
        show Lib.decodeN _ (UInt8.ofNat (224 + r / 4096)).toNat (UInt8.ofNat (128 + r / 64 % 64)).toNat (UInt8.ofNat (128 + r % 64)).toNat _ = (r, 3)
        rw [ofNat_val (by omega), ofNat_val (by omega), ofNat_val (by omega)]
        have hl : 2 < ([UInt8.ofNat (224 + r / 4096), UInt8.ofNat (128 + r / 64 % 64), UInt8.ofNat (128 + r % 64)] ++ l).length - 0 := by simp only [List.length_append, List.length_cons, List.length_nil]; omega
        have e : (224 + r / 4096) % 16 * 4096 + (128 + r / 64 % 64) % 64 * 64 + (128 + r % 64) % 64 = r := by omega
        unfold Lib.decodeN
        rw [if_neg (by omega), if_neg (by omega), if_pos ⟨by omega, ⟨by omega, by omega⟩, hl, by omega⟩, e, if_pos (by omega)]
      · rw [eb4 (by omega) (by omega)]
        show Lib.decodeN _ (UInt8.ofNat (240 + r / 262144)).toNat (UInt8.ofNat (128 + r / 4096 % 64)).toNat (UInt8.ofNat (128 + r / 64 % 64)).toNat (UInt8.ofNat (128 + r % 64)).toNat = (r, 4)
        rw [ofNat_val (by omega), ofNat_val (by omega), ofNat_val (by omega), ofNat_val (by omega)]
        have hl : 3 < ([UInt8.ofNat (240 + r / 262144), UInt8.ofNat (128 + r / 4096 % 64), UInt8.ofNat (128 + r / 64 % 64), UInt8.ofNat (128 + r % 64)] ++ l).length - 0 := by simp only [List.length_append, List.length_cons, List.length_nil]; omega
        have e : (240 + r / 262144) % 8 * 262144 + (128 + r / 4096 % 64) % 64 * 4096 + (128 + r / 64 % 64) % 64 * 64 + (128 + r % 64) % 64 = r := by omega
        unfold Lib.decodeN
        rw [if_neg (by omega), if_neg (by omega), if_neg (by omega), if_pos ⟨by omega, ⟨by omega, by omega⟩, ⟨by omega, by omega⟩, hl, by omega⟩, e, if_pos (by omega)]

/-- Every mark behind a backslash, no backslash alone at the end. -/
def OKI (m : UInt8) : List UInt8 → Bool
  | [] => true
  | [c] => c != 92 && c != m
  | c :: d :: r => if c = 92 then OKI m r else (c != m && OKI m (d :: r))
theorem oki_tail {m c : UInt8} {r : List UInt8} (hc : c ≠ 92) (h : OKI m (c :: r) = true) : OKI m r = true ∧ c ≠ m := by
  cases r with
  | nil => simp [OKI] at h; exact ⟨rfl, h.2⟩
  | cons d r => simp only [OKI, if_neg hc, Bool.and_eq_true, bne_iff_ne, ne_eq] at h; exact ⟨h.2, h.1⟩
theorem oki_esc {m : UInt8} {r : List UInt8} (h : OKI m (92 :: r) = true) : ∃ d r', r = d :: r' ∧ OKI m r' = true := by
  cases r with
  | nil => simp [OKI] at h
  | cons d r => simp only [OKI, if_pos] at h; exact ⟨d, r, rfl, h⟩
theorem oki_drop {m : UInt8} : ∀ (e l : List UInt8), (∀ c ∈ e, c ≠ 92) → OKI m (e ++ l) = true → OKI m l = true
  | [], _, _, h => h
  | c :: e, l, he, h => oki_drop e l (fun x hx => he x (List.mem_cons_of_mem _ hx)) (oki_tail (he c (List.mem_cons_self ..)) h).1

/-- The characters of a string's inside, byte by byte. -/
def U : List UInt8 → List UInt8 → Option (List UInt8)
  | [], acc => some acc
  | c :: r, acc =>
    if c ≠ 92 then U r (acc ++ [c])
    else match r with
      | [] => some acc
      | d :: r' =>
        if d = 10 then U r' acc
        else if d = 117 ∨ d = 85 then
          if r'.length < (if d = 117 then 4 else 8) then none
          else match px 0 (r'.take (if d = 117 then 4 else 8)) with
            | none => none
            | some v => U (r'.drop (if d = 117 then 4 else 8)) (acc ++ Lib.encodeRune (i32 v))
        else U r' (acc ++ [UInt8.ofNat (ech d.toNat)])
termination_by l => l.length
decreasing_by all_goals (simp; try omega)
theorem U_nil (acc : List UInt8) : U [] acc = some acc := by rw [U.eq_def]
theorem U_char (c : UInt8) (r acc : List UInt8) (h : c ≠ 92) : U (c :: r) acc = U r (acc ++ [c]) := by
  conv => lhs; rw [U.eq_def]
  exact if_pos h
theorem U_esc (d : UInt8) (r acc : List UInt8) : U (92 :: d :: r) acc = if d = 10 then U r acc
        else if d = 117 ∨ d = 85 then
          if r.length < (if d = 117 then 4 else 8) then none
          else match px 0 (r.take (if d = 117 then 4 else 8)) with
            | none => none
            | some v => U (r.drop (if d = 117 then 4 else 8)) (acc ++ Lib.encodeRune (i32 v))
        else U r (acc ++ [UInt8.ofNat (ech d.toNat)]) := by
  conv => lhs; rw [U.eq_def]
  exact if_neg (by simp)
theorem U_plain : ∀ (e l acc : List UInt8), (∀ c ∈ e, c ≠ 92) → U (e ++ l) acc = U l (acc ++ e)
  | [], l, acc, _ => by simp
  | c :: e, l, acc, h => by
    rw [List.cons_append, U_char c _ _ (h c (List.mem_cons_self ..)), U_plain e l _ (fun x hx => h x (List.mem_cons_of_mem _ hx)), List.append_assoc]; rfl

theorem ne92 {c : UInt8} (h : 128 ≤ c.toNat) : c ≠ 92 := fun e => by subst e; exact absurd h (by decide)
theorem valid_inv {l : List UInt8} (h : Valid l) (hl : l ≠ []) : ∃ r l', okr r ∧ Valid l' ∧ l = eb r ++ l' := by
  cases h with
  | nil => exact absurd rfl hl
  | cons r l' ho hv => exact ⟨r, l', ho, hv, rfl⟩
theorem valid_ascii {c : UInt8} {l : List UInt8} (h : Valid (c :: l)) (hc : c.toNat < 128) : Valid l := by
  obtain ⟨r, l', ho, hv, e⟩ := valid_inv h (by simp)
  by_cases h1 : r < 128
  · rw [eb1 h1] at e
    injection e with _ e2
    rw [e2]; exact hv
  · have hh := eb_high (by omega) ho
    cases he : eb r with
    | nil => have := (eb_len r).1; rw [he] at this; simp at this
    | cons d t =>
      rw [he] at e
      injection e with e1 _
      have := hh d (by rw [he]; exact List.mem_cons_self ..)
      rw [e1] at hc; omega
theorem hex_ascii {c : UInt8} {d : Nat} (h : hexv c = some d) : c.toNat < 128 := by
  have hk : ∀ n : Fin 256, (hexv (UInt8.ofNat n.val)).isSome = true → (UInt8.ofNat n.val).toNat < 128 := by decide +kernel
  have := hk ⟨c.toNat, c.toNat_lt⟩
  simp only [UInt8.ofNat_toNat] at this
  exact this (by rw [h]; rfl)
theorem hex_ne {c : UInt8} {d : Nat} (h : hexv c = some d) : c ≠ 92 := fun e => by
  subst e
  have hn : hexv 92 = none := by decide
  rw [hn] at h; cases h
theorem px_tail {m : UInt8} : ∀ (l : List UInt8) (n acc v : Nat), px acc (l.take n) = some v → Valid l → OKI m l = true → Valid (l.drop n) ∧ OKI m (l.drop n) = true
  | [], n, acc, v, _, hv, ho => by simpa using ⟨hv, ho⟩
  | c :: r, 0, acc, v, _, hv, ho => ⟨hv, ho⟩
  | c :: r, n + 1, acc, v, hp, hv, ho => by
    rw [List.take_succ_cons] at hp
    simp only [px] at hp
    cases hx : hexv c with
    | none => rw [hx] at hp; cases hp
    | some d =>
      rw [hx] at hp
      exact px_tail r n _ v hp (valid_ascii hv (hex_ascii hx)) (oki_tail (hex_ne hx) ho).1
end Go.Proofs.YthhehbocbhhbbaaDoor.Us
