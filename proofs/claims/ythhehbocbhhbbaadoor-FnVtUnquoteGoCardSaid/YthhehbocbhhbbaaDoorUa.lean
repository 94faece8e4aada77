/-
What vtInside and spec.UTF8 answer, in plain words.
-/
import Derived.Test.YthhehbocbhhbbaaDoorUt
import Derived.Test.YthhehbocbhhbbaaDoorQ2
namespace Go.Proofs.YthhehbocbhhbbaaDoor.Ua
set_option linter.unusedVariables false
set_option linter.unusedSimpArgs false
open Go.RowKit Go.Proofs.YthhehbocbhhbbaaDoorW.PrintWords Go.Proofs.YthhehbocbhhbbaaDoor.Q Go.Proofs.YthhehbocbhhbbaaDoor.Com Go.Proofs.YthhehbocbhhbbaaDoor.Us Go.Proofs.YthhehbocbhhbbaaDoor.Ut

theorem bt_one (m : UInt8) : bt (mkb [m]) 0 = (m.toNat : Int) := by
  have := bt_drop (s := mkb [m]) (i := 0) (c := m) (t := []) rfl
  simpa using this.1
theorem toInt_ne {a b : UInt8} (h : a ≠ b) : ¬ (a.toNat : Int) = (b.toNat : Int) := fun e => h (UInt8.toNat_inj.1 (by omega))

theorem in_out (m : UInt8) (s : ByteArray) (i : Nat) (h : s.size ≤ i) : Ev (fun k => laws_vtInside.l0 k (mkb [m]) s (i : Int)) (s, false) := by
  have q : ¬ (i : Int) < (s.size : Int) := by omega
  refine Ev.step (fun k => by rw [laws_vtInside.l0]) ?_
  exact Ev.no q (Ev.now _)
theorem in_esc (m : UInt8) (s : ByteArray) (hs : s.size ≤ 3000000000) (i : Nat) (t : List UInt8) (r : ByteArray × Bool) (hd : (B s).drop i = 92 :: t) (h : Ev (fun k => laws_vtInside.l0 k (mkb [m]) s ((i + 2 : Nat) : Int)) r) : Ev (fun k => laws_vtInside.l0 k (mkb [m]) s (i : Int)) r := by
  obtain ⟨hb, hi, _⟩ := bt_drop hd
  have q1 : (i : Int) < (s.size : Int) := by omega
  have q2 : (0 : Int) ≤ (i : Int) := by omega
  have q3 : bt s (i : Int) = 92 := by rw [hb]; rfl
  have w : wrap64 (wrap64 ((i : Int) + 1) + 1) = ((i + 2 : Nat) : Int) := by rw [wrap_of (a := (i : Int) + 1) (by omega) (by omega), wrap_of (by omega) (by omega)]; omega
  refine Ev.step (fun k => by rw [laws_vtInside.l0]) ?_
  rw [w]
  exact Ev.yes q1 (Ev.yes q2 (Ev.yes q3 h))
theorem in_mark (m : UInt8) (hm : m ≠ 92) (s : ByteArray) (hs : s.size ≤ 3000000000) (i : Nat) (t : List UInt8) (hd : (B s).drop i = m :: t) : Ev (fun k => laws_vtInside.l0 k (mkb [m]) s (i : Int)) (s, decide (t = [])) := by
  obtain ⟨hb, hi, ht⟩ := bt_drop hd
  have hz := drop_size hd
  have q1 : (i : Int) < (s.size : Int) := by omega
  have q2 : (0 : Int) ≤ (i : Int) := by omega
  have q3 : ¬ bt s (i : Int) = 92 := by rw [hb]; exact toInt_ne hm
  have q4 : (0 : Int) < ((mkb [m]).size : Int) := by rw [size_mkb]; simp
  have q5 : bt s (i : Int) = bt (mkb [m]) 0 := by rw [hb, bt_one]
  have w : wrap64 ((s.size : Int) - 1) = (s.size : Int) - 1 := wrap_of (by omega) (by omega)
  refine Ev.step (fun k => by rw [laws_vtInside.l0]) ?_
  refine Ev.yes q1 (Ev.yes q2 (Ev.no q3 (Ev.yes q4 (Ev.yes q5 (Ev.is ?_)))))
  rw [w]
  congr 1
  cases t with
  | nil =>
    simp only [List.length_nil] at hz
    rw [decide_eq_true rfl, beq_iff_eq]; omega
  | cons c t =>
    simp only [List.length_cons] at hz
    rw [decide_eq_false (by simp), beq_eq_false_iff_ne]; omega
theorem in_char (m : UInt8) (s : ByteArray) (hs : s.size ≤ 3000000000) (i : Nat) (c : UInt8) (t : List UInt8) (r : ByteArray × Bool) (h1 : c ≠ 92) (h2 : c ≠ m) (hd : (B s).drop i = c :: t) (h : Ev (fun k => laws_vtInside.l0 k (mkb [m]) s ((i + 1 : Nat) : Int)) r) : Ev (fun k => laws_vtInside.l0 k (mkb [m]) s (i : Int)) r := by
  obtain ⟨hb, hi, _⟩ := bt_drop hd
  have q1 : (i : Int) < (s.size : Int) := by omega
  have q2 : (0 : Int) ≤ (i : Int) := by omega
  have q3 : ¬ bt s (i : Int) = 92 := by rw [hb]; exact toInt_ne h1
  have q4 : (0 : Int) < ((mkb [m]).size : Int) := by rw [size_mkb]; simp
  have q5 : ¬ bt s (i : Int) = bt (mkb [m]) 0 := by rw [hb, bt_one]; exact toInt_ne h2
  have w : wrap64 ((i : Int) + 1) = ((i + 1 : Nat) : Int) := by rw [wrap_of (by omega) (by omega)]; omega
  refine Ev.step (fun k => by rw [laws_vtInside.l0]) ?_
  rw [w]
  exact Ev.yes q1 (Ev.yes q2 (Ev.no q3 (Ev.yes q4 (Ev.no q5 h))))
theorem drop_next {s : ByteArray} {i : Nat} {c : UInt8} {t : List UInt8} (h : (B s).drop i = c :: t) : (B s).drop (i + 1) = t := (bt_drop h).2.2
theorem in_loop (m : UInt8) (hm : m ≠ 92) (s : ByteArray) (hs : s.size ≤ 3000000000) : ∀ (n : Nat) (l : List UInt8) (i : Nat), l.length ≤ n → (B s).drop i = l ++ [m] → Ev (fun k => laws_vtInside.l0 k (mkb [m]) s (i : Int)) (s, OKI m l) := by
  intro n
  induction n with
  | zero =>
    intro l i hn hd
    obtain rfl : l = [] := List.eq_nil_of_length_eq_zero (by omega)
    exact in_mark m hm s hs i [] hd
  | succ n ih =>
    intro l i hn hd
    match l, hn, hd with
    | [], _, hd => exact in_mark m hm s hs i [] hd
    | c :: r, hn, hd =>
      simp only [List.length_cons] at hn
      by_cases h92 : c = 92
      · subst h92
        match r, hn, hd with
        | [], hn, hd =>
          refine in_esc m s hs i [m] _ hd ?_
          have hz := drop_size hd
          exact in_out m s (i + 2) (by simp at hz; omega)
        | d :: r', hn, hd =>
          simp only [List.length_cons] at hn
          have e : OKI m (92 :: d :: r') = OKI m r' := by simp [OKI]
          rw [e]
          exact in_esc m s hs i (d :: r' ++ [m]) _ hd (ih r' (i + 2) (by omega) (drop_next (drop_next hd)))
      · by_cases hcm : c = m
        · subst hcm
          have e : OKI c (c :: r) = false := by
            cases r with
            | nil => simp [OKI]
            | cons d r => simp [OKI, h92]
          rw [e]
          have := in_mark c hm s hs i (r ++ [c]) hd
          rw [decide_eq_false (by simp)] at this
          exact this
        · have e : OKI m (c :: r) = OKI m r := by
            cases r with
            | nil => simp [OKI, h92, hcm]
            | cons d r => simp [OKI, h92, hcm]
          rw [e]
          exact in_char m s hs i c (r ++ [m]) _ h92 hcm hd (ih r (i + 1) (by omega) (drop_next hd))

def mrk (a1 : Bool) : UInt8 := if a1 = true then 34 else 39
theorem mark92 (a1 : Bool) : mrk a1 ≠ 92 := by cases a1 <;> decide
/-- A string of this inside. -/
def S (m : UInt8) (a : ByteArray) : ByteArray := (mkb [m] ++ a) ++ mkb [m]
theorem B_S (m : UInt8) (a : ByteArray) : B (S m a) = m :: (B a ++ [m]) := by unfold S; rw [B_append, B_append, B_mkb]; simp
theorem S_size (m : UInt8) (a : ByteArray) : (S m a).size = a.size + 2 := by rw [← B_length, B_S, List.length_cons, List.length_append, B_length]; rfl
theorem inside_ev (a0 : ByteArray) (a1 : Bool) (h : a0.size ≤ 2147483647) : Ev (fun k => laws_vtInside.f k a0 a1) (S (mrk a1) a0, OKI (mrk a1) (B a0)) := by
  have go : ∀ m : UInt8, m ≠ 92 → Ev (fun k => laws_vtInside.j0 k a0 (mkb [m])) (S m a0, OKI m (B a0)) := by
    intro m hm
    have hz : (mkb [m]).size = 1 := size_mkb _
    have q1 : (mkb [m]).size + a0.size ≤ 9223372036854775807 := by omega
    have q2 : (mkb [m] ++ a0).size + (mkb [m]).size ≤ 9223372036854775807 := by rw [ByteArray.size_append]; omega
    have hl : Ev (fun k => laws_vtInside.l0 k (mkb [m]) ((mkb [m] ++ a0) ++ mkb [m]) 1) (S m a0, OKI m (B a0)) := in_loop m hm (S m a0) (by rw [S_size]; omega) (B a0).length (B a0) 1 (Nat.le_refl _) (by rw [B_S]; rfl)
    refine Ev.step (fun k => by rw [laws_vtInside.j0]) ?_
    exact Ev.yes q1 (Ev.yes q2 hl)
  unfold laws_vtInside.f
  cases a1 with
  | true => exact Ev.yes rfl (go 34 (by decide))
  | false => exact Ev.no Bool.false_ne_true (go 39 (by decide))

theorem high_is (v : Nat) : spec_high.f (v : Int) = some (decide (55296 ≤ v ∧ v ≤ 56319)) := by
  unfold spec_high.f
  by_cases h : 55296 ≤ v
  · rw [if_pos (by omega)]
    congr 1
    by_cases h2 : v ≤ 56319
    · rw [decide_eq_true (by omega), decide_eq_true ⟨h, h2⟩]
    · rw [decide_eq_false (by omega), decide_eq_false (by omega)]
  · rw [if_neg (by omega), decide_eq_false (by omega)]
theorem low_is (v : Nat) : spec_low.f (v : Int) = some (decide (56320 ≤ v ∧ v ≤ 57343)) := by
  unfold spec_low.f
  by_cases h : 56320 ≤ v
  · rw [if_pos (by omega)]
    congr 1
    by_cases h2 : v ≤ 57343
    · rw [decide_eq_true (by omega), decide_eq_true ⟨h, h2⟩]
    · rw [decide_eq_false (by omega), decide_eq_false (by omega)]
  · rw [if_neg (by omega), decide_eq_false (by omega)]

theorem drop_at {s : ByteArray} {i : Nat} (h : i < s.size) : ∃ c t, (B s).drop i = c :: t := by
  have : i < (B s).length := by rw [B_length]; exact h
  exact ⟨_, _, List.drop_eq_getElem_cons this⟩

/-- What a character's further bytes give. -/
def More (s : ByteArray) (i more least rem x v : Nat) (c n : Int) : Prop :=
  ∃ (bs rest : List UInt8) (C : Nat), bs.length = rem ∧ (B s).drop (i + x) = bs ++ rest ∧ (∀ b ∈ bs, 128 ≤ b.toNat ∧ b.toNat ≤ 191) ∧ c = (C : Int) ∧ C = bs.foldl (fun v b => v * 64 + (b.toNat - 128)) v ∧ least ≤ C ∧ okr C ∧ n = (more : Int) + 1
theorem l0_end (s : ByteArray) (i more least v : Nat) (hm : more ≤ 3) : ∃ c n ok, Ev (fun k => spec_Character.l0 k s (i : Int) (v : Int) (more : Int) (least : Int) ((more + 1 : Nat) : Int)) (c, n, ok) ∧ (ok = true → More s i more least 0 (more + 1) v c n) := by
  have q1 : ¬ ((more + 1 : Nat) : Int) ≤ (more : Int) := by omega
  by_cases c1 : (v : Int) < (least : Int)
  · refine ⟨65533, 1, false, ?ev1, by simp⟩
    case ev1 =>
      refine Ev.step (fun k => by rw [spec_Character.l0]) ?_
      exact Ev.no q1 (Ev.yes c1 (Ev.now _))
  by_cases c2 : (v : Int) > 1114111
  · refine ⟨65533, 1, false, ?ev2, by simp⟩
    case ev2 =>
      refine Ev.step (fun k => by rw [spec_Character.l0]) ?_
      exact Ev.no q1 (Ev.no c1 (Ev.yes c2 (Ev.now _)))
  by_cases c3 : 55296 ≤ v ∧ v ≤ 56319
  · have e := high_is v
    rw [decide_eq_true c3] at e
    refine ⟨65533, 1, false, ?ev3, by simp⟩
    case ev3 =>
      refine Ev.step (fun k => by rw [spec_Character.l0]) ?_
      exact Ev.no q1 (Ev.no c1 (Ev.no c2 (Ev.call e (Ev.yes rfl (Ev.now _)))))
  have e := high_is v
  rw [decide_eq_false c3] at e
  by_cases c4 : 56320 ≤ v ∧ v ≤ 57343
  · have e2 := low_is v
    rw [decide_eq_true c4] at e2
    refine ⟨65533, 1, false, ?ev4, by simp⟩
    case ev4 =>
      refine Ev.step (fun k => by rw [spec_Character.l0]) ?_
      exact Ev.no q1 (Ev.no c1 (Ev.no c2 (Ev.call e (Ev.no Bool.false_ne_true (Ev.call e2 (Ev.yes rfl (Ev.now _)))))))
  have e2 := low_is v
  rw [decide_eq_false c4] at e2
  have w : wrap64 ((more : Int) + 1) = (more : Int) + 1 := wrap_of (by omega) (by omega)
  have fin : Ev (fun _ : Nat => some ((v : Int), wrap64 ((more : Int) + 1), true)) ((v : Int), (more : Int) + 1, true) := Ev.is (by rw [w])
  refine ⟨(v : Int), (more : Int) + 1, true, ?ev5, fun _ => ⟨[], (B s).drop (i + (more + 1)), v, rfl, rfl, by simp, rfl, rfl, by omega, by unfold okr; omega, rfl⟩⟩
  case ev5 =>
    refine Ev.step (fun k => by rw [spec_Character.l0]) ?_
    exact Ev.no q1 (Ev.no c1 (Ev.no c2 (Ev.call e (Ev.no Bool.false_ne_true (Ev.call e2 (Ev.no Bool.false_ne_true fin))))))
/-- What so many bytes can give. -/
def P (x : Nat) : Nat := if x ≤ 1 then 64 else if x = 2 then 4096 else if x = 3 then 262144 else 16777216
theorem P_le (x : Nat) (h : x ≤ 3) : P x ≤ 262144 := by unfold P; repeat' split
                                                        all_goals omega
theorem P_next (x v d : Nat) (h : x ≤ 3) (h1 : 1 ≤ x) (hv : v < P x) (hd : d < 64) : v * 64 + d < P (x + 1) := by
  unfold P at hv ⊢
  repeat' split at hv
  all_goals repeat' split
  all_goals omega
theorem l0_step (s : ByteArray) (i : Nat) (hs : s.size ≤ 1099511627776) (more least x v : Nat) (b : UInt8) (hx : x ≤ more) (hm : more ≤ 3) (hlt : i + x < s.size) (hb : bt s ((i + x : Nat) : Int) = (b.toNat : Int)) (hv : v < 16777216) (k : Nat) :
    spec_Character.l0 (k + 1) s (i : Int) (v : Int) (more : Int) (least : Int) (x : Int) = if (b.toNat : Int) < 128 then some (65533, 1, false) else (if (b.toNat : Int) > 191 then some (65533, 1, false) else spec_Character.l0 k s (i : Int) ((v : Int) * 64 + (b.toNat : Int) - 128) (more : Int) (least : Int) ((x + 1 : Nat) : Int)) := by
  have hb256 := b.toNat_lt
  have F : (x : Int) ≤ (more : Int) ∧ (0 : Int) ≤ ((i + x : Nat) : Int) ∧ ((i + x : Nat) : Int) < (s.size : Int) := ⟨by omega, by omega, by omega⟩
  have W1 : wrap64 ((i : Int) + (x : Int)) = ((i + x : Nat) : Int) := by rw [wrap_of (by omega) (by omega)]; omega
  have W : wrap64 (b.toNat : Int) = (b.toNat : Int) ∧ wrap64 ((v : Int) * 64) = (v : Int) * 64 ∧ wrap64 ((v : Int) * 64 + (b.toNat : Int)) = (v : Int) * 64 + (b.toNat : Int) ∧ wrap64 ((v : Int) * 64 + (b.toNat : Int) - 128) = (v : Int) * 64 + (b.toNat : Int) - 128 ∧ wrap64 ((x : Int) + 1) = ((x + 1 : Nat) : Int) := by
    clear W1
    exact ⟨wrap_of (by omega) (by omega), wrap_of (by omega) (by omega), wrap_of (by omega) (by omega), wrap_of (by omega) (by omega), by rw [wrap_of (by omega) (by omega)]; omega⟩
  obtain ⟨f1, f2, f3⟩ := F
  obtain ⟨w2, w3, w4, w5, w6⟩ := W
  rw [spec_Character.l0, if_pos f1, W1, if_pos f2, if_pos f3, hb, w2, w3, w4, w5, w6]
theorem l0_ev (s : ByteArray) (i : Nat) (hs : s.size ≤ 1099511627776) (more least : Nat) (hm : more ≤ 3) (hi : i + more < s.size) : ∀ (rem x v : Nat), x + rem = more + 1 → 1 ≤ x → v < P x →
    ∃ c n ok, Ev (fun k => spec_Character.l0 k s (i : Int) (v : Int) (more : Int) (least : Int) (x : Int)) (c, n, ok) ∧ (ok = true → More s i more least rem x v c n) := by
  intro rem
  induction rem with
  | zero =>
    intro x v hx _ _
    obtain rfl : x = more + 1 := by omega
    exact l0_end s i more least v hm
  | succ rem ih =>
    intro x v hx h1 hv
    obtain ⟨b, t, hd⟩ := drop_at (s := s) (i := i + x) (by omega)
    obtain ⟨hb, hlt, hnx⟩ := bt_drop hd
    have hb256 := b.toNat_lt
    have hP := P_le x (by omega)
    have hst := l0_step s i hs more least x v b (by omega) hm hlt hb (by omega)
    by_cases c1 : b.toNat < 128
    · have q4 : (b.toNat : Int) < 128 := by omega
      exact ⟨65533, 1, false, Ev.step hst (Ev.yes q4 (Ev.now _)), by simp⟩
    have q4 : ¬ (b.toNat : Int) < 128 := by omega
    by_cases c2 : 191 < b.toNat
    · have q5 : (b.toNat : Int) > 191 := by omega
      exact ⟨65533, 1, false, Ev.step hst (Ev.no q4 (Ev.yes q5 (Ev.now _))), by simp⟩
    have q5 : ¬ (b.toNat : Int) > 191 := by omega
    have hv2 : v * 64 + (b.toNat - 128) < P (x + 1) := P_next x v _ (by omega) h1 hv (by omega)
    obtain ⟨c, n, ok, he, hk⟩ := ih (x + 1) (v * 64 + (b.toNat - 128)) (by omega) (by omega) hv2
    have ev : ((v * 64 + (b.toNat - 128) : Nat) : Int) = (v : Int) * 64 + (b.toNat : Int) - 128 := by omega
    rw [ev] at he
    refine ⟨c, n, ok, Ev.step hst (Ev.no q4 (Ev.no q5 he)), fun h => ?_⟩
    obtain ⟨bs, rest, C, e1, e2, e3, e4, e5, e6, e7, e8⟩ := hk h
    refine ⟨b :: bs, rest, C, by rw [List.length_cons, e1], ?_, ?_, e4, by rw [List.foldl_cons]; exact e5, e6, e7, e8⟩
    · rw [hd, List.cons_append, ← e2, ← hnx]; rfl
    · intro y hy
      rcases List.mem_cons.1 hy with rfl | hy
      · exact ⟨by omega, by omega⟩
      · exact e3 y hy
theorem j2_ev (s : ByteArray) (i : Nat) (hs : s.size ≤ 1099511627776) (hi : i < s.size) (more least v : Nat) (hm : more ≤ 3) (hv : v < 64) :
    ∃ c n ok, Ev (fun k => spec_Character.j2 k s (i : Int) (v : Int) (more : Int) (least : Int)) (c, n, ok) ∧ (ok = true → More s i more least more 1 v c n) := by
  have w : wrap64 ((s.size : Int) - (i : Int)) = (s.size : Int) - (i : Int) := wrap_of (by omega) (by omega)
  by_cases c1 : s.size - i ≤ more
  · have q : wrap64 ((s.size : Int) - (i : Int)) ≤ (more : Int) := by rw [w]; omega
    refine ⟨65533, 1, false, ?ev6, by simp⟩
    case ev6 =>
      refine Ev.step (fun k => by rw [spec_Character.j2]) ?_
      exact Ev.yes q (Ev.now _)
  · have q : ¬ wrap64 ((s.size : Int) - (i : Int)) ≤ (more : Int) := by rw [w]; omega
    obtain ⟨c, n, ok, he, hk⟩ := l0_ev s i hs more least hm (by omega) more 1 v (by omega) (by omega) hv
    refine ⟨c, n, ok, ?ev7, hk⟩
    case ev7 =>
      refine Ev.step (fun k => by rw [spec_Character.j2]) ?_
      exact Ev.no q he

theorem len1 {bs : List UInt8} (h : bs.length = 1) : ∃ a, bs = [a] := by
  cases bs with
  | nil => simp at h
  | cons a bs => cases bs with
    | nil => exact ⟨a, rfl⟩
    | cons b bs => simp at h
theorem len2 {bs : List UInt8} (h : bs.length = 2) : ∃ a b, bs = [a, b] := by
  cases bs with
  | nil => simp at h
  | cons a bs => obtain ⟨b, rfl⟩ := len1 (bs := bs) (by simpa using h); exact ⟨a, b, rfl⟩
theorem len3 {bs : List UInt8} (h : bs.length = 3) : ∃ a b c, bs = [a, b, c] := by
  cases bs with
  | nil => simp at h
  | cons a bs => obtain ⟨b, c, rfl⟩ := len2 (bs := bs) (by simpa using h); exact ⟨a, b, c, rfl⟩
theorem u8_of (b : UInt8) (n : Nat) (h : n = b.toNat) : UInt8.ofNat n = b := by subst h; exact UInt8.ofNat_toNat
theorem char_ev (s : ByteArray) (i : Nat) (hs : s.size ≤ 1099511627776) (hi : i < s.size) : ∃ c n ok, Ev (fun k => spec_Character.f k s (i : Int)) (c, n, ok) ∧ (ok = true → ∃ r l', okr r ∧ (B s).drop i = eb r ++ l' ∧ n = ((eb r).length : Int)) := by
  obtain ⟨b, t, hd⟩ := drop_at hi
  obtain ⟨hb, _, hnx⟩ := bt_drop hd
  have hb256 := b.toNat_lt
  have hbw : wrap64 (bt s (i : Int)) = (b.toNat : Int) := by rw [hb, wrap_of (by omega) (by omega)]
  have q1 : (0 : Int) ≤ (i : Int) := by omega
  have q2 : (i : Int) < (s.size : Int) := by omega
  unfold spec_Character.f
  rw [hbw]
  by_cases c1 : b.toNat < 128
  · have q3 : (b.toNat : Int) < 128 := by omega
    refine ⟨_, _, true, Ev.yes q1 (Ev.yes q2 (Ev.yes q3 (Ev.now _))), fun _ => ⟨b.toNat, t, by unfold okr; omega, ?_, ?_⟩⟩
    · rw [eb1 c1, UInt8.ofNat_toNat, hd]; rfl
    · rw [eb1 c1]; rfl
  have q3 : ¬ (b.toNat : Int) < 128 := by omega
  have out0 : ¬ (194 ≤ b.toNat ∧ b.toNat ≤ 223) → ∀ x20, x20 = false → ∃ c n ok, Ev (fun k => spec_Character.j0 k s (i : Int) (b.toNat : Int) x20) (c, n, ok) ∧ (ok = true → ∃ r l', okr r ∧ (B s).drop i = eb r ++ l' ∧ n = ((eb r).length : Int)) := by
    rintro hn x20 rfl
    by_cases c3 : 224 ≤ b.toNat ∧ b.toNat ≤ 239
    · have q4 : (224 : Int) ≤ (b.toNat : Int) := by omega
      have q5 : decide ((b.toNat : Int) ≤ 239) = true := decide_eq_true (by omega)
      have w : wrap64 ((b.toNat : Int) - 224) = ((b.toNat - 224 : Nat) : Int) := by rw [wrap_of (by omega) (by omega)]; omega
      obtain ⟨c, n, ok, he, hk⟩ := j2_ev s i hs hi 2 2048 (b.toNat - 224) (by omega) (by omega)
      have h1 : Ev (fun k => spec_Character.j1 k s (i : Int) (b.toNat : Int) true) (c, n, ok) := by
        refine Ev.step (fun k => by rw [spec_Character.j1]) ?_
        exact Ev.yes rfl (by rw [w]; exact he)
      refine ⟨c, n, ok, ?ev8, fun h => ?_⟩
      case ev8 =>
        refine Ev.step (fun k => by rw [spec_Character.j0]) ?_
        exact Ev.no Bool.false_ne_true (Ev.yes q4 (by rw [q5]; exact h1))
      obtain ⟨bs, rest, C, e1, e2, e3, e4, e5, e6, e7, e8⟩ := hk h
      obtain ⟨b1, b2, rfl⟩ := len2 e1
      obtain ⟨x1, y1⟩ := e3 b1 (by simp)
      obtain ⟨x2, y2⟩ := e3 b2 (by simp)
      simp only [List.foldl_cons, List.foldl_nil] at e5
      refine ⟨C, rest, e7, ?_, ?_⟩
      · rw [eb3 (by omega) (by omega) e7, hd, ← hnx, e2, u8_of b _ (by omega), u8_of b1 _ (by omega), u8_of b2 _ (by omega)]; rfl
      · rw [eb3 (by omega) (by omega) e7, e8]; rfl
    by_cases c4 : 240 ≤ b.toNat ∧ b.toNat ≤ 244
    · have w : wrap64 ((b.toNat : Int) - 240) = ((b.toNat - 240 : Nat) : Int) := by rw [wrap_of (by omega) (by omega)]; omega
      obtain ⟨c, n, ok, he, hk⟩ := j2_ev s i hs hi 3 65536 (b.toNat - 240) (by omega) (by omega)
      have q4 : (224 : Int) ≤ (b.toNat : Int) := by omega
      have q5 : decide ((b.toNat : Int) ≤ 239) = false := decide_eq_false (by omega)
      have q6 : (240 : Int) ≤ (b.toNat : Int) := by omega
      have q7 : (b.toNat : Int) ≤ 244 := by omega
      have h1 : Ev (fun k => spec_Character.j1 k s (i : Int) (b.toNat : Int) false) (c, n, ok) := by
        refine Ev.step (fun k => by rw [spec_Character.j1]) ?_
        exact Ev.no Bool.false_ne_true (Ev.yes q6 (Ev.yes q7 (by rw [w]; exact he)))
      refine ⟨c, n, ok, ?ev9, fun h => ?_⟩
      case ev9 =>
        refine Ev.step (fun k => by rw [spec_Character.j0]) ?_
        exact Ev.no Bool.false_ne_true (Ev.yes q4 (by rw [q5]; exact h1))
      obtain ⟨bs, rest, C, e1, e2, e3, e4, e5, e6, e7, e8⟩ := hk h
      obtain ⟨b1, b2, b3, rfl⟩ := len3 e1
      obtain ⟨x1, y1⟩ := e3 b1 (by simp)
      obtain ⟨x2, y2⟩ := e3 b2 (by simp)
      obtain ⟨x3, y3⟩ := e3 b3 (by simp)
      simp only [List.foldl_cons, List.foldl_nil] at e5
      have e7' := e7
      unfold okr at e7'
      refine ⟨C, rest, e7, ?_, ?_⟩
      · rw [eb4 (by omega) (by omega), hd, ← hnx, e2, u8_of b _ (by omega), u8_of b1 _ (by omega), u8_of b2 _ (by omega), u8_of b3 _ (by omega)]; rfl
      · rw [eb4 (by omega) (by omega), e8]; rfl
    · have fin : ∃ c n : Int, Ev (fun k => spec_Character.j1 k s (i : Int) (b.toNat : Int) false) (c, n, false) := by
        by_cases c5 : 240 ≤ b.toNat
        · have q6 : (240 : Int) ≤ (b.toNat : Int) := by omega
          have q7 : ¬ (b.toNat : Int) ≤ 244 := by omega
          refine ⟨65533, 1, ?ev10⟩
          case ev10 =>
            refine Ev.step (fun k => by rw [spec_Character.j1]) ?_
            exact Ev.no Bool.false_ne_true (Ev.yes q6 (Ev.no q7 (Ev.now _)))
        · have q6 : ¬ (240 : Int) ≤ (b.toNat : Int) := by omega
          refine ⟨65533, 1, ?ev11⟩
          case ev11 =>
            refine Ev.step (fun k => by rw [spec_Character.j1]) ?_
            exact Ev.no Bool.false_ne_true (Ev.no q6 (Ev.now _))
      obtain ⟨c, n, hf⟩ := fin
      by_cases c6 : 224 ≤ b.toNat
      · have q4 : (224 : Int) ≤ (b.toNat : Int) := by omega
        have q5 : decide ((b.toNat : Int) ≤ 239) = false := decide_eq_false (by omega)
        refine ⟨c, n, false, ?ev12, by simp⟩
        case ev12 =>
          refine Ev.step (fun k => by rw [spec_Character.j0]) ?_
          exact Ev.no Bool.false_ne_true (Ev.yes q4 (by rw [q5]; exact hf))
      · have q4 : ¬ (224 : Int) ≤ (b.toNat : Int) := by omega
        refine ⟨c, n, false, ?ev13, by simp⟩
        case ev13 =>
          refine Ev.step (fun k => by rw [spec_Character.j0]) ?_
          exact Ev.no Bool.false_ne_true (Ev.no q4 hf)
  by_cases c2 : 194 ≤ b.toNat
  · have q4 : (194 : Int) ≤ (b.toNat : Int) := by omega
    by_cases c3 : b.toNat ≤ 223
    · have q5 : decide ((b.toNat : Int) ≤ 223) = true := decide_eq_true (by omega)
      have w : wrap64 ((b.toNat : Int) - 192) = ((b.toNat - 192 : Nat) : Int) := by rw [wrap_of (by omega) (by omega)]; omega
      obtain ⟨c, n, ok, he, hk⟩ := j2_ev s i hs hi 1 128 (b.toNat - 192) (by omega) (by omega)
      have h1 : Ev (fun k => spec_Character.j0 k s (i : Int) (b.toNat : Int) true) (c, n, ok) := by
        refine Ev.step (fun k => by rw [spec_Character.j0]) ?_
        exact Ev.yes rfl (by rw [w]; exact he)
      refine ⟨c, n, ok, Ev.yes q1 (Ev.yes q2 (Ev.no q3 (Ev.yes q4 (by rw [q5]; exact h1)))), fun h => ?_⟩
      obtain ⟨bs, rest, C, e1, e2, e3, e4, e5, e6, e7, e8⟩ := hk h
      obtain ⟨b1, rfl⟩ := len1 e1
      obtain ⟨x1, y1⟩ := e3 b1 (by simp)
      simp only [List.foldl_cons, List.foldl_nil] at e5
      refine ⟨C, rest, e7, ?_, ?_⟩
      · rw [eb2 (by omega) (by omega), hd, ← hnx, e2, u8_of b _ (by omega), u8_of b1 _ (by omega)]; rfl
      · rw [eb2 (by omega) (by omega), e8]; rfl
    · have q5 : decide ((b.toNat : Int) ≤ 223) = false := decide_eq_false (by omega)
      obtain ⟨c, n, ok, he, hk⟩ := out0 (by omega) false rfl
      exact ⟨c, n, ok, Ev.yes q1 (Ev.yes q2 (Ev.no q3 (Ev.yes q4 (by rw [q5]; exact he)))), hk⟩
  · have q4 : ¬ (194 : Int) ≤ (b.toNat : Int) := by omega
    obtain ⟨c, n, ok, he, hk⟩ := out0 (by omega) false rfl
    exact ⟨c, n, ok, Ev.yes q1 (Ev.yes q2 (Ev.no q3 (Ev.no q4 he))), hk⟩

theorem utf8_loop (s : ByteArray) (hs : s.size ≤ 1099511627776) : ∀ (n i : Nat), s.size ≤ i + n → ∃ t, Ev (fun k => spec_UTF8.l0 k s (i : Int)) t ∧ (t = true → Valid ((B s).drop i)) := by
  intro n
  induction n with
  | zero =>
    intro i hn
    have q : ¬ (i : Int) < (s.size : Int) := by omega
    refine ⟨true, ?ev14, fun _ => ?_⟩
    case ev14 =>
      refine Ev.step (fun k => by rw [spec_UTF8.l0]) ?_
      exact Ev.no q (Ev.now _)
    rw [List.drop_eq_nil_of_le (by rw [B_length]; omega)]
    exact Valid.nil
  | succ n ih =>
    intro i hn
    by_cases hi : i < s.size
    · have q : (i : Int) < (s.size : Int) := by omega
      obtain ⟨c, m, ok, he, hk⟩ := char_ev s i hs hi
      cases ok with
      | false =>
        refine ⟨false, ?_, by simp⟩
        refine Ev.step (fun k => by rw [spec_UTF8.l0]) ?_
        exact Ev.yes q (Ev.bind he (Ev.no Bool.false_ne_true (Ev.now _)))
      | true =>
        obtain ⟨r, l', ho, hd, hm⟩ := hk rfl
        subst hm
        have hl := eb_len r
        have w : wrap64 ((i : Int) + ((eb r).length : Int)) = ((i + (eb r).length : Nat) : Int) := by rw [wrap_of (by omega) (by omega)]; omega
        obtain ⟨t, ht, hv⟩ := ih (i + (eb r).length) (by omega)
        rw [← w] at ht
        refine ⟨t, ?ev15, fun h => ?_⟩
        case ev15 =>
          refine Ev.step (fun k => by rw [spec_UTF8.l0]) ?_
          exact Ev.yes q (Ev.bind he (Ev.yes rfl ht))
        have e : (B s).drop (i + (eb r).length) = l' := by rw [← List.drop_drop, hd, List.drop_left]
        rw [hd]
        exact Valid.cons r l' ho (by rw [← e]; exact hv h)
    · have q : ¬ (i : Int) < (s.size : Int) := by omega
      refine ⟨true, ?ev16, fun _ => ?_⟩
      case ev16 =>
        refine Ev.step (fun k => by rw [spec_UTF8.l0]) ?_
        exact Ev.no q (Ev.now _)
      rw [List.drop_eq_nil_of_le (by rw [B_length]; omega)]
      exact Valid.nil
theorem utf8_ev (s : ByteArray) (hs : s.size ≤ 1099511627776) : ∃ t, Ev (fun k => spec_UTF8.f k s) t ∧ (t = true → Valid (B s)) := by
  obtain ⟨t, ht, hv⟩ := utf8_loop s hs s.size 0 (by omega)
  exact ⟨t, ht, hv⟩
end Go.Proofs.YthhehbocbhhbbaaDoor.Ua
