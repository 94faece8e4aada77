import Derived.Test.YtogikhohkbcccaaGreatDoorNg
import Derived.Test.YtogikhohkbcccaaGreatDoorVn
namespace Go.Proofs.YtogikhohkbcccaaGreatDoor.De
set_option linter.unusedVariables false
set_option linter.unusedSimpArgs false
open Go.RowKit Go.Proofs.YtogikhohkbcccaaGreatDoorW.PrintWords Go.Proofs.YtogikhohkbcccaaGreatDoorW.PrintLast Go.Proofs.YtogikhohkbcccaaGreatDoorW.PrintMore

theorem exd_size (s : ByteArray) (d : Nat) : (s.extract d s.size).size = s.size - d := by rw [ByteArray.size_extract]; omega
theorem bt_ext {s : ByteArray} {d i : Nat} (h : i + d < s.size) : bt (s.extract d s.size) (i : Int) = bt s ((i + d : Nat) : Int) := by
  have h1 : i < (s.extract d s.size).size := by rw [exd_size]; omega
  rw [bt_is h1, bt_is h]
  congr 2
  rw [ByteArray.getElem_extract]
  congr 1
  omega
/-- No low line. -/
def NL (s : ByteArray) : Prop := ∀ i : Nat, i < s.size → bt s i ≠ 95
theorem NL.ext {s : ByteArray} (h : NL s) (d : Nat) : NL (s.extract d s.size) := fun i hi => by
  rw [exd_size] at hi
  rw [bt_ext (by omega)]
  exact h _ (by omega)
theorem dV_48 : dV 48 = some 0 := by decide
theorem dV_46 : dV 46 = none := by decide
theorem max_ge (m : Int) : ¬ maxOf m < 0 := Int.not_lt.2 (max_pos m)
/-- The 0 ahead changes nothing. -/
theorem pu_zero {m : Int} {s : ByteArray} (h : s.size = 1) (h48 : bt s 0 = 48) : puV 10 m s = (0, none) := by
  unfold puV
  rw [h, puL, show bt s ((0 : Nat) : Int) = 48 from h48, dV_48]
  dsimp only
  rw [if_neg (by decide), if_neg (by decide), if_neg (by
    rintro (h | h)
    · exact absurd h (by decide)
    · exact max_ge m (by simpa [show IntKind.u64.wrap (IntKind.u64.wrap 0 + IntKind.u64.wrap 0) = 0 by decide] using h))]
  rfl
theorem pu_point8 {m : Int} {s : ByteArray} (h : 1 ≤ s.size) (h46 : bt s 0 = 46) : puV 8 m s = (0, some 2) := by
  unfold puV
  obtain ⟨k, hk⟩ : ∃ k, s.size = k + 1 := ⟨s.size - 1, by omega⟩
  rw [hk, puL, show bt s ((0 : Nat) : Int) = 46 from h46, dV_46]
theorem pu_point10 {m : Int} {s : ByteArray} (h : 2 ≤ s.size) (h48 : bt s 0 = 48) (h46 : bt s 1 = 46) : puV 10 m s = (0, some 2) := by
  unfold puV
  obtain ⟨k, hk⟩ : ∃ k, s.size = k + 2 := ⟨s.size - 2, by omega⟩
  rw [hk, puL, show bt s ((0 : Nat) : Int) = 48 from h48, dV_48]
  dsimp only
  rw [if_neg (by decide), if_neg (by decide), if_neg (by
    rintro (h | h)
    · exact absurd h (by decide)
    · exact max_ge m (by simpa [show IntKind.u64.wrap (IntKind.u64.wrap 0 + IntKind.u64.wrap 0) = 0 by decide] using h))]
  rw [puL, show bt s ((0 + 1 : Nat) : Int) = 46 from h46, dV_46]
theorem c29 {s p : ByteArray} {a : ByteArray} {b : Bool} (h : ∀ W, Calls Tryz.prog 29 #[.string s, .string p] W fun e w' => e = .returned (.tuple #[.string a, .bool b]) ∧ w' = W) : C29 s p a b :=
  fun W => (h W).mono fun e w' h => ⟨h.1, h.2.symm⟩
theorem c29_x1 {s : ByteArray} (h : 2 ≤ s.size ∧ bt s 0 = 48 ∧ bt s 1 = 120) : C29 s px0x (s.extract 2 s.size) true :=
  c29 fun W => by have := cp_0x s W; rw [if_pos h] at this; exact this
theorem c29_x0 {s : ByteArray} (h : ¬ (2 ≤ s.size ∧ bt s 0 = 48 ∧ bt s 1 = 120)) : C29 s px0x s false :=
  c29 fun W => by have := cp_0x s W; rw [if_neg h] at this; exact this
theorem c29_z1 {s : ByteArray} (h0 : 1 ≤ s.size) (h : bt s 0 = 48) : C29 s px0 (s.extract 1 s.size) true :=
  c29 fun W => by have := cp_0 s W h0; rw [if_pos h] at this; exact this
theorem c29_z0 {s : ByteArray} (h0 : 1 ≤ s.size) (h : bt s 0 ≠ 48) : C29 s px0 s false :=
  c29 fun W => by have := cp_0 s W h0; rw [if_neg h] at this; exact this
/-- What holds of a text in both readings: unsigned. -/
structure UB (s : ByteArray) : Prop where
  ex : ∃ (s' s2 : ByteArray) (β β2 : Int), PRE s s' 0 β ∧ CutC s s2 β2 ∧ PRE s2 s2 β2 β2 ∧ (∀ m, puV β m s' = puV β2 m s2) ∧ s2.size ≠ 0 ∧ s2.size ≤ 400 ∧ s'.size ≤ 400 ∧ NL s' ∧ NL s2
/-- Signed. -/
structure SB (s : ByteArray) : Prop where
  ex : ∃ (s1 s' s2 s3 : ByteArray) (neg : Bool) (β β2 : Int), SG s s1 neg ∧ s1.size ≠ 0 ∧ PRE s1 s' 0 β ∧ CutC s s2 β2 ∧ SG s2 s3 neg ∧ s2.size ≠ 0 ∧ s2.size ≤ 400 ∧ s3.size ≠ 0 ∧ s3.size ≤ 400 ∧ PRE s3 s3 β2 β2 ∧ (∀ m, puV β m s' = puV β2 m s3) ∧ s'.size ≤ 400 ∧ NL s' ∧ NL s3
theorem sg_of {s : ByteArray} (h : sgB s = true) : bt s 0 = 43 ∨ bt s 0 = 45 := of_decide_eq_true h
theorem sg_not {s : ByteArray} (h : sgB s = false) : bt s 0 ≠ 43 ∧ bt s 0 ≠ 45 := by
  have := of_decide_eq_false h
  exact ⟨fun e => this (.inl e), fun e => this (.inr e)⟩
theorem oct_low {c : Int} (h : c = 46 ∨ 48 ≤ c ∧ c ≤ 55) : Go.bits .or .u8 c 32 ≠ 98 ∧ Go.bits .or .u8 c 32 ≠ 111 ∧ Go.bits .or .u8 c 32 ≠ 120 := by
  have : c = 46 ∨ c = 48 ∨ c = 49 ∨ c = 50 ∨ c = 51 ∨ c = 52 ∨ c = 53 ∨ c = 54 ∨ c = 55 := by omega
  rcases this with rfl | rfl | rfl | rfl | rfl | rfl | rfl | rfl | rfl <;> decide
theorem pre_self {s : ByteArray} {β : Int} (h : β = 8 ∨ β = 10 ∨ β = 16) : PRE s s β β := .inl ⟨rfl, h, rfl⟩
theorem NT.nl {s : ByteArray} (h : NT s) : NL s := fun i hi => (h.good i (Nat.zero_le _) hi).1
/-- The plain cut: no 0 ahead. -/
theorem cut_plain {s : ByteArray} (h0 : 1 ≤ s.size) (h : bt s 0 ≠ 48) : CutC s s 10 :=
  .inr (.inr (.inr (.inr ⟨c29_x0 (fun e => h e.2.1), c29_z0 h0 h, rfl, rfl⟩)))
theorem cut_zero {s : ByteArray} (h0 : s.size = 1) (h : bt s 0 = 48) : CutC s s 10 :=
  .inr (.inr (.inr (.inl ⟨_, c29_x0 (fun e => by omega), c29_z1 (by omega) h, h0, rfl, rfl⟩)))
theorem cut_oct {s : ByteArray} (h0 : 2 ≤ s.size) (h : bt s 0 = 48) (h1 : bt s 1 ≠ 120) : CutC s (s.extract 1 s.size) 8 :=
  .inr (.inr (.inl ⟨c29_x0 (fun e => h1 e.2.2), c29_z1 (by omega) h, by omega, rfl⟩))
theorem cut_hex {s : ByteArray} (h0 : 3 ≤ s.size) (h : bt s 0 = 48) (h1 : bt s 1 = 120) (h2 : s.size = 3 ∨ bt s 2 ≠ 48) : CutC s (s.extract 2 s.size) 16 := by
  have hs := exd_size s 2
  have hb : bt (s.extract 2 s.size) 0 = bt s 2 := bt_ext (s := s) (d := 2) (i := 0) (by omega)
  by_cases h48 : bt s 2 = 48
  · exact .inl ⟨_, c29_x1 ⟨by omega, h, h1⟩, c29_z1 (by omega) (by rw [hb]; exact h48), by rcases h2 with h2 | h2; omega; exact absurd h48 h2, rfl⟩
  · exact .inr (.inl ⟨c29_x1 ⟨by omega, h, h1⟩, c29_z0 (by omega) (by rw [hb]; exact h48), rfl⟩)
theorem NT.ub {s : ByteArray} (h : NT s) (hp : 0 < s.size) (hl : s.size ≤ 400) : UB s := by
  have hn := h.nl
  have plain : bt s 0 ≠ 48 → UB s := fun h48 =>
    ⟨s, s, 10, 10, .inr (.inl ⟨rfl, h48, rfl, rfl⟩), cut_plain hp h48, pre_self (.inr (.inl rfl)), fun _ => rfl, by omega, hl, hl, hn, hn⟩
  rcases h.shape with ⟨hs, h3, h0, h1, h2, _⟩ | ⟨hs, h0, h1⟩ | ⟨hs, h2, h1, h3⟩ | ⟨h1, h2, h3⟩
  · have hz := exd_size s 2
    exact ⟨s.extract 2 s.size, s.extract 2 s.size, 16, 16, .inr (.inr (.inr ⟨rfl, h3, h0, h1, rfl, rfl⟩)), cut_hex h3 h0 h1 h2, pre_self (.inr (.inr rfl)), fun _ => rfl, by omega, by omega, by omega, hn.ext 2, hn.ext 2⟩
  · have hz := exd_size s 1
    by_cases h2 : 2 ≤ s.size
    · have ho := h1 h2
      exact ⟨s.extract 1 s.size, s.extract 1 s.size, 8, 8, .inr (.inr (.inl ⟨rfl, h0, fun _ => oct_low ho, rfl, rfl⟩)), cut_oct h2 h0 (by omega), pre_self (.inl rfl), fun _ => rfl, by omega, by omega, by omega, hn.ext 1, hn.ext 1⟩
    · have hs1 : s.size = 1 := by omega
      exact ⟨s.extract 1 s.size, s, 8, 10, .inr (.inr (.inl ⟨rfl, h0, fun e => by omega, rfl, rfl⟩)), cut_zero hs1 h0, pre_self (.inr (.inl rfl)), fun m => by rw [puV_nil 8 m _ (by omega), pu_zero hs1 h0], by omega, by omega, by omega, hn.ext 1, hn⟩
  · exact plain (by rcases sg_of hs with e | e <;> rw [e] <;> decide)
  · cases hb : sgB s with
    | true => exact plain (by rcases sg_of hb with e | e <;> rw [e] <;> decide)
    | false =>
      have : sgP s = 0 := if_neg (of_decide_eq_false hb)
      rw [this] at h2
      exact plain (by have h2 : 49 ≤ bt s 0 := h2; omega)
theorem NT.sb {s : ByteArray} (h : NT s) (hp : 0 < s.size) (hl : s.size ≤ 400) : SB s := by
  have hn := h.nl
  rcases h.shape with ⟨hs, h3, h0, h1, h2, h43, h45⟩ | ⟨hs, h0, h1⟩ | ⟨hs, h2, h1, h3⟩ | ⟨h1, h2, h3⟩
  · have hz := exd_size s 2
    have hb : bt (s.extract 2 s.size) 0 = bt s 2 := bt_ext (s := s) (d := 2) (i := 0) (by omega)
    have hsg := sg_not hs
    exact ⟨s, s.extract 2 s.size, s.extract 2 s.size, s.extract 2 s.size, false, 16, 16, .inr (.inr ⟨hsg.1, hsg.2, rfl, rfl⟩), by omega, .inr (.inr (.inr ⟨rfl, h3, h0, h1, rfl, rfl⟩)), cut_hex h3 h0 h1 h2, .inr (.inr ⟨by rw [hb]; exact h43, by rw [hb]; exact h45, rfl, rfl⟩), by omega, by omega, by omega, by omega, pre_self (.inr (.inr rfl)), fun _ => rfl, by omega, hn.ext 2, hn.ext 2⟩
  · have hz := exd_size s 1
    have hsg := sg_not hs
    by_cases h2 : 2 ≤ s.size
    · have ho := h1 h2
      have hb : bt (s.extract 1 s.size) 0 = bt s 1 := bt_ext (s := s) (d := 1) (i := 0) (by omega)
      exact ⟨s, s.extract 1 s.size, s.extract 1 s.size, s.extract 1 s.size, false, 8, 8, .inr (.inr ⟨hsg.1, hsg.2, rfl, rfl⟩), by omega, .inr (.inr (.inl ⟨rfl, h0, fun _ => oct_low ho, rfl, rfl⟩)), cut_oct h2 h0 (by omega), .inr (.inr ⟨by rw [hb]; omega, by rw [hb]; omega, rfl, rfl⟩), by omega, by omega, by omega, by omega, pre_self (.inl rfl), fun _ => rfl, by omega, hn.ext 1, hn.ext 1⟩
    · have hs1 : s.size = 1 := by omega
      exact ⟨s, s.extract 1 s.size, s, s, false, 8, 10, .inr (.inr ⟨hsg.1, hsg.2, rfl, rfl⟩), by omega, .inr (.inr (.inl ⟨rfl, h0, fun e => by omega, rfl, rfl⟩)), cut_zero hs1 h0, .inr (.inr ⟨hsg.1, hsg.2, rfl, rfl⟩), by omega, by omega, by omega, by omega, pre_self (.inr (.inl rfl)), fun m => by rw [puV_nil 8 m _ (by omega), pu_zero hs1 h0], by omega, hn.ext 1, hn⟩
  · have hz := exd_size s 1
    have h48 : bt s 0 ≠ 48 := by rcases sg_of hs with e | e <;> rw [e] <;> decide
    have hb : bt (s.extract 1 s.size) 0 = bt s 1 := bt_ext (s := s) (d := 1) (i := 0) (by omega)
    have hz2 := exd_size (s.extract 1 s.size) 1
    have hsgx : ∃ neg, SG s (s.extract 1 s.size) neg := by
      rcases sg_of hs with e | e
      · exact ⟨false, .inl ⟨e, rfl, rfl⟩⟩
      · exact ⟨true, .inr (.inl ⟨e, rfl, rfl⟩)⟩
    obtain ⟨neg, hsg⟩ := hsgx
    have hnl := hn.ext 1
    refine ⟨s.extract 1 s.size, (s.extract 1 s.size).extract 1 (s.extract 1 s.size).size, s, s.extract 1 s.size, neg, 8, 10, hsg, by omega, .inr (.inr (.inl ⟨rfl, by rw [hb]; exact h1, fun e => ?_, rfl, rfl⟩)), cut_plain hp h48, hsg, by omega, by omega, by omega, by omega, pre_self (.inr (.inl rfl)), fun m => ?_, by omega, hnl.ext 1, hnl⟩
    · have hb1 : bt (s.extract 1 s.size) 1 = bt s 2 := bt_ext (s := s) (d := 1) (i := 1) (by omega)
      rw [hb1]
      exact oct_low (.inl (by rcases h3 with h3 | h3; omega; exact h3.2))
    · rcases h3 with h3 | ⟨h3, h46⟩
      · rw [puV_nil 8 m _ (by omega), pu_zero (by omega) (by rw [hb]; exact h1)]
      · have hb1 : bt (s.extract 1 s.size) 1 = bt s 2 := bt_ext (s := s) (d := 1) (i := 1) (by omega)
        have hb2 : bt ((s.extract 1 s.size).extract 1 (s.extract 1 s.size).size) 0 = bt (s.extract 1 s.size) 1 := bt_ext (s := s.extract 1 s.size) (d := 1) (i := 0) (by omega)
        rw [pu_point8 (by omega) (by rw [hb2, hb1]; exact h46), pu_point10 (by omega) (by rw [hb]; exact h1) (by rw [hb1]; exact h46)]
  · cases hb : sgB s with
    | true =>
      have hz := exd_size s 1
      have hpp : sgP s = 1 := if_pos (of_decide_eq_true hb)
      rw [hpp] at h1 h2 h3
      have h2 : 49 ≤ bt s 1 := h2
      have h48 : bt s 0 ≠ 48 := by rcases sg_of hb with e | e <;> rw [e] <;> decide
      have hbb : bt (s.extract 1 s.size) 0 = bt s 1 := bt_ext (s := s) (d := 1) (i := 0) (by omega)
      have hsgx : ∃ neg, SG s (s.extract 1 s.size) neg := by
        rcases sg_of hb with e | e
        · exact ⟨false, .inl ⟨e, rfl, rfl⟩⟩
        · exact ⟨true, .inr (.inl ⟨e, rfl, rfl⟩)⟩
      obtain ⟨neg, hsg⟩ := hsgx
      exact ⟨s.extract 1 s.size, s.extract 1 s.size, s, s.extract 1 s.size, neg, 10, 10, hsg, by omega, .inr (.inl ⟨rfl, by rw [hbb]; omega, rfl, rfl⟩), cut_plain hp h48, hsg, by omega, by omega, by omega, by omega, pre_self (.inr (.inl rfl)), fun _ => rfl, by omega, hn.ext 1, hn.ext 1⟩
    | false =>
      have hpp : sgP s = 0 := if_neg (of_decide_eq_false hb)
      rw [hpp] at h2 h3
      have h2 : 49 ≤ bt s 0 := h2
      have hsg := sg_not hb
      exact ⟨s, s, s, s, false, 10, 10, .inr (.inr ⟨hsg.1, hsg.2, rfl, rfl⟩), by omega, .inr (.inl ⟨rfl, by omega, rfl, rfl⟩), cut_plain hp (by omega), .inr (.inr ⟨hsg.1, hsg.2, rfl, rfl⟩), by omega, by omega, by omega, by omega, pre_self (.inr (.inl rfl)), fun _ => rfl, by omega, hn, hn⟩
theorem pi_range {neg : Bool} {m : Int} {r : Int × Option Int} (hm : m = 16 ∨ m = 32 ∨ m = 64) (hr : r.2 = none ∧ 0 ≤ r.1 ∧ r.1 ≤ maxOf m ∨ r.2 = some 1 ∧ r.1 = maxOf m ∨ r.2 = some 2) (h : (piV neg (halfOf m) r).2 = none) : -(halfOf m) ≤ (piV neg (halfOf m) r).1 ∧ (piV neg (halfOf m) r).1 ≤ halfOf m - 1 := by
  have hC : halfOf m = 32768 ∧ maxOf m = 65535 ∨ halfOf m = 2147483648 ∧ maxOf m = 4294967295 ∨ halfOf m = 9223372036854775808 ∧ maxOf m = 18446744073709551615 := by rcases hm with rfl | rfl | rfl <;> simp [halfOf, maxOf]
  obtain ⟨n, er⟩ := r
  unfold piV at h ⊢
  by_cases h2 : er = some 2
  · rw [if_pos h2] at h; cases h
  · have hn : 0 ≤ n ∧ n ≤ maxOf m := by
      rcases hr with h | h | h
      · exact h.2
      · have := h.2; simp only at this; have := max_pos m; omega
      · exact absurd h h2
    rw [if_neg h2] at h ⊢
    by_cases h3 : neg = false ∧ halfOf m ≤ n
    · rw [if_pos h3] at h; cases h
    · rw [if_neg h3] at h ⊢
      by_cases h4 : neg = true ∧ halfOf m < n
      · rw [if_pos h4] at h; cases h
      · rw [if_neg h4]
        cases neg with
        | true =>
          have : ¬ halfOf m < n := fun e => h4 ⟨rfl, e⟩
          simp only [if_true]
          unfold wrap64
          omega
        | false =>
          have : ¬ halfOf m ≤ n := fun e => h3 ⟨rfl, e⟩
          simp only [Bool.false_eq_true, if_false]
          unfold wrap64
          omega
end Go.Proofs.YtogikhohkbcccaaGreatDoor.De
