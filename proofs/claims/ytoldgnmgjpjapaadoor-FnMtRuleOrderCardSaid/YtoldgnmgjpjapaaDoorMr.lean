/-
Match rules in plain words: what is written of options, and what is read of it.
-/
import Derived.Test.YtoldgnmgjpjapaaDoorQ5
import Derived.Test.YtoldgnmgjpjapaaDoorQ6
import Derived.Test.YtoldgnmgjpjapaaDoorQ7
import Derived.Test.YtoldgnmgjpjapaaDoorCom
namespace Go.Proofs.YtoldgnmgjpjapaaDoor.Mr
set_option linter.unusedVariables false
set_option linter.unusedSimpArgs false
open Go.RowKit Go.Proofs.YtoldgnmgjpjapaaDoor.Mt Go.Proofs.YtoldgnmgjpjapaaDoor.Q Go.Proofs.YtoldgnmgjpjapaaDoorW.PrintWords Go.Proofs.YtoldgnmgjpjapaaDoorW.PrintLast
open Go.Proofs.YtoldgnmgjpjapaaDoor.Com

theorem byte_eq (c : UInt8) (n : Nat) (h : n < 256) : ((c.toNat : Int) = (n : Int)) ↔ c = UInt8.ofNat n := by
  constructor
  · intro e
    apply UInt8.toNat_inj.1
    rw [UInt8.toNat_ofNat']
    omega
  · rintro rfl
    rw [UInt8.toNat_ofNat']
    omega
theorem b39 (c : UInt8) : (c.toNat : Int) = 39 ↔ c = 39 := byte_eq c 39 (by omega)
theorem b44 (c : UInt8) : (c.toNat : Int) = 44 ↔ c = 44 := byte_eq c 44 (by omega)
theorem b61 (c : UInt8) : (c.toNat : Int) = 61 ↔ c = 61 := byte_eq c 61 (by omega)

def mkb (l : List UInt8) : ByteArray := ⟨l.toArray⟩
theorem B_mkb (l : List UInt8) : B (mkb l) = l := rfl
theorem mkb_B (s : ByteArray) : mkb (B s) = s := B_inj rfl
theorem size_mkb (l : List UInt8) : (mkb l).size = l.length := by rw [← B_length, B_mkb]

/-- One term. -/
def tm (k v : ByteArray) : List UInt8 := B k ++ 61 :: 39 :: (B v ++ [39])
/-- The terms, with commas between them. -/
def rl : List (List UInt8) → List UInt8
  | [] => []
  | a :: r => a ++ r.flatMap (fun y => 44 :: y)
def tms (l : List S32) : List (List UInt8) := l.map (fun x => tm x.f0 x.f1)

theorem tm_length (k v : ByteArray) : (tm k v).length = k.size + v.size + 3 := by
  simp [tm, B_length]; omega

theorem join_rl : ∀ l : List (List UInt8), Lib.join l [44] = rl l
  | [] => rfl
  | a :: r => by
    rw [Lib.join_cons, rl]
    congr 1
theorem opt_B (x : S50) : B (opt x) = tm x.f0 x.f1 := by
  unfold opt tm
  rw [B_append, B_append, B_append]
  simp [B]
theorem rule_is (l : List S50) : rule l = mkb (rl (l.map (fun x => tm x.f0 x.f1))) := by
  unfold rule mkb
  rw [join_rl, List.map_map]
  congr 3
  apply List.map_congr_left
  intro x _
  exact opt_B x

theorem rl_length : ∀ l : List (List UInt8), l ≠ [] → (rl l).length + 1 = (l.map (fun t => t.length + 1)).sum
  | [], h => absurd rfl h
  | a :: r, _ => by
    have : ∀ r : List (List UInt8), (r.flatMap (fun y => 44 :: y)).length = (r.map (fun t => t.length + 1)).sum := by
      intro r
      induction r with
      | nil => rfl
      | cons b r ih => rw [List.flatMap_cons, List.length_append, ih, List.map_cons, List.sum_cons]; simp
    rw [rl, List.length_append, this, List.map_cons, List.sum_cons]
    omega

/-! ### what is let in -/
def okc (c : UInt8) : Bool := c != 61 && (c != 44 && c != 39)
def okx (x : S32) : Bool := (decide (x.f0.size ≤ 300) && decide (x.f1.size ≤ 300)) && ((B x.f0).all okc && (B x.f1).all (· != 39))
theorem okx_iff (x : S32) (h : okx x = true) : x.f0.size ≤ 300 ∧ x.f1.size ≤ 300 ∧ (∀ c ∈ B x.f0, c ≠ 61 ∧ c ≠ 44 ∧ c ≠ 39) ∧ (∀ c ∈ B x.f1, c ≠ 39) := by
  unfold okx at h
  simp only [Bool.and_eq_true, decide_eq_true_eq, List.all_eq_true] at h
  refine ⟨h.1.1, h.1.2, fun c hc => ?_, fun c hc => ?_⟩
  · have := h.2.1 c hc
    unfold okc at this
    simpa using this
  · simpa using h.2.2 c hc

theorem rd_at (L : List S32) (j : Nat) (t : S32) (R : List S32) (h : L.drop j = t :: R) : rd_T32 L (j : Int) = t ∧ j < L.length ∧ L.drop (j + 1) = R := by
  have hl : j < L.length := by
    have h9 := congrArg List.length h
    simp only [List.length_drop, List.length_cons] at h9; omega
  rw [List.drop_eq_getElem_cons hl] at h
  injection h with h1 h2
  refine ⟨?_, hl, h2⟩
  simp [rd_T32, hl, h1]
theorem drop_nil_le {α : Type} {L : List α} {j : Nat} (h : L.drop j = []) : L.length ≤ j := by
  have h9 := congrArg List.length h
  simp only [List.length_drop, List.length_nil] at h9; omega

theorem val_go (L : List S32) (n j : Int) (f0 f1 : ByteArray) (hs : f1.size ≤ 300) (b : Bool) (H : Ev (fun k => laws_mtPlain.l0 k L L n (wrap64 (j + 1))) b) : ∀ (l : List UInt8) (i : Nat), (B f1).drop i = l →
    Ev (fun k => laws_mtPlain.l2 k L (i : Int) L n j f0 f1) (l.all (· != 39) && b)
  | [], i, h => by
    have := drop_end h
    refine Ev.step (fun k => by simp only [laws_mtPlain.l2]; rfl) ?_
    exact Ev.no (by omega) H
  | c :: t, i, h => by
    obtain ⟨hb, hl, hd⟩ := bt_drop h
    have hw : wrap64 ((i : Int) + 1) = ((i + 1 : Nat) : Int) := by rw [wrap_of (by omega) (by omega)]; omega
    have ih := val_go L n j f0 f1 hs b H t (i + 1) hd
    refine Ev.step (fun k => by simp only [laws_mtPlain.l2]; rfl) ?_
    rw [hb, hw, List.all_cons]
    refine Ev.yes (by omega) (Ev.yes (by omega) ?_)
    by_cases h39 : c = 39
    · rw [h39]
      exact Ev.yes rfl (Ev.now _)
    · have : (c != 39) = true := bne_iff_ne.2 h39
      rw [this, Bool.true_and]
      exact Ev.no (fun e => h39 ((b39 c).1 e)) ih
theorem key_go (L : List S32) (n j : Int) (f0 f1 : ByteArray) (hs0 : f0.size ≤ 300) (hs : f1.size ≤ 300) (b : Bool) (H : Ev (fun k => laws_mtPlain.l0 k L L n (wrap64 (j + 1))) b) : ∀ (l : List UInt8) (i : Nat), (B f0).drop i = l →
    Ev (fun k => laws_mtPlain.l1 k L (i : Int) L n j f0 f1) (l.all okc && ((B f1).all (· != 39) && b))
  | [], i, h => by
    have := drop_end h
    refine Ev.step (fun k => by simp only [laws_mtPlain.l1]; rfl) ?_
    exact Ev.no (by omega) (val_go L n j f0 f1 hs b H (B f1) 0 rfl)
  | c :: t, i, h => by
    obtain ⟨hb, hl, hd⟩ := bt_drop h
    have hw : wrap64 ((i : Int) + 1) = ((i + 1 : Nat) : Int) := by rw [wrap_of (by omega) (by omega)]; omega
    have ih := key_go L n j f0 f1 hs0 hs b H t (i + 1) hd
    refine Ev.step (fun k => by simp only [laws_mtPlain.l1]; rfl) ?_
    rw [hb, hw, List.all_cons]
    refine Ev.yes (by omega) (Ev.yes (by omega) ?_)
    by_cases h61 : c = 61
    · rw [h61]
      exact Ev.yes rfl (Ev.is (by rfl))
    refine Ev.no (fun e => h61 ((b61 c).1 e)) ?_
    by_cases h44 : c = 44
    · rw [h44]
      exact Ev.yes rfl (Ev.is (by rfl))
    refine Ev.no (fun e => h44 ((b44 c).1 e)) ?_
    by_cases h39 : c = 39
    · rw [h39]
      exact Ev.yes rfl (Ev.is (by rfl))
    refine Ev.no (fun e => h39 ((b39 c).1 e)) ?_
    have : okc c = true := by unfold okc; simp [h61, h44, h39]
    rw [this, Bool.true_and]
    exact ih
theorem plain_go (L : List S32) (hL : (L.length : Int) ≤ 2147483647) : ∀ (R : List S32) (j : Nat), L.drop j = R → Ev (fun k => laws_mtPlain.l0 k L L (L.length : Int) (j : Int)) (R.all okx && decide ((L.length : Int) ≤ 40))
  | [], j, h => by
    have hl := drop_nil_le h
    refine Ev.step (fun k => by simp only [laws_mtPlain.l0]; rfl) ?_
    exact Ev.no (by omega) (Ev.now _)
  | x :: R, j, h => by
    obtain ⟨hr, hl, hd⟩ := rd_at L j x R h
    have hw : wrap64 ((j : Int) + 1) = ((j + 1 : Nat) : Int) := by rw [wrap_of (by omega) (by omega)]; omega
    have ih := plain_go L hL R (j + 1) hd
    refine Ev.step (fun k => by simp only [laws_mtPlain.l0]; rfl) ?_
    rw [hr, List.all_cons]
    have bad : okx x = false → Ev (fun k => laws_mtPlain.j1 k L L (L.length : Int) (j : Int) true x.f0 x.f1) ((okx x && R.all okx) && decide ((L.length : Int) ≤ 40)) := by
      intro hb
      rw [hb]
      refine Ev.step (fun k => by simp only [laws_mtPlain.j1]; rfl) ?_
      exact Ev.yes trivial (Ev.now _)
    refine Ev.yes (by omega) (Ev.yes (by omega) (Ev.yes (by omega) (Ev.both (fun h0 => ?_) (fun h0 => ?_))))
    · refine bad ?_
      unfold okx
      rw [show decide (x.f0.size ≤ 300) = false from decide_eq_false (by omega)]; rfl
    · by_cases h1 : (x.f1.size : Int) > 300
      · rw [decide_eq_true h1]
        refine bad ?_
        unfold okx
        rw [show decide (x.f1.size ≤ 300) = false from decide_eq_false (by omega)]; simp
      · rw [decide_eq_false h1]
        refine Ev.step (fun k => by simp only [laws_mtPlain.j1]; rfl) ?_
        refine Ev.no (by simp) ?_
        have := key_go L (L.length : Int) (j : Int) x.f0 x.f1 (by omega) (by omega) _ (by rw [hw]; exact ih) (B x.f0) 0 rfl
        have e : ((okx x && R.all okx) && decide ((L.length : Int) ≤ 40)) = ((B x.f0).all okc && ((B x.f1).all (· != 39) && (R.all okx && decide ((L.length : Int) ≤ 40)))) := by
          unfold okx
          rw [show decide (x.f0.size ≤ 300) = true from decide_eq_true (by omega), show decide (x.f1.size ≤ 300) = true from decide_eq_true (by omega)]
          simp only [Bool.true_and, Bool.and_assoc]
        rw [e]
        exact this
theorem plain_ev (L : List S32) (hL : (L.length : Int) ≤ 2147483647) : ∃ b, Ev (fun k => laws_mtPlain.f k L) b ∧ (b = true → L.length ≤ 40 ∧ ∀ x ∈ L, okx x = true) := by
  unfold laws_mtPlain.f
  refine ⟨_, plain_go L hL L 0 rfl, fun h => ?_⟩
  simp only [Bool.and_eq_true, List.all_eq_true, decide_eq_true_eq] at h
  exact ⟨by omega, h.1⟩

/-! ### MtRule -/
def c50 (x : S32) : S50 := ⟨x.f0, x.f1⟩
theorem mt_go (L : List S32) (hL : L.length ≤ 1000) (hx : ∀ x ∈ L, x.f0.size ≤ 1000 ∧ x.f1.size ≤ 1000) : ∀ (R : List S32) (j : Nat), L.drop j = R →
    Ev (fun k => impl_MtRule.l0 k ((L.take j).map c50) L (L.length : Int) (j : Int)) (mkb (rl (tms L)))
  | [], j, h => by
    have hl := drop_nil_le h
    rw [List.take_of_length_le hl]
    refine Ev.step (fun k => by simp only [impl_MtRule.l0]; rfl) ?_
    refine Ev.no (by omega) ?_
    have hf : dbus_DoorRule.f (L.map c50) = some (mkb (rl (tms L))) := by
      unfold dbus_DoorRule.f dbus_formatMatchOptions.f
      rw [if_pos ⟨by rw [List.length_map]; exact hL, by
        intro y hy
        obtain ⟨x, h1, rfl⟩ := List.mem_map.1 hy
        exact hx x h1⟩]
      rw [Option.bind_some, rule_is, List.map_map]
      rfl
    exact Ev.call hf (Ev.now _)
  | x :: R, j, h => by
    obtain ⟨hr, hl, hd⟩ := rd_at L j x R h
    have hw : wrap64 ((j : Int) + 1) = ((j + 1 : Nat) : Int) := by rw [wrap_of (by omega) (by omega)]; omega
    have ih := mt_go L hL hx R (j + 1) hd
    have ht : L[j]? = some x := by
      have := List.drop_eq_getElem_cons hl
      rw [this] at h
      injection h with h1 _
      rw [List.getElem?_eq_getElem hl, h1]
    rw [List.take_add_one, ht, List.map_append] at ih
    refine Ev.step (fun k => by simp only [impl_MtRule.l0]; rfl) ?_
    rw [hr, hw]
    exact Ev.yes (by omega) (Ev.yes (by omega) (Ev.yes (by omega) (Ev.call (show dbus_WithMatchOption.f x.f0 x.f1 = some (x.f0, x.f1) from rfl) (Ev.yes (by rw [List.length_map, List.length_take]; omega) ih))))
theorem mt_ev (L : List S32) (hL : L.length ≤ 1000) (hx : ∀ x ∈ L, x.f0.size ≤ 1000 ∧ x.f1.size ≤ 1000) : Ev (fun k => impl_MtRule.f k L) (mkb (rl (tms L))) := by
  unfold impl_MtRule.f
  exact mt_go L hL hx L 0 rfl

/-! ### ReadRule -/
theorem rk_go (s : ByteArray) (hs : s.size ≤ 100000) (acc : List S41) (f : Int) (r : List S41 × Bool) : ∀ (l : List UInt8) (i : Nat) (t : List UInt8), (B s).drop i = l ++ 61 :: t → (∀ c ∈ l, c ≠ 61 ∧ c ≠ 44 ∧ c ≠ 39) →
    Ev (fun k => spec_ReadRule.j2 k s acc ((i + l.length : Nat) : Int) f) r → Ev (fun k => spec_ReadRule.l1 k s acc (i : Int) f) r
  | [], i, t, h, hc, H => by
    obtain ⟨hb, hl, hd⟩ := bt_drop h
    refine Ev.step (fun k => by simp only [spec_ReadRule.l1]; rfl) ?_
    rw [hb]
    exact Ev.yes (by omega) (Ev.yes (by omega) (Ev.yes rfl H))
  | c :: l, i, t, h, hc, H => by
    obtain ⟨hb, hl, hd⟩ := bt_drop (t := l ++ 61 :: t) h
    have hw : wrap64 ((i : Int) + 1) = ((i + 1 : Nat) : Int) := by rw [wrap_of (by omega) (by omega)]; omega
    have hcc := hc c List.mem_cons_self
    have ih := rk_go s hs acc f r l (i + 1) t hd (fun x hx => hc x (List.mem_cons_of_mem _ hx)) (by rw [show i + 1 + l.length = i + (c :: l).length from by simp; omega]; exact H)
    refine Ev.step (fun k => by simp only [spec_ReadRule.l1]; rfl) ?_
    rw [hb, hw]
    exact Ev.yes (by omega) (Ev.yes (by omega) (Ev.no (fun e => hcc.1 ((b61 c).1 e)) (Ev.no (fun e => hcc.2.1 ((b44 c).1 e)) ih)))
theorem one_at (s : ByteArray) (i : Nat) (c : UInt8) (t : List UInt8) (h : (B s).drop i = c :: t) : s.extract i (i + 1) = mkb [c] := by
  apply B_inj
  rw [B_extract, h, B_mkb]
  simp
/-- The bytes of a value, between its marks. -/
theorem rv_go (s : ByteArray) (hs : s.size ≤ 100000) (acc : List S41) (key : ByteArray) (r : List S41 × Bool) : ∀ (l : List UInt8) (i : Nat) (t : List UInt8) (v : ByteArray), (B s).drop i = l ++ 39 :: t → (∀ c ∈ l, c ≠ 39) → v.size ≤ i →
    Ev (fun k => spec_ReadRule.l2 k s acc ((i + l.length + 1 : Nat) : Int) false key (v ++ mkb l)) r → Ev (fun k => spec_ReadRule.l2 k s acc (i : Int) true key v) r
  | [], i, t, v, h, hc, hv, H => by
    obtain ⟨hb, hl, hd⟩ := bt_drop h
    have hw : wrap64 ((i : Int) + 1) = ((i + 1 : Nat) : Int) := by rw [wrap_of (by omega) (by omega)]; omega
    have e : v ++ mkb [] = v := B_inj (by rw [B_append, B_mkb, List.append_nil])
    rw [e] at H
    refine Ev.step (fun k => by simp only [spec_ReadRule.l2]; rfl) ?_
    refine Ev.yes (by omega) (Ev.yes trivial ?_)
    refine Ev.step (fun k => by simp only [spec_ReadRule.j5]; rfl) ?_
    rw [hb, hw]
    exact Ev.yes trivial (Ev.yes (by omega) (Ev.yes (by omega) (Ev.yes rfl H)))
  | c :: l, i, t, v, h, hc, hv, H => by
    obtain ⟨hb, hl, hd⟩ := bt_drop (t := l ++ 39 :: t) h
    have hw : wrap64 ((i : Int) + 1) = ((i + 1 : Nat) : Int) := by rw [wrap_of (by omega) (by omega)]; omega
    have hcc := hc c List.mem_cons_self
    have h1 := one_at s i c (l ++ 39 :: t) h
    have e : v ++ mkb [c] ++ mkb l = v ++ mkb (c :: l) := B_inj (by simp only [B_append, B_mkb]; simp)
    have hz : (mkb [c]).size = 1 := rfl
    have ih := rv_go s hs acc key r l (i + 1) t (v ++ mkb [c]) hd (fun x hx => hc x (List.mem_cons_of_mem _ hx)) (by rw [ByteArray.size_append, hz]; omega)
      (by rw [e, show i + 1 + l.length + 1 = i + (c :: l).length + 1 from by simp; omega]; exact H)
    refine Ev.step (fun k => by simp only [spec_ReadRule.l2]; rfl) ?_
    refine Ev.yes (by omega) (Ev.yes trivial ?_)
    refine Ev.step (fun k => by simp only [spec_ReadRule.j5]; rfl) ?_
    rw [hb, hw, Int.toNat_natCast, Int.toNat_natCast, h1]
    exact Ev.yes trivial (Ev.yes (by omega) (Ev.yes (by omega) (Ev.no (fun e => hcc ((b39 c).1 e)) (Ev.yes trivial (Ev.yes (by omega) (Ev.yes (by omega) (Ev.yes (by rw [hz]; omega) ih)))))))

theorem t3b_ (s : ByteArray) (acc : List S41) (k v : ByteArray) (m : Nat) (hm : m + 1 < s.size) (hs : s.size ≤ 100000) (r : List S41 × Bool) (hb3 : bt s (m : Int) = 39)
    (H : Ev (fun n => spec_ReadRule.l2 n s acc ((m + 1 : Nat) : Int) true k v) r) : Ev (fun n => spec_ReadRule.j5 n s acc (m : Int) false true k v) r := by
  have hw2 : wrap64 ((m : Int) + 1) = ((m + 1 : Nat) : Int) := by rw [wrap_of (by omega) (by omega)]; omega
  refine Ev.step (fun n => by rw [spec_ReadRule.j5]) ?_
  rw [hb3, hw2]
  clear hb3 hw2
  exact Ev.yes rfl (Ev.yes (by omega) (Ev.yes (by omega) (Ev.yes rfl H)))
theorem t3_ (s : ByteArray) (acc : List S41) (k v : ByteArray) (m : Nat) (hm : m + 1 < s.size) (hs : s.size ≤ 100000) (r : List S41 × Bool) (hb3 : bt s (m : Int) = 39)
    (H : Ev (fun n => spec_ReadRule.l2 n s acc ((m + 1 : Nat) : Int) true k v) r) : Ev (fun n => spec_ReadRule.l2 n s acc (m : Int) false k v) r := by
  refine Ev.step (fun n => by rw [spec_ReadRule.l2]) ?_
  rw [hb3, show ((39 : Int) != 44) = true from rfl]
  exact Ev.yes (by omega) (Ev.no (by simp) (Ev.yes (by omega) (t3b_ s acc k v m hm hs r hb3 H)))
/-- The end of a term: nothing behind it. -/
theorem t4_ (s : ByteArray) (acc : List S41) (ha : acc.length ≤ 1000) (k v : ByteArray) (m : Nat) (hm : s.size = m) : Ev (fun n => spec_ReadRule.l2 n s acc (m : Int) false k v) (acc ++ [⟨k, v⟩], true) := by
  refine Ev.step (fun n => by rw [spec_ReadRule.l2]) ?_
  refine Ev.no (by omega) ?_
  refine Ev.step (fun n => by rw [spec_ReadRule.j5]) ?_
  refine Ev.no (by simp) (Ev.no (by simp) (Ev.yes (by omega) (Ev.let (Ev.no (by omega) ?_))))
  refine Ev.step (fun n => by rw [spec_ReadRule.l0]) ?_
  exact Ev.no (by omega) (Ev.now _)
/-- The end of a term: a comma behind it. -/
theorem t4b_ (s : ByteArray) (hs : s.size ≤ 100000) (acc : List S41) (ha : acc.length ≤ 1000) (k v : ByteArray) (m : Nat) (hm : m + 1 < s.size) (hb : bt s (m : Int) = 44) (r : List S41 × Bool)
    (H : Ev (fun n => spec_ReadRule.l0 n s (acc ++ [⟨k, v⟩]) ((m + 1 : Nat) : Int)) r) : Ev (fun n => spec_ReadRule.l2 n s acc (m : Int) false k v) r := by
  have hw : wrap64 ((m : Int) + 1) = ((m + 1 : Nat) : Int) := by rw [wrap_of (by omega) (by omega)]; omega
  refine Ev.step (fun n => by rw [spec_ReadRule.l2]) ?_
  rw [hb, show ((44 : Int) != 44) = false from rfl]
  clear hb
  refine Ev.yes (by clear hw; omega) (Ev.no (by simp) (Ev.yes (by clear hw; omega) ?_))
  refine Ev.step (fun n => by rw [spec_ReadRule.j5]) ?_
  rw [hw]
  clear hw
  exact Ev.no (by simp) (Ev.no (by simp) (Ev.yes (by omega) (Ev.let (Ev.yes (by omega) (Ev.no (by omega) H)))))
/-- Behind the key. -/
theorem t2_ (s : ByteArray) (hs : s.size ≤ 100000) (acc : List S41) (k : ByteArray) (f m : Nat) (hf : f ≤ m) (hm : m < s.size) (hb : bt s (m : Int) = 61) (r : List S41 × Bool) (hkey : s.extract f m = k)
    (H : Ev (fun n => spec_ReadRule.l2 n s acc ((m + 1 : Nat) : Int) false k (⟨#[]⟩ : ByteArray)) r) : Ev (fun n => spec_ReadRule.j2 n s acc (m : Int) (f : Int)) r := by
  have hw : wrap64 ((m : Int) + 1) = ((m + 1 : Nat) : Int) := by rw [wrap_of (by omega) (by omega)]; omega
  refine Ev.step (fun n => by rw [spec_ReadRule.j2]) ?_
  rw [hb, show ((61 : Int) == 44) = false from rfl]
  clear hb
  refine Ev.no (by clear hw; omega) (Ev.yes (by clear hw; omega) (Ev.yes (by clear hw; omega) ?_))
  refine Ev.step (fun n => by rw [spec_ReadRule.j3]) ?_
  rw [hw, Int.toNat_natCast, Int.toNat_natCast, hkey]
  clear hw
  exact Ev.no (by simp) (Ev.yes (by omega) (Ev.yes (by omega) (Ev.yes (by omega) H)))

/-- One term is read. -/
theorem term_ev (s : ByteArray) (hs : s.size ≤ 100000) (acc : List S41) (ha : acc.length ≤ 1000) (k v : ByteArray) (hk : ∀ c ∈ B k, c ≠ 61 ∧ c ≠ 44 ∧ c ≠ 39) (hv : ∀ c ∈ B v, c ≠ 39) (i : Nat) (rest : List UInt8) (h : (B s).drop i = tm k v ++ rest) (r : List S41 × Bool)
    (H : (rest = [] ∧ r = (acc ++ [⟨k, v⟩], true)) ∨ ∃ t, rest = 44 :: t ∧ t ≠ [] ∧ Ev (fun n => spec_ReadRule.l0 n s (acc ++ [⟨k, v⟩]) ((i + (tm k v).length + 1 : Nat) : Int)) r) :
    Ev (fun n => spec_ReadRule.l0 n s acc (i : Int)) r := by
  have htl := tm_length k v
  have hsz : s.size = i + (tm k v).length + rest.length := by
    have := congrArg List.length h
    rw [List.length_drop, B_length, List.length_append] at this
    omega
  have h1 : (B s).drop i = B k ++ 61 :: (39 :: (B v ++ [39]) ++ rest) := by rw [h, tm]; simp
  have h2 : (B s).drop (i + (B k).length) = 61 :: 39 :: (B v ++ 39 :: rest) := by
    rw [← List.drop_drop, h1, List.drop_left]; simp
  have e5 : i + (B k).length + 1 + 1 + (B v).length + 1 = i + (tm k v).length := by rw [htl, B_length, B_length]; omega
  have h6 : (B s).drop (i + (tm k v).length) = rest := by rw [← List.drop_drop, h, List.drop_left]
  have hkey : s.extract i (i + (B k).length) = k := by
    apply B_inj
    rw [B_extract, h1, Nat.add_sub_cancel_left, List.take_left]
  have ev : (⟨#[]⟩ : ByteArray) ++ mkb (B v) = v := B_inj (by rw [B_append, B_mkb]; rfl)
  have T4 : Ev (fun n => spec_ReadRule.l2 n s acc ((i + (tm k v).length : Nat) : Int) false k v) r := by
    rcases H with ⟨rfl, rfl⟩ | ⟨t, rfl, ht, H⟩
    · exact t4_ s acc ha k v _ (by simpa using hsz)
    · obtain ⟨hb7, hl7, hd7⟩ := bt_drop h6
      have htz : 0 < t.length := List.length_pos_iff.2 ht
      rw [List.length_cons] at hsz
      exact t4b_ s hs acc ha k v _ (by omega) hb7 r H
  clear H h6
  rw [← e5] at T4
  obtain ⟨hb, hl, hd⟩ := bt_drop h2
  obtain ⟨hb3, hl3, hd3⟩ := bt_drop hd
  have hm : i + (B k).length + 1 + 1 < s.size := by
    rw [hsz, ← e5]; omega
  clear h h2 hd e5 hsz htl
  have T3 := t3_ s acc k (⟨#[]⟩ : ByteArray) (i + (B k).length + 1) hm hs r hb3 (rv_go s hs acc k r (B v) (i + (B k).length + 1 + 1) rest (⟨#[]⟩ : ByteArray) hd3 hv (Nat.zero_le _) (by rw [ev]; exact T4))
  have T2 := t2_ s hs acc k i (i + (B k).length) (Nat.le_add_right _ _) hl hb r hkey T3
  refine Ev.step (fun n => by rw [spec_ReadRule.l0]) ?_
  refine Ev.yes ?_ (rk_go s hs acc i r (B k) i _ h1 hk T2)
  clear T2 T3 T4 hb hb3
  omega

def c41 (x : S32) : S41 := ⟨x.f0, x.f1⟩
theorem read_go (s : ByteArray) (hs : s.size ≤ 100000) : ∀ (x : S32) (L : List S32) (acc : List S41) (i : Nat), (∀ y ∈ x :: L, okx y = true) → acc.length + L.length ≤ 900 → (B s).drop i = rl (tms (x :: L)) →
    Ev (fun n => spec_ReadRule.l0 n s acc (i : Int)) (acc ++ (x :: L).map c41, true)
  | x, [], acc, i, hx, ha, h => by
    obtain ⟨_, _, h3, h4⟩ := okx_iff x (hx x List.mem_cons_self)
    exact term_ev s hs acc (by omega) x.f0 x.f1 h3 h4 i [] (by rw [h]; simp [tms, rl]) _ (.inl ⟨rfl, rfl⟩)
  | x, y :: L, acc, i, hx, ha, h => by
    obtain ⟨_, _, h3, h4⟩ := okx_iff x (hx x List.mem_cons_self)
    simp only [List.length_cons] at ha
    have e : rl (tms (x :: y :: L)) = tm x.f0 x.f1 ++ 44 :: rl (tms (y :: L)) := by simp [tms, rl]
    have hd : (B s).drop (i + (tm x.f0 x.f1).length + 1) = rl (tms (y :: L)) := by
      rw [← List.drop_drop, ← List.drop_drop, h, e, List.drop_left]; rfl
    have ih := read_go s hs y L (acc ++ [c41 x]) (i + (tm x.f0 x.f1).length + 1) (fun z hz => hx z (List.mem_cons_of_mem _ hz)) (by simp; omega) hd
    have e2 : acc ++ [c41 x] ++ (y :: L).map c41 = acc ++ (x :: y :: L).map c41 := by simp
    rw [e2] at ih
    refine term_ev s hs acc (by omega) x.f0 x.f1 h3 h4 i (44 :: rl (tms (y :: L))) (by rw [h, e]) _ (.inr ⟨_, rfl, ?_, ih⟩)
    simp [tms, rl, tm]
theorem read_ev (L : List S32) (hx : ∀ y ∈ L, okx y = true) (hL : L.length ≤ 100) : Ev (fun n => spec_ReadRule.f n (mkb (rl (tms L)))) (L.map c41, true) := by
  unfold spec_ReadRule.f
  cases L with
  | nil =>
    refine Ev.step (fun n => by simp only [spec_ReadRule.l0]; rfl) ?_
    exact Ev.no (by decide) (Ev.now _)
  | cons x L =>
    have hz : (mkb (rl (tms (x :: L)))).size ≤ 100000 := by
      rw [size_mkb]
      have h1 := rl_length (tms (x :: L)) (by simp [tms])
      have : ∀ L : List S32, (∀ y ∈ L, okx y = true) → ((tms L).map (fun t => t.length + 1)).sum ≤ 604 * L.length := by
        intro L
        induction L with
        | nil => intro _; simp [tms]
        | cons a L ih =>
          intro h
          have h2 := ih (fun y hy => h y (List.mem_cons_of_mem _ hy))
          obtain ⟨h3, h4, _, _⟩ := okx_iff a (h a List.mem_cons_self)
          simp only [tms, List.map_cons, List.sum_cons, List.length_cons, tm_length] at h2 ⊢
          omega
      have := this (x :: L) hx
      omega
    have := read_go (mkb (rl (tms (x :: L)))) hz x L [] 0 hx (by simp only [List.length_cons, List.length_nil] at hL ⊢; omega) rfl
    rw [List.nil_append] at this
    exact this

end Go.Proofs.YtoldgnmgjpjapaaDoor.Mr
