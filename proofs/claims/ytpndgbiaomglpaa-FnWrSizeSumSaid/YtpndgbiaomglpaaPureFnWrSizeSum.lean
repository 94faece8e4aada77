/-
The fixed size that the program gives for two valid signatures, neither empty, one behind the other and valid together, is the sum of the sizes that it gives for each, or 0 where it gives 0 for one of them; for all other inputs the law returns true at once.
-/
import Derived.Test.YtpndgbiaomglpaaQ7
import Derived.Test.YtpndgbiaomglpaaSpec
namespace Go.Proofs.Ytpndgbiaomglpaa.Pure
set_option linter.unusedVariables false
set_option linter.unusedSimpArgs false
open Go.RowKit Go.Proofs.Ytpndgbiaomglpaa.Q Go.Proofs.YtpndgbiaomglpaaW.PrintWords Go.Proofs.YtpndgbiaomglpaaW.PrintLast Go.Proofs.Ytpndgbiaomglpaa.Com Go.Proofs.Ytpndgbiaomglpaa.Tree Go.Proofs.Ytpndgbiaomglpaa.Spec

/-- The bytes of a letter's type. -/
def csz (c : UInt8) : Int :=
  if c = 121 then 1 else if c = 110 ∨ c = 113 then 2 else if c = 98 ∨ c = 105 ∨ c = 117 ∨ c = 104 then 4 else if c = 120 ∨ c = 116 ∨ c = 100 then 8 else 0
mutual
def fsz : T → Int
  | .b c => csz c
  | .d _ _ => 0
  | .a _ => 0
  | .s ts => tot ts 0
def tot : Ts → Int → Int
  | .nil, n => n
  | .more t ts, n => if fsz t = 0 then 0 else tot ts (n + fsz t)
end

theorem csz_range (c : UInt8) : 0 ≤ csz c ∧ csz c ≤ 8 := by
  unfold csz; repeat' split
  all_goals omega

mutual
theorem fsz_range : ∀ (t : T), 0 ≤ fsz t ∧ fsz t ≤ 8 * (txt t).length
  | .b c => by have := csz_range c; simp only [fsz, txt, List.length_cons, List.length_nil]; omega
  | .d k t => by simp only [fsz]; omega
  | .a t => by simp only [fsz]; omega
  | .s ts => by
    have := tot_range ts 0 (by omega)
    simp only [fsz, txt, List.length_cons, List.length_append, List.length_nil]; omega
theorem tot_range : ∀ (ts : Ts) (n : Int), 0 ≤ n → 0 ≤ tot ts n ∧ tot ts n ≤ n + 8 * (txts ts).length
  | .nil, n, h => by simp only [tot, txts, List.length_nil]; omega
  | .more t ts, n, h => by
    have h1 := fsz_range t
    have h2 := tot_range ts (n + fsz t) (by omega)
    simp only [tot, txts, List.length_append]
    split <;> omega
end

/-- One letter goes by in the scan of brackets. -/
theorem scan_one (s : ByteArray) (hs : s.size ≤ 4294967296) (n : Int) (o i : Nat) (d : Int) (hd : 1 ≤ d) (hd' : d ≤ i) (c : UInt8) (u : List UInt8) (h : (B s).drop (o + i) = c :: u) (r : Int)
    (H : Ev (fun k => dbus_sigByteSize.l1 k s n o ((i + 1 : Nat) : Int) (if c = 40 then d + 1 else if c = 41 then d - 1 else d)) r) :
    Ev (fun k => dbus_sigByteSize.l1 k s n o i d) r := by
  obtain ⟨hb, hi, hu⟩ := bt_drop h
  have hsz : ((s.extract o s.size).size : Int) = s.size - o := by rw [ByteArray.size_extract]; omega
  refine Ev.step (fun k => by simp only [dbus_sigByteSize.l1]; rfl) ?_
  refine Ev.yes (by omega) (Ev.yes (by omega) ?_)
  rw [Int.toNat_natCast]
  refine Ev.yes (by omega) ?_
  refine Ev.step (fun k => by simp only [dbus_sigByteSize.j5]; rfl) ?_
  refine Ev.yes (by simp; omega) ?_
  have e1 : wrap64 ((o : Int) + (i : Int)) = ((o + i : Nat) : Int) := by rw [wrap_of (by omega) (by omega)]; omega
  have e2 : wrap64 ((i : Int) + 1) = ((i + 1 : Nat) : Int) := by rw [wrap_of (by omega) (by omega)]; omega
  have e3 : wrap64 (d + 1) = d + 1 := wrap_of (by omega) (by omega)
  have e4 : wrap64 (d - 1) = d - 1 := wrap_of (by omega) (by omega)
  rw [e1, e2, e3, e4, hb]
  clear e1 e2 e3 e4
  refine Ev.yes (by omega) (Ev.yes (by omega) ?_)
  by_cases h40 : c = 40
  · rw [if_pos h40] at H
    exact Ev.yes ((byte_eq c 40 (by omega)).2 h40) H
  · rw [if_neg h40] at H
    refine Ev.no (fun h => h40 ((byte_eq c 40 (by omega)).1 h)) ?_
    by_cases h41 : c = 41
    · rw [if_pos h41] at H
      exact Ev.yes ((byte_eq c 41 (by omega)).2 h41) H
    · rw [if_neg h41] at H
      exact Ev.no (fun h => h41 ((byte_eq c 41 (by omega)).1 h)) H

theorem drop_next {l : List UInt8} {i : Nat} {c : UInt8} {u : List UInt8} (h : l.drop i = c :: u) : l.drop (i + 1) = u := by
  rw [← List.drop_drop, h]; rfl
theorem drop_past {l : List UInt8} {i : Nat} {a u : List UInt8} (h : l.drop i = a ++ u) : l.drop (i + a.length) = u := by
  rw [← List.drop_drop, h, List.drop_left]

/-- A letter that is no bracket. -/
theorem scan_skip (s : ByteArray) (hs : s.size ≤ 4294967296) (n : Int) (o i : Nat) (d : Int) (hd : 1 ≤ d) (hd' : d ≤ i) (c : UInt8) (u : List UInt8) (h : (B s).drop (o + i) = c :: u) (h40 : c ≠ 40) (h41 : c ≠ 41) (r : Int)
    (H : Ev (fun k => dbus_sigByteSize.l1 k s n o ((i + 1 : Nat) : Int) d) r) :
    Ev (fun k => dbus_sigByteSize.l1 k s n o i d) r :=
  scan_one s hs n o i d hd hd' c u h r (by rw [if_neg h40, if_neg h41]; exact H)

theorem scan_any (s : ByteArray) (hs : s.size ≤ 4294967296) (n : Int) (o : Nat) (r : Int) : ∀ (f : Nat),
    (∀ (t : T) (i : Nat) (d : Int) (u : List UInt8), (txt t).length ≤ f → ok t = true → 1 ≤ d → d ≤ i → (B s).drop (o + i) = txt t ++ u →
      Ev (fun k => dbus_sigByteSize.l1 k s n o ((i + (txt t).length : Nat) : Int) d) r → Ev (fun k => dbus_sigByteSize.l1 k s n o i d) r) ∧
    (∀ (ts : Ts) (i : Nat) (d : Int) (u : List UInt8), (txts ts).length ≤ f → oks ts = true → 1 ≤ d → d ≤ i → (B s).drop (o + i) = txts ts ++ u →
      Ev (fun k => dbus_sigByteSize.l1 k s n o ((i + (txts ts).length : Nat) : Int) d) r → Ev (fun k => dbus_sigByteSize.l1 k s n o i d) r) := by
  intro f
  induction f with
  | zero =>
    refine ⟨fun t i d u hl => by have := txt_pos t; omega, fun ts i d u hl ho hd hd' hB H => ?_⟩
    have e : i + (txts ts).length = i := by omega
    rw [e] at H; exact H
  | succ f ih =>
    obtain ⟨ih1, ih2⟩ := ih
    have one : ∀ (t : T) (i : Nat) (d : Int) (u : List UInt8), (txt t).length ≤ f + 1 → ok t = true → 1 ≤ d → d ≤ i → (B s).drop (o + i) = txt t ++ u →
        Ev (fun k => dbus_sigByteSize.l1 k s n o ((i + (txt t).length : Nat) : Int) d) r → Ev (fun k => dbus_sigByteSize.l1 k s n o i d) r := by
      intro t i d u hl ho hd hd' hB H
      cases t with
      | b c =>
        simp only [ok, Bool.or_eq_true, beq_iff_eq] at ho
        have hc : c ≠ 40 ∧ c ≠ 41 := by
          rcases ho with h | rfl
          · have := basic_ne c h; exact ⟨this.2.2.1, this.2.2.2.2.2⟩
          · decide
        exact scan_skip s hs n o i d hd hd' c u hB hc.1 hc.2 r H
      | d k t =>
        simp only [ok, Bool.and_eq_true] at ho
        simp only [txt, List.length_cons, List.length_append, List.length_nil] at hl H
        have hk := basic_ne k ho.1
        have hB0 : (B s).drop (o + i) = 97 :: 123 :: k :: (txt t ++ 125 :: u) := by rw [hB]; simp [txt]
        have hB1 := drop_next hB0
        have hB2 := drop_next hB1
        have hB3 := drop_next hB2
        have hB4 := drop_past hB3
        refine scan_skip s hs n o i d hd hd' _ _ hB0 (by decide) (by decide) r ?_
        refine scan_skip s hs n o (i + 1) d hd (by omega) _ _ (by rw [← hB1]; congr 1) (by decide) (by decide) r ?_
        refine scan_skip s hs n o (i + 1 + 1) d hd (by omega) _ _ (by rw [← hB2]; congr 1) hk.2.2.1 hk.2.2.2.2.2 r ?_
        refine ih1 t (i + 1 + 1 + 1) d (125 :: u) (by omega) ho.2 hd (by omega) (by rw [← hB3]; congr 1) ?_
        refine scan_skip s hs n o (i + 1 + 1 + 1 + (txt t).length) d hd (by omega) 125 u (by rw [← hB4]; congr 1; omega) (by decide) (by decide) r ?_
        have e : i + 1 + 1 + 1 + (txt t).length + 1 = i + ((txt t).length + (0 + 1) + 1 + 1 + 1) := by omega
        rw [e]; exact H
      | a t =>
        simp only [ok] at ho
        simp only [txt, List.length_cons] at hl H
        have hB0 : (B s).drop (o + i) = 97 :: (txt t ++ u) := by rw [hB]; simp [txt]
        have hB1 := drop_next hB0
        refine scan_skip s hs n o i d hd hd' _ _ hB0 (by decide) (by decide) r ?_
        refine ih1 t (i + 1) d u (by omega) ho hd (by omega) (by rw [← hB1]; congr 1) ?_
        have e : i + 1 + (txt t).length = i + ((txt t).length + 1) := by omega
        rw [e]; exact H
      | s ts =>
        simp only [ok, Bool.and_eq_true] at ho
        simp only [txt, List.length_cons, List.length_append, List.length_nil] at hl H
        have hB0 : (B s).drop (o + i) = 40 :: (txts ts ++ 41 :: u) := by rw [hB]; simp [txt]
        have hB1 := drop_next hB0
        have hB2 := drop_past hB1
        refine scan_one s hs n o i d hd hd' _ _ hB0 r ?_
        rw [if_pos rfl]
        refine ih2 ts (i + 1) (d + 1) (41 :: u) (by omega) ho.2 (by omega) (by omega) (by rw [← hB1]; congr 1) ?_
        refine scan_one s hs n o (i + 1 + (txts ts).length) (d + 1) (by omega) (by omega) 41 u (by rw [← hB2]; congr 1; omega) r ?_
        rw [if_neg (by decide), if_pos rfl]
        have e : i + 1 + (txts ts).length + 1 = i + ((txts ts).length + (0 + 1) + 1) := by omega
        have e2 : d + 1 - 1 = d := by omega
        rw [e, e2]; exact H
    refine ⟨one, fun ts i d u hl ho hd hd' hB H => ?_⟩
    cases ts with
    | nil => simp only [txts, List.length_nil, Nat.add_zero] at H; exact H
    | more t ts =>
      simp only [oks, Bool.and_eq_true] at ho
      simp only [txts, List.length_append] at hl H
      have hp := txt_pos t
      have hB0 : (B s).drop (o + i) = txt t ++ (txts ts ++ u) := by rw [hB]; simp [txts]
      have hB1 := drop_past hB0
      refine one t i d _ (by omega) ho.1 hd hd' hB0 ?_
      refine ih2 ts (i + (txt t).length) d u (by omega) ho.2 hd (by omega) (by rw [← hB1]; congr 1; omega) ?_
      have e : i + (txt t).length + (txts ts).length = i + ((txt t).length + (txts ts).length) := by omega
      rw [e]; exact H

/-- A bracket's scan ends behind its own closing one. -/
theorem scan_end (s : ByteArray) (n : Int) (o i : Nat) (hi : 2 ≤ i) (hio : o + i ≤ s.size) (hs : s.size ≤ 4294967296) (r : Int)
    (H : Ev (fun k => (dbus_sigByteSize.f k (s.extract (o + 1) (o + i - 1))).bind fun t => if t = 0 then some 0 else dbus_sigByteSize.l0 k s (wrap64 (n + t)) ((o + i : Nat) : Int)) r) :
    Ev (fun k => dbus_sigByteSize.l1 k s n o i 0) r := by
  refine Ev.step (fun k => by simp only [dbus_sigByteSize.l1]; rfl) ?_
  refine Ev.yes (by omega) (Ev.yes (by omega) ?_)
  have e1 : wrap64 ((o : Int) + (i : Int)) = ((o + i : Nat) : Int) := by rw [wrap_of (by omega) (by omega)]; omega
  have e2 : wrap64 ((o : Int) + 1) = ((o + 1 : Nat) : Int) := by rw [wrap_of (by omega) (by omega)]; omega
  have e3 : wrap64 (((o + i : Nat) : Int) - 1) = ((o + i - 1 : Nat) : Int) := by rw [wrap_of (by omega) (by omega)]; omega
  have last : Ev (fun k => dbus_sigByteSize.j5 k s n o i 0 false) r := by
    refine Ev.step (fun k => by simp only [dbus_sigByteSize.j5]; rfl) ?_
    refine Ev.no (by decide) ?_
    rw [e1, e2, e3]
    clear e1 e2 e3
    refine Ev.yes (by omega) (Ev.yes (by omega) (Ev.yes (by omega) ?_))
    rw [Int.toNat_natCast, Int.toNat_natCast]
    exact H
  exact Ev.both (fun _ => last) (fun _ => last)

theorem csz_step (s : ByteArray) (hs : s.size ≤ 4294967296) (n : Int) (o : Nat) (hn : 0 ≤ n) (hn' : n ≤ 8 * o) (c : UInt8) (hc : basic c = true ∨ c = 118 ∨ c = 97) (u : List UInt8) (h : (B s).drop o = c :: u) (r : Int)
    (H : csz c ≠ 0 → Ev (fun k => dbus_sigByteSize.l0 k s (n + csz c) ((o + 1 : Nat) : Int)) r) (H0 : csz c = 0 → r = 0) :
    Ev (fun k => dbus_sigByteSize.l0 k s n o) r := by
  obtain ⟨hb, hi, hu⟩ := bt_drop h
  refine Ev.step (fun k => by simp only [dbus_sigByteSize.l0]; rfl) ?_
  have e0 : wrap64 ((o : Int) + 1) = ((o + 1 : Nat) : Int) := by rw [wrap_of (by omega) (by omega)]; omega
  have e1 : wrap64 (n + 1) = n + 1 := wrap_of (by omega) (by omega)
  have e2 : wrap64 (n + 2) = n + 2 := wrap_of (by omega) (by omega)
  have e4 : wrap64 (n + 4) = n + 4 := wrap_of (by omega) (by omega)
  have e8 : wrap64 (n + 8) = n + 8 := wrap_of (by omega) (by omega)
  rw [e0, e1, hb]
  clear e1
  have bq : ∀ m : Nat, m < 256 → ((c.toNat : Int) = (m : Int) ↔ c = UInt8.ofNat m) := fun m hm => byte_eq c m hm
  refine Ev.yes (by clear e2 e4 e8; omega) (Ev.yes (by clear e2 e4 e8; omega) ?_)
  by_cases h121 : c = 121
  · have hz : csz c = 1 := by subst h121; decide
    refine Ev.yes ((bq 121 (by omega)).2 h121) ?_
    have := H (by rw [hz]; decide)
    rw [hz] at this; exact this
  refine Ev.no (fun h => h121 ((bq 121 (by omega)).1 h)) ?_
  have j1 : Ev (fun k => dbus_sigByteSize.j1 k s n o c.toNat (decide (c = 110 ∨ c = 113))) r := by
    refine Ev.step (fun k => by simp only [dbus_sigByteSize.j1]; rfl) ?_
    rw [e0, e2]
    by_cases h2 : c = 110 ∨ c = 113
    · have hz : csz c = 2 := by rcases h2 with rfl | rfl <;> decide
      refine Ev.yes (decide_eq_true h2) ?_
      have := H (by rw [hz]; decide)
      rw [hz] at this; exact this
    refine Ev.no (by simpa using h2) ?_
    have j2 : Ev (fun k => dbus_sigByteSize.j2 k s n o c.toNat (decide (c = 98 ∨ c = 105 ∨ c = 117 ∨ c = 104))) r := by
      refine Ev.step (fun k => by simp only [dbus_sigByteSize.j2]; rfl) ?_
      rw [e0, e4]
      by_cases h4 : c = 98 ∨ c = 105 ∨ c = 117 ∨ c = 104
      · have hz : csz c = 4 := by rcases h4 with rfl | rfl | rfl | rfl <;> decide
        refine Ev.yes (decide_eq_true h4) ?_
        have := H (by rw [hz]; decide)
        rw [hz] at this; exact this
      refine Ev.no (by simpa using h4) ?_
      have j3 : Ev (fun k => dbus_sigByteSize.j3 k s n o c.toNat (decide (c = 120 ∨ c = 116 ∨ c = 100))) r := by
        refine Ev.step (fun k => by simp only [dbus_sigByteSize.j3]; rfl) ?_
        rw [e0, e8]
        by_cases h8 : c = 120 ∨ c = 116 ∨ c = 100
        · have hz : csz c = 8 := by rcases h8 with rfl | rfl | rfl <;> decide
          refine Ev.yes (decide_eq_true h8) ?_
          have := H (by rw [hz]; decide)
          rw [hz] at this; exact this
        refine Ev.no (by simpa using h8) ?_
        have hz : csz c = 0 := by
          unfold csz
          rw [if_neg h121, if_neg h2, if_neg h4, if_neg h8]
        have h40 : c ≠ 40 := by
          rcases hc with h | rfl | rfl
          · exact (basic_ne c h).2.2.1
          · decide
          · decide
        refine Ev.no (fun h => h40 ((bq 40 (by omega)).1 h)) (Ev.is (H0 hz).symm)
      by_cases h1 : c = 120
      · refine Ev.yes ((bq 120 (by omega)).2 h1) ?_
        subst h1; exact j3
      refine Ev.no (fun h => h1 ((bq 120 (by omega)).1 h)) ?_
      by_cases h3 : c = 116
      · refine Ev.yes ((bq 116 (by omega)).2 h3) ?_
        subst h3; exact j3
      refine Ev.no (fun h => h3 ((bq 116 (by omega)).1 h)) ?_
      have e : ((c.toNat : Int) == 100) = decide (c = 120 ∨ c = 116 ∨ c = 100) := by
        rw [Bool.eq_iff_iff]; simp only [beq_iff_eq, decide_eq_true_eq, h1, h3, false_or]; exact bq 100 (by omega)
      rw [e]; exact j3
    by_cases h1 : c = 98
    · refine Ev.yes ((bq 98 (by omega)).2 h1) ?_
      subst h1; exact j2
    refine Ev.no (fun h => h1 ((bq 98 (by omega)).1 h)) ?_
    by_cases h3 : c = 105
    · refine Ev.yes ((bq 105 (by omega)).2 h3) ?_
      subst h3; exact j2
    refine Ev.no (fun h => h3 ((bq 105 (by omega)).1 h)) ?_
    by_cases h5 : c = 117
    · refine Ev.yes ((bq 117 (by omega)).2 h5) ?_
      subst h5; exact j2
    refine Ev.no (fun h => h5 ((bq 117 (by omega)).1 h)) ?_
    have e : ((c.toNat : Int) == 104) = decide (c = 98 ∨ c = 105 ∨ c = 117 ∨ c = 104) := by
      rw [Bool.eq_iff_iff]; simp only [beq_iff_eq, decide_eq_true_eq, h1, h3, h5, false_or]; exact bq 104 (by omega)
    rw [e]; exact j2
  by_cases h1 : c = 110
  · refine Ev.yes ((bq 110 (by omega)).2 h1) ?_
    subst h1; exact j1
  refine Ev.no (fun h => h1 ((bq 110 (by omega)).1 h)) ?_
  have e : ((c.toNat : Int) == 113) = decide (c = 110 ∨ c = 113) := by
    rw [Bool.eq_iff_iff]; simp only [beq_iff_eq, decide_eq_true_eq, h1, false_or]; exact bq 113 (by omega)
  rw [e]; exact j1

theorem open_step (s : ByteArray) (n : Int) (o : Nat) (u : List UInt8) (h : (B s).drop o = 40 :: u) (r : Int)
    (H : Ev (fun k => dbus_sigByteSize.l1 k s n o 1 1) r) : Ev (fun k => dbus_sigByteSize.l0 k s n o) r := by
  obtain ⟨hb, hi, hu⟩ := bt_drop h
  refine Ev.step (fun k => by simp only [dbus_sigByteSize.l0]; rfl) ?_
  rw [hb]
  refine Ev.yes (by omega) (Ev.yes (by omega) (Ev.no (by decide) (Ev.no (by decide) ?_)))
  refine Ev.step (fun k => by simp only [dbus_sigByteSize.j1]; rfl) ?_
  refine Ev.no (by decide) (Ev.no (by decide) (Ev.no (by decide) (Ev.no (by decide) ?_)))
  refine Ev.step (fun k => by simp only [dbus_sigByteSize.j2]; rfl) ?_
  refine Ev.no (by decide) (Ev.no (by decide) (Ev.no (by decide) ?_))
  refine Ev.step (fun k => by simp only [dbus_sigByteSize.j3]; rfl) ?_
  exact Ev.no (by decide) (Ev.yes (by decide) H)

/-- The program's size of types, one behind the other. -/
theorem size_ev (f : Nat) : ∀ (s : ByteArray) (ts : Ts) (n : Int) (o : Nat), (txts ts).length ≤ f → s.size ≤ 4294967296 → oks ts = true → 0 ≤ n → n ≤ 8 * o → (B s).drop o = txts ts →
    Ev (fun k => dbus_sigByteSize.l0 k s n o) (tot ts n) := by
  induction f with
  | zero =>
    intro s ts n o hl hs ho hn hn' hB
    cases ts with
    | more t ts => have := txt_pos t; simp only [txts, List.length_append] at hl; omega
    | nil =>
      have := drop_end hB
      refine Ev.step (fun k => by simp only [dbus_sigByteSize.l0]; rfl) ?_
      exact Ev.no (by omega) (Ev.now _)
  | succ f ih =>
    intro s ts n o hl hs ho hn hn' hB
    cases ts with
    | nil =>
      have := drop_end hB
      refine Ev.step (fun k => by simp only [dbus_sigByteSize.l0]; rfl) ?_
      exact Ev.no (by omega) (Ev.now _)
    | more t ts =>
      simp only [oks, Bool.and_eq_true] at ho
      simp only [txts] at hB
      simp only [txts, List.length_append] at hl
      have hp := txt_pos t
      have hB2 := drop_past hB
      have hr := fsz_range t
      have go : fsz t ≠ 0 → Ev (fun k => dbus_sigByteSize.l0 k s (n + fsz t) ((o + (txt t).length : Nat) : Int)) (tot (.more t ts) n) := by
        intro hz
        simp only [tot, if_neg hz]
        exact ih s ts (n + fsz t) (o + (txt t).length) (by omega) hs ho.2 (by omega) (by omega) hB2
      have stop : fsz t = 0 → tot (.more t ts) n = 0 := by
        intro hz; simp only [tot, if_pos hz]
      generalize tot (.more t ts) n = r at *
      cases t with
      | b c =>
        have hc := ho.1
        simp only [ok, Bool.or_eq_true, beq_iff_eq] at hc
        exact csz_step s hs n o hn hn' c (hc.elim .inl fun h => .inr (.inl h)) _ hB r go stop
      | d k t => exact csz_step s hs n o hn hn' 97 (.inr (.inr rfl)) _ hB r (fun h => absurd (by decide) h) stop
      | a t => exact csz_step s hs n o hn hn' 97 (.inr (.inr rfl)) _ hB r (fun h => absurd (by decide) h) stop
      | s us =>
        have hoo := ho.1
        simp only [ok, Bool.and_eq_true] at hoo
        have hB0 : (B s).drop o = 40 :: (txts us ++ 41 :: txts ts) := by rw [hB]; simp [txt]
        have hB1 := drop_next hB0
        have hB3 := drop_past hB1
        have hlt : (txt (.s us)).length = (txts us).length + 2 := by simp [txt]
        have hsz : o + (txt (.s us)).length ≤ s.size := by
          have := congrArg List.length hB
          rw [List.length_drop, B_length, List.length_append] at this; omega
        refine open_step s n o _ hB0 r ?_
        refine (scan_any s hs n o r (txts us).length).2 us 1 1 (41 :: txts ts) (Nat.le_refl _) hoo.2 (by omega) (by omega) hB1 ?_
        refine scan_one s hs n o (1 + (txts us).length) 1 (by omega) (by omega) 41 (txts ts) (by rw [← hB3]; congr 1; omega) r ?_
        rw [if_neg (by decide), if_pos rfl]
        refine scan_end s n o (1 + (txts us).length + 1) (by omega) (by omega) hs r ?_
        have hin : B (s.extract (o + 1) (o + (1 + (txts us).length + 1) - 1)) = txts us := by
          rw [B_extract, hB1]
          have : o + (1 + (txts us).length + 1) - 1 - (o + 1) = (txts us).length := by omega
          rw [this, List.take_left]
        have hisz : (s.extract (o + 1) (o + (1 + (txts us).length + 1) - 1)).size = (txts us).length := by rw [← B_length, hin]
        have inner : Ev (fun k => dbus_sigByteSize.f k (s.extract (o + 1) (o + (1 + (txts us).length + 1) - 1))) (tot us 0) := by
          refine Ev.step (fun k => by simp only [dbus_sigByteSize.f]; rfl) ?_
          exact ih _ us 0 0 (by omega) (by omega) hoo.2 (by omega) (by omega) (by rw [List.drop_zero]; exact hin)
        refine Ev.bind inner ?_
        have er : fsz (.s us) = tot us 0 := rfl
        rw [er] at go stop hr
        by_cases hz : tot us 0 = 0
        · exact Ev.yes hz (Ev.is (stop hz).symm)
        · refine Ev.no hz ?_
          have := go hz
          have ew : wrap64 (n + tot us 0) = n + tot us 0 := wrap_of (by omega) (by omega)
          rw [ew]
          have ei : o + (1 + (txts us).length + 1) = o + (txt (.s us)).length := by omega
          rw [ei]; exact this

theorem door_ev (s : ByteArray) (ts : Ts) (hs : s.size ≤ 4294967296) (ho : oks ts = true) (hB : B s = txts ts) : Ev (fun k => impl_WrSize.f k s) (tot ts 0) := by
  unfold impl_WrSize.f dbus_DoorSize.f
  refine Ev.bind (g := fun k => (dbus_sigByteSize.f k s).bind fun t => some t) ?_ (Ev.now _)
  refine Ev.bind ?_ (Ev.now _)
  refine Ev.step (fun k => by simp only [dbus_sigByteSize.f]; rfl) ?_
  exact size_ev _ s ts 0 0 (Nat.le_refl _) hs ho (by omega) (by omega) (by rw [List.drop_zero]; exact hB)

theorem tot_more : ∀ (ts : Ts) (n : Int), 0 ≤ n → ne ts = true → tot ts n = if tot ts 0 = 0 then 0 else n + tot ts 0
  | .more t .nil, n, hn, _ => by
    have := fsz_range t
    by_cases hz : fsz t = 0
    · have e : ∀ m, tot (.more t .nil) m = 0 := fun m => by rw [tot, if_pos hz]
      simp [e]
    · have e : ∀ m, tot (.more t .nil) m = m + fsz t := fun m => by rw [tot, if_neg hz, tot]
      simp [e, hz]
  | .more t (.more t2 ts), n, hn, _ => by
    have hr := fsz_range t
    have h1 := tot_more (.more t2 ts) (n + fsz t) (by omega) rfl
    have h2 := tot_more (.more t2 ts) (0 + fsz t) (by omega) rfl
    have h3 := (tot_range (.more t2 ts) 0 (by omega)).1
    have e1 : ∀ m, tot (.more t (.more t2 ts)) m = if fsz t = 0 then 0 else tot (.more t2 ts) (m + fsz t) := fun m => by rw [tot]
    rw [e1 n, e1 0]
    by_cases hz : fsz t = 0
    · simp [hz]
    · rw [if_neg hz, if_neg hz, h1, h2]
      by_cases hz2 : tot (.more t2 ts) 0 = 0
      · simp [hz2]
      · rw [if_neg hz2, if_neg hz2, if_neg (by omega)]; omega

theorem tot_app (b : Ts) : ∀ (a : Ts) (n : Int), 0 ≤ n → 0 < tot a n → tot (app a b) n = tot b (tot a n)
  | .nil, n, _, _ => rfl
  | .more t ts, n, hn, h => by
    have hr := fsz_range t
    have e1 : tot (.more t ts) n = if fsz t = 0 then 0 else tot ts (n + fsz t) := by rw [tot]
    have e2 : tot (app (.more t ts) b) n = if fsz t = 0 then 0 else tot (app ts b) (n + fsz t) := by rw [app, tot]
    rw [e1] at h ⊢
    rw [e2]
    by_cases hz : fsz t = 0
    · rw [if_pos hz] at h; omega
    · rw [if_neg hz] at h ⊢; rw [if_neg hz]
      exact tot_app b ts _ (by omega) h
theorem tot_app0 (b : Ts) : ∀ (a : Ts) (n : Int), 0 ≤ n → ne a = true → tot a n = 0 → tot (app a b) n = 0
  | .more t .nil, n, hn, _, h => by
    have hr := fsz_range t
    simp only [tot] at h
    have e2 : tot (app (.more t .nil) b) n = if fsz t = 0 then 0 else tot b (n + fsz t) := by rw [app, tot]; rfl
    rw [e2]
    by_cases hz : fsz t = 0
    · rw [if_pos hz]
    · rw [if_neg hz] at h; omega
  | .more t (.more t2 ts), n, hn, _, h => by
    have hr := fsz_range t
    have e1 : tot (.more t (.more t2 ts)) n = if fsz t = 0 then 0 else tot (.more t2 ts) (n + fsz t) := by rw [tot]
    have e2 : tot (app (.more t (.more t2 ts)) b) n = if fsz t = 0 then 0 else tot (app (.more t2 ts) b) (n + fsz t) := by rw [app, tot]
    rw [e1] at h
    rw [e2]
    by_cases hz : fsz t = 0
    · rw [if_pos hz]
    · rw [if_neg hz] at h ⊢
      exact tot_app0 b (.more t2 ts) _ (by omega) rfl h

theorem ne_of {s : ByteArray} {ts : Ts} (hB : B s = txts ts) (h : ¬ s.toList = ([] : List UInt8)) : ne ts = true := by
  cases ts with
  | nil => exact absurd (B_nil.2 hB) h
  | more t ts => rfl

theorem d_eight : Ev (fun k => (impl_WrSize.f k (⟨#[100]⟩ : ByteArray)).bind fun t => some (t == 8)) true :=
  Ev.bind (door_ev (⟨#[100]⟩ : ByteArray) (.more (.b 100) .nil) (by decide) (by decide) rfl) (Ev.is (by decide))

theorem FnWrSizeSum : laws_FnWrSizeSum.Pure := by
  intro a b ha hb
  have quick1 : Ev (fun k => laws_FnWrSizeSum.j1 k a b true) true := by
    refine Ev.step (fun k => by simp only [laws_FnWrSizeSum.j1]; rfl) ?_
    exact Ev.yes trivial (Ev.now _)
  have quick : Ev (fun k => laws_FnWrSizeSum.j0 k a b true) true := by
    refine Ev.step (fun k => by simp only [laws_FnWrSizeSum.j0]; rfl) ?_
    exact Ev.yes trivial (Ev.now _)
  have main : Ev (fun k => laws_FnWrSizeSum.f k a b) true := by
    unfold laws_FnWrSizeSum.f
    refine Ev.both (fun _ => quick) (fun g1 => ?_)
    by_cases g2 : (b.size : Int) > 2147483647
    · rw [decide_eq_true g2]; exact quick
    rw [decide_eq_false g2]
    refine Ev.step (fun k => by simp only [laws_FnWrSizeSum.j0]; rfl) ?_
    refine Ev.no (by decide) ?_
    rcases valid_ev a with ⟨⟨A, oa, fa, ea, la⟩, va⟩ | ⟨_, va⟩
    · refine Ev.bind va (Ev.yes rfl ?_)
      rcases valid_ev b with ⟨⟨C, oc, fc, ec, lc⟩, vb⟩ | ⟨_, vb⟩
      · refine Ev.bind vb (Ev.yes rfl ?_)
        refine Ev.both (fun _ => quick1) (fun na => Ev.both (fun _ => quick1) (fun nb => ?_))
        rw [B_length] at la lc
        refine Ev.yes (by omega) ?_
        rcases valid_ev (a ++ b) with ⟨_, vc⟩ | ⟨_, vc⟩
        · refine Ev.bind vc ?_
          refine Ev.step (fun k => by simp only [laws_FnWrSizeSum.j1]; rfl) ?_
          refine Ev.no (by decide) ?_
          have neA := ne_of ea na
          have neC := ne_of ec nb
          have ra := tot_range A 0 (by omega)
          have rc := tot_range C 0 (by omega)
          have la' : (txts A).length = a.size := by rw [← ea, B_length]
          have lc' : (txts C).length = b.size := by rw [← ec, B_length]
          have hab : Ev (fun k => impl_WrSize.f k (a ++ b)) (tot (app A C) 0) :=
            door_ev _ _ (by rw [ByteArray.size_append]; omega) (by rw [oks_app, oa, oc]; rfl) (by rw [B_append, txts_app, ea, ec])
          refine Ev.bind (door_ev a A (by omega) oa ea) (Ev.bind (door_ev b C (by omega) oc ec) ?_)
          have ew : wrap64 (tot A 0 + tot C 0) = tot A 0 + tot C 0 := wrap_of (by omega) (by omega)
          rw [ew]
          clear ew
          by_cases hz : tot A 0 = 0
          · refine Ev.yes hz ?_
            refine Ev.step (fun k => by simp only [laws_FnWrSizeSum.j2]; rfl) ?_
            refine Ev.yes trivial (Ev.yes (by omega) (Ev.bind hab (Ev.yes (tot_app0 C A 0 (by omega) neA hz) d_eight)))
          · refine Ev.no hz ?_
            have e1 := tot_app C A 0 (by omega) (by omega)
            have e2 := tot_more C (tot A 0) (by omega) neC
            by_cases hz2 : tot C 0 = 0
            · rw [if_pos hz2] at e2
              refine Ev.step (fun k => by simp only [laws_FnWrSizeSum.j2]; rfl) ?_
              refine Ev.yes (by simpa using hz2) (Ev.yes (by omega) (Ev.bind hab (Ev.yes (e1.trans e2) d_eight)))
            · rw [if_neg hz2] at e2
              refine Ev.step (fun k => by simp only [laws_FnWrSizeSum.j2]; rfl) ?_
              refine Ev.no (by simpa using hz2) (Ev.yes (by omega) (Ev.bind hab (Ev.yes (e1.trans e2) d_eight)))
        · exact Ev.bind vc quick1
      · exact Ev.bind vb (Ev.no (by decide) quick1)
    · exact Ev.bind va (Ev.no (by decide) quick1)
  exact main.rounds

end Go.Proofs.Ytpndgbiaomglpaa.Pure
