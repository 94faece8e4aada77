import Derived.Test.YtoaehanfknjngaaDoorExt5
import Derived.Test.YtoaehanfknjngaaDoorTree
namespace Go.Proofs.YtoaehanfknjngaaDoor.Sg
set_option linter.unusedVariables false
set_option linter.unusedSimpArgs false
open Go.RowKit Go.Proofs.YtoaehanfknjngaaDoor.Ext Go.Proofs.YtoaehanfknjngaaDoorW.PrintWords Go.Proofs.YtoaehanfknjngaaDoor.Com Go.Proofs.YtoaehanfknjngaaDoor.Tree

theorem byte_eq (c : UInt8) (n : Nat) (h : n < 256) : ((c.toNat : Int) = (n : Int)) ↔ c = UInt8.ofNat n := by
  constructor
  · intro e
    apply UInt8.toNat_inj.1
    rw [UInt8.toNat_ofNat']
    omega
  · rintro rfl
    rw [UInt8.toNat_ofNat']
    omega

theorem one_eq (c : UInt8) : one (c.toNat : Int) = (basic c || c == 118) := by
  have H : ∀ n : Fin 256, one (n.val : Int) = (basic (UInt8.ofNat n.val) || UInt8.ofNat n.val == 118) := by decide +kernel
  have := H ⟨c.toNat, c.toNat_lt⟩
  simpa using this

theorem deep_room (x y z : Int) : deep x y z = room (32 - x) (32 - y) (32 - z) := by
  unfold deep room
  rw [Bool.eq_iff_iff]; simp only [Bool.and_eq_true, decide_eq_true_eq]; omega

theorem fm_open (l r : UInt8) (L : List UInt8) : fm l.toNat r.toNat (l :: L) 0 0 = fm l.toNat r.toNat L 1 1 := by
  rw [fm]; simp

/-- The pairs of marks. -/
def Mk (l r : UInt8) : Prop := (l = 40 ∧ r = 41) ∨ (l = 123 ∧ r = 125)

theorem fm_past (l r c : UInt8) (h1 : c ≠ l) (h2 : c ≠ r) (L : List UInt8) (n i : Int) (hn : 1 ≤ n) : fm l.toNat r.toNat (c :: L) n i = fm l.toNat r.toNat L n (i + 1) := by
  rw [fm]
  have e1 : ¬ (c.toNat : Int) = l.toNat := fun h => h1 (UInt8.toNat_inj.1 (by omega))
  have e2 : ¬ (c.toNat : Int) = r.toNat := fun h => h2 (UInt8.toNat_inj.1 (by omega))
  simp only [e1, e2, if_false]
  rw [if_neg (by omega)]
theorem fm_up (l r : UInt8) (L : List UInt8) (n i : Int) (hn : 1 ≤ n) : fm l.toNat r.toNat (l :: L) n i = fm l.toNat r.toNat L (n + 1) (i + 1) := by
  rw [fm]; simp only [if_true]; rw [if_neg (by omega)]
theorem fm_down (l r : UInt8) (hne : r ≠ l) (L : List UInt8) (n i : Int) (hn : 2 ≤ n) : fm l.toNat r.toNat (r :: L) n i = fm l.toNat r.toNat L (n - 1) (i + 1) := by
  rw [fm]
  have e1 : ¬ (r.toNat : Int) = l.toNat := fun h => hne (UInt8.toNat_inj.1 (by omega))
  simp only [e1, if_false, if_true]; rw [if_neg (by omega)]
theorem fm_hit (l r : UInt8) (hne : r ≠ l) (L : List UInt8) (i : Int) : fm l.toNat r.toNat (r :: L) 1 i = i := by
  rw [fm]
  have e1 : ¬ (r.toNat : Int) = l.toNat := fun h => hne (UInt8.toNat_inj.1 (by omega))
  simp [e1]

theorem letter_ne (c : UInt8) (h : (basic c || c == 118) = true) : c ≠ 40 ∧ c ≠ 41 ∧ c ≠ 123 ∧ c ≠ 125 ∧ c ≠ 97 := by
  simp only [Bool.or_eq_true, beq_iff_eq] at h
  rcases h with h | rfl
  · have := basic_ne c h; exact ⟨this.2.2.1, this.2.2.2.2.2, this.2.2.2.1, this.2.2.2.2.1, this.2.1⟩
  · decide

mutual
/-- A type's text goes by. -/
theorem fm_txt (l r : UInt8) (hm : Mk l r) : ∀ (t : T) (L : List UInt8) (n i : Int), ok t = true → 1 ≤ n → fm l.toNat r.toNat (txt t ++ L) n i = fm l.toNat r.toNat L n (i + (txt t).length)
  | .b c, L, n, i, h, hn => by
    have hc := letter_ne c h
    show fm l.toNat r.toNat (c :: L) n i = _
    rw [fm_past l r c (by rcases hm with ⟨rfl, rfl⟩ | ⟨rfl, rfl⟩ <;> simp [hc]) (by rcases hm with ⟨rfl, rfl⟩ | ⟨rfl, rfl⟩ <;> simp [hc]) L n i hn]
    rfl
  | .d k t, L, n, i, h, hn => by
    simp only [ok, Bool.and_eq_true] at h
    have hk := letter_ne k (by simp [h.1])
    have e : txt (.d k t) ++ L = 97 :: 123 :: k :: (txt t ++ 125 :: L) := by simp [txt]
    have el : ((txt (.d k t)).length : Int) = (txt t).length + 4 := by simp only [txt, List.length_cons, List.length_append, List.length_nil]; omega
    rw [e, el]
    rcases hm with ⟨rfl, rfl⟩ | ⟨rfl, rfl⟩
    · rw [fm_past 40 41 97 (by decide) (by decide) _ _ _ hn, fm_past 40 41 123 (by decide) (by decide) _ _ _ hn, fm_past 40 41 k hk.1 hk.2.1 _ _ _ hn, fm_txt 40 41 (.inl ⟨rfl, rfl⟩) t _ _ _ h.2 hn, fm_past 40 41 125 (by decide) (by decide) _ _ _ hn]
      congr 1; omega
    · rw [fm_past 123 125 97 (by decide) (by decide) _ _ _ hn, fm_up 123 125 _ _ _ hn, fm_past 123 125 k hk.2.2.1 hk.2.2.2.1 _ _ _ (by omega), fm_txt 123 125 (.inr ⟨rfl, rfl⟩) t _ _ _ h.2 (by omega), fm_down 123 125 (by decide) _ _ _ (by omega)]
      congr 1 <;> omega
  | .a t, L, n, i, h, hn => by
    simp only [ok] at h
    have e : txt (.a t) ++ L = 97 :: (txt t ++ L) := by simp [txt]
    have el : ((txt (.a t)).length : Int) = (txt t).length + 1 := by simp only [txt, List.length_cons]; omega
    rw [e, el, fm_past l r 97 (by rcases hm with ⟨rfl, rfl⟩ | ⟨rfl, rfl⟩ <;> decide) (by rcases hm with ⟨rfl, rfl⟩ | ⟨rfl, rfl⟩ <;> decide) _ _ _ hn, fm_txt l r hm t _ _ _ h hn]
    congr 1; omega
  | .s ts, L, n, i, h, hn => by
    simp only [ok, Bool.and_eq_true] at h
    have e : txt (.s ts) ++ L = 40 :: (txts ts ++ 41 :: L) := by simp [txt]
    have el : ((txt (.s ts)).length : Int) = (txts ts).length + 2 := by simp only [txt, List.length_cons, List.length_append, List.length_nil]; omega
    rw [e, el]
    rcases hm with ⟨rfl, rfl⟩ | ⟨rfl, rfl⟩
    · rw [fm_up 40 41 _ _ _ hn, fm_txts 40 41 (.inl ⟨rfl, rfl⟩) ts _ _ _ h.2 (by omega), fm_down 40 41 (by decide) _ _ _ (by omega)]
      congr 1 <;> omega
    · rw [fm_past 123 125 40 (by decide) (by decide) _ _ _ hn, fm_txts 123 125 (.inr ⟨rfl, rfl⟩) ts _ _ _ h.2 hn, fm_past 123 125 41 (by decide) (by decide) _ _ _ hn]
      congr 1; omega
theorem fm_txts (l r : UInt8) (hm : Mk l r) : ∀ (ts : Ts) (L : List UInt8) (n i : Int), oks ts = true → 1 ≤ n → fm l.toNat r.toNat (txts ts ++ L) n i = fm l.toNat r.toNat L n (i + (txts ts).length)
  | .nil, L, n, i, h, hn => by simp [txts]
  | .more t ts, L, n, i, h, hn => by
    simp only [oks, Bool.and_eq_true] at h
    have e : txts (.more t ts) ++ L = txt t ++ (txts ts ++ L) := by simp [txts]
    have el : ((txts (.more t ts)).length : Int) = (txt t).length + (txts ts).length := by simp only [txts, List.length_append]; omega
    rw [e, el, fm_txt l r hm t _ _ _ h.1 hn, fm_txts l r hm ts _ _ _ h.2 hn]
    congr 1; omega
end

theorem size_pos {s : ByteArray} {c : UInt8} {l : List UInt8} (h : B s = c :: l) : s.size = l.length + 1 := by
  rw [← B_length, h]; rfl
theorem first_of {s : ByteArray} {c : UInt8} {l : List UInt8} (h : B s = c :: l) : bt s 0 = (c.toNat : Int) := (bt_drop (s := s) (i := 0) (c := c) (t := l) h).1
theorem E0_of {s : ByteArray} (h : B s = []) : s = E0 := B_inj h

theorem read_tree (f : Nat) :
    (∀ (t : T) (s : ByteArray) (u : List UInt8) (x y z : Int), (txt t).length ≤ f → ok t = true → B s = txt t ++ u →
      ∃ r, Ev (fun k => vs k s x y z) (fits t (32 - x) (32 - y) (32 - z), r) ∧ (if fits t (32 - x) (32 - y) (32 - z) = true then B r = u else r = E0)) ∧
    (∀ (ts : Ts) (s q : ByteArray) (x y z : Int), (txts ts).length ≤ f → oks ts = true → B s = txts ts →
      Ev (fun k => vl k s q x y z) (if fitss ts (32 - x) (32 - (y + 1)) (32 - z) = true then (true, q) else (false, E0))) := by
  induction f with
  | zero =>
    refine ⟨fun t s u x y z hl => by have := txt_pos t; omega, fun ts s q x y z hl ho hB => ?_⟩
    cases ts with
    | more t ts => have := txt_pos t; simp only [txts, List.length_append] at hl; omega
    | nil =>
      refine Ev.step (fun k => by simp only [vl]; rfl) ?_
      refine Ev.yes (by rw [← B_length, hB]; rfl) ?_
      exact Ev.is (by simp [fitss])
  | succ f ih =>
    obtain ⟨ih1, ih2⟩ := ih
    have one : ∀ (t : T) (s : ByteArray) (u : List UInt8) (x y z : Int), (txt t).length ≤ f + 1 → ok t = true → B s = txt t ++ u →
      ∃ r, Ev (fun k => vs k s x y z) (fits t (32 - x) (32 - y) (32 - z), r) ∧ (if fits t (32 - x) (32 - y) (32 - z) = true then B r = u else r = E0) := by
      intro t s u x y z hl ho hB
      have hne : s.size ≠ 0 := by
        have := txt_pos t
        rw [← B_length, hB, List.length_append]; omega
      by_cases hr : room (32 - x) (32 - y) (32 - z) = true
      · have hd : ¬ deep x y z = false := by rw [deep_room, hr]; decide
        cases t with
        | b c =>
          have hB' : B s = c :: u := hB
          have h0 := first_of hB'
          refine ⟨s.extract 1 s.size, ?_, ?_⟩
          · simp only [fits, hr]
            refine Ev.step (fun k => by simp only [vs]; rfl) ?_
            refine Ev.no hne (Ev.no hd (Ev.yes ?_ (Ev.now _)))
            rw [h0, one_eq]; exact ho
          · simp only [fits, hr, if_true]
            rw [B_from, hB']; rfl
        | d c t =>
          simp only [ok, Bool.and_eq_true] at ho
          simp only [txt, List.length_cons, List.length_append, List.length_nil] at hl
          have hB' : B s = 97 :: 123 :: c :: (txt t ++ 125 :: u) := by rw [hB]; simp [txt]
          have h0 := first_of hB'
          have hsz := size_pos hB'
          simp only [List.length_cons, List.length_append] at hsz
          have h1 : bt s 1 = 123 := (bt_drop (s := s) (i := 1) (c := 123) (t := c :: (txt t ++ 125 :: u)) (by rw [hB']; rfl)).1
          have hc := letter_ne c (by simp [ho.1])
          have hB1 : B (s.extract 1 s.size) = 123 :: c :: (txt t ++ 125 :: u) := by rw [B_from, hB']; rfl
          have hfm : fm 123 125 (B (s.extract 1 s.size)) 0 0 = ((txt t).length + 2 : Nat) := by
            rw [hB1]
            have e1 := fm_open 123 125 (c :: (txt t ++ 125 :: u))
            have e2 := fm_past 123 125 c hc.2.2.1 hc.2.2.2.1 (txt t ++ 125 :: u) 1 1 (by omega)
            have e3 := fm_txt 123 125 (.inr ⟨rfl, rfl⟩) t (125 :: u) 1 (1 + 1) ho.2 (by omega)
            have e4 := fm_hit 123 125 (by decide) u (1 + 1 + ((txt t).length : Int))
            refine (e1.trans (e2.trans (e3.trans e4))).trans ?_
            omega
          have en : ((((txt t).length + 2 : Nat) : Int) + 1).toNat = (txt t).length + 3 := by omega
          have en2 : ((((txt t).length + 2 : Nat) : Int) + 2).toNat = (txt t).length + 4 := by omega
          have hB2 : B (s.extract 2 ((txt t).length + 3)) = c :: txt t := by
            rw [B_extract, hB']
            show (c :: (txt t ++ 125 :: u)).take ((txt t).length + 3 - 2) = _
            have : (txt t).length + 3 - 2 = (txt t).length + 1 := by omega
            rw [this, List.take_succ_cons, List.take_left]
          have hs2 : (s.extract 2 ((txt t).length + 3)).size = (txt t).length + 1 := by rw [← B_length, hB2]; rfl
          have hB4 : B (s.extract ((txt t).length + 4) s.size) = u := by
            rw [B_from, hB']
            show ((txt t ++ 125 :: u).drop ((txt t).length + 1)) = u
            rw [← List.drop_drop, List.drop_left]; rfl
          have hk1 : B ((s.extract 2 ((txt t).length + 3)).extract 0 1) = [c] := by rw [B_to, hB2]; rfl
          have hv1 : B ((s.extract 2 ((txt t).length + 3)).extract 1 (s.extract 2 ((txt t).length + 3)).size) = txt t ++ [] := by rw [B_from, hB2]; simp
          obtain ⟨r2, hE, hr2⟩ := ih1 t _ [] (x + 1) y (z + 1) (by omega) ho.2 hv1
          have fe : fits (.d c t) (32 - x) (32 - y) (32 - z) = fits t (32 - (x + 1)) (32 - y) (32 - (z + 1)) := by
            have e1 : 32 - x - 1 = 32 - (x + 1) := by omega
            have e2 : 32 - z - 1 = 32 - (z + 1) := by omega
            simp only [fits, hr, Bool.true_and, e1, e2]
          rw [fe]
          have key : Ev (fun k => vs k ((s.extract 2 ((txt t).length + 3)).extract 0 1) (x + 1) y (z + 1)) (room (32 - (x + 1)) (32 - y) (32 - (z + 1)), E0) := by
            refine Ev.step (fun k => by simp only [vs]; rfl) ?_
            have hks : ((s.extract 2 ((txt t).length + 3)).extract 0 1).size = 1 := by rw [← B_length, hk1]; rfl
            refine Ev.no (by omega) ?_
            rw [deep_room]
            cases hq : room (32 - (x + 1)) (32 - y) (32 - (z + 1)) with
            | false => exact Ev.yes rfl (Ev.now _)
            | true =>
              refine Ev.no (by decide) (Ev.yes ?_ (Ev.is ?_))
              · rw [first_of hk1, one_eq]; simp [ho.1]
              · rw [E0_of (s := ((s.extract 2 ((txt t).length + 3)).extract 0 1).extract 1 _) (by rw [B_from, hk1]; rfl)]
          refine ⟨if fits t (32 - (x + 1)) (32 - y) (32 - (z + 1)) = true then s.extract ((txt t).length + 4) s.size else E0, ?_, ?_⟩
          · refine Ev.step (fun k => by simp only [vs]; rfl) ?_
            refine Ev.no hne (Ev.no hd (Ev.no (by rw [h0]; decide) (Ev.yes (by rw [h0]; rfl) (Ev.yes (by omega) (Ev.yes h1 ?_)))))
            rw [hfm]
            refine Ev.step (fun k => by simp only [vd]; rfl) ?_
            rw [en, en2]
            refine Ev.no (by omega) (Ev.yes (by omega) (Ev.yes (by omega) (Ev.no (by omega) (Ev.bind key ?_))))
            cases hq : room (32 - (x + 1)) (32 - y) (32 - (z + 1)) with
            | false =>
              have hf0 : fits t (32 - (x + 1)) (32 - y) (32 - (z + 1)) = false := by
                cases hh : fits t (32 - (x + 1)) (32 - y) (32 - (z + 1)) with
                | false => rfl
                | true => rw [fits_room t _ _ _ hh] at hq; simp at hq
              rw [hf0]
              exact Ev.no (by decide) (Ev.is (by simp))
            | true =>
              refine Ev.yes rfl (Ev.bind hE ?_)
              by_cases hf1 : fits t (32 - (x + 1)) (32 - y) (32 - (z + 1)) = true
              · rw [if_pos hf1] at hr2
                rw [hf1]
                refine Ev.yes rfl (Ev.yes ?_ (Ev.is (by simp)))
                rw [← B_length, hr2]; rfl
              · have hf0 : fits t (32 - (x + 1)) (32 - y) (32 - (z + 1)) = false := by simpa using hf1
                rw [hf0]
                exact Ev.no (by simp) (Ev.is (by simp))
          · by_cases hf1 : fits t (32 - (x + 1)) (32 - y) (32 - (z + 1)) = true
            · rw [if_pos hf1, if_pos hf1]; exact hB4
            · rw [if_neg hf1, if_neg hf1]
        | a t =>
          simp only [ok] at ho
          simp only [txt, List.length_cons] at hl
          have hB' : B s = 97 :: (txt t ++ u) := by rw [hB]; simp [txt]
          have h0 := first_of hB'
          obtain ⟨c, l, e, hc⟩ := txt_head t ho
          have hB1 : B (s.extract 1 s.size) = txt t ++ u := by rw [B_from, hB']; rfl
          obtain ⟨r, hE, hr2⟩ := ih1 t _ u (x + 1) y z (by omega) ho hB1
          have fe : fits (.a t) (32 - x) (32 - y) (32 - z) = fits t (32 - (x + 1)) (32 - y) (32 - z) := by
            have e1 : 32 - x - 1 = 32 - (x + 1) := by omega
            simp only [fits, hr, Bool.true_and, e1]
          rw [fe]
          refine ⟨r, ?_, hr2⟩
          refine Ev.step (fun k => by simp only [vs]; rfl) ?_
          refine Ev.no hne (Ev.no hd (Ev.no (by rw [h0]; decide) (Ev.yes (by rw [h0]; rfl) ?_)))
          have h1 : bt s 1 = (c.toNat : Int) := (bt_drop (s := s) (i := 1) (c := c) (t := l ++ u) (by rw [hB', e]; rfl)).1
          refine Ev.both (fun _ => Ev.no ?_ hE) (fun _ => hE)
          rw [h1]
          intro h
          exact (head_ne c hc).1 ((byte_eq c 123 (by omega)).1 h)
        | s ts =>
          simp only [ok, Bool.and_eq_true] at ho
          simp only [txt, List.length_cons, List.length_append, List.length_nil] at hl
          have hB' : B s = 40 :: (txts ts ++ 41 :: u) := by rw [hB]; simp [txt]
          have h0 := first_of hB'
          have hsz := size_pos hB'
          simp only [List.length_cons, List.length_append] at hsz
          have hfm : fm 40 41 (B s) 0 0 = ((txts ts).length + 1 : Nat) := by
            rw [hB']
            have e1 := fm_open 40 41 (txts ts ++ 41 :: u)
            have e3 := fm_txts 40 41 (.inl ⟨rfl, rfl⟩) ts (41 :: u) 1 1 ho.2 (by omega)
            have e4 := fm_hit 40 41 (by decide) u (1 + ((txts ts).length : Int))
            refine (e1.trans (e3.trans e4)).trans ?_
            omega
          have en : ((((txts ts).length + 1 : Nat) : Int)).toNat = (txts ts).length + 1 := by omega
          have en2 : ((((txts ts).length + 1 : Nat) : Int) + 1).toNat = (txts ts).length + 2 := by omega
          have hB2 : B (s.extract 1 ((txts ts).length + 1)) = txts ts := by
            rw [B_extract, hB']
            show (txts ts ++ 41 :: u).take ((txts ts).length + 1 - 1) = _
            have : (txts ts).length + 1 - 1 = (txts ts).length := by omega
            rw [this, List.take_left]
          have hB4 : B (s.extract ((txts ts).length + 2) s.size) = u := by
            rw [B_from, hB']
            show ((txts ts ++ 41 :: u).drop ((txts ts).length + 1)) = u
            rw [← List.drop_drop, List.drop_left]; rfl
          have hE := ih2 ts (s.extract 1 ((txts ts).length + 1)) (s.extract ((txts ts).length + 2) s.size) x y z (by omega) ho.2 hB2
          have fe : fits (.s ts) (32 - x) (32 - y) (32 - z) = fitss ts (32 - x) (32 - (y + 1)) (32 - z) := by
            have e1 : 32 - y - 1 = 32 - (y + 1) := by omega
            simp only [fits, hr, Bool.true_and, e1]
          rw [fe]
          refine ⟨if fitss ts (32 - x) (32 - (y + 1)) (32 - z) = true then s.extract ((txts ts).length + 2) s.size else E0, ?_, ?_⟩
          · refine Ev.step (fun k => by simp only [vs]; rfl) ?_
            rw [hfm, en, en2]
            refine Ev.no hne (Ev.no hd (Ev.no (by rw [h0]; decide) (Ev.no (by rw [h0]; decide) (Ev.yes (by rw [h0]; rfl) (Ev.no (by omega) (Ev.yes (by omega) (Ev.yes (by omega) ?_)))))))
            by_cases hf1 : fitss ts (32 - x) (32 - (y + 1)) (32 - z) = true
            · rw [if_pos hf1] at hE ⊢
              rw [hf1]; exact hE
            · rw [if_neg hf1] at hE ⊢
              have hf0 : fitss ts (32 - x) (32 - (y + 1)) (32 - z) = false := by simpa using hf1
              rw [hf0]; exact hE
          · by_cases hf1 : fitss ts (32 - x) (32 - (y + 1)) (32 - z) = true
            · rw [if_pos hf1, if_pos hf1]; exact hB4
            · rw [if_neg hf1, if_neg hf1]
      · have hr0 : room (32 - x) (32 - y) (32 - z) = false := by simpa using hr
        have hf0 : fits t (32 - x) (32 - y) (32 - z) = false := by
          cases hh : fits t (32 - x) (32 - y) (32 - z) with
          | false => rfl
          | true => rw [fits_room t _ _ _ hh] at hr0; simp at hr0
        rw [hf0]
        refine ⟨E0, ?_, by simp⟩
        refine Ev.step (fun k => by simp only [vs]; rfl) ?_
        exact Ev.no hne (Ev.yes (by rw [deep_room, hr0]) (Ev.now _))
    refine ⟨one, fun ts s q x y z hl ho hB => ?_⟩
    cases ts with
    | nil =>
      refine Ev.step (fun k => by simp only [vl]; rfl) ?_
      refine Ev.yes (by rw [← B_length, hB]; rfl) ?_
      exact Ev.is (by simp [fitss])
    | more t ts =>
      simp only [oks, Bool.and_eq_true] at ho
      simp only [txts, List.length_append] at hl
      have hp := txt_pos t
      have hB' : B s = txt t ++ txts ts := hB
      obtain ⟨r, hE, hr⟩ := one t s (txts ts) x (y + 1) z (by omega) ho.1 hB'
      refine Ev.step (fun k => by simp only [vl]; rfl) ?_
      refine Ev.no (by rw [← B_length, hB', List.length_append]; omega) (Ev.bind hE ?_)
      by_cases hf1 : fits t (32 - x) (32 - (y + 1)) (32 - z) = true
      · rw [if_pos hf1] at hr
        refine Ev.yes hf1 ?_
        have h2 := ih2 ts r q x y z (by omega) ho.2 hr
        simp only [fitss, hf1, Bool.true_and]
        exact h2
      · have hf0 : fits t (32 - x) (32 - (y + 1)) (32 - z) = false := by simpa using hf1
        refine Ev.no hf1 (Ev.is ?_)
        simp [fitss, hf0]

end Go.Proofs.YtoaehanfknjngaaDoor.Sg
