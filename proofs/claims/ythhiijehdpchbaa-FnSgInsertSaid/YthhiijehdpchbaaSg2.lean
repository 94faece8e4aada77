/-
The program's reader of types, on all texts: it comes to an end, and what is read of a text without "()" and "{v" is a type.
-/
import Derived.Test.YthhiijehdpchbaaSg
namespace Go.Proofs.Ythhiijehdpchbaa.Sg
set_option linter.unusedVariables false
set_option linter.unusedSimpArgs false
open Go.RowKit Go.Proofs.Ythhiijehdpchbaa.Ext Go.Proofs.YthhiijehdpchbaaW.PrintWords Go.Proofs.Ythhiijehdpchbaa.Com Go.Proofs.Ythhiijehdpchbaa.Tree

theorem ev_get {α : Type} {g : Nat → Option α} {a b : α} (h : a = b) (k : Ev g a) : Ev g b := h ▸ k

theorem B_cons (s : ByteArray) (h : s.size ≠ 0) : ∃ c l, B s = c :: l := by
  cases e : B s with
  | nil => have := B_length s; rw [e] at this; simp at this; omega
  | cons c l => exact ⟨c, l, rfl⟩

/-- What is said of the reader of one type. -/
def VS (s : ByteArray) (x y z : Int) : Prop := ∃ b r, Ev (fun k => vs k s x y z) (b, r) ∧
  (b = true → r.size < s.size ∧ (np (B s) = true → ∃ t, ok t = true ∧ fits t (32 - x) (32 - y) (32 - z) = true ∧ B s = txt t ++ B r)) ∧ (b = false → r = E0)
/-- What is said of the reader of a struct's types. -/
def VL (s q : ByteArray) (x y z : Int) : Prop := ∃ b, Ev (fun k => vl k s q x y z) (if b = true then (true, q) else (false, E0)) ∧
  (b = true → np (B s) = true → ∃ ts, oks ts = true ∧ fitss ts (32 - x) (32 - (y + 1)) (32 - z) = true ∧ B s = txts ts)

theorem VS.no {s : ByteArray} {x y z : Int} (h : Ev (fun k => vs k s x y z) (false, E0)) : VS s x y z :=
  ⟨false, E0, h, fun h => by simp at h, fun _ => rfl⟩

theorem VS.key {a : ByteArray} {c : UInt8} {r : ByteArray} {t : T} (h : B a = [c]) (ho : ok t = true) (e : B a = txt t ++ B r) : (basic c || c == 118) = true := by
  rw [h] at e
  have hl := congrArg List.length e
  cases t with
  | b k => simp only [txt, List.cons_append, List.cons.injEq] at e; rw [e.1]; exact ho
  | d k t => simp [txt] at hl
  | a t => have := txt_pos t; simp only [txt, List.length_cons, List.length_append, List.length_nil] at hl; omega
  | s ts => simp [txt] at hl

theorem read_total (n : Nat) : (∀ (s : ByteArray) (x y z : Int), s.size ≤ n → VS s x y z) ∧ (∀ (s q : ByteArray) (x y z : Int), s.size ≤ n → VL s q x y z) := by
  induction n with
  | zero =>
    refine ⟨fun s x y z hs => VS.no ?_, fun s q x y z hs => ⟨true, ?_, fun _ _ => ⟨.nil, rfl, rfl, ?_⟩⟩⟩
    · refine Ev.step (fun k => by simp only [vs]; rfl) ?_
      exact Ev.yes (by omega) (Ev.now _)
    · refine Ev.step (fun k => by simp only [vl]; rfl) ?_
      exact Ev.yes (by omega) (Ev.now _)
    · have := B_length s
      exact List.length_eq_zero_iff.1 (by omega)
  | succ n ih =>
    obtain ⟨ih1, ih2⟩ := ih
    have one : ∀ (s : ByteArray) (x y z : Int), s.size ≤ n + 1 → VS s x y z := by
      intro s x y z hs
      by_cases hne : s.size = 0
      · exact ih1 s x y z (by omega)
      obtain ⟨c, l, hB⟩ := B_cons s hne
      have h0 := first_of hB
      have hsz := size_pos hB
      by_cases hr : room (32 - x) (32 - y) (32 - z) = true
      · have hd : ¬ deep x y z = false := by rw [deep_room, hr]; decide
        by_cases h1 : (basic c || c == 118) = true
        · refine ⟨true, s.extract 1 s.size, ?_, fun _ => ⟨?_, fun _ => ⟨.b c, h1, hr, ?_⟩⟩, fun h => by simp at h⟩
          · refine Ev.step (fun k => by simp only [vs]; rfl) ?_
            refine Ev.no hne (Ev.no hd (Ev.yes ?_ (Ev.now _)))
            rw [h0, one_eq]; exact h1
          · rw [← B_length, B_from, hB]; simp; omega
          · rw [B_from, hB]; rfl
        have h1' : ¬ Ext.one (bt s 0) = true := by rw [h0, one_eq]; exact h1
        by_cases h97 : c = 97
        · subst h97
          have hb : bt s 0 = 97 := by rw [h0]; rfl
          -- an array
          have arr : (1 < s.size → bt s 1 ≠ 123) → VS s x y z := by
            intro hn
            obtain ⟨b, r, hE, hT, hF⟩ := ih1 (s.extract 1 s.size) (x + 1) y z (by rw [← B_length, B_from, hB]; simp; omega)
            refine ⟨b, r, ?_, fun hb' => ⟨?_, fun hnp => ?_⟩, hF⟩
            · refine Ev.step (fun k => by simp only [vs]; rfl) ?_
              refine Ev.no hne (Ev.no hd (Ev.no h1' (Ev.yes hb ?_)))
              exact Ev.both (fun h => Ev.no (hn h) hE) (fun _ => hE)
            · have h := (hT hb').1
              rw [← B_length (s.extract 1 s.size), B_from, hB] at h
              simp at h; omega
            · have e : B (s.extract 1 s.size) = l := by rw [B_from, hB]; rfl
              obtain ⟨t, ho, hf, ht⟩ := (hT hb').2 (by rw [e]; rw [hB] at hnp; exact np_tail hnp)
              refine ⟨.a t, ho, ?_, ?_⟩
              · have e1 : 32 - x - 1 = 32 - (x + 1) := by omega
                simp only [fits, hr, Bool.true_and, e1, hf]
              · rw [hB, ← e, ht]; rfl
          cases l with
          | nil => exact arr (fun h => by simp at hsz; omega)
          | cons d l =>
            have hb1 : bt s 1 = (d.toNat : Int) := (bt_drop (s := s) (i := 1) (c := d) (t := l) (by rw [hB]; rfl)).1
            simp only [List.length_cons] at hsz
            by_cases hd123 : d = 123
            · subst hd123
              have hb1' : bt s 1 = 123 := hb1
              clear arr
              have hB1 : B (s.extract 1 s.size) = 123 :: l := by rw [B_from, hB]; rfl
              have hfm : fm 123 125 (B (s.extract 1 s.size)) 0 0 = fm 123 125 l 1 1 := by rw [hB1]; exact fm_open 123 125 l
              rcases fm_in 123 125 l 1 1 (by omega) with hf | ⟨A, C, eA, hf⟩
              · refine VS.no ?_
                refine Ev.step (fun k => by simp only [vs]; rfl) ?_
                refine Ev.no hne (Ev.no hd (Ev.no h1' (Ev.yes hb (Ev.yes (by omega) (Ev.yes hb1' ?_)))))
                rw [hfm.trans hf]
                refine Ev.step (fun k => by simp only [vd]; rfl) ?_
                exact Ev.yes trivial (Ev.now _)
              · have hfm' : fm 123 125 (B (s.extract 1 s.size)) 0 0 = ((A.length + 1 : Nat) : Int) := by rw [hfm]; refine hf.trans ?_; omega
                have el := congrArg List.length eA
                simp only [List.length_append, List.length_cons] at el
                have en : (((A.length + 1 : Nat) : Int) + 1).toNat = A.length + 2 := by omega
                have en2 : (((A.length + 1 : Nat) : Int) + 2).toNat = A.length + 3 := by omega
                have hB2 : B (s.extract 2 (A.length + 2)) = A := by
                  rw [B_extract, hB, eA]
                  show (A ++ 125 :: C).take (A.length + 2 - 2) = _
                  rw [Nat.add_sub_cancel, List.take_left]
                have hB4 : B (s.extract (A.length + 3) s.size) = C := by
                  rw [B_from, hB, eA]
                  show ((A ++ 125 :: C).drop (A.length + 1)) = C
                  rw [← List.drop_drop, List.drop_left]; rfl
                have go : ∀ b r, (Ev (fun k => if (s.extract 2 (A.length + 2)).size = 0 then some (false, E0)
                    else (vs k ((s.extract 2 (A.length + 2)).extract 0 1) (x + 1) y (z + 1)).bind fun p =>
                      if p.1 = true then (vs k ((s.extract 2 (A.length + 2)).extract 1 (s.extract 2 (A.length + 2)).size) (x + 1) y (z + 1)).bind fun q =>
                        if q.1 = true then (if q.2.size = 0 then some (true, s.extract (A.length + 3) s.size) else some (false, E0)) else some (false, E0)
                      else some (false, E0)) (b, r)) → Ev (fun k => vs k s x y z) (b, r) := by
                  intro b r h
                  refine Ev.step (fun k => by simp only [vs]; rfl) ?_
                  refine Ev.no hne (Ev.no hd (Ev.no h1' (Ev.yes hb (Ev.yes (by omega) (Ev.yes hb1' ?_)))))
                  rw [hfm']
                  refine Ev.step (fun k => by simp only [vd]; rfl) ?_
                  rw [en, en2]
                  refine Ev.no (by omega) (Ev.yes (by omega) (Ev.yes (by omega) h))
                cases A with
                | nil => exact VS.no (go _ _ (Ev.yes (by rw [← B_length, hB2]; rfl) (Ev.now _)))
                | cons k A =>
                  have hs2 : (s.extract 2 ((k :: A).length + 2)).size = A.length + 1 := by rw [← B_length, hB2]; rfl
                  have hk1 : B ((s.extract 2 ((k :: A).length + 2)).extract 0 1) = [k] := by rw [B_to, hB2]; rfl
                  have hv1 : B ((s.extract 2 ((k :: A).length + 2)).extract 1 (s.extract 2 ((k :: A).length + 2)).size) = A := by rw [B_from, hB2]; rfl
                  simp only [List.length_cons] at el
                  obtain ⟨b1, r1, hE1, hT1, hF1⟩ := ih1 ((s.extract 2 ((k :: A).length + 2)).extract 0 1) (x + 1) y (z + 1) (by rw [← B_length, hk1]; simp; omega)
                  obtain ⟨b2, r2, hE2, hT2, hF2⟩ := ih1 ((s.extract 2 ((k :: A).length + 2)).extract 1 (s.extract 2 ((k :: A).length + 2)).size) (x + 1) y (z + 1) (by rw [← B_length, hv1]; omega)
                  cases b1 with
                  | false => exact VS.no (go _ _ (Ev.no (by omega) (Ev.bind hE1 (Ev.no (by simp) (Ev.now _)))))
                  | true =>
                    cases b2 with
                    | false => exact VS.no (go _ _ (Ev.no (by omega) (Ev.bind hE1 (Ev.yes rfl (Ev.bind hE2 (Ev.no (by simp) (Ev.now _)))))))
                    | true =>
                      by_cases hr2 : r2.size = 0
                      · refine ⟨true, s.extract ((k :: A).length + 3) s.size, go _ _ (Ev.no (by omega) (Ev.bind hE1 (Ev.yes rfl (Ev.bind hE2 (Ev.yes rfl (Ev.yes hr2 (Ev.now _))))))), fun _ => ⟨?_, fun hnp => ?_⟩, fun h => by simp at h⟩
                        · rw [← B_length, hB4]; omega
                        · obtain ⟨t1, ho1, hf1, e1⟩ := (hT1 rfl).2 (by rw [hk1]; simp [np])
                          have hk := VS.key hk1 ho1 e1
                          rw [hB, eA] at hnp
                          have hnpA : np A = true := np_left A (125 :: C) (np_right [97, 123, k] _ hnp)
                          obtain ⟨t2, ho2, hf2, e2⟩ := (hT2 rfl).2 (by rw [hv1]; exact hnpA)
                          have hk118 : k ≠ 118 := by
                            rintro rfl
                            have := np_tail hnp
                            simp [np] at this
                          have hkb : basic k = true := by
                            simp only [Bool.or_eq_true, beq_iff_eq] at hk
                            exact hk.resolve_right hk118
                          rw [hv1] at e2
                          have er2 : B r2 = [] := by
                            have := B_length r2
                            exact List.length_eq_zero_iff.1 (by omega)
                          rw [er2, List.append_nil] at e2
                          refine ⟨.d k t2, by simp only [ok, hkb, ho2]; rfl, ?_, ?_⟩
                          · have e1 : 32 - x - 1 = 32 - (x + 1) := by omega
                            have e2 : 32 - z - 1 = 32 - (z + 1) := by omega
                            simp only [fits, hr, Bool.true_and, e1, e2, hf2]
                          · rw [hB4, hB, eA, e2]; simp [txt]
                      · exact VS.no (go _ _ (Ev.no (by omega) (Ev.bind hE1 (Ev.yes rfl (Ev.bind hE2 (Ev.yes rfl (Ev.no hr2 (Ev.now _))))))))
            · exact arr (fun _ => by
                rw [hb1]
                intro h
                exact hd123 ((byte_eq d 123 (by omega)).1 h))
        have hb97 : ¬ bt s 0 = 97 := by
          rw [h0]
          intro h
          exact h97 ((byte_eq c 97 (by omega)).1 h)
        by_cases h40 : c = 40
        · subst h40
          have hb : bt s 0 = 40 := by rw [h0]; rfl
          have hfm : fm 40 41 (B s) 0 0 = fm 40 41 l 1 1 := by rw [hB]; exact fm_open 40 41 l
          rcases fm_in 40 41 l 1 1 (by omega) with hf | ⟨A, C, eA, hf⟩
          · refine VS.no ?_
            refine Ev.step (fun k => by simp only [vs]; rfl) ?_
            rw [hfm.trans hf]
            exact Ev.no hne (Ev.no hd (Ev.no h1' (Ev.no hb97 (Ev.yes hb (Ev.yes rfl (Ev.now _))))))
          · have hfm' : fm 40 41 (B s) 0 0 = ((A.length + 1 : Nat) : Int) := by rw [hfm]; refine hf.trans ?_; omega
            have el := congrArg List.length eA
            simp only [List.length_append, List.length_cons] at el
            have en : (((A.length + 1 : Nat) : Int)).toNat = A.length + 1 := by omega
            have en2 : (((A.length + 1 : Nat) : Int) + 1).toNat = A.length + 2 := by omega
            have hB2 : B (s.extract 1 (A.length + 1)) = A := by
              rw [B_extract, hB, eA]
              show (A ++ 41 :: C).take (A.length + 1 - 1) = _
              rw [Nat.add_sub_cancel, List.take_left]
            have hB4 : B (s.extract (A.length + 2) s.size) = C := by
              rw [B_from, hB, eA]
              show ((A ++ 41 :: C).drop (A.length + 1)) = C
              rw [← List.drop_drop, List.drop_left]; rfl
            obtain ⟨b, hE, hT⟩ := ih2 (s.extract 1 (A.length + 1)) (s.extract (A.length + 2) s.size) x y z (by rw [← B_length, hB2]; omega)
            have go : ∀ o, Ev (fun k => vl k (s.extract 1 (A.length + 1)) (s.extract (A.length + 2) s.size) x y z) o → Ev (fun k => vs k s x y z) o := by
              intro o h
              refine Ev.step (fun k => by simp only [vs]; rfl) ?_
              rw [hfm', en, en2]
              exact Ev.no hne (Ev.no hd (Ev.no h1' (Ev.no hb97 (Ev.yes hb (Ev.no (by omega) (Ev.yes (by omega) (Ev.yes (by omega) h)))))))
            cases b with
            | false => exact VS.no (go _ hE)
            | true =>
              refine ⟨true, s.extract (A.length + 2) s.size, go _ hE, fun _ => ⟨?_, fun hnp => ?_⟩, fun h => by simp at h⟩
              · rw [← B_length, hB4]; omega
              · rw [hB, eA] at hnp
                have hnpA : np A = true := np_left A (41 :: C) (np_tail hnp)
                obtain ⟨ts, ho, hft, e⟩ := hT rfl (by rw [hB2]; exact hnpA)
                rw [hB2] at e
                refine ⟨.s ts, ?_, ?_, ?_⟩
                · simp only [ok, ho, Bool.and_true]
                  cases ts with
                  | more t ts => rfl
                  | nil =>
                    simp only [txts] at e
                    rw [e] at hnp
                    simp [np] at hnp
                · have e1 : 32 - y - 1 = 32 - (y + 1) := by omega
                  simp only [fits, hr, Bool.true_and, e1, hft]
                · rw [hB4, hB, eA, e]; simp [txt]
        · refine VS.no ?_
          refine Ev.step (fun k => by simp only [vs]; rfl) ?_
          refine Ev.no hne (Ev.no hd (Ev.no h1' (Ev.no hb97 (Ev.no ?_ (Ev.now _)))))
          rw [h0]
          intro h
          exact h40 ((byte_eq c 40 (by omega)).1 h)
      · have hr0 : room (32 - x) (32 - y) (32 - z) = false := by simpa using hr
        refine VS.no ?_
        refine Ev.step (fun k => by simp only [vs]; rfl) ?_
        exact Ev.no hne (Ev.yes (by rw [deep_room, hr0]) (Ev.now _))
    refine ⟨one, fun s q x y z hs => ?_⟩
    by_cases hne : s.size = 0
    · exact ih2 s q x y z (by omega)
    obtain ⟨b, r, hE, hT, hF⟩ := one s x (y + 1) z hs
    cases b with
    | false =>
      refine ⟨false, ?_, fun h => by simp at h⟩
      refine Ev.step (fun k => by simp only [vl]; rfl) ?_
      exact Ev.no hne (Ev.bind hE (Ev.no (by simp) (Ev.now _)))
    | true =>
      obtain ⟨b2, hE2, hT2⟩ := ih2 r q x y z (by have := (hT rfl).1; omega)
      refine ⟨b2, ?_, fun hb hnp => ?_⟩
      · refine Ev.step (fun k => by simp only [vl]; rfl) ?_
        exact Ev.no hne (Ev.bind hE (Ev.yes rfl hE2))
      · obtain ⟨t, ho, hf, e⟩ := (hT rfl).2 hnp
        obtain ⟨ts, hos, hfs, es⟩ := hT2 hb (np_right (txt t) (B r) (by rw [← e]; exact hnp))
        refine ⟨.more t ts, by simp only [oks, ho, hos]; rfl, by simp only [fitss, hf, hfs]; rfl, ?_⟩
        rw [e, es]; rfl

/-! All the types of a text. -/
theorem pl_total (n : Nat) (a : ByteArray) : ∀ (s : ByteArray), s.size ≤ n → ∃ b, Ev (fun k => pl k a s) (if b = true then (true, a) else (false, E0)) ∧
    (b = true → np (B s) = true → ∃ ts, oks ts = true ∧ fitss ts 32 32 32 = true ∧ B s = txts ts) := by
  induction n with
  | zero =>
    intro s hs
    refine ⟨true, ?_, fun _ _ => ⟨.nil, rfl, rfl, ?_⟩⟩
    · refine Ev.step (fun k => by simp only [pl]; rfl) ?_
      exact Ev.yes (by omega) (Ev.now _)
    · have := B_length s
      exact List.length_eq_zero_iff.1 (by omega)
  | succ n ih =>
    intro s hs
    by_cases hne : s.size = 0
    · exact ih s (by omega)
    obtain ⟨b, r, hE, hT, hF⟩ := (read_total s.size).1 s 0 0 0 (Nat.le_refl _)
    cases b with
    | false =>
      refine ⟨false, ?_, fun h => by simp at h⟩
      refine Ev.step (fun k => by simp only [pl]; rfl) ?_
      exact Ev.no hne (Ev.bind hE (Ev.no (by simp) (Ev.now _)))
    | true =>
      obtain ⟨b2, hE2, hT2⟩ := ih r (by have := (hT rfl).1; omega)
      refine ⟨b2, ?_, fun hb hnp => ?_⟩
      · refine Ev.step (fun k => by simp only [pl]; rfl) ?_
        exact Ev.no hne (Ev.bind hE (Ev.yes rfl hE2))
      · obtain ⟨t, ho, hf, e⟩ := (hT rfl).2 hnp
        obtain ⟨ts, hos, hfs, es⟩ := hT2 hb (np_right (txt t) (B r) (by rw [← e]; exact hnp))
        refine ⟨.more t ts, by simp only [oks, ho, hos]; rfl, ?_, ?_⟩
        · simp only [fitss, hfs, Bool.and_true]; exact hf
        · rw [e, es]; rfl

theorem pl_tree (a : ByteArray) : ∀ (ts : Ts) (s : ByteArray), oks ts = true → B s = txts ts →
    Ev (fun k => pl k a s) (if fitss ts 32 32 32 = true then (true, a) else (false, E0))
  | .nil, s, ho, hB => by
    refine Ev.step (fun k => by simp only [pl]; rfl) ?_
    exact Ev.yes (by rw [← B_length, hB]; rfl) (Ev.is (by simp [fitss]))
  | .more t ts, s, ho, hB => by
    simp only [oks, Bool.and_eq_true] at ho
    have hp := txt_pos t
    have hB' : B s = txt t ++ txts ts := hB
    obtain ⟨r, hE, hr⟩ := (read_tree (txt t).length).1 t s (txts ts) 0 0 0 (Nat.le_refl _) ho.1 hB'
    have e0 : (32 : Int) - 0 = 32 := by omega
    rw [e0] at hE hr
    refine Ev.step (fun k => by simp only [pl]; rfl) ?_
    refine Ev.no (by rw [← B_length, hB', List.length_append]; omega) (Ev.bind hE ?_)
    by_cases hf : fits t 32 32 32 = true
    · rw [if_pos hf] at hr
      refine Ev.yes hf ?_
      have h2 := pl_tree a ts r ho.2 hr
      simp only [fitss, hf, Bool.true_and]
      exact h2
    · have hf0 : fits t 32 32 32 = false := by simpa using hf
      exact Ev.no hf (Ev.is (by simp [fitss, hf0]))

/-- What the program says of a text: a truth value, and the text itself if it is true. -/
theorem parse_ev (s : ByteArray) : ∃ b, Ev (fun k => impl_SgParse.f k s) (if b = true then s else E0, b) ∧ (b = true → np (B s) = true → Sig (B s)) ∧ (255 < s.size → b = false) := by
  have H : ∃ b, Ev (fun k => dbus_ParseSignature.f k s) (b, if b = true then s else E0) ∧ (b = true → np (B s) = true → Sig (B s)) ∧ (255 < s.size → b = false) := by
    unfold dbus_ParseSignature.f
    by_cases h0 : s.size = 0
    · have e : B s = [] := by
        have := B_length s
        exact List.length_eq_zero_iff.1 (by omega)
      refine ⟨true, Ev.yes h0 (Ev.is ?_), fun _ _ => ⟨.nil, rfl, rfl, e, by rw [e]; decide⟩, fun h => by omega⟩
      simp [E0_of e]
    · by_cases h1 : 255 < s.size
      · exact ⟨false, Ev.no h0 (Ev.yes h1 (Ev.is (by simp))), fun h => by simp at h, fun _ => rfl⟩
      · obtain ⟨b, hE, hT⟩ := pl_total s.size s s (Nat.le_refl _)
        refine ⟨b, Ev.no h0 (Ev.no h1 (ev_get ?_ hE)), fun hb hnp => ?_, fun h => absurd h h1⟩
        · cases b <;> rfl
        · obtain ⟨ts, ho, hf, e⟩ := hT hb hnp
          exact ⟨ts, ho, hf, e, by rw [B_length]; omega⟩
  obtain ⟨b, hE, h2, h3⟩ := H
  refine ⟨b, ?_, h2, h3⟩
  unfold impl_SgParse.f
  exact Ev.bind hE (Ev.now _)

theorem parse_tree (s : ByteArray) (ts : Ts) (ho : oks ts = true) (hB : B s = txts ts) (hs : s.size ≤ 255) :
    Ev (fun k => impl_SgParse.f k s) (if fitss ts 32 32 32 = true then s else E0, fitss ts 32 32 32) := by
  have H : Ev (fun k => dbus_ParseSignature.f k s) (fitss ts 32 32 32, if fitss ts 32 32 32 = true then s else E0) := by
    unfold dbus_ParseSignature.f
    by_cases h0 : s.size = 0
    · have e : B s = [] := by
        have := B_length s
        exact List.length_eq_zero_iff.1 (by omega)
      have : ts = .nil := by
        cases ts with
        | nil => rfl
        | more t ts =>
          have hp := txt_pos t
          rw [e] at hB
          have := congrArg List.length hB
          simp [txts] at this; omega
      subst this
      refine Ev.yes h0 (Ev.is ?_)
      simp [E0_of e, fitss]
    · refine Ev.no h0 (Ev.no (by omega) (ev_get ?_ (pl_tree s ts s ho hB)))
      cases fitss ts 32 32 32 <;> rfl
  unfold impl_SgParse.f
  exact Ev.bind H (Ev.now _)

/-- A text without "()" and "{v" is taken if and only if it is a signature. -/
theorem parse_sig (s : ByteArray) : (Sig (B s) → Ev (fun k => impl_SgParse.f k s) (s, true)) ∧ (np (B s) = true → ¬ Sig (B s) → Ev (fun k => impl_SgParse.f k s) (E0, false)) := by
  refine ⟨fun ⟨ts, ho, hf, e, hl⟩ => ?_, fun hnp hS => ?_⟩
  · have h := parse_tree s ts ho e (by rw [← B_length]; exact hl)
    rw [hf] at h
    exact h
  · obtain ⟨b, hE, hT, _⟩ := parse_ev s
    cases b with
    | false => exact hE
    | true => exact absurd (hT rfl hnp) hS

end Go.Proofs.Ythhiijehdpchbaa.Sg
