import Derived.Test.YtoaehanfknjngaaDoorPb
import Derived.Test.YtoaehanfknjngaaDoorGd
namespace Go.Proofs.YtoaehanfknjngaaDoor.Pl
set_option linter.unusedVariables false
set_option linter.unusedSimpArgs false
open Go.RowKit Go.Proofs.YtoaehanfknjngaaDoor.L Go.Proofs.YtoaehanfknjngaaDoor.Q Go.Proofs.YtoaehanfknjngaaDoorW.PrintWords
open Go.Proofs.YtoaehanfknjngaaDoor.Com Go.Proofs.YtoaehanfknjngaaDoor.Tree Go.Proofs.YtoaehanfknjngaaDoor.Sb Go.Proofs.YtoaehanfknjngaaDoor.Dt Go.Proofs.YtoaehanfknjngaaDoor.Gt Go.Proofs.YtoaehanfknjngaaDoor.So Go.Proofs.YtoaehanfknjngaaDoor.Gd

mutual
def conv : S30 → S47
  | ⟨a, b, s, l⟩ => ⟨a, b, s, convs l⟩
def convs : List S30 → List S47
  | [] => []
  | v :: l => conv v :: convs l
end
theorem convs_map : ∀ l : List S30, convs l = l.map conv
  | [] => by rw [convs]; rfl
  | v :: l => by rw [convs, convs_map l]; rfl
theorem conv_eq (v : S30) : conv v = ⟨v.f0, v.f1, v.f2, v.f3.map conv⟩ := by cases v; rw [conv, convs_map]
theorem conv2 (v : S30) : conv v = ⟨v.f0, v.f1, v.f2, convs v.f3⟩ := by cases v; rw [conv]
theorem sg_leaf (v : S30) (c : UInt8) (h0 : v.f0 = (c.toNat : Int)) (hb : basic c = true) : sg v = [c] := by
  have hne := basic_ne c hb
  have e : ∀ n : Nat, n < 256 → v.f0 = (n : Int) → c = UInt8.ofNat n := fun n hn he => (Spec.byte_eq c n hn).1 (by rw [← h0]; exact he)
  have h1 : ¬ v.f0 = 97 := fun he => hne.2.1 (e 97 (by omega) he)
  have h2 : ¬ v.f0 = 40 := fun he => hne.2.2.1 (e 40 (by omega) he)
  have h3 : ¬ v.f0 = 123 := fun he => hne.2.2.2.1 (e 123 (by omega) he)
  rw [sg_eq, if_neg h1, if_neg h2, if_neg h3, h0, ofNat_byte]
mutual
theorem sig_conv : ∀ v : S30, sig (conv v) = sg v
  | ⟨a, b, s, l⟩ => by rw [conv, sig, sg, sigs_conv l]
theorem sigs_conv : ∀ l : List S30, sigs (convs l) = sgs l
  | [] => by rw [convs, sigs, sgs]
  | v :: l => by rw [convs, sigs, sgs, sig_conv v, sigs_conv l]
end

theorem valIn_ev : ∀ (N : Nat) (v : S30), cnt v ≤ N → N ≤ 300 → Ev (fun k => impl_valIn.f k v.f0 v.f1 v.f2 v.f3) (v.f0, v.f1, v.f2, convs v.f3) := by
  intro N
  induction N with
  | zero => intro v h; have := cnt_eq v; omega
  | succ N ih =>
    intro v hc hN
    have hcl := cnt_eq v
    have hlen := cnts_len v.f3
    have H : ∀ (m i : Nat) (acc : List S47), i + m = v.f3.length → acc.length = i → Ev (fun k => impl_valIn.l0 k v.f3 (v.f3.length : Int) (i : Int) v.f0 v.f1 v.f2 acc) (v.f0, v.f1, v.f2, acc ++ convs (v.f3.drop i)) := by
      intro m
      induction m with
      | zero =>
        intro i acc hi ha
        obtain rfl : i = v.f3.length := by omega
        refine Ev.step (fun k => by rw [impl_valIn.l0]) ?_
        refine Ev.no (by omega) ?_
        simp only [List.drop_length, convs, List.append_nil]
        exact Ev.now _
      | succ m im =>
        intro i acc hi ha
        have hit : i < v.f3.length := by omega
        have hm := rd_mem v.f3 i hit
        have e := rd_drop v.f3 i hit
        have h1 := cnts_mem hm
        refine Ev.step (fun k => by rw [impl_valIn.l0]) ?_
        refine Ev.yes (by omega) (Ev.yes (by omega) (Ev.yes (by omega) (Ev.bind (ih _ (by omega) (by omega)) (Ev.yes (by omega) ?_))))
        rw [wrap_of (by omega) (by omega)]
        have ei : ((i + 1 : Nat) : Int) = (i : Int) + 1 := by omega
        have q := im (i + 1) (acc ++ [conv (rd_T30 v.f3 (i : Int))]) (by omega) (by simp; omega)
        rw [ei, conv2, List.append_assoc] at q
        rw [e, convs, conv2]
        exact q
    have := H v.f3.length 0 [] (by omega) rfl
    refine Ev.step (fun k => by rw [impl_valIn.f]) ?_
    simpa using this

theorem valsIn_ev (l : List S30) (hc : cnts l ≤ 300) : Ev (fun k => impl_valsIn.f k l) (convs l) := by
  have hlen := cnts_len l
  have H : ∀ (m i : Nat) (acc : List S47), i + m = l.length → acc.length = i → Ev (fun k => impl_valsIn.l0 k acc l (l.length : Int) (i : Int)) (acc ++ convs (l.drop i)) := by
    intro m
    induction m with
    | zero =>
      intro i acc hi ha
      obtain rfl : i = l.length := by omega
      refine Ev.step (fun k => by rw [impl_valsIn.l0]) ?_
      refine Ev.no (by omega) ?_
      simp only [List.drop_length, convs, List.append_nil]
      exact Ev.now _
    | succ m im =>
      intro i acc hi ha
      have hit : i < l.length := by omega
      have hm := rd_mem l i hit
      have e := rd_drop l i hit
      have h1 := cnts_mem hm
      refine Ev.step (fun k => by rw [impl_valsIn.l0]) ?_
      refine Ev.yes (by omega) (Ev.yes (by omega) (Ev.yes (by omega) (Ev.bind (valIn_ev 300 _ (by omega) (by omega)) (Ev.yes (by omega) ?_))))
      rw [wrap_of (by omega) (by omega)]
      have ei : ((i + 1 : Nat) : Int) = (i : Int) + 1 := by omega
      have q := im (i + 1) (acc ++ [conv (rd_T30 l (i : Int))]) (by omega) (by simp; omega)
      rw [ei, conv2, List.append_assoc] at q
      rw [e, convs, conv2]
      exact q
  have := H l.length 0 [] (by omega) rfl
  unfold impl_valsIn.f
  simpa using this

theorem clean_tail {a : UInt8} {l : List UInt8} (h : clean (a :: l) = true) : clean l = true := by
  rw [clean, Bool.and_eq_true] at h; exact h.2
theorem clean_left : ∀ {a b : List UInt8}, clean (a ++ b) = true → clean a = true
  | [], _, _ => rfl
  | x :: a, b, h => by
    have ht := clean_left (clean_tail (by simpa using h))
    rw [List.cons_append, clean, Bool.and_eq_true] at h
    rw [clean, ht, Bool.and_true]
    cases a with
    | nil => simp
    | cons y a => exact h.1
theorem clean_right : ∀ {a b : List UInt8}, clean (a ++ b) = true → clean b = true
  | [], _, h => h
  | x :: a, b, h => clean_right (clean_tail (by simpa using h))
theorem clean_key {k : UInt8} {l : List UInt8} (h : clean (123 :: k :: l) = true) : k ≠ 98 ∧ k ≠ 103 := by
  rw [clean, Bool.and_eq_true] at h
  have := h.1
  simp at this
  exact this
mutual
theorem clean_keys : ∀ t : T, clean (txt t) = true → keys t = true
  | .b c, _ => rfl
  | .d k t, h => by
    simp only [txt] at h
    have h1 := clean_key (clean_tail h)
    have h2 := clean_keys t (clean_left (clean_tail (clean_tail (clean_tail h))))
    simp only [keys, Bool.and_eq_true, bne_iff_ne]
    exact ⟨h1.1, h1.2, h2⟩
  | .a t, h => by
    simp only [txt] at h
    simp only [keys]
    exact clean_keys t (clean_tail h)
  | .s ts, h => by
    simp only [txt] at h
    simp only [keys]
    exact clean_keyss ts (clean_left (clean_tail h))
theorem clean_keyss : ∀ ts : Ts, clean (txts ts) = true → keyss ts = true
  | .nil, _ => rfl
  | .more t ts, h => by
    simp only [txts] at h
    simp only [keyss, Bool.and_eq_true]
    exact ⟨clean_keys t (clean_left h), clean_keyss ts (clean_right h)⟩
end

def Has (v : S30) : Prop := ∃ t, ok t = true ∧ keys t = true ∧ sg v = txt t ∧ Gd (conv v) t
theorem oks_ls : ∀ l : List T, (∀ t ∈ l, ok t = true) → (∀ t ∈ l, keys t = true) → ∃ ts, ls ts = l ∧ oks ts = true ∧ keyss ts = true
  | [], _, _ => ⟨.nil, rfl, rfl, rfl⟩
  | t :: l, h, h' => by
    obtain ⟨ts, e, o, k⟩ := oks_ls l (fun x hx => h x (by simp [hx])) (fun x hx => h' x (by simp [hx]))
    exact ⟨.more t ts, by simp [ls, e], by simp [oks, o, h t (by simp)], by simp [keyss, k, h' t (by simp)]⟩
theorem has_row : ∀ l : List S30, (∀ x ∈ l, Has x) → ∃ q : List T, q.length = l.length ∧ (∀ t ∈ q, ok t = true) ∧ (∀ t ∈ q, keys t = true) ∧ sgs l = (q.map txt).flatten ∧ ∀ (j : Nat) (h1 : j < l.length) (h2 : j < q.length), Gd (conv (l[j]'h1)) (q[j]'h2)
  | [], _ => ⟨[], rfl, by simp, by simp, by rw [sgs]; rfl, fun j h1 => by simp at h1⟩
  | v :: l, h => by
    obtain ⟨t, o, k, e, g⟩ := h v (by simp)
    obtain ⟨q, hl, ho, hk, he, hg⟩ := has_row l (fun x hx => h x (by simp [hx]))
    refine ⟨t :: q, by simp [hl], ?_, ?_, ?_, ?_⟩
    · intro x hx; rcases List.mem_cons.1 hx with rfl | hx
      · exact o
      · exact ho x hx
    · intro x hx; rcases List.mem_cons.1 hx with rfl | hx
      · exact k
      · exact hk x hx
    · rw [sgs, e, he]; rfl
    · intro j h1 h2
      cases j with
      | zero => exact g
      | succ j => exact hg j (by simpa using h1) (by simpa using h2)
theorem sgs_mem : ∀ {l : List S30} {v : S30}, v ∈ l → (sg v).length ≤ (sgs l).length
  | [], v, h => by simp at h
  | u :: l, v, h => by
    rcases List.mem_cons.1 h with rfl | h
    · simp only [sgs, List.length_append]; omega
    · have := sgs_mem h; simp only [sgs, List.length_append]; omega

/-- What an entry of a dict is. -/
def Ent (v : S30) : Prop := ∃ a b c, v.f3 = [a, b] ∧ a.f0 = ((c : UInt8).toNat : Int) ∧ basic c = true ∧ Gd (conv a) (.b c) ∧ sg v = 123 :: c :: (sg b ++ [125]) ∧ Has b

theorem ty_has {v : S30} (h : Ty v) : kc v → (sg v).length ≤ 255 → cnt v ≤ 300 → (v.f0 ≠ 123 → Has v) ∧ (v.f0 = 123 → Ent v) := by
  induction h with
  | leaf v c h0 hb h3 =>
    intro hk hl hc
    have hne := basic_ne c hb
    have e : ∀ n : Nat, n < 256 → v.f0 = (n : Int) → c = UInt8.ofNat n := fun n hn he => (Spec.byte_eq c n hn).1 (by rw [← h0]; exact he)
    refine ⟨fun h123 => ⟨.b c, by simp [ok, hb], rfl, ?_, ?_⟩, fun h123 => absurd (e 123 (by omega) h123) hne.2.2.2.1⟩
    · rw [sg_leaf v c h0 hb]; rfl
    · exact Gd.leaf _ c (by rw [conv_eq]; exact h0) hb
  | arr v h0 hf hs ht ih =>
    intro hk hl hc
    rw [kc_eq] at hk
    have hcl := cnt_eq v
    have hlen := cnts_len v.f3
    rw [sg_eq, if_pos h0, List.length_cons, B_length] at hl
    refine ⟨fun _ => ?_, fun h => by omega⟩
    have hclean := hk.1 h0
    have hkid : ∀ x ∈ v.f3, kc x ∧ (sg x).length ≤ 255 ∧ cnt x ≤ 300 := fun x hx => ⟨kcs_mem hk.2 hx, by rw [hs x hx, B_length]; omega, by have := cnts_mem hx; omega⟩
    rcases hf with ⟨t, ho, hfit, hB⟩ | ⟨k, t, ho, hfit, hB⟩
    · refine ⟨.a t, by simpa [ok] using ho, ?_, ?_, ?_⟩
      · simp only [keys]; exact clean_keys t (by rw [← hB]; exact hclean)
      · rw [sg_eq, if_pos h0, hB]; rfl
      · refine Gd.arr _ t (by rw [conv_eq]; exact h0) (by rw [conv_eq]; exact hB) ho hfit (by rw [conv_eq]; show v.f2.size ≤ 254; omega) (by rw [conv_eq]; simp; omega) ?_
        rw [conv_eq]
        intro j h1
        have h1' : j < v.f3.length := by simpa using h1
        have hm : v.f3[j]'h1' ∈ v.f3 := List.getElem_mem h1'
        obtain ⟨q1, q2, q3⟩ := hkid _ hm
        have h123 : (v.f3[j]'h1').f0 ≠ 123 := by
          intro he
          have hsx := hs _ hm
          rw [sg_eq, if_neg (by omega), if_neg (by omega), if_pos he, hB] at hsx
          obtain ⟨c, l, hcl, hh⟩ := txt_head t ho
          rw [hcl] at hsx
          injection hsx with e1 e2
          exact (head_ne c hh).1 e1.symm
        obtain ⟨t', o', _, e', g'⟩ := (ih _ hm q1 q2 q3).1 h123
        have : t' = t := by
          have hsx := hs _ hm
          rw [e', hB] at hsx
          exact (txt_inj (u := []) (u' := []) o' ho (by rw [hsx])).1
        rw [← this]
        simpa using g'
    · have hB2 : B v.f2 = 123 :: k :: (txt t ++ [125]) := by
        simp only [txt, List.cons.injEq, true_and] at hB
        exact hB
      have hkk := clean_key (by rw [← hB2]; exact hclean)
      have hot := ho
      simp only [ok, Bool.and_eq_true] at hot
      have hent : ∀ x ∈ v.f3, ∃ a b, x.f3 = [a, b] ∧ Gd (conv a) (.b k) ∧ Gd (conv b) t := by
        intro x hx
        obtain ⟨q1, q2, q3⟩ := hkid x hx
        have h123 : x.f0 = 123 := by
          refine Classical.byContradiction fun h => ?_
          obtain ⟨t', o', _, e', g'⟩ := (ih x hx q1 q2 q3).1 h
          have hsx := hs x hx
          rw [e', hB2] at hsx
          obtain ⟨c, l, hcl, hh⟩ := txt_head t' o'
          rw [hcl] at hsx
          injection hsx with e1 e2
          exact (head_ne c hh).1 e1
        obtain ⟨a, b, c, e3, ea, hbc, ga, es, t', o', _, e', g'⟩ := (ih x hx q1 q2 q3).2 h123
        have hsx := hs x hx
        rw [es, hB2] at hsx
        injection hsx with _ hsx
        injection hsx with hck hsx
        rw [e'] at hsx
        have := (txt_inj o' hot.2 hsx).1
        exact ⟨a, b, e3, by rw [← hck]; exact ga, by rw [← this]; exact g'⟩
      refine ⟨.d k t, ho, ?_, ?_, ?_⟩
      · exact clean_keys (.d k t) (by simp only [txt]; rw [← hB2, clean, hclean]; simp)
      · rw [sg_eq, if_pos h0]; exact hB
      · have hd : ∀ j : Nat, ∃ p : S30 × S30, ∀ h1 : j < v.f3.length, (v.f3[j]'h1).f3 = [p.1, p.2] ∧ Gd (conv p.1) (.b k) ∧ Gd (conv p.2) t := by
          intro j
          by_cases h1 : j < v.f3.length
          · obtain ⟨a, b, e1, e2, e3⟩ := hent _ (List.getElem_mem h1)
            exact ⟨(a, b), fun _ => ⟨e1, e2, e3⟩⟩
          · exact ⟨(z30, z30), fun h => absurd h h1⟩
        obtain ⟨p, hp⟩ := Classical.axiomOfChoice hd
        refine Gd.dict _ k t (fun j => conv (p j).1) (fun j => conv (p j).2) (by rw [conv_eq]; exact h0) (by rw [conv_eq]; exact hB2) ho hkk.2 hfit (by rw [conv_eq]; show v.f2.size ≤ 254; omega) (by rw [conv_eq]; simp; omega) ?_ ?_ ?_
        · rw [conv_eq]
          intro j h1
          have h1' : j < v.f3.length := by simpa using h1
          have e := (hp j h1').1
          simp only [List.getElem_map]
          rw [conv_eq]
          simp only [e, List.map_cons, List.map_nil]
        · rw [conv_eq]
          intro j h1
          exact (hp j (by simpa using h1)).2.1
        · rw [conv_eq]
          intro j h1
          exact (hp j (by simpa using h1)).2.2
  | rcd v h0 h3 hn ht ih =>
    intro hk hl hc
    rw [kc_eq] at hk
    have hcl := cnt_eq v
    have hlen := cnts_len v.f3
    rw [sg_eq, if_neg (by omega), if_pos h0, List.length_cons, List.length_append] at hl
    refine ⟨fun _ => ?_, fun h => by omega⟩
    obtain ⟨q, hq, ho, hks, hsg, hg⟩ := has_row v.f3 (fun x hx => (ih x hx (kcs_mem hk.2 hx) (by have := sgs_mem hx; omega) (by have := cnts_mem hx; omega)).1 (hn x hx))
    obtain ⟨ts, e, o, k⟩ := oks_ls q ho hks
    have hne : ne ts = true := by
      cases ts with
      | nil =>
        rw [ls] at e
        rw [← e] at hq
        exact absurd (List.eq_nil_of_length_eq_zero hq.symm) h3
      | more t ts => rfl
    refine ⟨.s ts, by simp [ok, hne, o], by simpa [keys] using k, ?_, ?_⟩
    · rw [sg_eq, if_neg (by omega), if_pos h0, hsg, ← e, ← txts_ls]; rfl
    · refine Gd.rcd _ ts (by rw [conv_eq]; exact h0) (by rw [conv_eq, e]; simp [hq]) (by rw [conv_eq]; simp; omega) ?_
      rw [conv_eq, e]
      intro j h1 h2
      simp only [List.getElem_map]
      exact hg j (by simpa using h1) h2
  | ent v a b c h0 h3 ha hb hbn ht ih =>
    intro hk hl hc
    rw [kc_eq] at hk
    have hcl := cnt_eq v
    have hne := basic_ne c hb
    have e : ∀ n : Nat, n < 256 → a.f0 = (n : Int) → c = UInt8.ofNat n := fun n hn he => (Spec.byte_eq c n hn).1 (by rw [← ha]; exact he)
    have hsa : sg a = [c] := sg_leaf a c ha hb
    have hsv : sg v = 123 :: c :: (sg b ++ [125]) := by
      rw [sg_eq, if_neg (by omega), if_neg (by omega), if_pos h0, h3]
      simp [sgs, hsa]
    rw [hsv] at hl
    simp only [List.length_cons, List.length_append] at hl
    have hbm : b ∈ v.f3 := by rw [h3]; simp
    refine ⟨fun h => absurd h0 h, fun _ => ⟨a, b, c, h3, ha, hb, Gd.leaf _ c (by rw [conv_eq]; exact ha) hb, hsv, ?_⟩⟩
    exact (ih (kcs_mem hk.2 hbm) (by omega) (by have := cnts_mem hbm; omega)).1 hbn
  | var v x h0 h3 hn hs ht ih =>
    intro hk hl hc
    rw [kc_eq] at hk
    have hcl := cnt_eq v
    have hxm : x ∈ v.f3 := by rw [h3]; simp
    refine ⟨fun _ => ⟨.b 118, rfl, rfl, ?_, ?_⟩, fun h => by omega⟩
    · rw [sg_eq, if_neg (by omega), if_neg (by omega), if_neg (by omega), h0]; rfl
    · obtain ⟨ts, ho, hf, hB, hl255⟩ := hs
      obtain ⟨t, o, k, e, g⟩ := (ih (kcs_mem hk.2 hxm) hl255 (by have := cnts_mem hxm; omega)).1 hn
      have hts : ts = .more t .nil := by
        refine txts_inj ho (by simp [oks, o]) ?_
        rw [← hB, e]; simp [txts]
      rw [hts] at hf
      simp only [fitss, Bool.and_true] at hf
      refine Gd.var _ (conv x) t (by rw [conv_eq]; exact h0) (by rw [conv_eq, h3]; rfl) g ⟨o, k, hf, by rw [← e]; exact hl255⟩
end Go.Proofs.YtoaehanfknjngaaDoor.Pl
