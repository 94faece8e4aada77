import Derived.Test.YthhiijehdpchbaaQ7
import Derived.Test.YthhiijehdpchbaaSpec
import Derived.Test.YthhiijehdpchbaaSg2
namespace Go.Proofs.Ythhiijehdpchbaa.Pure
set_option linter.unusedVariables false
set_option linter.unusedSimpArgs false
open Go.RowKit Go.Proofs.Ythhiijehdpchbaa.Ext Go.Proofs.Ythhiijehdpchbaa.Q Go.Proofs.YthhiijehdpchbaaW.PrintWords Go.Proofs.YthhiijehdpchbaaW.PrintLast
open Go.Proofs.Ythhiijehdpchbaa.Com Go.Proofs.Ythhiijehdpchbaa.Tree Go.Proofs.Ythhiijehdpchbaa.Spec Go.Proofs.Ythhiijehdpchbaa.Sg

/-- The string of a type. -/
def tb (t : T) : ByteArray := ⟨(txt t).toArray⟩
theorem B_tb (t : T) : B (tb t) = txt t := rfl
/-- Types in a list. -/
def ofL : List T → Ts
  | [] => .nil
  | t :: l => .more t (ofL l)
def toL : Ts → List T
  | .nil => []
  | .more t ts => t :: toL ts
theorem of_to : ∀ ts, ofL (toL ts) = ts
  | .nil => rfl
  | .more t ts => by rw [toL, ofL, of_to ts]
theorem to_of : ∀ L, toL (ofL L) = L
  | [] => rfl
  | t :: L => by rw [ofL, toL, to_of L]
theorem tlist_of : ∀ ts, tlist ts = (toL ts).map tb
  | .nil => rfl
  | .more t ts => by rw [tlist, toL, List.map_cons, tlist_of ts]; rfl
theorem oks_of : ∀ L, oks (ofL L) = true ↔ ∀ t ∈ L, ok t = true
  | [] => by simp [ofL, oks]
  | t :: L => by simp [ofL, oks, oks_of L]
theorem fitss_of (x y z : Int) : ∀ L, fitss (ofL L) x y z = true ↔ ∀ t ∈ L, fits t x y z = true
  | [] => by simp [ofL, fitss]
  | t :: L => by simp [ofL, fitss, fitss_of x y z L]
/-- All the texts, one behind the other. -/
def cat (L : List T) : List UInt8 := txts (ofL L)
theorem cat_cons (t : T) (L : List T) : cat (t :: L) = txt t ++ cat L := rfl
theorem cat_app : ∀ (a b : List T), cat (a ++ b) = cat a ++ cat b
  | [], b => rfl
  | t :: a, b => by rw [List.cons_append, cat_cons, cat_app a b, cat_cons, List.append_assoc]

theorem rd_map (L : List T) (j : Nat) (t : T) (R : List T) (h : L.drop j = t :: R) : rdOf ByteArray.empty (L.map tb) (j : Int) = tb t ∧ j < L.length ∧ L.drop (j + 1) = R := by
  have hl : j < L.length := by
    have h9 := congrArg List.length h
    simp only [List.length_drop, List.length_cons] at h9; omega
  rw [List.drop_eq_getElem_cons hl] at h
  injection h with h1 h2
  refine ⟨?_, hl, h2⟩
  simp [rdOf, hl, h1]

theorem joined_go (L : List T) (hL : L.length ≤ 1000) : ∀ (R : List T) (j : Nat) (acc : ByteArray), L.drop j = R → acc.size + (cat R).length ≤ 1000 →
    ∃ r, Ev (fun k => spec_Joined.l0 k (⟨#[]⟩ : ByteArray) acc (L.map tb) ((L.map tb).length : Int) (j : Int)) r ∧ B r = B acc ++ cat R
  | [], j, acc, h, hs => by
    have hl : L.length ≤ j := by
      have h9 := congrArg List.length h
      simp only [List.length_drop, List.length_nil] at h9; omega
    refine ⟨acc, ?_, by simp [cat, ofL, txts]⟩
    refine Ev.step (fun k => by simp only [spec_Joined.l0]; rfl) ?_
    rw [List.length_map]
    exact Ev.no (by omega) (Ev.now _)
  | t :: R, j, acc, h, hs => by
    obtain ⟨hr, hl, hd⟩ := rd_map L j t R h
    have htb : (tb t).size = (txt t).length := by rw [← B_length, B_tb]
    rw [cat_cons, List.length_append] at hs
    have hw : wrap64 ((j : Int) + 1) = ((j + 1 : Nat) : Int) := by rw [wrap_of (by omega) (by omega)]; omega
    have he : (acc ++ (⟨#[]⟩ : ByteArray)) = acc := B_inj (by rw [B_append]; simp [B])
    obtain ⟨r, hE, hB⟩ := joined_go L hL R (j + 1) (acc ++ tb t) hd (by rw [ByteArray.size_append, htb]; omega)
    refine ⟨r, ?_, by rw [hB, B_append, B_tb, cat_cons, List.append_assoc]⟩
    refine Ev.step (fun k => by simp only [spec_Joined.l0]; rfl) ?_
    rw [hr, hw, he]
    rw [List.length_map] at hE ⊢
    refine Ev.yes (by omega) (Ev.yes (by omega) (Ev.yes (by omega) (Ev.both (fun _ => Ev.yes ?_ (Ev.yes (by omega) hE)) (fun _ => Ev.yes (by omega) hE))))
    show acc.size + 0 ≤ _
    omega

theorem walk_go (L : List T) (hL : L.length ≤ 1000) (ho : ∀ t ∈ L, ok t = true) (hf : ∀ t ∈ L, fits t 32 32 32 = true) : ∀ (R : List T) (j : Nat) (x : ByteArray), L.drop j = R → B x = cat R → x.size ≤ 255 →
    Ev (fun k => laws_sgWalk.l0 k x (L.map tb) ((L.map tb).length : Int) (j : Int)) true
  | [], j, x, h, hB, hs => by
    have hl : L.length ≤ j := by
      have h9 := congrArg List.length h
      simp only [List.length_drop, List.length_nil] at h9; omega
    refine Ev.step (fun k => by simp only [laws_sgWalk.l0]; rfl) ?_
    rw [List.length_map]
    refine Ev.no (by omega) (Ev.is ?_)
    rw [beq_iff_eq, B_toList, hB]; rfl
  | t :: R, j, x, h, hB, hs => by
    obtain ⟨hr, hl, hd⟩ := rd_map L j t R h
    have hm : t ∈ L := by
      have : t ∈ L.drop j := by rw [h]; exact List.mem_cons_self
      exact List.mem_of_mem_drop this
    rw [cat_cons] at hB
    obtain ⟨r, hE, hB2⟩ := (read_tree (txt t).length).1 t x (cat R) 0 0 0 (Nat.le_refl _) (ho t hm) hB
    have e0 : (32 : Int) - 0 = 32 := by omega
    rw [e0] at hE hB2
    rw [hf t hm] at hE hB2
    rw [if_pos rfl] at hB2
    have hxs : x.size = (txt t).length + (cat R).length := by rw [← B_length, hB, List.length_append]
    have hrs : r.size = (cat R).length := by rw [← B_length, hB2]
    have hp := txt_pos t
    have hSB : Ev (fun k => impl_SgBegin.f k x 0 0 0) (r, true) := by
      unfold impl_SgBegin.f
      exact Ev.yes (by omega) (Ev.bind hE (Ev.now _))
    have hw : wrap64 ((j : Int) + 1) = ((j + 1 : Nat) : Int) := by rw [wrap_of (by omega) (by omega)]; omega
    have hw2 : wrap64 ((x.size : Int) - (r.size : Int)) = ((txt t).length : Int) := by rw [wrap_of (by omega) (by omega)]; omega
    have en : (((txt t).length : Int)).toNat = (txt t).length := by omega
    refine Ev.step (fun k => by simp only [laws_sgWalk.l0]; rfl) ?_
    rw [hr, hw]
    have ih := walk_go L hL ho hf R (j + 1) r hd hB2 (by omega)
    rw [List.length_map] at ih ⊢
    refine Ev.yes (by omega) (Ev.yes (by omega) (Ev.yes (by omega) (Ev.bind hSB (Ev.yes rfl (Ev.no (show ¬ ((r.size : Int) ≥ (x.size : Int)) by omega) ?_)))))
    show Ev (fun n => if 0 ≤ wrap64 ((x.size : Int) - (r.size : Int)) then _ else _) _
    rw [hw2, en]
    refine Ev.yes (by omega) (Ev.yes (by omega) (Ev.yes ?_ ih))
    rw [B_toList, B_toList, B_to, hB, B_tb, List.take_left]

theorem yI : Sig (B (⟨#[121]⟩ : ByteArray)) := ⟨.more (.b 121) .nil, by decide, by decide, by decide, by decide⟩

theorem FnSgInsert : laws_FnSgInsert.Pure := by
  intro a0 a1 a2 hs0 hs1 hw
  suffices h : Ev (fun k => laws_FnSgInsert.f k a0 a1 a2) true by
    obtain ⟨K, h⟩ := h
    exact ⟨K, h K (Nat.le_refl _)⟩
  have h2 : 0 ≤ a2 ∧ a2 ≤ 255 := by simpa [Lit.wf, IntKind.min, IntKind.max, IntKind.bits, IntKind.signed] using hw
  have out0 : Ev (fun k => laws_FnSgInsert.j0 k a0 a1 a2 true) true := by
    refine Ev.step (fun k => by simp only [laws_FnSgInsert.j0]; rfl) ?_
    exact Ev.yes trivial (Ev.now _)
  have out1 : ∀ l, Ev (fun k => laws_FnSgInsert.j1 k a1 a2 l true) true := by
    intro l
    refine Ev.step (fun k => by simp only [laws_FnSgInsert.j1]; rfl) ?_
    exact Ev.yes trivial (Ev.now _)
  unfold laws_FnSgInsert.f
  refine Ev.both (fun _ => out0) (fun hn0 => ?_)
  by_cases hn1 : (a1.size : Int) > 2147483647
  · rw [decide_eq_true hn1]; exact out0
  rw [decide_eq_false hn1]
  refine Ev.step (fun k => by simp only [laws_FnSgInsert.j0]; rfl) ?_
  refine Ev.no (by simp) ?_
  rcases types_ev a0 with ⟨ts, o, ft, e, hsz, H⟩ | ⟨hn, H⟩
  · refine Ev.bind H (Ev.yes rfl ?_)
    rcases types_ev a1 with ⟨ts1, o1, ft1, e1, hsz1, H1⟩ | ⟨hn1, H1⟩
    · by_cases hl1 : (tlist ts1).length = 1
      · have hS : Ev (fun k => spec_Single.f k a1) true := by
          unfold spec_Single.f
          refine Ev.bind H1 (Ev.yes rfl (Ev.is ?_))
          rw [beq_iff_eq]
          show ((tlist ts1).length : Int) = 1
          omega
        refine Ev.bind hS ?_
        obtain ⟨t1, rfl⟩ : ∃ t, ts1 = .more t .nil := by
          cases ts1 with
          | nil => simp [tlist] at hl1
          | more t ts =>
            cases ts with
            | nil => exact ⟨t, rfl⟩
            | more t' ts => simp [tlist] at hl1
        have ho1 : ok t1 = true := by simpa [oks] using o1
        have hf1 : fits t1 32 32 32 = true := by simpa [fitss] using ft1
        have ea1 : a1 = tb t1 := B_inj (by rw [e1, B_tb]; simp [txts])
        obtain ⟨L, rfl⟩ : ∃ L, ts = ofL L := ⟨toL ts, (of_to ts).symm⟩
        have hLt : tlist (ofL L) = L.map tb := by
          rw [tlist_of, to_of]
        have eL : B a0 = cat L := e
        have hLlen : L.length ≤ 255 := by
          have hb : ∀ M : List T, M.length ≤ (cat M).length := by
            intro M
            induction M with
            | nil => simp
            | cons t M ih =>
              have := txt_pos t
              rw [cat_cons, List.length_append, List.length_cons]; omega
          have h9 := hb L
          rw [← eL, B_length] at h9; omega
        have hs1' : (txt t1).length ≤ 255 := by
          rw [← B_tb, ← ea1, B_length]; exact hsz1
        rw [hLt]
        show Ev (fun n => laws_FnSgInsert.j1 n a1 a2 (L.map tb) false) true
        have hwa : wrap64 a2 = a2 := wrap_of (by omega) (by omega)
        have hwl : wrap64 (((L.map tb).length : Int) + 1) = (L.length : Int) + 1 := by rw [List.length_map, wrap_of (by omega) (by omega)]
        have hm0 : 0 ≤ Int.tmod a2 ((L.length : Int) + 1) := Int.tmod_nonneg _ h2.1
        have hm1 : Int.tmod a2 ((L.length : Int) + 1) < (L.length : Int) + 1 := Int.tmod_lt_of_pos _ (by omega)
        refine Ev.step (fun k => by simp only [laws_FnSgInsert.j1]; rfl) ?_
        rw [hwa, hwl]
        clear hwa hwl
        obtain ⟨i, hi⟩ : ∃ i : Nat, Int.tmod a2 ((L.length : Int) + 1) = (i : Int) := ⟨_, (Int.toNat_of_nonneg hm0).symm⟩
        rw [hi] at hm0 hm1 ⊢
        have ei : ((i : Int)).toNat = i := by omega
        rw [ei]
        -- all of them
        have hall : ([] ++ (L.map tb).take i ++ [a1]) ++ (L.map tb).drop i = (L.take i ++ t1 :: L.drop i).map tb := by
          rw [ea1]; simp [List.map_take, List.map_drop]
        have hAlen : (L.take i ++ t1 :: L.drop i).length ≤ 1000 := by
          simp only [List.length_append, List.length_cons, List.length_take, List.length_drop]; omega
        have hAo : ∀ t ∈ L.take i ++ t1 :: L.drop i, ok t = true := by
          intro t ht
          have hLo := (oks_of L).1 o
          rw [List.mem_append, List.mem_cons] at ht
          rcases ht with ht | rfl | ht
          · exact hLo t (List.mem_of_mem_take ht)
          · exact ho1
          · exact hLo t (List.mem_of_mem_drop ht)
        have hAf : ∀ t ∈ L.take i ++ t1 :: L.drop i, fits t 32 32 32 = true := by
          intro t ht
          have hLo := (fitss_of 32 32 32 L).1 ft
          rw [List.mem_append, List.mem_cons] at ht
          rcases ht with ht | rfl | ht
          · exact hLo t (List.mem_of_mem_take ht)
          · exact hf1
          · exact hLo t (List.mem_of_mem_drop ht)
        have hAc : (cat (L.take i ++ t1 :: L.drop i)).length ≤ 600 := by
          have h9 : (cat L).length = (cat (L.take i)).length + (cat (L.drop i)).length := by
            rw [← List.length_append, ← cat_app, List.take_append_drop]
          rw [cat_app, cat_cons, List.length_append, List.length_append]
          rw [← eL, B_length] at h9; omega
        generalize hA : L.take i ++ t1 :: L.drop i = A at hall hAlen hAo hAf hAc
        obtain ⟨r, hJ, hBr⟩ := joined_go A hAlen A 0 (⟨#[]⟩ : ByteArray) rfl (by show 0 + _ ≤ 1000; omega)
        have hBr' : B r = cat A := by rw [hBr]; rfl
        have hJ' : Ev (fun k => spec_Joined.f k (A.map tb) (⟨#[]⟩ : ByteArray)) r := hJ
        have c1 : ([] : List ByteArray).length + ((L.map tb).take i).length < 8796093022208 := by
          simp only [List.length_nil, List.length_take, List.length_map]; omega
        have c2 : (([] : List ByteArray) ++ (L.map tb).take i).length + [a1].length < 8796093022208 := by
          simp only [List.length_append, List.length_nil, List.length_take, List.length_map, List.length_cons]; omega
        have c3 : ((([] : List ByteArray) ++ (L.map tb).take i) ++ [a1]).length + ((L.map tb).drop i).length < 8796093022208 := by
          simp only [List.length_append, List.length_nil, List.length_take, List.length_drop, List.length_map, List.length_cons]; omega
        have cl : (i : Int) ≤ ((L.map tb).length : Int) := by rw [List.length_map]; omega
        refine Ev.no (by simp) (Ev.no (by omega) (Ev.call rfl (Ev.yes (by omega) (Ev.yes cl (Ev.call rfl (Ev.yes c1 (Ev.call rfl (Ev.call rfl (Ev.yes c2 (Ev.call rfl (Ev.call rfl (Ev.yes c3 (Ev.call rfl ?_)))))))))))))
        rw [hall]
        refine Ev.bind hJ' ?_
        refine Ev.both (fun hbig => ?_) (fun hsmall => ?_)
        · obtain ⟨b, hP, _, hb⟩ := parse_ev r
          have hb0 := hb (by omega)
          subst hb0
          exact Ev.bind hP (Ev.bind ((parse_sig _).1 yI) (Ev.no (by simp) (Ev.now _)))
        · have hW : Ev (fun k => laws_sgWalk.f k r (A.map tb)) true := by
            unfold laws_sgWalk.f
            refine Ev.bind ((parse_sig r).1 ⟨ofL A, (oks_of A).2 hAo, (fitss_of 32 32 32 A).2 hAf, hBr', by rw [B_length]; omega⟩) (Ev.yes rfl ?_)
            exact walk_go A hAlen hAo hAf A 0 r rfl hBr' (by omega)
          exact Ev.bind hW (Ev.now _)
      · have hS : Ev (fun k => spec_Single.f k a1) false := by
          unfold spec_Single.f
          refine Ev.bind H1 (Ev.yes rfl (Ev.is ?_))
          rw [beq_eq_false_iff_ne]
          show ((tlist ts1).length : Int) ≠ 1
          omega
        exact Ev.bind hS (out1 _)
    · have hS : Ev (fun k => spec_Single.f k a1) false := by
        unfold spec_Single.f
        exact Ev.bind H1 (Ev.no (by simp) (Ev.now _))
      exact Ev.bind hS (out1 _)
  · exact Ev.bind H (Ev.no (by simp) (out1 _))

end Go.Proofs.Ythhiijehdpchbaa.Pure
