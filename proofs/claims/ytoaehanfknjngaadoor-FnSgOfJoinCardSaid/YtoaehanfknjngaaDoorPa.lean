import Derived.Test.YtoaehanfknjngaaDoorQ6
import Derived.Test.YtoaehanfknjngaaDoorSpec
namespace Go.Proofs.YtoaehanfknjngaaDoor.Pl
set_option linter.unusedVariables false
set_option linter.unusedSimpArgs false
open Go.RowKit Go.Proofs.YtoaehanfknjngaaDoor.L Go.Proofs.YtoaehanfknjngaaDoor.Q Go.Proofs.YtoaehanfknjngaaDoorW.PrintWords
open Go.Proofs.YtoaehanfknjngaaDoor.Com Go.Proofs.YtoaehanfknjngaaDoor.Tree Go.Proofs.YtoaehanfknjngaaDoor.Sb Go.Proofs.YtoaehanfknjngaaDoor.Dt

mutual
/-- How many values stand in a value. -/
def cnt : S30 → Nat
  | ⟨_, _, _, l⟩ => 1 + cnts l
def cnts : List S30 → Nat
  | [] => 0
  | v :: l => cnt v + cnts l
end
mutual
/-- How many bytes its texts have. -/
def bys : S30 → Nat
  | ⟨_, _, s, l⟩ => s.size + byss l
def byss : List S30 → Nat
  | [] => 0
  | v :: l => bys v + byss l
end
mutual
/-- Its kinds are bytes. -/
def dm : S30 → Prop
  | ⟨a, _, _, l⟩ => (0 ≤ a ∧ a ≤ 255) ∧ dms l
def dms : List S30 → Prop
  | [] => True
  | v :: l => dm v ∧ dms l
end
mutual
/-- The signature of a value, byte by byte. -/
def sg : S30 → List UInt8
  | ⟨f0, _, f2, f3⟩ => if f0 = 97 then 97 :: B f2 else if f0 = 40 then 40 :: (sgs f3 ++ [41]) else if f0 = 123 then 123 :: (sgs f3 ++ [125]) else [UInt8.ofNat f0.toNat]
def sgs : List S30 → List UInt8
  | [] => []
  | v :: l => sg v ++ sgs l
end
/-- No dict of booleans or of signatures begins. -/
def clean : List UInt8 → Bool
  | [] => true
  | a :: l => !(a == 123 && (l.head? == some 98 || l.head? == some 103)) && clean l
mutual
def kc : S30 → Prop
  | ⟨f0, _, f2, f3⟩ => (f0 = 97 → clean (B f2) = true) ∧ kcs f3
def kcs : List S30 → Prop
  | [] => True
  | v :: l => kc v ∧ kcs l
end

theorem cnt_eq (v : S30) : cnt v = 1 + cnts v.f3 := by cases v; rw [cnt]
theorem bys_eq (v : S30) : bys v = v.f2.size + byss v.f3 := by cases v; rw [bys]
theorem dm_eq (v : S30) : dm v = ((0 ≤ v.f0 ∧ v.f0 ≤ 255) ∧ dms v.f3) := by cases v; rw [dm]
theorem sg_eq (v : S30) : sg v = if v.f0 = 97 then 97 :: B v.f2 else if v.f0 = 40 then 40 :: (sgs v.f3 ++ [41]) else if v.f0 = 123 then 123 :: (sgs v.f3 ++ [125]) else [UInt8.ofNat v.f0.toNat] := by cases v; rw [sg]
theorem kc_eq (v : S30) : kc v = ((v.f0 = 97 → clean (B v.f2) = true) ∧ kcs v.f3) := by cases v; rw [kc]
theorem cnts_append : ∀ a b : List S30, cnts (a ++ b) = cnts a + cnts b
  | [], b => by simp [cnts]
  | v :: a, b => by simp only [List.cons_append, cnts, cnts_append a b]; omega
theorem byss_append : ∀ a b : List S30, byss (a ++ b) = byss a + byss b
  | [], b => by simp [byss]
  | v :: a, b => by simp only [List.cons_append, byss, byss_append a b]; omega
theorem sgs_append : ∀ a b : List S30, sgs (a ++ b) = sgs a ++ sgs b
  | [], b => by simp [sgs]
  | v :: a, b => by simp only [List.cons_append, sgs, sgs_append a b, List.append_assoc]
theorem cnts_len : ∀ l : List S30, l.length ≤ cnts l
  | [] => by simp
  | v :: l => by have := cnts_len l; have := cnt_eq v; simp only [List.length_cons, cnts]; omega
theorem cnts_mem : ∀ {l : List S30} {v : S30}, v ∈ l → cnt v ≤ cnts l
  | [], v, h => by simp at h
  | u :: l, v, h => by
    rcases List.mem_cons.1 h with rfl | h
    · simp only [cnts]; omega
    · have := cnts_mem h; simp only [cnts]; omega
theorem byss_mem : ∀ {l : List S30} {v : S30}, v ∈ l → bys v ≤ byss l
  | [], v, h => by simp at h
  | u :: l, v, h => by
    rcases List.mem_cons.1 h with rfl | h
    · simp only [byss]; omega
    · have := byss_mem h; simp only [byss]; omega
theorem dms_mem : ∀ {l : List S30} {v : S30}, dms l → v ∈ l → dm v
  | [], v, _, h => by simp at h
  | u :: l, v, hd, h => by
    rw [dms] at hd
    rcases List.mem_cons.1 h with rfl | h
    · exact hd.1
    · exact dms_mem hd.2 h
theorem kcs_of : ∀ {l : List S30}, (∀ v ∈ l, kc v) → kcs l
  | [], _ => by rw [kcs]; trivial
  | u :: l, h => by rw [kcs]; exact ⟨h u (by simp), kcs_of (fun v hv => h v (by simp [hv]))⟩
theorem kcs_mem : ∀ {l : List S30} {v : S30}, kcs l → v ∈ l → kc v
  | [], v, _, h => by simp at h
  | u :: l, v, hd, h => by
    rw [kcs] at hd
    rcases List.mem_cons.1 h with rfl | h
    · exact hd.1
    · exact kcs_mem hd.2 h
mutual
theorem sg_len : ∀ v : S30, (sg v).length ≤ 2 * cnt v + bys v
  | ⟨a, b, s, l⟩ => by
    have h := sgs_len l
    have e : (B s).length = s.size := B_length s
    simp only [sg, cnt, bys]
    split
    · simp; omega
    · split
      · simp; omega
      · split
        · simp; omega
        · simp; omega
theorem sgs_len : ∀ l : List S30, (sgs l).length ≤ 2 * cnts l + byss l
  | [] => by simp [sgs]
  | v :: l => by
    have h := sg_len v
    have h' := sgs_len l
    simp only [sgs, cnts, byss, List.length_append]; omega
end

theorem sgb_ev (most : Int) : ∀ (N : Nat) (vs : List S30) (b n : Int), cnts vs ≤ N → b ≤ 65536 → n ≤ most → ∃ r, sgb most (N + 1) vs b n = some r ∧ (r = true → b + byss vs ≤ 65536 ∧ n + cnts vs ≤ most + vs.length) := by
  intro N
  induction N with
  | zero =>
    intro vs b n hc hb hn
    have hl := cnts_len vs
    obtain rfl : vs = [] := List.eq_nil_of_length_eq_zero (by omega)
    exact ⟨true, by rw [sgb]; rfl, fun _ => by simp [byss, cnts]; omega⟩
  | succ N ih =>
    intro vs b n hc hb hn
    cases hx : vs.getLast? with
    | none =>
      obtain rfl : vs = [] := by simpa using hx
      exact ⟨true, by rw [sgb]; rfl, fun _ => by simp [byss, cnts]; omega⟩
    | some x =>
      obtain ⟨ys, rfl⟩ := List.getLast?_eq_some_iff.1 hx
      have e1 := cnts_append ys [x]
      have e2 := byss_append ys [x]
      have e3 : cnts [x] = 1 + cnts x.f3 := by simp only [cnts]; have := cnt_eq x; omega
      have e4 : byss [x] = x.f2.size + byss x.f3 := by simp only [byss]; have := bys_eq x; omega
      rw [sgb, hx]
      simp only
      by_cases h1 : 65536 < (x.f2.size : Int) ∨ most < (x.f3.length : Int)
      · exact ⟨false, by rw [if_pos h1], fun h => by cases h⟩
      · rw [if_neg h1]
        by_cases h2 : 65536 < b + x.f2.size ∨ most < n + x.f3.length
        · exact ⟨false, by rw [if_pos h2], fun h => by cases h⟩
        · rw [if_neg h2, List.dropLast_concat]
          have e5 := cnts_append ys x.f3
          have e6 := byss_append ys x.f3
          obtain ⟨r, hr, hk⟩ := ih (ys ++ x.f3) (b + x.f2.size) (n + x.f3.length) (by omega) (by omega) (by omega)
          refine ⟨r, hr, fun h => ?_⟩
          obtain ⟨k1, k2⟩ := hk h
          simp only [List.length_append, List.length_cons, List.length_nil] at k2 ⊢
          omega

theorem bounded_ev (l : List S30) : ∃ r, Ev (fun k => laws_sgBounded.f k l 300) r ∧ (r = true → byss l ≤ 65536 ∧ cnts l ≤ 300) := by
  by_cases h : (300 : Int) < l.length
  · refine ⟨false, ?_, fun h => by cases h⟩
    unfold laws_sgBounded.f
    exact Ev.yes (by omega) (Ev.yes h (Ev.now _))
  · obtain ⟨r, hr, hk⟩ := sgb_ev 300 (cnts l) l 0 l.length (Nat.le_refl _) (by omega) (by omega)
    refine ⟨r, ?_, fun h => by have := hk h; omega⟩
    unfold laws_sgBounded.f
    exact Ev.yes (by omega) (Ev.no h (Ev.of (fun k => sgb_mono 300 k l 0 l.length) hr))

theorem rd_at (xs : List S30) (i : Nat) (h : i < xs.length) : rd_T30 xs (i : Int) = xs[i]'h := by
  unfold rd_T30; simp [h]
theorem rd_drop (xs : List S30) (i : Nat) (h : i < xs.length) : xs.drop i = rd_T30 xs (i : Int) :: xs.drop (i + 1) := by
  rw [rd_at xs i h]; exact List.drop_eq_getElem_cons h
theorem rd_mem (xs : List S30) (i : Nat) (h : i < xs.length) : rd_T30 xs (i : Int) ∈ xs := by
  rw [rd_at xs i h]; exact List.getElem_mem h

theorem loop_ev (g : Nat → Int → Option Bool) (xs : List S30) (P : S30 → Prop) (e : Bool) (hend : Ev (fun k => g k xs.length) e)
    (hstep : ∀ (i : Nat), i < xs.length → ∃ r : Bool, (r = true → P (rd_T30 xs i)) ∧ ∀ r', Ev (fun k => g k ((i : Int) + 1)) r' → Ev (fun k => g k (i : Int)) (if r = true then r' else false)) :
    ∃ r, Ev (fun k => g k 0) r ∧ (r = true → (∀ x ∈ xs, P x) ∧ e = true) := by
  have H : ∀ m i : Nat, i + m = xs.length → ∃ r, Ev (fun k => g k (i : Int)) r ∧ (r = true → (∀ x ∈ xs.drop i, P x) ∧ e = true) := by
    intro m
    induction m with
    | zero =>
      intro i hi
      obtain rfl : i = xs.length := by omega
      exact ⟨e, hend, fun h => ⟨by simp, h⟩⟩
    | succ m ih =>
      intro i hi
      obtain ⟨r', hr', hk'⟩ := ih (i + 1) (by omega)
      obtain ⟨r, hk, hr⟩ := hstep i (by omega)
      refine ⟨_, hr r' (by have e : ((i + 1 : Nat) : Int) = (i : Int) + 1 := by omega
                           rw [e] at hr'; exact hr'), fun h => ?_⟩
      cases r with
      | false => cases h
      | true =>
        obtain ⟨h1, h2⟩ := hk' h
        refine ⟨fun x hx => ?_, h2⟩
        rw [rd_drop xs i (by omega)] at hx
        rcases List.mem_cons.1 hx with rfl | hx
        · exact hk rfl
        · exact h1 x hx
  obtain ⟨r, h1, h2⟩ := H xs.length 0 (by omega)
  exact ⟨r, h1, by simpa using h2⟩

theorem one_num (c : UInt8) : strOfNums [(c.toNat : Int)] = mkb [c] := by
  unfold strOfNums mkb
  simp
theorem dm_byte {v : S30} (h : dm v) : ∃ c : UInt8, v.f0 = (c.toNat : Int) := by
  rw [dm_eq] at h
  refine ⟨UInt8.ofNat v.f0.toNat, ?_⟩
  have : (UInt8.ofNat v.f0.toNat).toNat = v.f0.toNat % 256 := rfl
  rw [this]; omega
theorem mkb_append (a b : List UInt8) : mkb a ++ mkb b = mkb (a ++ b) := B_inj (by rw [B_append]; rfl)
theorem mkb_size (a : List UInt8) : (mkb a).size = a.length := by rw [← B_length]; rfl
theorem mkb_B (s : ByteArray) : mkb (B s) = s := B_inj rfl
theorem lit_mkb (c : UInt8) : (⟨#[c]⟩ : ByteArray) = mkb [c] := rfl

theorem ofNat_byte (c : UInt8) : UInt8.ofNat ((c.toNat : Int)).toNat = c := by simp

theorem sigOf_ev : ∀ (N : Nat) (v : S30), cnt v ≤ N → N ≤ 300 → dm v → bys v ≤ 65536 → Ev (fun k => spec_SigOf.f k v.f0 v.f1 v.f2 v.f3) (mkb (sg v)) := by
  intro N
  induction N with
  | zero => intro v h; have := cnt_eq v; omega
  | succ N ih =>
    intro v hc hN hd hb
    have hcl := cnt_eq v
    have hbl := bys_eq v
    have hlen := cnts_len v.f3
    have hsl := sgs_len v.f3
    have hdd := hd
    rw [dm_eq] at hdd
    obtain ⟨c, hcc⟩ := dm_byte hd
    have hloop : ∀ (x3 acc : List UInt8) (m i : Nat), i + m = v.f3.length → acc.length + (sgs (v.f3.drop i)).length ≤ 70000 → x3.length ≤ 1 →
        Ev (fun k => spec_SigOf.l0 k (mkb x3) (mkb acc) v.f3 (v.f3.length : Int) (i : Int)) (mkb (acc ++ sgs (v.f3.drop i) ++ x3)) := by
      intro x3 acc m
      induction m generalizing acc with
      | zero =>
        intro i hi hl h3
        obtain rfl : i = v.f3.length := by omega
        refine Ev.step (fun k => by rw [spec_SigOf.l0]) ?_
        refine Ev.no (by omega) (Ev.yes (by rw [mkb_size, mkb_size]; omega) ?_)
        rw [mkb_append]
        simp only [List.drop_length, sgs, List.append_nil]
        exact Ev.now _
      | succ m im =>
        intro i hi hl h3
        have hit : i < v.f3.length := by omega
        have hm := rd_mem v.f3 i hit
        have e := rd_drop v.f3 i hit
        have h1 := cnts_mem hm
        have h2 := byss_mem hm
        rw [e, sgs, List.length_append] at hl
        refine Ev.step (fun k => by rw [spec_SigOf.l0]) ?_
        refine Ev.yes (by omega) (Ev.yes (by omega) (Ev.yes (by omega) ?_))
        refine Ev.bind (ih _ (by omega) (by omega) (dms_mem hdd.2 hm) (by omega)) ?_
        refine Ev.yes (by rw [mkb_size, mkb_size]; omega) ?_
        rw [mkb_append, wrap_of (by omega) (by omega)]
        have q := im (acc ++ sg (rd_T30 v.f3 (i : Int))) (i + 1) (by omega) (by rw [List.length_append]; omega) h3
        have ei : ((i + 1 : Nat) : Int) = (i : Int) + 1 := by omega
        rw [ei] at q
        rw [e, sgs, ← List.append_assoc acc]
        exact q
    have hj0 : ∀ (b : Bool), (b = true ↔ v.f0 = 40 ∨ v.f0 = 123) → v.f0 ≠ 97 → Ev (fun k => spec_SigOf.j0 k b v.f0 v.f1 v.f2 v.f3) (mkb (sg v)) := by
      intro b hb' hn
      refine Ev.step (fun k => by rw [spec_SigOf.j0]) ?_
      rw [sg_eq, if_neg hn]
      cases b with
      | false =>
        have h4 : ¬ v.f0 = 40 := fun h => by simpa using hb'.2 (.inl h)
        have h5 : ¬ v.f0 = 123 := fun h => by simpa using hb'.2 (.inr h)
        rw [if_neg h4, if_neg h5]
        refine Ev.no Bool.false_ne_true ?_
        rw [hcc, one_num, ofNat_byte]
        exact Ev.now _
      | true =>
        refine Ev.yes rfl ?_
        have hl := fun x3 hx => hloop x3 [c] v.f3.length 0 (by omega) (by simp; omega) hx
        rcases hb'.1 rfl with h4 | h5
        · rw [if_pos h4]
          refine Ev.no (by omega) ?_
          refine Ev.step (fun k => by rw [spec_SigOf.j1]) ?_
          have := hl [41] (by simp)
          rw [hcc, one_num, lit_mkb]
          have ec : c = 40 := (Spec.byte_eq c 40 (by omega)).1 (by omega)
          subst ec
          simpa using this
        · rw [if_neg (by omega), if_pos h5]
          refine Ev.yes h5 ?_
          refine Ev.step (fun k => by rw [spec_SigOf.j1]) ?_
          have := hl [125] (by simp)
          rw [hcc, one_num, lit_mkb]
          have ec : c = 123 := (Spec.byte_eq c 123 (by omega)).1 (by omega)
          subst ec
          simpa using this
    refine Ev.step (fun k => by rw [spec_SigOf.f]) ?_
    by_cases h97 : v.f0 = 97
    · rw [sg_eq, if_pos h97]
      refine Ev.yes h97 (Ev.yes (by omega) ?_)
      rw [lit_mkb, ← mkb_B v.f2, mkb_append]
      exact Ev.now _
    · refine Ev.no h97 (Ev.both (fun h40 => hj0 _ ?_ h97) (fun h40 => hj0 _ ?_ h97))
      · simp [h40]
      · simp [h40]

theorem sigsOf_ev (l : List S30) (hc : cnts l ≤ 300) (hb : byss l ≤ 65536) (hd : dms l) : Ev (fun k => spec_SigsOf.f k l) (mkb (sgs l)) := by
  have hsl := sgs_len l
  have hlen := cnts_len l
  have H : ∀ (m i : Nat) (acc : List UInt8), i + m = l.length → acc.length + (sgs (l.drop i)).length ≤ 70000 → Ev (fun k => spec_SigsOf.l0 k (mkb acc) l (l.length : Int) (i : Int)) (mkb (acc ++ sgs (l.drop i))) := by
    intro m
    induction m with
    | zero =>
      intro i acc hi hl
      obtain rfl : i = l.length := by omega
      refine Ev.step (fun k => by rw [spec_SigsOf.l0]) ?_
      refine Ev.no (by omega) ?_
      simp only [List.drop_length, sgs, List.append_nil]
      exact Ev.now _
    | succ m im =>
      intro i acc hi hl
      have hit : i < l.length := by omega
      have hm := rd_mem l i hit
      have e := rd_drop l i hit
      have h1 := cnts_mem hm
      have h2 := byss_mem hm
      rw [e, sgs, List.length_append] at hl
      refine Ev.step (fun k => by rw [spec_SigsOf.l0]) ?_
      refine Ev.yes (by omega) (Ev.yes (by omega) (Ev.yes (by omega) ?_))
      refine Ev.bind (sigOf_ev 300 _ (by omega) (by omega) (dms_mem hd hm) (by omega)) ?_
      refine Ev.yes (by rw [mkb_size, mkb_size]; omega) ?_
      rw [mkb_append, wrap_of (by omega) (by omega)]
      have q := im (i + 1) (acc ++ sg (rd_T30 l (i : Int))) (by omega) (by rw [List.length_append]; omega)
      have ei : ((i + 1 : Nat) : Int) = (i : Int) + 1 := by omega
      rw [ei] at q
      rw [e, sgs, ← List.append_assoc acc]
      exact q
  have := H l.length 0 [] (by omega) (by simp; omega)
  unfold spec_SigsOf.f
  have e : (⟨#[]⟩ : ByteArray) = mkb [] := rfl
  rw [e]
  simpa using this

theorem keys_loop : ∀ (N : Nat) (v : S30), cnt v ≤ N → N ≤ 300 → dm v → bys v ≤ 65536 → ∃ r, Ev (fun k => laws_sgKeys.f k v.f0 v.f1 v.f2 v.f3) r ∧ (r = true → kc v) := by
  intro N
  induction N with
  | zero => intro v h; have := cnt_eq v; omega
  | succ N ih =>
    intro v hc hN hd hb
    have hcl := cnt_eq v
    have hbl := bys_eq v
    have hlen := cnts_len v.f3
    have hdd := hd
    rw [dm_eq] at hdd
    -- the kids
    obtain ⟨r1, hr1, hk1⟩ := loop_ev (fun k i => laws_sgKeys.l1 k v.f3 (v.f3.length : Int) i) v.f3 kc true (by
        refine Ev.step (fun k => by rw [laws_sgKeys.l1]) ?_
        exact Ev.no (by omega) (Ev.now _)) (by
      intro i hi
      have hm := rd_mem v.f3 i hi
      have h1 := cnts_mem hm
      have h2 := byss_mem hm
      obtain ⟨r, hr, hk⟩ := ih _ (by omega) (by omega) (dms_mem hdd.2 hm) (by omega)
      refine ⟨r, hk, fun r' hr' => ?_⟩
      refine Ev.step (fun k => by rw [laws_sgKeys.l1]) ?_
      refine Ev.yes (by omega) (Ev.yes (by omega) (Ev.yes (by omega) (Ev.bind hr ?_)))
      rw [wrap_of (by omega) (by omega)]
      cases r with
      | true => exact Ev.yes rfl hr'
      | false => exact Ev.no Bool.false_ne_true (Ev.now _))
    have hj1 : ∀ i : Int, Ev (fun k => laws_sgKeys.j1 k i false v.f0 v.f1 v.f2 v.f3) r1 := by
      intro i
      refine Ev.step (fun k => by rw [laws_sgKeys.j1]) ?_
      exact Ev.no Bool.false_ne_true hr1
    by_cases h97 : v.f0 = 97
    · have H : ∀ (m i : Nat), i + m = v.f2.size → ∃ r, Ev (fun k => laws_sgKeys.l0 k (i : Int) v.f0 v.f1 v.f2 v.f3) r ∧ (r = true → clean ((B v.f2).drop i) = true ∧ r1 = true) := by
        intro m
        induction m with
        | zero =>
          intro i hi
          refine ⟨r1, ?_, fun h => ⟨by rw [List.drop_of_length_le (by rw [B_length]; omega)]; rfl, h⟩⟩
          refine Ev.step (fun k => by rw [laws_sgKeys.l0]) ?_
          refine Ev.yes h97 ?_
          rw [decide_eq_false (by rw [wrap_of (by omega) (by omega)]; omega)]
          exact hj1 _
        | succ m im =>
          intro i hi
          have hil : i < (B v.f2).length := by rw [B_length]; omega
          have ed := List.drop_eq_getElem_cons hil
          by_cases hlast : i + 1 < v.f2.size
          · have hil2 : i + 1 < (B v.f2).length := by rw [B_length]; omega
            have ed2 := List.drop_eq_getElem_cons hil2
            have b0 := bt_get v.f2 i hil
            have b1 := bt_get v.f2 (i + 1) hil2
            have ei : ((i + 1 : Nat) : Int) = (i : Int) + 1 := by omega
            rw [ei] at b1
            obtain ⟨r, hr, hk⟩ := im (i + 1) (by omega)
            rw [ei] at hr
            generalize (B v.f2)[i] = x at ed b0
            generalize (B v.f2)[i + 1] = y at ed2 b1
            have hstep : ∀ r2, (Ev (fun k => laws_sgKeys.j1 k (i : Int) true v.f0 v.f1 v.f2 v.f3) r2) → Ev (fun k => laws_sgKeys.l0 k (i : Int) v.f0 v.f1 v.f2 v.f3) r2 := by
              intro r2 h
              refine Ev.step (fun k => by rw [laws_sgKeys.l0]) ?_
              refine Ev.yes h97 ?_
              rw [decide_eq_true (by rw [wrap_of (by omega) (by omega)]; omega)]
              exact h
            by_cases hx : x = 123
            · have hbx : bt v.f2 (i : Int) = 123 := by rw [b0, hx]; rfl
              by_cases hy : y = 98 ∨ y = 103
              · refine ⟨false, hstep _ ?_, fun h => by cases h⟩
                refine Ev.step (fun k => by rw [laws_sgKeys.j1]) ?_
                refine Ev.yes rfl (Ev.yes (by omega) (Ev.yes (by omega) (Ev.yes hbx ?_)))
                rw [wrap_of (by omega) (by omega)]
                refine Ev.yes (by omega) (Ev.yes (by omega) ?_)
                rcases hy with rfl | rfl
                · exact Ev.yes (by rw [b1]; rfl) (Ev.now _)
                · exact Ev.no (by rw [b1]; decide) (Ev.yes (by rw [b1]; rfl) (Ev.now _))
              · refine ⟨r, hstep _ ?_, fun h => ?_⟩
                · refine Ev.step (fun k => by rw [laws_sgKeys.j1]) ?_
                  refine Ev.yes rfl (Ev.yes (by omega) (Ev.yes (by omega) (Ev.yes hbx ?_)))
                  rw [wrap_of (by omega) (by omega)]
                  refine Ev.yes (by omega) (Ev.yes (by omega) ?_)
                  refine Ev.no (fun h => hy (.inl ((Spec.byte_eq y 98 (by omega)).1 (by rw [← b1]; exact h)))) (Ev.no (fun h => hy (.inr ((Spec.byte_eq y 103 (by omega)).1 (by rw [← b1]; exact h)))) hr)
                · obtain ⟨k1, k2⟩ := hk h
                  refine ⟨?_, k2⟩
                  rw [ed, clean, k1, ed2]
                  simp only [List.head?_cons, Bool.and_true, Bool.not_eq_true', Bool.and_eq_false_iff, Bool.or_eq_false_iff, beq_eq_false_iff_ne, ne_eq, Option.some.injEq]
                  exact .inr ⟨fun h => hy (.inl h), fun h => hy (.inr h)⟩
            · refine ⟨r, hstep _ ?_, fun h => ?_⟩
              · refine Ev.step (fun k => by rw [laws_sgKeys.j1]) ?_
                refine Ev.yes rfl (Ev.yes (by omega) (Ev.yes (by omega) (Ev.no (fun h => hx ((Spec.byte_eq x 123 (by omega)).1 (by rw [← b0]; exact h))) ?_)))
                rw [wrap_of (by omega) (by omega)]
                exact hr
              · obtain ⟨k1, k2⟩ := hk h
                refine ⟨?_, k2⟩
                rw [ed, clean, k1, (beq_eq_false_iff_ne (a := x) (b := 123)).2 hx]
                rfl
          · refine ⟨r1, ?_, fun h => ⟨?_, h⟩⟩
            · refine Ev.step (fun k => by rw [laws_sgKeys.l0]) ?_
              refine Ev.yes h97 ?_
              rw [decide_eq_false (by rw [wrap_of (by omega) (by omega)]; omega)]
              exact hj1 _
            · rw [ed, List.drop_of_length_le (by rw [B_length]; omega)]
              simp [clean]
      obtain ⟨r, hr, hk⟩ := H v.f2.size 0 (by omega)
      refine ⟨r, ?_, fun h => ?_⟩
      · refine Ev.step (fun k => by rw [laws_sgKeys.f]) ?_
        exact hr
      · obtain ⟨k1, k2⟩ := hk h
        rw [kc_eq]
        exact ⟨fun _ => by simpa using k1, kcs_of (hk1 k2).1⟩
    · refine ⟨r1, ?_, fun h => ?_⟩
      · refine Ev.step (fun k => by rw [laws_sgKeys.f]) ?_
        refine Ev.step (fun k => by rw [laws_sgKeys.l0]) ?_
        exact Ev.no h97 (hj1 _)
      · rw [kc_eq]
        exact ⟨fun h => absurd h h97, kcs_of (hk1 h).1⟩
end Go.Proofs.YtoaehanfknjngaaDoor.Pl
