import Derived.Test.YtoaehanfknjngaaDoorTree
import Derived.Test.YtoaehanfknjngaaDoorQ5
namespace Go.Proofs.YtoaehanfknjngaaDoor.Spec
set_option linter.unusedVariables false
set_option linter.unusedSimpArgs false
open Go.RowKit Go.Proofs.YtoaehanfknjngaaDoor.Q Go.Proofs.YtoaehanfknjngaaDoorW.PrintWords Go.Proofs.YtoaehanfknjngaaDoor.Com Go.Proofs.YtoaehanfknjngaaDoor.Tree

theorem byte_eq (c : UInt8) (n : Nat) (h : n < 256) : ((c.toNat : Int) = (n : Int)) ↔ c = UInt8.ofNat n := by
  constructor
  · intro e
    apply UInt8.toNat_inj.1
    rw [UInt8.toNat_ofNat']
    omega
  · rintro rfl
    rw [UInt8.toNat_ofNat']
    omega

theorem basic_eq (c : UInt8) : spec_Basic.f (c.toNat : Int) = some (basic c) := by
  have H : ∀ n : Fin 256, spec_Basic.f (n.val : Int) = some (basic (UInt8.ofNat n.val)) := by decide +kernel
  have := H ⟨c.toNat, c.toNat_lt⟩
  simpa using this

/-- How many bytes are read. -/
def clen (o : Option (T × List UInt8)) : Int := match o with
  | none => 0
  | some (t, _) => (txt t).length

/-- Where a bracket's loop ends. -/
def mlen (i : Nat) (o : Option (Ts × List UInt8)) : Int := match o with
  | none => 0
  | some (ts, _) => if ne ts = true ∨ 1 < i then (i + (txts ts).length + 1 : Nat) else 0

theorem mlen_nil (i : Nat) (v : List UInt8) : mlen i (some (.nil, v)) = if 1 < i then ((i + 1 : Nat) : Int) else 0 := by simp [mlen, ne, txts]
theorem mlen_more (i : Nat) (t : T) (ts : Ts) (v : List UInt8) : mlen i (some (.more t ts, v)) = ((i + (txt t).length + (txts ts).length + 1 : Nat) : Int) := by
  simp [mlen, ne, txts]; omega
theorem mlen_far (i : Nat) (h : 1 < i) (ts : Ts) (v : List UInt8) : mlen i (some (ts, v)) = ((i + (txts ts).length + 1 : Nat) : Int) := by simp [mlen, h]

theorem comp_ev (f : Nat) :
    (∀ (s : ByteArray) (x y z : Int), 2 * s.size + 1 ≤ f → s.size ≤ 4294967296 → -1 ≤ x → x ≤ 1000 → -1 ≤ y → y ≤ 1000 → -1 ≤ z → z ≤ 1000 →
      Ev (fun k => spec_Complete.f k s x y z) (clen (parse f (B s) x y z))) ∧
    (∀ (s : ByteArray) (i : Nat) (x y z : Int), i ≤ s.size → 1 ≤ i → 2 * (s.size - i) + 2 ≤ f → s.size ≤ 4294967296 → -1 ≤ x → x ≤ 1000 → 0 ≤ y → y ≤ 1000 → -1 ≤ z → z ≤ 1000 →
      Ev (fun k => spec_Complete.l0 k s x y z i) (mlen i (many f ((B s).drop i) x (y - 1) z))) := by
  induction f with
  | zero => exact ⟨fun s x y z h => by omega, fun s i x y z h h1 h2 => by omega⟩
  | succ f ih =>
    obtain ⟨ih1, ih2⟩ := ih
    refine ⟨fun s x y z hf hs hx hx' hy hy' hz hz' => ?_, fun s i x y z hi hi1 hf hs hx hx' hy hy' hz hz' => ?_⟩
    · have quick : Ev (fun k => spec_Complete.j0 k s x y z true) 0 := by
        refine Ev.step (fun k => by simp only [spec_Complete.j0]; rfl) ?_
        exact Ev.yes trivial (Ev.now _)
      refine Ev.step (fun k => by simp only [spec_Complete.f]; rfl) ?_
      cases hl : B s with
      | nil => exact Ev.yes (B_nil.2 hl) (by rw [parse]; exact quick)
      | cons c r =>
        refine Ev.no (fun h => by rw [B_nil.1 h] at hl; simp at hl) ?_
        obtain ⟨hb0, hsz, hd1⟩ := bt_drop (s := s) (i := 0) (c := c) (t := r) hl
        have hlen : r.length + 1 = s.size := by rw [← B_length, hl]; rfl
        replace hb0 : bt s 0 = (c.toNat : Int) := hb0
        rw [parse]
        by_cases hr : room x y z = true
        · obtain ⟨r1, r2, r3⟩ : 0 ≤ x ∧ 0 ≤ y ∧ 0 ≤ z := by simpa [room] using hr
          rw [if_neg (by simp [hr])]
          refine Ev.no (by omega) (Ev.no (by omega) ?_)
          rw [decide_eq_false (by omega : ¬ z < 0)]
          refine Ev.step (fun k => by simp only [spec_Complete.j0]; rfl) ?_
          refine Ev.no (by decide) (Ev.yes (by omega) ?_)
          rw [hb0]
          refine Ev.call (basic_eq c) ?_
          by_cases hb : basic c = true
          · rw [if_pos (by simp [hb])]
            refine Ev.yes hb ?_
            refine Ev.step (fun k => by simp only [spec_Complete.j1]; rfl) ?_
            exact Ev.yes trivial (Ev.now _)
          · refine Ev.no hb ?_
            refine Ev.step (fun k => by simp only [spec_Complete.j1]; rfl) ?_
            by_cases h118 : c = 118
            · subst h118
              rw [if_pos (by decide)]
              exact Ev.yes (by decide) (Ev.now _)
            have n118 : ¬ (c.toNat : Int) = 118 := fun h => h118 ((byte_eq c 118 (by omega)).1 h)
            have hbv : ¬ (basic c || c == 118) = true := by simp [hb, h118]
            rw [if_neg hbv]
            refine Ev.no (by simpa using n118) (Ev.yes (by omega) ?_)
            rw [hb0]
            by_cases h97 : c = 97
            · subst h97
              rw [if_pos rfl]
              refine Ev.yes (by decide) ?_
              cases r with
              | nil =>
                simp only [List.length_nil] at hlen
                refine Ev.no (by omega) ?_
                rw [if_neg (show ¬ ([] : List UInt8).head? = some 123 by simp)]
                refine Ev.step (fun k => by simp only [spec_Complete.j2]; rfl) ?_
                refine Ev.no (by decide) (Ev.yes (by omega) ?_)
                rw [hb0]
                refine Ev.yes (by decide) (Ev.yes (by omega) ?_)
                rw [wrap_of (a := x - 1) (by omega) (by omega)]
                have ihx := ih1 (s.extract 1 s.size) (x - 1) y z (by rw [ByteArray.size_extract]; omega) (by rw [ByteArray.size_extract]; omega) (by omega) (by omega) (by omega) (by omega) (by omega) (by omega)
                have e : parse f (B (s.extract 1 s.size)) (x - 1) y z = none := by
                  rw [B_from, hl]; simp only [List.drop_succ_cons, List.drop_zero]; cases f <;> rfl
                have e' : parse f [] (x - 1) y z = none := by cases f <;> rfl
                rw [e] at ihx
                rw [e']
                refine Ev.bind ihx ?_
                exact Ev.no (by decide) (Ev.now _)
              | cons c2 r2 =>
                simp only [List.length_cons] at hlen
                obtain ⟨hb1, hsz1, hd2⟩ := bt_drop (s := s) (i := 1) (c := c2) (t := r2) (by rw [hl]; rfl)
                replace hb1 : bt s 1 = (c2.toNat : Int) := hb1
                refine Ev.yes (by omega) (Ev.yes (by omega) ?_)
                rw [hb1]
                refine Ev.step (fun k => by simp only [spec_Complete.j2]; rfl) ?_
                by_cases h123 : c2 = 123
                · subst h123
                  rw [if_pos (show (123 :: r2).head? = some 123 from rfl)]
                  simp only [List.tail_cons]
                  refine Ev.yes (by decide) ?_
                  have quick3 : Ev (fun k => spec_Complete.j3 k s x y z true) 0 := by
                    refine Ev.step (fun k => by simp only [spec_Complete.j3]; rfl) ?_
                    exact Ev.yes trivial (Ev.now _)
                  cases r2 with
                  | nil =>
                    simp only [List.length_nil] at hlen
                    exact Ev.yes (by omega) quick3
                  | cons k3 r3 =>
                    simp only [List.length_cons] at hlen
                    obtain ⟨hb2, hsz2, hd3⟩ := bt_drop (s := s) (i := 2) (c := k3) (t := r3) (by rw [hl]; rfl)
                    replace hb2 : bt s 2 = (k3.toNat : Int) := hb2
                    replace hd3 : (B s).drop 3 = r3 := hd3
                    by_cases h4 : s.size < 4
                    · have e3 : r3 = [] := by apply List.eq_nil_of_length_eq_zero; omega
                      subst e3
                      have e' : parse f [] (x - 1) y (z - 1) = none := by cases f <;> rfl
                      simp only [e']
                      refine Ev.yes (by omega) ?_
                      by_cases hk : basic k3 = true
                      · rw [if_pos hk]; exact quick3
                      · rw [if_neg hk]; exact quick3
                    refine Ev.no (by omega) (Ev.yes (by omega) ?_)
                    rw [hb2]
                    refine Ev.call (basic_eq k3) ?_
                    dsimp only
                    by_cases hk : basic k3 = true
                    · rw [if_pos hk]
                      rw [hk]
                      refine Ev.step (fun k => by simp only [spec_Complete.j3]; rfl) ?_
                      refine Ev.no (by decide) (Ev.yes (by omega) ?_)
                      rw [wrap_of (a := x - 1) (by omega) (by omega), wrap_of (a := z - 1) (by omega) (by omega)]
                      have ihx := ih1 (s.extract 3 s.size) (x - 1) y (z - 1) (by rw [ByteArray.size_extract]; omega) (by rw [ByteArray.size_extract]; omega) (by omega) (by omega) (by omega) (by omega) (by omega) (by omega)
                      rw [B_from, hd3] at ihx
                      refine Ev.bind ihx ?_
                      cases hp : parse f r3 (x - 1) y (z - 1) with
                      | none => exact Ev.yes rfl (Ev.now _)
                      | some tu =>
                        obtain ⟨t, u⟩ := tu
                        obtain ⟨o, ft, e⟩ := (parse_is f).1 _ _ _ _ _ _ hp
                        have hpos := txt_pos t
                        simp only [clen]
                        have hlen2 : (txt t).length + u.length = r3.length := by rw [e]; simp
                        refine Ev.no (by omega) ?_
                        have hsmall : (txt t).length ≤ 4294967296 := by omega
                        have w40 : -9223372036854775808 ≤ ((txt t).length : Int) + 4 := by omega
                        have w41 : ((txt t).length : Int) + 4 ≤ 9223372036854775807 := by omega
                        have w30 : -9223372036854775808 ≤ ((txt t).length : Int) + 3 := by omega
                        have w31 : ((txt t).length : Int) + 3 ≤ 9223372036854775807 := by omega
                        have w4 := wrap_of w40 w41
                        have w3 := wrap_of w30 w31
                        simp only [w4, w3]
                        clear w4 w3 w40 w41 w30 w31
                        cases u with
                        | nil =>
                          rw [if_neg (show ¬ ([] : List UInt8).head? = some 125 by simp)]
                          simp only [List.length_nil] at hlen2
                          dsimp only
                          refine Ev.yes ?_ ?_
                          · omega
                          · exact Ev.now _
                        | cons c5 u5 =>
                          simp only [List.length_cons] at hlen2
                          have hd5 : (B s).drop ((txt t).length + 3) = c5 :: u5 := by
                            have h5 : ((B s).drop 3).drop (txt t).length = (B s).drop (3 + (txt t).length) := List.drop_drop
                            rw [hd3, e, List.drop_left] at h5
                            rw [h5]
                            congr 1
                            omega
                          obtain ⟨hb5, hs5, _⟩ := bt_drop hd5
                          refine Ev.no (by omega) (Ev.yes (by omega) (Ev.yes (by omega) ?_))
                          have hb5' : bt s ((txt t).length + 3 : Int) = (c5.toNat : Int) := hb5
                          rw [hb5']
                          by_cases h125 : c5 = 125
                          · subst h125
                            rw [if_pos (show (125 :: u5).head? = some 125 from rfl)]
                            refine Ev.yes (by decide) (Ev.is ?_)
                            simp only [txt, List.length_cons, List.length_append, List.length_nil]; omega
                          · rw [if_neg (show ¬ (c5 :: u5).head? = some 125 by simpa using h125)]
                            exact Ev.no (fun h => h125 ((byte_eq c5 125 (by omega)).1 h)) (Ev.now _)
                    · rw [if_neg hk]
                      have hk' : basic k3 = false := by simpa using hk
                      rw [hk']
                      exact quick3
                · have n123 : ¬ (c2.toNat : Int) = 123 := fun h => h123 ((byte_eq c2 123 (by omega)).1 h)
                  rw [if_neg (show ¬ (c2 :: r2).head? = some 123 by simpa using h123)]
                  refine Ev.no (by simpa using n123) (Ev.yes (by omega) ?_)
                  rw [hb0]
                  refine Ev.yes (by decide) (Ev.yes (by omega) ?_)
                  rw [wrap_of (a := x - 1) (by omega) (by omega)]
                  have ihx := ih1 (s.extract 1 s.size) (x - 1) y z (by rw [ByteArray.size_extract]; omega) (by rw [ByteArray.size_extract]; omega) (by omega) (by omega) (by omega) (by omega) (by omega) (by omega)
                  rw [B_from, hl] at ihx
                  simp only [List.drop_succ_cons, List.drop_zero] at ihx
                  refine Ev.bind ihx ?_
                  cases hp : parse f (c2 :: r2) (x - 1) y z with
                  | none => exact Ev.no (by decide) (Ev.now _)
                  | some tu =>
                    obtain ⟨t, u⟩ := tu
                    obtain ⟨o, ft, e⟩ := (parse_is f).1 _ _ _ _ _ _ hp
                    have hpos := txt_pos t
                    have hlen2 : (txt t).length + u.length = r2.length + 1 := by rw [← List.length_append, ← e]; rfl
                    simp only [clen]
                    refine Ev.yes (by omega) (Ev.is ?_)
                    rw [wrap_of (by omega) (by omega)]
                    simp [txt]
            · have n97 : ¬ (c.toNat : Int) = 97 := fun h => h97 ((byte_eq c 97 (by omega)).1 h)
              rw [if_neg h97]
              refine Ev.no n97 ?_
              refine Ev.step (fun k => by simp only [spec_Complete.j2]; rfl) ?_
              refine Ev.no (by decide) (Ev.yes (by omega) ?_)
              rw [hb0]
              refine Ev.no n97 ?_
              by_cases h40 : c = 40
              · subst h40
                rw [if_pos rfl]
                refine Ev.yes (by decide) ?_
                have ihx := ih2 s 1 x y z (by omega) (by omega) (by omega) hs hx hx' (by omega) hy' hz hz'
                rw [hd1] at ihx
                cases hp : many f r x (y - 1) z with
                | none => rw [hp] at ihx; exact ihx
                | some tu =>
                  obtain ⟨ts, u⟩ := tu
                  rw [hp] at ihx
                  simp only [mlen] at ihx
                  by_cases hne : ne ts = true
                  · rw [if_pos (.inl hne)] at ihx
                    simp only [if_pos hne, clen]
                    have : ((txt (.s ts)).length : Int) = ((1 + (txts ts).length + 1 : Nat) : Int) := by simp [txt]; omega
                    rw [this]; exact ihx
                  · rw [if_neg (by simp [hne])] at ihx
                    simp only [if_neg hne, clen]
                    exact ihx
              · have n40 : ¬ (c.toNat : Int) = 40 := fun h => h40 ((byte_eq c 40 (by omega)).1 h)
                rw [if_neg h40]
                exact Ev.no n40 (Ev.now _)
        · have hr' : room x y z = false := by simpa using hr
          rw [if_pos hr']
          refine Ev.both (fun _ => quick) (fun h1 => Ev.both (fun _ => quick) (fun h2 => ?_))
          have : z < 0 := by
            simp only [room, Bool.and_eq_false_iff, decide_eq_false_iff_not] at hr'
            omega
          rw [decide_eq_true this]; exact quick
    · refine Ev.step (fun k => by simp only [spec_Complete.l0]; rfl) ?_
      rw [many]
      cases hl : (B s).drop i with
      | nil =>
        have hz0 := drop_end hl
        rw [if_neg (show ¬ ([] : List UInt8).head? = some 41 by simp)]
        have e' : parse f [] x (y - 1) z = none := by cases f <;> rfl
        simp only [e']
        refine Ev.no (by omega) ?_
        refine Ev.step (fun k => by simp only [spec_Complete.j5]; rfl) ?_
        refine Ev.no (by decide) ?_
        exact Ev.both (fun _ => Ev.no (by omega) (Ev.now _)) (fun _ => Ev.now _)
      | cons c r =>
        obtain ⟨hb, hi2, hd⟩ := bt_drop hl
        have hlen := drop_size hl
        refine Ev.yes (by omega) (Ev.yes (by omega) ?_)
        rw [hb]
        refine Ev.step (fun k => by simp only [spec_Complete.j5]; rfl) ?_
        by_cases h41 : c = 41
        · subst h41
          rw [if_pos (show (41 :: r).head? = some 41 from rfl)]
          refine Ev.no (by decide) ?_
          rw [mlen_nil]
          by_cases hi3 : 1 < i
          · rw [if_pos hi3]
            refine Ev.yes (by omega) (Ev.yes (by omega) (Ev.is ?_))
            rw [wrap_of (by omega) (by omega)]; simp
          · rw [if_neg hi3]
            exact Ev.no (by omega) (Ev.now _)
        · have n41 : ¬ (c.toNat : Int) = 41 := fun h => h41 ((byte_eq c 41 (by omega)).1 h)
          rw [if_neg (show ¬ (c :: r).head? = some 41 by simpa using h41)]
          refine Ev.yes (by simpa using n41) (Ev.yes (by omega) (Ev.yes (by omega) ?_))
          rw [wrap_of (a := y - 1) (by omega) (by omega)]
          have ihx := ih1 (s.extract i s.size) x (y - 1) z (by rw [ByteArray.size_extract]; omega) (by rw [ByteArray.size_extract]; omega) (by omega) (by omega) (by omega) (by omega) (by omega) (by omega)
          rw [B_from, hl] at ihx
          have ei : ((i : Int)).toNat = i := Int.toNat_natCast i
          rw [ei]
          refine Ev.bind ihx ?_
          cases hp : parse f (c :: r) x (y - 1) z with
          | none => exact Ev.yes rfl (Ev.now _)
          | some tu =>
            obtain ⟨t, u⟩ := tu
            obtain ⟨o, ft, e⟩ := (parse_is f).1 _ _ _ _ _ _ hp
            have hpos := txt_pos t
            have hlen2 : (txt t).length + u.length = r.length + 1 := by rw [← List.length_append, ← e]; rfl
            have hd5 : (B s).drop (i + (txt t).length) = u := by
              rw [← List.drop_drop, hl, e, List.drop_left]
            simp only [clen]
            refine Ev.no (by omega) ?_
            rw [wrap_of (by omega) (by omega)]
            have ihy := ih2 s (i + (txt t).length) x y z (by omega) (by omega) (by omega) hs hx hx' hy hy' hz hz'
            rw [hd5] at ihy
            have ec : ((i : Int) + ((txt t).length : Int)) = ((i + (txt t).length : Nat) : Int) := by omega
            rw [ec]
            cases hm : many f u x (y - 1) z with
            | none => rw [hm] at ihy; exact ihy
            | some tv =>
              obtain ⟨ts, v⟩ := tv
              rw [hm] at ihy
              rw [mlen_far _ (by omega)] at ihy
              rw [mlen_more]
              exact ihy

theorem comp32 (s : ByteArray) (hs : s.size ≤ 255) : Ev (fun k => spec_complete.f k s) (clen (parse (2 * s.size + 1) (B s) 32 32 32)) := by
  unfold spec_complete.f
  exact Ev.bind ((comp_ev (2 * s.size + 1)).1 s 32 32 32 (by omega) (by omega) (by omega) (by omega) (by omega) (by omega) (by omega) (by omega)) (Ev.now _)

theorem types_loop (n : Nat) : ∀ (s : ByteArray) (acc : List ByteArray), s.size ≤ n → n ≤ 255 → acc.length + s.size ≤ 1000 →
    Ev (fun k => spec_Types.l0 k s acc) (match all n (B s) with | none => ([], false) | some ts => (acc ++ tlist ts, true)) := by
  induction n with
  | zero =>
    intro s acc h1 h2 h3
    have hl : B s = [] := List.eq_nil_of_length_eq_zero (by rw [B_length]; omega)
    refine Ev.step (fun k => by simp only [spec_Types.l0]; rfl) ?_
    rw [hl]
    refine Ev.yes (B_nil.2 hl) (Ev.is ?_)
    simp [all_nil, tlist]
  | succ n ih =>
    intro s acc h1 h2 h3
    refine Ev.step (fun k => by simp only [spec_Types.l0]; rfl) ?_
    cases hl : B s with
    | nil =>
      refine Ev.yes (B_nil.2 hl) (Ev.is ?_)
      simp [all_nil, tlist]
    | cons c r =>
      refine Ev.no (fun h => by rw [B_nil.1 h] at hl; simp at hl) ?_
      have hlen : (c :: r).length = s.size := by rw [← hl, B_length]
      have hc := comp32 s (by omega)
      rw [hl] at hc
      refine Ev.bind hc ?_
      rw [all, if_neg (by simp), hlen]
      cases hp : parse (2 * s.size + 1) (c :: r) 32 32 32 with
      | none => exact Ev.yes rfl (Ev.now _)
      | some tu =>
        obtain ⟨t, u⟩ := tu
        obtain ⟨o, ft, e⟩ := (parse_is _).1 _ _ _ _ _ _ hp
        have hpos := txt_pos t
        have hlen2 : (txt t).length + u.length = s.size := by rw [← hlen, e, List.length_append]
        dsimp only [clen]
        refine Ev.no (by omega) (Ev.yes (by omega) (Ev.yes (by omega) (Ev.yes (by omega) ?_)))
        have ei : (((txt t).length : Nat) : Int).toNat = (txt t).length := Int.toNat_natCast _
        rw [ei]
        have hB : B (s.extract (txt t).length s.size) = u := by rw [B_from, hl, e, List.drop_left]
        have hT : s.extract 0 (txt t).length = ⟨(txt t).toArray⟩ := by
          apply B_inj; rw [B_to, hl, e, List.take_left]; rfl
        have hsz : (s.extract (txt t).length s.size).size = u.length := by rw [← B_length, hB]
        have ihx := ih (s.extract (txt t).length s.size) (acc ++ [s.extract 0 (txt t).length]) (by omega) (by omega) (by simp only [List.length_append, List.length_singleton]; omega)
        rw [hB] at ihx
        cases ha : all n u with
        | none => rw [ha] at ihx; exact ihx
        | some ts =>
          rw [ha] at ihx
          rw [hT] at ihx ⊢
          simpa [tlist] using ihx

/-- What the reference's Types answers. -/
theorem types_ev (s : ByteArray) : (∃ ts, oks ts = true ∧ fitss ts 32 32 32 = true ∧ B s = txts ts ∧ s.size ≤ 255 ∧ Ev (fun k => spec_Types.f k s) (tlist ts, true)) ∨
    (¬ Sig (B s) ∧ Ev (fun k => spec_Types.f k s) (([] : List ByteArray), false)) := by
  unfold spec_Types.f
  by_cases h : (s.size : Int) > 255
  · refine .inr ⟨?_, Ev.yes h (Ev.now _)⟩
    rintro ⟨ts, _, _, _, hl⟩
    rw [B_length] at hl; omega
  · have hs : s.size ≤ 255 := by omega
    have H := types_loop s.size s [] (Nat.le_refl _) hs (by simp; omega)
    cases ha : all s.size (B s) with
    | none =>
      rw [ha] at H
      refine .inr ⟨?_, Ev.no h H⟩
      intro hS
      rw [sig_all _ (by rw [B_length]; exact hs), B_length] at hS
      obtain ⟨ts, e⟩ := hS
      rw [e] at ha; simp at ha
    | some ts =>
      rw [ha] at H
      obtain ⟨o, ft, e⟩ := all_is _ _ _ ha
      exact .inl ⟨ts, o, ft, e, hs, Ev.no h (by simpa using H)⟩
end Go.Proofs.YtoaehanfknjngaaDoor.Spec
