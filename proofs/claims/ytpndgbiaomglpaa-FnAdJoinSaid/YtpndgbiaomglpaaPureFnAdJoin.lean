import Derived.Test.YtpndgbiaomglpaaS1
import Derived.Test.YtpndgbiaomglpaaAd
namespace Go.Proofs.Ytpndgbiaomglpaa.Pure
set_option linter.unusedVariables false
set_option linter.unusedSimpArgs false
open Go.RowKit Go.Proofs.Ytpndgbiaomglpaa.Ext Go.Proofs.Ytpndgbiaomglpaa.E Go.Proofs.Ytpndgbiaomglpaa.S Go.Proofs.YtpndgbiaomglpaaW.PrintWords Go.Proofs.YtpndgbiaomglpaaW.PrintLast Go.Proofs.Ytpndgbiaomglpaa.Com Go.Proofs.Ytpndgbiaomglpaa.Ad

/-- Is a byte escaped? -/
def ns (c : UInt8) : Bool := match dbus_needsEscape.f 2 (c.toNat : Int) with
  | some b => b
  | none => false
/-- A hexadecimal digit. -/
def hd (n : Int) : Int := match dbus_hexchar.f n with
  | some b => b
  | none => 0
def es (c : UInt8) : List Int := if ns c = true then [37, hd ((c.toNat : Int) / 16), hd (Go.bits .and .u8 (c.toNat : Int) 15)] else [(c.toNat : Int)]

theorem ns_ev (c : UInt8) : Ev (fun k => dbus_needsEscape.f k (c.toNat : Int)) (ns c) := by
  have H : ∀ n : Fin 256, dbus_needsEscape.f 2 (n.val : Int) = some (ns (UInt8.ofNat n.val)) := by decide +kernel
  have := H ⟨c.toNat, c.toNat_lt⟩
  exact Ev.of (dbus_needsEscape.mono _) (k := 2) (by simpa using this)
theorem hd_is (c : UInt8) : dbus_hexchar.f ((c.toNat : Int) / 16) = some (hd ((c.toNat : Int) / 16)) ∧ dbus_hexchar.f (Go.bits .and .u8 (c.toNat : Int) 15) = some (hd (Go.bits .and .u8 (c.toNat : Int) 15)) := by
  have H : ∀ n : Fin 256, dbus_hexchar.f ((n.val : Int) / 16) = some (hd ((n.val : Int) / 16)) ∧ dbus_hexchar.f (Go.bits .and .u8 (n.val : Int) 15) = some (hd (Go.bits .and .u8 (n.val : Int) 15)) := by decide +kernel
  exact H ⟨c.toNat, c.toNat_lt⟩
def u8s (l : List Int) : List UInt8 := l.map fun n => UInt8.ofNat n.toNat
theorem B_str (l : List Int) : B (strOfNums l) = u8s l := rfl
def eb (c : UInt8) : List UInt8 := u8s (es c)

theorem eb_back (c : UInt8) : (ns c = false → eb c = [c] ∧ c ≠ 37) ∧ (ns c = true → ∃ a b, eb c = [37, a, b] ∧ (hx a).2 = true ∧ (hx b).2 = true ∧ Go.bits .or .u8 (((hx a).1 * 16) % 256) (hx b).1 = (c.toNat : Int)) := by
  have H : ∀ n : Fin 256, (if ns (UInt8.ofNat n.val) = true then (match eb (UInt8.ofNat n.val) with
      | [p, a, b] => p == 37 && ((hx a).2 && ((hx b).2 && (Go.bits .or .u8 (((hx a).1 * 16) % 256) (hx b).1 == (n.val : Int))))
      | _ => false) else (eb (UInt8.ofNat n.val) == [UInt8.ofNat n.val] && UInt8.ofNat n.val != 37)) = true := by decide +kernel
  have h := H ⟨c.toNat, c.toNat_lt⟩
  simp only [UInt8.ofNat_toNat] at h
  refine ⟨fun hn => ?_, fun hn => ?_⟩
  · rw [hn] at h
    simpa using h
  · rw [hn, if_pos rfl] at h
    split at h
    · rename_i p a b e
      simp only [Bool.and_eq_true, beq_iff_eq] at h
      obtain ⟨h1, h2, h3, h4⟩ := h
      exact ⟨a, b, by rw [e, h1], h2, h3, h4⟩
    · simp at h

theorem un_all : ∀ (l : List UInt8) (acc : List Int), un acc (l.flatMap eb) = some (acc ++ l.map fun c => (c.toNat : Int))
  | [], acc => by simp [un]
  | c :: l, acc => by
    rw [List.flatMap_cons]
    cases hn : ns c with
    | false =>
      obtain ⟨e, h⟩ := (eb_back c).1 hn
      rw [e]
      show un acc (c :: l.flatMap eb) = _
      rw [un_c acc c _ h, un_all l]; simp
    | true =>
      obtain ⟨a, b, e, h1, h2, h3⟩ := (eb_back c).2 hn
      rw [e]
      show un acc (37 :: a :: b :: l.flatMap eb) = _
      rw [un_2, if_pos h1, if_pos h2, h3, un_all l]; simp

theorem str_back (s : ByteArray) : strOfNums ((B s).map fun c => (c.toNat : Int)) = s := by
  apply B_inj
  rw [B_str, u8s, List.map_map]
  exact (List.map_congr_left (g := id) (fun c _ => by show UInt8.ofNat ((c.toNat : Int)).toNat = c; rw [Int.toNat_natCast, UInt8.ofNat_toNat])).trans (List.map_id _)

/-- How many bytes are escaped. -/
def cnt : List UInt8 → Nat
  | [] => 0
  | c :: l => (if ns c = true then 1 else 0) + cnt l
theorem cnt_le : ∀ l, cnt l ≤ l.length
  | [] => by simp [cnt]
  | c :: l => by
    have := cnt_le l
    rw [cnt, List.length_cons]; split <;> omega
theorem es_len : ∀ l : List UInt8, (l.flatMap es).length = l.length + 2 * cnt l
  | [] => by simp [cnt]
  | c :: l => by
    rw [List.flatMap_cons, List.length_append, es_len l, cnt, List.length_cons]
    unfold es
    split <;> (simp; omega)

theorem cnt_go (s : ByteArray) (hs : s.size ≤ 1048576) : ∀ (l : List UInt8) (i n : Nat), (B s).drop i = l → n ≤ i → Ev (fun k => dbus_strNeedsEscape.l0 k s (n : Int) (i : Int)) ((n + cnt l : Nat) : Int)
  | [], i, n, h, hn => by
    refine Ev.step (fun k => by simp only [dbus_strNeedsEscape.l0]; rfl) ?_
    have := drop_end h
    exact Ev.no (by omega) (Ev.now _)
  | c :: l, i, n, h, hn => by
    obtain ⟨hb, hl, hd⟩ := bt_drop h
    have hw : wrap64 ((i : Int) + 1) = ((i + 1 : Nat) : Int) := by rw [wrap_of (by omega) (by omega)]; omega
    have hw2 : wrap64 ((n : Int) + 1) = ((n + 1 : Nat) : Int) := by rw [wrap_of (by omega) (by omega)]; omega
    refine Ev.step (fun k => by simp only [dbus_strNeedsEscape.l0]; rfl) ?_
    rw [hb, hw, hw2]
    refine Ev.yes (by omega) (Ev.yes (by omega) (Ev.bind (ns_ev c) ?_))
    rw [cnt]
    cases hc : ns c with
    | true =>
      have := cnt_go s hs l (i + 1) (n + 1) hd (by omega)
      have e : n + ((if true = true then 1 else 0) + cnt l) = n + 1 + cnt l := by simp; omega
      rw [e]
      exact Ev.yes rfl this
    | false =>
      have := cnt_go s hs l (i + 1) n hd (by omega)
      have e : n + ((if false = true then 1 else 0) + cnt l) = n + cnt l := by simp
      rw [e]
      exact Ev.no (by simp) this

theorem set_app (d : List Int) (v : Int) (m : Nat) : (d ++ List.replicate (m + 1) 0).set d.length v = (d ++ [v]) ++ List.replicate m 0 := by
  rw [List.replicate_succ]
  simp [List.set_append]

theorem esc_go (s : ByteArray) (hs : s.size ≤ 1048576) : ∀ (l : List UInt8) (i : Nat) (d : List Int), (B s).drop i = l → d.length ≤ 3 * i →
    Ev (fun k => dbus_EscapeBusAddressValue.l0 k s (d ++ List.replicate (l.flatMap es).length 0) (d.length : Int) (i : Int)) (strOfNums (d ++ l.flatMap es))
  | [], i, d, h, hd3 => by
    refine Ev.step (fun k => by simp only [dbus_EscapeBusAddressValue.l0]; rfl) ?_
    have := drop_end h
    exact Ev.no (by omega) (Ev.is (by simp))
  | c :: l, i, d, h, hd3 => by
    obtain ⟨hb, hl, hdr⟩ := bt_drop h
    have hw : wrap64 ((i : Int) + 1) = ((i + 1 : Nat) : Int) := by rw [wrap_of (by omega) (by omega)]; omega
    have hj1 : wrap64 ((d.length : Int) + 1) = ((d.length + 1 : Nat) : Int) := by rw [wrap_of (by omega) (by omega)]; omega
    have hj2 : wrap64 ((d.length : Int) + 2) = ((d.length + 2 : Nat) : Int) := by rw [wrap_of (by omega) (by omega)]; omega
    have hj3 : wrap64 ((d.length : Int) + 3) = ((d.length + 3 : Nat) : Int) := by rw [wrap_of (by omega) (by omega)]; omega
    have e0 : ((d.length : Int)).toNat = d.length := by omega
    have e1 : (((d.length + 1 : Nat) : Int)).toNat = d.length + 1 := by omega
    have e2 : (((d.length + 2 : Nat) : Int)).toNat = d.length + 2 := by omega
    have hlen : (d ++ List.replicate ((c :: l).flatMap es).length (0 : Int)).length = d.length + ((es c).length + (l.flatMap es).length) := by
      rw [List.length_append, List.length_replicate, List.flatMap_cons, List.length_append]
    refine Ev.step (fun k => by simp only [dbus_EscapeBusAddressValue.l0]; rfl) ?_
    rw [hb, hw, hj1, hj2, hj3, e0, e1, e2, hlen]
    refine Ev.yes (by omega) (Ev.yes (by omega) (Ev.bind (ns_ev c) ?_))
    cases hc : ns c with
    | true =>
      have he : es c = [37, hd ((c.toNat : Int) / 16), hd (Go.bits .and .u8 (c.toNat : Int) 15)] := by rw [es, hc]; rfl
      have hel : (es c).length = 3 := by rw [he]; rfl
      rw [hel]
      refine Ev.yes rfl (Ev.yes (by omega) (Ev.yes (by omega) (Ev.call (hd_is c).1 (Ev.yes (by omega) (Ev.yes (by omega) (Ev.call (hd_is c).2 (Ev.yes (by omega) (Ev.yes (by omega) ?_))))))))
      have ih := esc_go s hs l (i + 1) (d ++ es c) hdr (by rw [List.length_append, hel]; omega)
      rw [List.length_append, hel] at ih
      rw [List.flatMap_cons, List.length_append, hel, show 3 + (l.flatMap es).length = (l.flatMap es).length + 1 + 1 + 1 by omega, set_app]
      have s2 := set_app (d ++ [37]) (hd ((c.toNat : Int) / 16)) ((l.flatMap es).length + 1)
      rw [show (d ++ [(37 : Int)]).length = d.length + 1 by simp] at s2
      rw [s2]
      have s3 := set_app (d ++ [37] ++ [hd ((c.toNat : Int) / 16)]) (hd (Go.bits .and .u8 (c.toNat : Int) 15)) (l.flatMap es).length
      rw [show (d ++ [(37 : Int)] ++ [hd ((c.toNat : Int) / 16)]).length = d.length + 2 by simp] at s3
      rw [s3]
      have e3 : d ++ [37] ++ [hd ((c.toNat : Int) / 16)] ++ [hd (Go.bits .and .u8 (c.toNat : Int) 15)] = d ++ es c := by rw [he]; simp
      rw [e3, ← List.append_assoc]
      exact ih
    | false =>
      have he : es c = [(c.toNat : Int)] := by rw [es, hc]; rfl
      have hel : (es c).length = 1 := by rw [he]; rfl
      rw [hel]
      refine Ev.no (by simp) (Ev.yes (by omega) (Ev.yes (by omega) ?_))
      have ih := esc_go s hs l (i + 1) (d ++ es c) hdr (by rw [List.length_append, hel]; omega)
      rw [List.length_append, hel] at ih
      rw [List.flatMap_cons, List.length_append, hel, show 1 + (l.flatMap es).length = (l.flatMap es).length + 1 by omega, set_app, ← he, ← List.append_assoc]
      exact ih

theorem cnt_zero : ∀ l : List UInt8, cnt l = 0 → l.flatMap eb = l
  | [], h => rfl
  | c :: l, h => by
    rw [cnt] at h
    cases hc : ns c with
    | true => rw [hc] at h; simp at h
    | false =>
      rw [List.flatMap_cons, ((eb_back c).1 hc).1, cnt_zero l (by omega)]; rfl
theorem u8s_flat : ∀ l : List UInt8, u8s (l.flatMap es) = l.flatMap eb
  | [] => rfl
  | c :: l => by
    rw [List.flatMap_cons, List.flatMap_cons, ← u8s_flat l]
    simp [u8s, eb]

theorem esc_ev (s : ByteArray) (hs : s.size ≤ 8192) : ∃ r, Ev (fun k => impl_AdEscape.f k s) r ∧ B r = (B s).flatMap eb := by
  have H : ∃ r, Ev (fun k => dbus_EscapeBusAddressValue.f k s) r ∧ B r = (B s).flatMap eb := by
    have hc := cnt_go s (by omega) (B s) 0 0 rfl (by omega)
    rw [Nat.zero_add] at hc
    have hle := cnt_le (B s)
    rw [B_length] at hle
    unfold dbus_EscapeBusAddressValue.f
    by_cases h0 : cnt (B s) = 0
    · refine ⟨s, Ev.bind hc (Ev.yes (by omega) (Ev.now _)), (cnt_zero _ h0).symm⟩
    · refine ⟨strOfNums ((B s).flatMap es), Ev.bind hc (Ev.no (by omega) ?_), by rw [B_str, u8s_flat]⟩
      have hw : wrap64 ((s.size : Int) + wrap64 (2 * ((cnt (B s) : Nat) : Int))) = ((((B s).flatMap es).length : Nat) : Int) := by
        rw [wrap_of (a := 2 * ((cnt (B s) : Nat) : Int)) (by omega) (by omega), wrap_of (by omega) (by omega), es_len, B_length]; omega
      have hN : ((B s).flatMap es).length ≤ 100000 := by rw [es_len, B_length]; omega
      rw [hw, Int.toNat_natCast]
      have go : Ev (fun k => dbus_EscapeBusAddressValue.j0 k s (List.replicate ((B s).flatMap es).length 0)) (strOfNums ((B s).flatMap es)) := by
        refine Ev.step (fun k => by simp only [dbus_EscapeBusAddressValue.j0]; rfl) ?_
        exact esc_go s (by omega) (B s) 0 [] rfl (by simp)
      exact Ev.both (fun _ => Ev.yes (by omega) (Ev.yes (by omega) go)) (fun _ => Ev.yes (by omega) (Ev.yes (by omega) go))
  obtain ⟨r, hE, hB⟩ := H
  refine ⟨r, ?_, hB⟩
  unfold impl_AdEscape.f
  exact Ev.bind hE (Ev.now _)

theorem eb_len : ∀ l : List UInt8, (l.flatMap eb).length ≤ 3 * l.length := fun l => by
  rw [← u8s_flat, u8s, List.length_map, es_len]
  have := cnt_le l
  omega

theorem FnAdJoin : laws_FnAdJoin.Pure := by
  intro a0 a1 hs0 hs1
  suffices h : Ev (fun k => laws_FnAdJoin.f k a0 a1) true by
    obtain ⟨K, h⟩ := h
    exact ⟨K, h K (Nat.le_refl _)⟩
  have out0 : Ev (fun k => laws_FnAdJoin.j0 k a0 a1 true) true := by
    refine Ev.step (fun k => by simp only [laws_FnAdJoin.j0]; rfl) ?_
    exact Ev.yes trivial (Ev.now _)
  unfold laws_FnAdJoin.f
  refine Ev.both (fun _ => out0) (fun hn0 => ?_)
  by_cases hn1 : (a1.size : Int) > 2147483647
  · rw [decide_eq_true hn1]; exact out0
  rw [decide_eq_false hn1]
  have hw : wrap64 ((a0.size : Int) + (a1.size : Int)) = (a0.size : Int) + (a1.size : Int) := wrap_of (by omega) (by omega)
  refine Ev.step (fun k => by simp only [laws_FnAdJoin.j0]; rfl) ?_
  rw [hw]
  clear hw
  refine Ev.no (by simp) (Ev.both (fun _ => Ev.now _) (fun hsum => ?_))
  obtain ⟨r0, hE0, hB0⟩ := esc_ev a0 (by omega)
  obtain ⟨r1, hE1, hB1⟩ := esc_ev a1 (by omega)
  obtain ⟨r2, hE2, hB2⟩ := esc_ev (a0 ++ a1) (by rw [ByteArray.size_append]; omega)
  have z0 : r0.size ≤ 20000 := by rw [← B_length, hB0]; have := eb_len (B a0); rw [B_length] at this; omega
  have z1 : r1.size ≤ 20000 := by rw [← B_length, hB1]; have := eb_len (B a1); rw [B_length] at this; omega
  have hU := dbus_un (r0 ++ r1) (by rw [ByteArray.size_append]; omega)
  have hBr : B (r0 ++ r1) = (B (a0 ++ a1)).flatMap eb := by rw [B_append, hB0, hB1, B_append, List.flatMap_append]
  have hgot : got (un [] (B (r0 ++ r1))) = (a0 ++ a1, true) := by
    rw [hBr, un_all, List.nil_append]
    show (strOfNums _, true) = _
    rw [str_back]
  rw [hgot] at hU
  have he : r2 = r0 ++ r1 := B_inj (by rw [hB2, hBr])
  subst he
  refine Ev.bind hE0 (Ev.bind hE1 (Ev.yes (by omega) (Ev.bind hU (Ev.yes (by omega) (Ev.bind hE2 (Ev.yes rfl (Ev.yes rfl (Ev.is (beq_self_eq_true _)))))))))

end Go.Proofs.Ytpndgbiaomglpaa.Pure
