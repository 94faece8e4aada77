import Derived.Test.YtoaehanfknjngaaDoorDt
namespace Go.Proofs.YtoaehanfknjngaaDoor.Ze
set_option linter.unusedVariables false
set_option linter.unusedSimpArgs false
open Go.RowKit Go.Proofs.YtoaehanfknjngaaDoor.Ext Go.Proofs.YtoaehanfknjngaaDoor.L Go.Proofs.YtoaehanfknjngaaDoorW.PrintWords Go.Proofs.YtoaehanfknjngaaDoorW.PrintLast Go.Proofs.YtoaehanfknjngaaDoorW.PrintMore
open Go.Proofs.YtoaehanfknjngaaDoor.Com Go.Proofs.YtoaehanfknjngaaDoor.Tree Go.Proofs.YtoaehanfknjngaaDoor.Sg Go.Proofs.YtoaehanfknjngaaDoor.Dt

theorem gt_pos (t : T) : 0 < (gt t).length := by cases t <;> simp [gt]
theorem w64 {x : Int} (h : 0 ≤ x) (h2 : x ≤ 100000) : wrap64 x = x := wrap_of (by omega) (by omega)
theorem gt_head (t : T) (ho : ok t = true) : ∃ c l, gt t = c :: l ∧ c ≠ 41 := by
  cases t with
  | b c => exact ⟨c, [], rfl, (letter_ne c (by simpa [ok] using ho)).2.1⟩
  | d k t => exact ⟨123, _, rfl, by decide⟩
  | a t => exact ⟨91, _, rfl, by decide⟩
  | s ts => exact ⟨40, _, rfl, by decide⟩

mutual
theorem end_f : ∀ (t : T) (u : List UInt8) (x : ByteArray) (k : Nat), ok t = true → B x = gt t ++ u → x.size ≤ 1000 → 2 * (gt t).length ≤ k → dbus_zzEnd.f k x = some ((gt t).length : Int)
  | .b c, u, x, k, ho, hB, hx, hk => by
    obtain ⟨k, rfl⟩ : ∃ m, k = m + 1 := ⟨k - 1, by simp [gt] at hk; omega⟩
    have hB' : B x = c :: u := hB
    have hne := letter_ne c (by simpa [ok] using ho)
    have h0 := first_of hB'
    have z := size_pos hB'
    have n0 : ¬ x.toList = ([] : List UInt8) := by rw [B_toList, hB']; simp
    have m1 : ¬ (c.toNat : Int) = 91 := by
      intro e
      have := (byte_eq c 91 (by omega)).1 e
      subst this
      simp [ok, basic] at ho
    have m2 : ¬ (c.toNat : Int) = 123 := fun e => hne.2.2.1 ((byte_eq c 123 (by omega)).1 e)
    have m3 : ¬ (c.toNat : Int) = 40 := fun e => hne.1 ((byte_eq c 40 (by omega)).1 e)
    simp only [dbus_zzEnd.f]
    rw [if_neg n0, if_pos (by omega), h0, if_neg m1, if_neg m2, if_neg m3]
    rfl
  | .a t, u, x, k, ho, hB, hx, hk => by
    have hk' : 2 * ((gt t).length + 1) ≤ k := hk
    obtain ⟨k, rfl⟩ : ∃ m, k = m + 1 := ⟨k - 1, by omega⟩
    have hB' : B x = 91 :: (gt t ++ u) := hB
    have h0 := first_of hB'
    have z := size_pos hB'
    have n0 : ¬ x.toList = ([] : List UInt8) := by rw [B_toList, hB']; simp
    have ih := end_f t u (x.extract 1 x.size) k (by simpa [ok] using ho) (by rw [B_from, hB']; rfl) (by rw [ByteArray.size_extract]; omega) (by omega)
    simp only [dbus_zzEnd.f]
    rw [if_neg n0, if_pos (by omega), h0, if_pos (by decide), if_pos (by omega), ih, Option.bind_some]
    rw [List.length_append] at z
    rw [w64 (by omega) (by omega)]
    simp only [gt, List.length_cons, Option.some.injEq]; omega
  | .d c t, u, x, k, ho, hB, hx, hk => by
    have hk' : 2 * ((gt t).length + 2) ≤ k := hk
    obtain ⟨k, rfl⟩ : ∃ m, k = m + 1 := ⟨k - 1, by omega⟩
    have hB' : B x = 123 :: (c :: (gt t ++ u)) := hB
    have h0 := first_of hB'
    have z := size_pos hB'
    have n0 : ¬ x.toList = ([] : List UInt8) := by rw [B_toList, hB']; simp
    have ih := end_f t u (x.extract 2 x.size) k (by simp [ok] at ho; exact ho.2) (by rw [B_from, hB']; rfl) (by rw [ByteArray.size_extract]; omega) (by omega)
    simp only [List.length_cons, List.length_append] at z
    simp only [dbus_zzEnd.f]
    rw [if_neg n0, if_pos (by omega), h0, if_neg (by decide), if_pos (by decide), if_pos (by omega), ih, Option.bind_some]
    rw [w64 (by omega) (by omega)]
    simp only [gt, List.length_cons, Option.some.injEq]; omega
  | .s ts, u, x, k, ho, hB, hx, hk => by
    have hk' : 2 * ((gts ts).length + 2) ≤ k := by simpa [gt] using hk
    obtain ⟨k, rfl⟩ : ∃ m, k = m + 1 := ⟨k - 1, by omega⟩
    have hB' : B x = 40 :: (gts ts ++ 41 :: u) := by rw [hB]; simp [gt]
    have h0 := first_of hB'
    have z := size_pos hB'
    have n0 : ¬ x.toList = ([] : List UInt8) := by rw [B_toList, hB']; simp
    have ih := end_l ts u x 1 k (by simp [ok] at ho; exact ho.2) (by rw [hB']; rfl) hx (by omega)
    simp only [dbus_zzEnd.f]
    rw [if_neg n0, if_pos (by omega), h0, if_neg (by decide), if_neg (by decide), if_pos (by decide)]
    have e : ((1 : Nat) : Int) = 1 := rfl
    rw [← e, ih]
    simp only [gt, List.length_cons, List.length_append, List.length_nil, Option.some.injEq]; omega
theorem end_l : ∀ (ts : Ts) (u : List UInt8) (x : ByteArray) (i k : Nat), oks ts = true → (B x).drop i = gts ts ++ 41 :: u → x.size ≤ 1000 → 2 * (gts ts).length + 1 ≤ k → dbus_zzEnd.l0 k x (i : Int) = some ((i + (gts ts).length + 1 : Nat) : Int)
  | .nil, u, x, i, k, ho, hB, hx, hk => by
    obtain ⟨k, rfl⟩ : ∃ m, k = m + 1 := ⟨k - 1, by omega⟩
    obtain ⟨h0, hl, _⟩ := bt_drop (s := x) (i := i) (c := 41) (t := u) hB
    simp only [dbus_zzEnd.l0]
    rw [if_pos (by omega), if_pos (by omega), h0, if_pos (by decide), w64 (by omega) (by omega)]
    simp [gts]
  | .more t ts, u, x, i, k, ho, hB, hx, hk => by
    have hp := gt_pos t
    have hk' : 2 * ((gt t).length + (gts ts).length) + 1 ≤ k := by simpa [gts] using hk
    obtain ⟨k, rfl⟩ : ∃ m, k = m + 1 := ⟨k - 1, by omega⟩
    have hto : ok t = true ∧ oks ts = true := by simpa [oks] using ho
    obtain ⟨c, l, hc, hne⟩ := gt_head t hto.1
    have hB1 : (B x).drop i = gt t ++ (gts ts ++ 41 :: u) := by rw [hB]; simp [gts]
    obtain ⟨h0, hl, _⟩ := bt_drop (s := x) (i := i) (c := c) (t := l ++ (gts ts ++ 41 :: u)) (by rw [hB1, hc]; rfl)
    have m1 : ¬ (c.toNat : Int) = 41 := fun e => hne ((byte_eq c 41 (by omega)).1 e)
    have hlen := congrArg List.length hB1
    rw [List.length_drop, B_length, List.length_append, List.length_append, List.length_cons] at hlen
    have ih1 := end_f t (gts ts ++ 41 :: u) (x.extract i x.size) k hto.1 (by rw [B_from, hB1]) (by rw [ByteArray.size_extract]; omega) (by omega)
    have ih2 := end_l ts u x (i + (gt t).length) k hto.2 (by rw [← List.drop_drop, hB1, List.drop_left]) hx (by omega)
    simp only [dbus_zzEnd.l0]
    rw [if_pos (by omega), if_pos (by omega), h0, if_neg m1, if_pos (by omega), Int.toNat_natCast, ih1, Option.bind_some, w64 (by omega) (by omega)]
    have e : (i : Int) + ((gt t).length : Int) = ((i + (gt t).length : Nat) : Int) := by omega
    rw [e, ih2]
    simp only [gts, List.length_append, Option.some.injEq]; omega
end

/-- A struct's fields' types, as texts. -/
def fl : Ts → List ByteArray
  | .nil => []
  | .more t ts => mkb (gt t) :: fl ts
theorem fields_l : ∀ (ts : Ts) (u : List UInt8) (x : ByteArray) (acc : List ByteArray) (i k : Nat), oks ts = true → (B x).drop i = gts ts ++ 41 :: u → x.size ≤ 1000 → acc.length + (gts ts).length ≤ 1000 → 2 * (gts ts).length + 1 ≤ k → dbus_zzType_fields.l0 k x acc (i : Int) = some (acc ++ fl ts)
  | .nil, u, x, acc, i, k, ho, hB, hx, ha, hk => by
    obtain ⟨k, rfl⟩ : ∃ m, k = m + 1 := ⟨k - 1, by omega⟩
    obtain ⟨h0, hl, _⟩ := bt_drop (s := x) (i := i) (c := 41) (t := u) hB
    simp only [dbus_zzType_fields.l0]
    rw [if_pos (by omega), if_pos (by omega), h0, if_pos (by decide)]
    simp [fl]
  | .more t ts, u, x, acc, i, k, ho, hB, hx, ha, hk => by
    have hp := gt_pos t
    have ha' : acc.length + ((gt t).length + (gts ts).length) ≤ 1000 := by simpa [gts] using ha
    have hk' : 2 * ((gt t).length + (gts ts).length) + 1 ≤ k := by simpa [gts] using hk
    obtain ⟨k, rfl⟩ : ∃ m, k = m + 1 := ⟨k - 1, by omega⟩
    have hto : ok t = true ∧ oks ts = true := by simpa [oks] using ho
    obtain ⟨c, l, hc, hne⟩ := gt_head t hto.1
    have hB1 : (B x).drop i = gt t ++ (gts ts ++ 41 :: u) := by rw [hB]; simp [gts]
    obtain ⟨h0, hl, _⟩ := bt_drop (s := x) (i := i) (c := c) (t := l ++ (gts ts ++ 41 :: u)) (by rw [hB1, hc]; rfl)
    have m1 : ¬ (c.toNat : Int) = 41 := fun e => hne ((byte_eq c 41 (by omega)).1 e)
    have hlen := congrArg List.length hB1
    rw [List.length_drop, B_length, List.length_append, List.length_append, List.length_cons] at hlen
    have ih1 := end_f t (gts ts ++ 41 :: u) (x.extract i x.size) k hto.1 (by rw [B_from, hB1]) (by rw [ByteArray.size_extract]; omega) (by omega)
    have hx1 : x.extract i (i + (gt t).length) = mkb (gt t) := B_inj (by
      rw [B_extract, hB1, Nat.add_sub_cancel_left, List.take_left]; rfl)
    have ih2 := fields_l ts u x (acc ++ [mkb (gt t)]) (i + (gt t).length) k hto.2 (by rw [← List.drop_drop, hB1, List.drop_left]) hx (by rw [List.length_append, List.length_singleton]; omega) (by omega)
    simp only [dbus_zzType_fields.l0]
    rw [if_pos (by omega), if_pos (by omega), h0, if_neg m1, if_pos (by omega), Int.toNat_natCast, ih1, Option.bind_some, w64 (by omega) (by omega)]
    have e : (i : Int) + ((gt t).length : Int) = ((i + (gt t).length : Nat) : Int) := by omega
    rw [e, if_pos (by omega), if_pos (by omega), if_pos (by omega), Int.toNat_natCast, hx1, ih2]
    simp [fl]
theorem fields_is (ts : Ts) (x : ByteArray) (ho : oks ts = true) (hB : B x = 40 :: (gts ts ++ [41])) (hx : x.size ≤ 900) : dbus_zzType_fields.f 2000 x = some (fl ts) := by
  have z := size_pos hB
  rw [List.length_append] at z
  have := fields_l ts [] x [] 1 2000 ho (by rw [hB]; rfl) (by omega) (by simp; omega) (by omega)
  exact this
theorem fl_length : ∀ ts : Ts, (fl ts).length ≤ (gts ts).length
  | .nil => Nat.le_refl _
  | .more t ts => by have := gt_pos t; have := fl_length ts; simp only [fl, gts, List.length_cons, List.length_append]; omega
theorem num_is (ts : Ts) (x : ByteArray) (ho : oks ts = true) (hB : B x = 40 :: (gts ts ++ [41])) (hx : x.size ≤ 900) : dbus_zzType_NumField.f 2000 x = some ((fl ts).length : Int) := by
  unfold dbus_zzType_NumField.f
  rw [fields_is ts x ho hB hx, Option.bind_some]
theorem field_is (ts : Ts) (x : ByteArray) (ho : oks ts = true) (hB : B x = 40 :: (gts ts ++ [41])) (hx : x.size ≤ 900) (i : Nat) (h : i < (fl ts).length) : dbus_zzType_Field.f 2000 x (i : Int) = some ((fl ts)[i]'h, (⟨#[]⟩ : ByteArray), (⟨#[]⟩ : ByteArray)) := by
  unfold dbus_zzType_Field.f
  rw [fields_is ts x ho hB hx, Option.bind_some, if_pos (by omega), if_pos (by omega)]
  simp [rdOf, h]
end Go.Proofs.YtoaehanfknjngaaDoor.Ze
