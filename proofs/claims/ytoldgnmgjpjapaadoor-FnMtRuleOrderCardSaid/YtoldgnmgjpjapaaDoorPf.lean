/-
Match rules in plain words: a term of one of the options can be told, and a rule is fitted just if its terms are.
-/
import Derived.Test.YtoldgnmgjpjapaaDoorMr
namespace Go.Proofs.YtoldgnmgjpjapaaDoor.Pf
set_option linter.unusedVariables false
set_option linter.unusedSimpArgs false
open Go.RowKit Go.Proofs.YtoldgnmgjpjapaaDoor.Mt Go.Proofs.YtoldgnmgjpjapaaDoor.Q Go.Proofs.YtoldgnmgjpjapaaDoorW.PrintWords Go.Proofs.YtoldgnmgjpjapaaDoorW.PrintLast
open Go.Proofs.YtoldgnmgjpjapaaDoor.Com Go.Proofs.YtoldgnmgjpjapaaDoor.Mr Go.Proofs.YtoldgnmgjpjapaaDoor.Wm Go.Proofs.YtoldgnmgjpjapaaDoor.Mp

/-! ### the header's field -/
theorem rd69_at (L : List S69) (j : Nat) (t : S69) (R : List S69) (h : L.drop j = t :: R) : j < L.length ∧ L.drop (j + 1) = R := by
  have hl : j < L.length := by
    have h9 := congrArg List.length h
    simp only [List.length_drop, List.length_cons] at h9; omega
  rw [List.drop_eq_getElem_cons hl] at h
  injection h with h1 h2
  exact ⟨hl, h2⟩
theorem field_go (c : Int) (L : List S69) (hL : (L.length : Int) ≤ 2147483647) : ∀ (R : List S69) (j : Nat), L.drop j = R → ∃ b, Ev (fun k => spec_field.l0 k c L (L.length : Int) (j : Int)) b
  | [], j, h => by
    have hl := drop_nil_le h
    exact ⟨_, Ev.step (fun k => by rw [spec_field.l0]) (Ev.no (by omega) (Ev.now _))⟩
  | t :: R, j, h => by
    obtain ⟨hl, hd⟩ := rd69_at L j t R h
    obtain ⟨b, ih⟩ := field_go c L hL R (j + 1) hd
    have hw : wrap64 ((j : Int) + 1) = ((j + 1 : Nat) : Int) := by rw [wrap_of (by omega) (by omega)]; omega
    by_cases h1 : ((rd_T69 L (j : Int)).f0) = c
    · by_cases h2 : ((rd_T69 L (j : Int)).f1.f0) = 115
      · exact ⟨_, Ev.step (fun k => by rw [spec_field.l0]) (Ev.yes (by omega) (Ev.yes (by omega) (Ev.yes (by omega) (Ev.yes h1 (Ev.yes h2 (Ev.now _))))))⟩
      · by_cases h3 : ((rd_T69 L (j : Int)).f1.f0) = 111
        · exact ⟨_, Ev.step (fun k => by rw [spec_field.l0]) (Ev.yes (by omega) (Ev.yes (by omega) (Ev.yes (by omega) (Ev.yes h1 (Ev.no h2 (Ev.yes h3 (Ev.now _)))))))⟩
        · exact ⟨b, Ev.step (fun k => by rw [spec_field.l0]) (Ev.yes (by omega) (Ev.yes (by omega) (Ev.yes (by omega) (Ev.yes h1 (Ev.no h2 (Ev.no h3 (by rw [hw]; exact ih)))))))⟩
    · exact ⟨b, Ev.step (fun k => by rw [spec_field.l0]) (Ev.yes (by omega) (Ev.yes (by omega) (Ev.yes (by omega) (Ev.no h1 (by rw [hw]; exact ih)))))⟩
theorem field_ev (a0 a1 a2 : Int) (L : List S69) (M : List S63) (c : Int) (hL : (L.length : Int) ≤ 2147483647) : ∃ b, Ev (fun k => spec_field.f k a0 a1 a2 L M c) b := field_go c L hL L 0 rfl

/-! ### looks at texts -/
theorem Below_ev (a b : ByteArray) : ∃ r, spec_Below.f a b = some r := by
  unfold spec_Below.f
  split
  · exact ⟨_, rfl⟩
  split
  · exact ⟨_, rfl⟩
  split
  · rename_i h
    rw [if_pos (by omega), if_pos (by omega)]
    split
    · exact ⟨_, rfl⟩
    · exact ⟨_, rfl⟩
  · exact ⟨_, rfl⟩
theorem Within_ev (a b : ByteArray) : ∃ r, spec_Within.f a b = some r := by
  unfold spec_Within.f
  split
  · exact ⟨_, rfl⟩
  split
  · rename_i h
    rw [if_pos (by omega), if_pos (by omega)]
    split
    · exact ⟨_, rfl⟩
    · exact ⟨_, rfl⟩
  · exact ⟨_, rfl⟩
theorem above_ev (a b : ByteArray) (ha : a.size ≤ 9223372036854775807) : ∃ r, spec_above.f a b = some r := by
  unfold spec_above.f
  split
  · exact ⟨_, rfl⟩
  · rename_i h
    have h0 : a.size ≠ 0 := by
      intro e
      apply h
      rw [B_toList]
      apply List.eq_nil_of_length_eq_zero
      rw [B_length]; exact e
    have hw : wrap64 ((a.size : Int) - 1) = (a.size : Int) - 1 := wrap_of (by omega) (by omega)
    rw [hw, if_pos (by omega), if_pos (by omega)]
    split
    · split
      · rw [if_pos (by omega)]; exact ⟨_, rfl⟩
      · exact ⟨_, rfl⟩
    · exact ⟨_, rfl⟩

/-! ### keys of arguments -/
def argOk (key : ByteArray) (n : Nat) (rest : List UInt8) : Bool :=
  !hK key && (key.toList != [116, 121, 112, 101] && (key.toList != [112, 97, 116, 104, 95, 110, 97, 109, 101, 115, 112, 97, 99, 101] && (key.toList != [101, 97, 118, 101, 115, 100, 114, 111, 112] && (decide (key.size ≤ 1000) && (match spec_argument.f 16 key with
    | some (m, r, true) => m == (n : Int) && r.toList == rest
    | _ => false)))))
theorem arg6_ok (n : Nat) (h : n ≤ 63) : argOk (k6 n) n [] = true := by
  have := (by kernel_rfl : ((List.range 64).all fun n => argOk (k6 n) n []) = true)
  exact List.all_eq_true.1 this n (List.mem_range.2 (by omega))
theorem arg7_ok (n : Nat) (h : n ≤ 63) : argOk (k7 n) n [112, 97, 116, 104] = true := by
  have := (by kernel_rfl : ((List.range 64).all fun n => argOk (k7 n) n [112, 97, 116, 104]) = true)
  exact List.all_eq_true.1 this n (List.mem_range.2 (by omega))
theorem arg8_ok : argOk (⟨#[97, 114, 103, 48, 110, 97, 109, 101, 115, 112, 97, 99, 101]⟩ : ByteArray) 0 [110, 97, 109, 101, 115, 112, 97, 99, 101] = true := by kernel_rfl
theorem key_ok (n : Nat) (h : n ≤ 63) (key : ByteArray) (hk : key = k6 n ∨ key = k7 n) : (B key).all okc = true ∧ key.size ≤ 300 := by
  have := (by kernel_rfl : ((List.range 64).all fun n => (B (k6 n)).all okc && ((B (k7 n)).all okc && (decide ((k6 n).size ≤ 300) && decide ((k7 n).size ≤ 300)))) = true)
  have := List.all_eq_true.1 this n (List.mem_range.2 (by omega))
  simp only [Bool.and_eq_true, decide_eq_true_eq] at this
  obtain ⟨h1, h2, h3, h4⟩ := this
  rcases hk with rfl | rfl
  · exact ⟨h1, h3⟩
  · exact ⟨h2, h4⟩

section
variable (a0 a1 a2 : Int) (L : List S69) (M : List S63)
theorem arg_fits (hM : M.length ≤ 100) (hS : ∀ x ∈ M, x.f2.size ≤ 9223372036854775807) (key v : ByteArray) (hv : v.size ≤ 300) (n : Nat) (rest : List UInt8) (h : argOk key n rest = true) : ∃ b, Ev (fun k => spec_Fits.f k a0 a1 a2 L M key v) (b, true) := by
  unfold argOk at h
  simp only [Bool.and_eq_true, bne_iff_ne, ne_eq, Bool.not_eq_true', decide_eq_true_eq] at h
  obtain ⟨h1, h2, h3, h4, h5, h6⟩ := h
  split at h6
  case h_2 => cases h6
  case h_1 m r he =>
  simp only [Bool.and_eq_true, beq_iff_eq] at h6
  obtain ⟨rfl, hr⟩ := h6
  have harg : Ev (fun k => spec_argument.f k key) ((n : Int), r, true) := Ev.of (fun k => spec_argument.mono key k) he
  have hg : ∀ b, Ev (fun k => spec_Fits.g k a0 a1 a2 L M key v) (b, true) → ∃ b, Ev (fun k => spec_Fits.f k a0 a1 a2 L M key v) (b, true) := fun b hb => ⟨b, Ev.congr (fun k => by unfold spec_Fits.f; rw [if_pos h5]) hb⟩
  have hstep : ∀ (f : Nat → Int × ByteArray × Bool → Option (Bool × Bool)) (b : Bool), Ev (fun k => f k ((n : Int), r, true)) (b, true) → (∀ k, spec_Fits.g k a0 a1 a2 L M key v = (spec_argument.f k key).bind (f k)) → ∃ b, Ev (fun k => spec_Fits.f k a0 a1 a2 L M key v) (b, true) := fun f b hf hgf => hg b (Ev.congr hgf (Ev.bind harg hf))
  have hsz : ∀ x : S63, x ∈ M → x.f2.size ≤ 9223372036854775807 := fun x hx => by have := hS x hx; omega
  have hat : n < M.length → rd_T63 M (n : Int) ∈ M := fun hl => by
    unfold rd_T63
    rw [Int.toNat_natCast, List.getD_eq_getElem?_getD, List.getElem?_eq_getElem hl]
    exact List.getElem_mem hl
  by_cases hn : (n : Int) ≥ (M.length : Int)
  · refine hstep _ false ?_ (fun k => by unfold spec_Fits.g; rw [if_neg (by rw [h1]; decide), if_neg h2, if_neg h3, if_neg h4])
    exact Ev.yes rfl (Ev.yes hn (Ev.now _))
  have hl : n < M.length := by omega
  obtain ⟨y, hy⟩ := Within_ev ((rd_T63 M (n : Int)).f2) v
  obtain ⟨z1, hz1⟩ := above_ev ((rd_T63 M (n : Int)).f2) v (hsz _ (hat hl))
  obtain ⟨z2, hz2⟩ := above_ev v ((rd_T63 M (n : Int)).f2) (by omega)
  have hj : ∀ x, ∃ b, Ev (fun k => spec_Fits.j0 k x key v ((rd_T63 M (n : Int)).f0) ((rd_T63 M (n : Int)).f1) ((rd_T63 M (n : Int)).f2) ((rd_T63 M (n : Int)).f3)) (b, true) := fun x => by
    by_cases e1 : x = true
    · exact ⟨_, Ev.step (fun k => by rw [spec_Fits.j0]) (Ev.yes e1 (Ev.now _))⟩
    by_cases e2 : ((rd_T63 M (n : Int)).f2).toList = v.toList
    · exact ⟨_, Ev.step (fun k => by rw [spec_Fits.j0]) (Ev.no e1 (Ev.yes e2 (Ev.now _)))⟩
    by_cases e3 : z1 = true
    · exact ⟨_, Ev.step (fun k => by rw [spec_Fits.j0]) (Ev.no e1 (Ev.no e2 (Ev.call hz1 (Ev.yes e3 (Ev.now _)))))⟩
    · exact ⟨z2, Ev.step (fun k => by rw [spec_Fits.j0]) (Ev.no e1 (Ev.no e2 (Ev.call hz1 (Ev.no e3 (Ev.call hz2 (Ev.now (z2, true)))))))⟩
  have hfin : ∃ b, Ev (fun k => if r.toList = ([] : List UInt8) then (if ((rd_T63 M (n : Int)).f0) = 115 then (some ((((rd_T63 M (n : Int)).f2).toList == v.toList), true)) else (some (false, true))) else (if r.toList = ([110, 97, 109, 101, 115, 112, 97, 99, 101] : List UInt8) then (if ((rd_T63 M (n : Int)).f0) = 115 then ((spec_Within.f ((rd_T63 M (n : Int)).f2) v).bind fun t121 => (some (t121, true))) else (some (false, true))) else (if ((rd_T63 M (n : Int)).f0) = 115 then (spec_Fits.j0 k false key v ((rd_T63 M (n : Int)).f0) ((rd_T63 M (n : Int)).f1) ((rd_T63 M (n : Int)).f2) ((rd_T63 M (n : Int)).f3)) else (spec_Fits.j0 k (((rd_T63 M (n : Int)).f0) != 111) key v ((rd_T63 M (n : Int)).f0) ((rd_T63 M (n : Int)).f1) ((rd_T63 M (n : Int)).f2) ((rd_T63 M (n : Int)).f3))))) (b, true) := by
    by_cases e1 : r.toList = ([] : List UInt8)
    · by_cases e2 : ((rd_T63 M (n : Int)).f0) = 115
      · exact ⟨_, Ev.yes e1 (Ev.yes e2 (Ev.now _))⟩
      · exact ⟨_, Ev.yes e1 (Ev.no e2 (Ev.now _))⟩
    by_cases e2 : r.toList = ([110, 97, 109, 101, 115, 112, 97, 99, 101] : List UInt8)
    · by_cases e3 : ((rd_T63 M (n : Int)).f0) = 115
      · exact ⟨y, Ev.no e1 (Ev.yes e2 (Ev.yes e3 (Ev.call hy (Ev.now (y, true)))))⟩
      · exact ⟨_, Ev.no e1 (Ev.yes e2 (Ev.no e3 (Ev.now _)))⟩
    by_cases e3 : ((rd_T63 M (n : Int)).f0) = 115
    · obtain ⟨b, hb⟩ := hj false
      exact ⟨b, Ev.no e1 (Ev.no e2 (Ev.yes e3 hb))⟩
    · obtain ⟨b, hb⟩ := hj (((rd_T63 M (n : Int)).f0) != 111)
      exact ⟨b, Ev.no e1 (Ev.no e2 (Ev.no e3 hb))⟩
  obtain ⟨b, hb⟩ := hfin
  refine hstep _ b ?_ (fun k => by unfold spec_Fits.g; rw [if_neg (by rw [h1]; decide), if_neg h2, if_neg h3, if_neg h4])
  exact Ev.yes rfl (Ev.no (by omega) (Ev.yes (by omega) (Ev.yes (by omega) hb)))

theorem hit_fits (hL : (L.length : Int) ≤ 2147483647) (key v : ByteArray) (h : hK key = true) (hs : key.size ≤ 1000) : ∃ b, Ev (fun k => spec_Fits.f k a0 a1 a2 L M key v) (b, true) := by
  obtain ⟨⟨s, has⟩, hf⟩ := field_ev a0 a1 a2 L M (cOf key) hL
  cases has with
  | true => exact ⟨_, Ev.congr (fun k => by unfold spec_Fits.f spec_Fits.g; rw [if_pos hs, if_pos h]) (Ev.bind hf (Ev.yes rfl (Ev.now _)))⟩
  | false => exact ⟨_, Ev.congr (fun k => by unfold spec_Fits.f spec_Fits.g; rw [if_pos hs, if_pos h]) (Ev.bind hf (Ev.no Bool.false_ne_true (Ev.now _)))⟩
theorem ns_fits (hL : (L.length : Int) ≤ 2147483647) (v : ByteArray) : ∃ b, Ev (fun k => spec_Fits.f k a0 a1 a2 L M ⟨#[112, 97, 116, 104, 95, 110, 97, 109, 101, 115, 112, 97, 99, 101]⟩ v) (b, true) := by
  obtain ⟨⟨s, has⟩, hf⟩ := field_ev a0 a1 a2 L M 1 hL
  obtain ⟨y, hy⟩ := Below_ev s v
  have h1 : ¬ hK ⟨#[112, 97, 116, 104, 95, 110, 97, 109, 101, 115, 112, 97, 99, 101]⟩ = true := by decide
  have h2 : ¬ (⟨#[112, 97, 116, 104, 95, 110, 97, 109, 101, 115, 112, 97, 99, 101]⟩ : ByteArray).toList = [116, 121, 112, 101] := by rw [B_toList]; decide
  have h3 : (⟨#[112, 97, 116, 104, 95, 110, 97, 109, 101, 115, 112, 97, 99, 101]⟩ : ByteArray).toList = [112, 97, 116, 104, 95, 110, 97, 109, 101, 115, 112, 97, 99, 101] := by rw [B_toList]; rfl
  cases has with
  | true => exact ⟨y, Ev.congr (fun k => by unfold spec_Fits.f spec_Fits.g; rw [if_pos (by decide), if_neg h1, if_neg h2, if_pos h3]) (Ev.bind hf (Ev.yes rfl (Ev.call hy (Ev.now (y, true)))))⟩
  | false => exact ⟨_, Ev.congr (fun k => by unfold spec_Fits.f spec_Fits.g; rw [if_pos (by decide), if_neg h1, if_neg h2, if_pos h3]) (Ev.bind hf (Ev.no Bool.false_ne_true (Ev.now _)))⟩

theorem opt_fits (hL : (L.length : Int) ≤ 2147483647) (hM : M.length ≤ 100) (hS : ∀ x ∈ M, x.f2.size ≤ 9223372036854775807) (kind n : Nat) (hk : kind ≤ 8) (hn : n ≤ 63) (v : ByteArray) (hv : v.size ≤ 300) : ∃ b, Ev (fun k => spec_Fits.f k a0 a1 a2 L M (optKey kind n) v) (b, true) := by
  have : kind = 0 ∨ kind = 1 ∨ kind = 2 ∨ kind = 3 ∨ kind = 4 ∨ kind = 5 ∨ kind = 6 ∨ kind = 7 ∨ kind = 8 := by omega
  rcases this with rfl | rfl | rfl | rfl | rfl | rfl | rfl | rfl | rfl
  · exact hit_fits a0 a1 a2 L M hL _ v rfl (Nat.le_of_ble_eq_true rfl)
  · exact hit_fits a0 a1 a2 L M hL _ v rfl (Nat.le_of_ble_eq_true rfl)
  · exact hit_fits a0 a1 a2 L M hL _ v rfl (Nat.le_of_ble_eq_true rfl)
  · exact hit_fits a0 a1 a2 L M hL _ v rfl (Nat.le_of_ble_eq_true rfl)
  · exact ns_fits a0 a1 a2 L M hL v
  · exact hit_fits a0 a1 a2 L M hL _ v rfl (Nat.le_of_ble_eq_true rfl)
  · exact arg_fits a0 a1 a2 L M hM hS _ v hv n _ (arg6_ok n hn)
  · exact arg_fits a0 a1 a2 L M hM hS _ v hv n _ (arg7_ok n hn)
  · exact arg_fits a0 a1 a2 L M hM hS _ v hv 0 _ arg8_ok
end
end Go.Proofs.YtoldgnmgjpjapaaDoor.Pf
