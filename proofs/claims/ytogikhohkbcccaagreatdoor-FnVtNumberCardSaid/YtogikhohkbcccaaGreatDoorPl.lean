import Derived.Test.YtogikhohkbcccaaGreatDoorRw
import Derived.Test.YtogikhohkbcccaaGreatDoorDe
import Derived.Test.YtogikhohkbcccaaGreatDoorP1
namespace Go.Proofs.YtogikhohkbcccaaGreatDoor.De
set_option linter.unusedVariables false
set_option linter.unusedSimpArgs false
open Go.RowKit Go.Proofs.YtogikhohkbcccaaGreatDoorW.PrintWords Go.Proofs.YtogikhohkbcccaaGreatDoorW.PrintLast Go.Proofs.YtogikhohkbcccaaGreatDoorW.PrintMore

theorem rd_map {D : List Nat} {i : Nat} (h : i < D.length) : rd (D.map fun d : Nat => ((d : Nat) : Int) + 48) (i : Int) = ((D[i]'h : Nat) : Int) + 48 := by
  unfold rd
  rw [Int.toNat_natCast, List.getD_eq_getElem?_getD, List.getElem?_eq_getElem (by simpa using h)]
  simp
theorem bt_list {b : List UInt8} {i : Nat} (h : i < b.length) : bt ⟨b.toArray⟩ (i : Int) = ((b[i]'h).toNat : Int) := by
  unfold bt
  have h' : (i : Int).toNat < (⟨b.toArray⟩ : ByteArray).size := h
  rw [dif_pos h']
  rfl
/-- The reading of the digits as a slice of bytes. -/
theorem plf_ev (D : List Nat) (b : List UInt8) (hb : ∀ x ∈ b, 48 ≤ x.toNat) (hl : b.length ≤ 1000) : ∀ (m i : Nat), i + m = b.length → Ev (fun k => P.strconv_prefixIsLessThan.l0 k (D.map fun d : Nat => ((d : Nat) : Int) + 48) ⟨b.toArray⟩ (i : Int)) (pl (D.drop i) ((b.map fun x => x.toNat - 48).drop i)) := by
  intro m
  induction m with
  | zero =>
    intro i hi
    refine Ev.step (f := fun _ => some false) (fun k => ?_) ?_
    · rw [P.strconv_prefixIsLessThan.l0, if_neg (by show ¬ ((i : Int) < (b.length : Int)); omega)]
    · have e : (b.map fun x => x.toNat - 48).drop i = [] := List.drop_eq_nil_of_le (by rw [List.length_map]; omega)
      have e2 : pl (D.drop i) [] = false := by cases D.drop i <;> rfl
      rw [e, e2]; exact Ev.now _
  | succ m ih =>
    intro i hi
    have hib : i < b.length := by omega
    have hc : (b.map fun x => x.toNat - 48).drop i = ((b[i]'hib).toNat - 48) :: (b.map fun x => x.toNat - 48).drop (i + 1) := by
      rw [List.drop_eq_getElem_cons (by simpa using hib)]; simp
    rw [hc]
    by_cases hD : i < D.length
    · have hd : D.drop i = (D[i]'hD) :: D.drop (i + 1) := List.drop_eq_getElem_cons hD
      rw [hd, pl]
      have h48 := hb _ (List.getElem_mem hib)
      have hw : wrap64 ((i : Int) + 1) = ((i + 1 : Nat) : Int) := by unfold wrap64; omega
      refine Ev.step (f := fun k => if D[i]'hD = (b[i]'hib).toNat - 48 then P.strconv_prefixIsLessThan.l0 k (D.map fun d : Nat => ((d : Nat) : Int) + 48) ⟨b.toArray⟩ ((i + 1 : Nat) : Int) else some (decide (D[i]'hD < (b[i]'hib).toNat - 48))) (fun k => ?_) ?_
      · rw [P.strconv_prefixIsLessThan.l0, if_pos (by show ((i : Int) < (b.length : Int)); omega), if_neg (by rw [List.length_map]; omega), if_pos (by omega), if_pos (by rw [List.length_map]; omega), rd_map hD, bt_list hib, hw]
        by_cases e : D[i]'hD = (b[i]'hib).toNat - 48
        · rw [if_pos e, if_pos (by omega)]
        · rw [if_neg e, if_neg (by omega)]
          congr 1
          exact decide_eq_decide.2 (by omega)
      · split
        · exact ih (i + 1) (by omega)
        · exact Ev.now _
    · rw [List.drop_eq_nil_of_le (Nat.le_of_not_lt hD), pl]
      refine Ev.step (f := fun _ => some true) (fun k => ?_) (Ev.now _)
      rw [P.strconv_prefixIsLessThan.l0, if_pos (by show ((i : Int) < (b.length : Int)); omega), if_pos (by rw [List.length_map]; omega)]

theorem digits_row {c : Nat → Value} {x : Dc} {w : World} {g : Nat} (h : DB w g c) (hi : Is c x) : Kd.C (Kd.int .u8) w (some ⟨g, 0, none⟩) (x.D.map fun d : Nat => ((d : Nat) : Int) + 48).length (x.D.map fun d : Nat => ((d : Nat) : Int) + 48) := by
  refine ⟨rfl, by rw [List.length_map]; have := hi.len; omega, fun _ => ⟨⟨g, 0, none⟩, rfl, fun j p hp => ⟨[.int .u8 p], rfl, rfl, fun i u hu => ?_⟩⟩⟩
  cases i with
  | succ i => simp at hu
  | zero =>
    obtain rfl : Value.int .u8 p = u := by simpa using hu
    have hj : j < x.D.length := by
      have := (List.getElem?_eq_some_iff.1 hp).1
      simpa using this
    have hp2 : ((x.D[j]'hj : Nat) : Int) + 48 = p := by
      have := (List.getElem?_eq_some_iff.1 hp).2
      simpa using this
    have hc := h.cell j (by have := hi.len; omega)
    rw [(hi.dig j hj).1, hp2] at hc
    have e : (⟨g, 0, none⟩ : Addr).add (j * (Kd.int .u8).sz + 0) = ⟨g, j, none⟩ := by
      show (⟨g, 0, none⟩ : Addr).add (j * 1 + 0) = _
      rw [Nat.mul_one, Nat.add_zero]; unfold Addr.add; split <;> simp_all
    rw [e]; exact hc

theorem cheat_len {k : Nat} (h1 : 1 ≤ k) (hk : k ≤ 60) : (cheat k).2.length ≤ 1000 := by
  have h := (cheat_is h1 hk).1.cl
  have e : (cutD k).length = (cheat k).2.length := by unfold cutD; rw [List.length_map]
  omega
theorem prefix_calls {c : Nat → Value} {x : Dc} {w : World} {g k : Nat} (h : DB w g c) (hi : Is c x) (h1 : 1 ≤ k) (hk : k ≤ 60) :
    Calls Tryz.prog 86 #[.slice (some ⟨g, 0, none⟩) x.D.length 800, .string ⟨(cheat k).2.toArray⟩] w fun e w' => e = .returned (.bool (pl x.D (cutD k))) ∧ Drawn0 w w' := by
  obtain ⟨K, hK⟩ := (plf_ev x.D (cheat k).2 (cheat_is h1 hk).2 (cheat_len h1 hk) (cheat k).2.length 0 (by omega)).rounds
  have hl : (x.D.map fun d : Nat => ((d : Nat) : Int) + 48).length = x.D.length := List.length_map _
  have := P.strconv_prefixIsLessThan.calls K (some ⟨g, 0, none⟩) 800 (x.D.map fun d : Nat => ((d : Nat) : Int) + 48) ⟨(cheat k).2.toArray⟩ (pl x.D (cutD k)) w (digits_row h hi) (by rw [hl]; exact hi.len) hK
  rw [hl] at this
  exact this
end Go.Proofs.YtogikhohkbcccaaGreatDoor.De
