import Derived.Test.YtogikhohkbcccaaGreatDoorProg
import Derived.WalkKit
import Derived.KernelRfl
import Derived.Deep.LoopGhost
import Derived.Deep.QuietTactic
import Derived.BigQuiet
import Derived.Test.YtogikhohkbcccaaGreatDoorWWords
import Derived.Test.YtogikhohkbcccaaGreatDoorWMore
import GoSem.PinnedTables
namespace Go.Proofs.YtogikhohkbcccaaGreatDoor.De
set_option linter.unusedVariables false
set_option linter.unusedSimpArgs false
open Go.RowKit Go.Proofs.YtogikhohkbcccaaGreatDoorW.PrintWords Go.Proofs.YtogikhohkbcccaaGreatDoorW.PrintLast Go.Proofs.YtogikhohkbcccaaGreatDoorW.PrintMore

/-- The block of a decimal, cell by cell. -/
def DB (w : World) (g : Nat) (c : Nat → Value) : Prop := ∃ cs : Array Value, w.heap[g]? = some (.cells cs 134 (0, 0)) ∧ cs.size = 804 ∧ ∀ i, i < 804 → cs[i]? = some (c i)
def upd (c : Nat → Value) (i : Nat) (v : Value) : Nat → Value := fun j => if j = i then v else c j
theorem upd_same (c : Nat → Value) (i : Nat) (v : Value) : upd c i v i = v := if_pos rfl
theorem upd_other (c : Nat → Value) {i j : Nat} (v : Value) (h : j ≠ i) : upd c i v j = c j := if_neg h
theorem DB.cell {w : World} {g : Nat} {c : Nat → Value} (h : DB w g c) (i : Nat) (hi : i < 804) : w.cell? ⟨g, i, none⟩ = some (c i) := by
  obtain ⟨cs, h1, h2, h3⟩ := h
  rw [blk_cell h1]; exact h3 i hi
theorem DB.frozen {w : World} {g : Nat} {c : Nat → Value} (h : DB w g c) (i : Nat) : w.frozen? ⟨g, i, none⟩ = false := by
  obtain ⟨cs, h1, h2, h3⟩ := h
  exact blk_frozen h1 i
theorem DB.set {w : World} {g : Nat} {c : Nat → Value} (h : DB w g c) (i : Nat) (hi : i < 804) (v : Value) : DB (w.setCell ⟨g, i, none⟩ v) g (upd c i v) := by
  obtain ⟨cs, h1, h2, h3⟩ := h
  refine ⟨_, blk_set h1 i v, by simpa using h2, fun j hj => ?_⟩
  by_cases hij : j = i
  · subst hij
    rw [upd_same]
    simp [Array.getElem?_setIfInBounds, h2, hi]
  · rw [upd_other _ _ hij, Array.getElem?_setIfInBounds_ne (fun h => hij h.symm)]
    exact h3 j hj
theorem DB.heap {w w' : World} {g : Nat} {c : Nat → Value} (h : DB w g c) (e : w'.heap[g]? = w.heap[g]?) : DB w' g c := by
  obtain ⟨cs, h1, h2, h3⟩ := h
  exact ⟨cs, e.trans h1, h2, h3⟩
theorem DB.drewN {w : World} {g : Nat} {c : Nat → Value} (h : DB w g c) (n : Nat) : DB (w.drewN n) g c := h.heap rfl
theorem size_set (w : World) (a : Addr) (v : Value) : (w.setCell a v).heap.size = w.heap.size := by
  simp [World.setCell]
theorem DB.lt {w : World} {g : Nat} {c : Nat → Value} (h : DB w g c) : g < w.heap.size := by
  obtain ⟨cs, h1, _⟩ := h; exact blk_lt h1

/-- A decimal: its digits, its point, its sign, whether digits were cut off. -/
structure Dc where
  D : List Nat
  dp : Int
  neg : Bool
  tr : Bool
structure Is (c : Nat → Value) (x : Dc) : Prop where
  len : x.D.length ≤ 800
  dig : ∀ (i : Nat) (h : i < x.D.length), c i = .int .u8 ((x.D[i]'h : Nat) + 48) ∧ x.D[i]'h ≤ 9
  nd : c 800 = .int .i64 x.D.length
  dp : c 801 = .int .i64 x.dp
  neg : c 802 = .bool x.neg
  tr : c 803 = .bool x.tr
/-- A decimal in memory. -/
def Dec (w : World) (g : Nat) (x : Dc) : Prop := ∃ c, DB w g c ∧ Is c x ∧ (∀ i, i < 800 → ∃ n : Int, c i = .int .u8 n)

/-- Without the last zeros. -/
def tz : List Nat → List Nat
  | [] => []
  | d :: l => match tz l with
    | [] => if d = 0 then [] else [d]
    | q => d :: q

theorem tz_snoc : ∀ (l : List Nat) (d : Nat), tz (l ++ [d]) = if d = 0 then tz l else l ++ [d]
  | [], d => by simp [tz]
  | a :: l, d => by
    rw [List.cons_append, tz, tz_snoc l d]
    by_cases h : d = 0
    · rw [if_pos h, if_pos h, tz]
    · rw [if_neg h, if_neg h]
      cases l <;> rfl
theorem tz_take (D : List Nat) (n : Nat) (h : n < D.length) : tz (D.take (n + 1)) = if D[n]'h = 0 then tz (D.take n) else D.take (n + 1) := by
  rw [List.take_succ_eq_append_getElem h]
  exact tz_snoc _ _

/-- The cells of a decimal whose digits are the first ones. -/
theorem Is.cut {c : Nat → Value} {x : Dc} (h : Is c x) (n : Nat) (hn : n ≤ x.D.length) (p : Int) (c' : Nat → Value) (hs : ∀ i, i < 800 → c' i = c i) (h800 : c' 800 = .int .i64 n) (h801 : c' 801 = .int .i64 p) (h802 : c' 802 = c 802) (h803 : c' 803 = c 803) : Is c' ⟨x.D.take n, p, x.neg, x.tr⟩ := by
  have hl := h.len
  refine ⟨?_, fun i hi => ?_, ?_, h801, h802.trans h.neg, h803.trans h.tr⟩
  · show (x.D.take n).length ≤ 800
    rw [List.length_take]; omega
  · simp only [List.length_take] at hi
    simp only [List.getElem_take]
    rw [hs i (by omega)]
    exact h.dig i (by omega)
  · rw [h800]
    simp only [List.length_take]
    rw [Nat.min_eq_left hn]

def ndOf (g : Nat) (w : World) : Nat := match w.cell? ⟨g, 800, none⟩ with
  | some (.int _ n) => n.toNat
  | _ => 0

theorem ndOf_is {g : Nat} {w : World} {c : Nat → Value} (h : DB w g c) {n : Nat} (e : c 800 = .int .i64 n) : ndOf g w = n := by
  unfold ndOf
  rw [h.cell 800 (by omega), e]
  simp

/-- What trim leaves. -/
def trimD (x : Dc) : Dc := ⟨tz x.D, if tz x.D = [] then 0 else x.dp, x.neg, x.tr⟩

set_option maxHeartbeats 4000000 in
set_option maxRecDepth 100000 in
theorem trim_calls (g : Nat) (x : Dc) (w : World) (h : Dec w g x) :
    Calls Tryz.prog 87 #[.pointer (some ⟨g, 0, none⟩)] w fun e w' => e = .returned (.tuple #[]) ∧ Dec w' g (trimD x) ∧ Below g w w' ∧ w'.heap.size = w.heap.size := by
  obtain ⟨c, hdb, his, hany⟩ := h
  have HD := Aside0.mk hdb
  have HI := Aside0.mk his
  have HA := Aside0.mk hany
  have HG := Aside0.mk hdb.lt
  clear hdb his hany
  go_enter Tryz.func87, Tryz.ntmps87
  go_wp2
  go_loopw [] (fun wr => ∃ (n : Nat) (c' : Nat → Value), n ≤ x.D.length ∧ Aside0 (DB wr g c') ∧ Aside0 (∀ i, i < 804 → i ≠ 800 → c' i = c i) ∧ Aside0 (c' 800 = .int .i64 n) ∧ Aside0 (tz x.D = tz (x.D.take n)) ∧ Aside0 (Below g w wr ∧ wr.heap.size = w.heap.size)) (fun wr => ndOf g wr)
  case atStart => exact ⟨x.D.length, c, Nat.le_refl _, HD, ⟨fun _ _ _ => rfl⟩, ⟨HI.out.nd⟩, ⟨by rw [List.take_length]⟩, ⟨Below.refl _ _, rfl⟩⟩
  case round =>
    obtain ⟨n, c', hn, HDR, HS, HN, HT, HB⟩ := hrel
    have h800 := HDR.out.cell 800 (by omega)
    rw [HN.out] at h800
    have e801 : c' 801 = .int .i64 x.dp := (HS.out 801 (by omega) (by omega)).trans HI.out.dp
    have h801 := HDR.out.cell 801 (by omega)
    rw [e801] at h801
    have hf800 := HDR.out.frozen 800
    have hf801 := HDR.out.frozen 801
    have HL := Aside0.mk HI.out.len
    clear e801
    by_cases hz : n = 0
    · subst hz
      have h8 : wr.cell? ⟨g, 800, none⟩ = some (.int .i64 0) := h800
      clear h800
      have HTZ : Aside0 (tz x.D = []) := ⟨by rw [HT.out]; simp [tz]⟩
      go_wp2
      go_quiet (fail)
      go_wp2
      go_end0
      refine ⟨rfl, ⟨upd c' 801 (.int .i64 0), (HDR.out.drewN _).set 801 (by omega) _, ?_, fun i hi => ?_⟩, ?_, ?_⟩
      · have e : trimD x = ⟨x.D.take 0, 0, x.neg, x.tr⟩ := by unfold trimD; rw [HTZ.out]; simp
        rw [e]
        refine HI.out.cut 0 (by omega) 0 _ (fun i hi => ?_) ?_ (upd_same _ _ _) ?_ ?_
        · rw [upd_other _ _ (by omega)]; exact HS.out i (by omega) (by omega)
        · rw [upd_other _ _ (by omega)]; exact HN.out
        · rw [upd_other _ _ (by omega)]; exact HS.out 802 (by omega) (by omega)
        · rw [upd_other _ _ (by omega)]; exact HS.out 803 (by omega) (by omega)
      · rw [upd_other _ _ (by omega), HS.out i (by omega) (by omega)]; exact HA.out i hi
      · exact (pw_below_drewN HB.out.1 _).setCell (Nat.le_refl _) _
      · rw [size_set]; exact HB.out.2
    · obtain ⟨m, rfl⟩ : ∃ m, n = m + 1 := ⟨n - 1, by omega⟩
      have hl := HL.out
      have hm : m < x.D.length := by omega
      have hm8 : m < 800 := by omega
      have hd := (HI.out.dig m hm).1
      have hdc := HDR.out.cell m (by omega)
      rw [HS.out m (by omega) (by omega), hd] at hdc
      obtain ⟨d, hdd⟩ : ∃ d, d = x.D[m]'hm := ⟨_, rfl⟩
      rw [← hdd] at hdc
      have h8 : wr.cell? ⟨g, 800, none⟩ = some (.int .i64 ((m : Int) + 1)) := h800
      have p1 : ((0 : Int) < (m : Int) + 1) = True := eq_true (by omega)
      have p2 : ((0 : Int) ≤ (m : Int)) = True := eq_true (by omega)
      have p3 : ((m : Int) < 800) = True := eq_true (by omega)
      have HTN := Aside0.mk (tz_take x.D m hm)
      rw [← hdd] at HTN
      have HDD := Aside0.mk hdd
      have HM := Aside0.mk hm
      clear hdd hd hl hz h800 hn
      by_cases hd0 : d = 0
      · subst hd0
        have hdc' : wr.cell? ⟨g, m, none⟩ = some (.int .u8 48) := hdc
        clear hdc
        go_wp2
        go_quiet (fail)
        go_wp2
        refine ⟨⟨m, upd c' 800 (.int .i64 m), by omega, ⟨(HDR.out.drewN _).set 800 (by omega) _⟩, ⟨fun i hi hn => ?_⟩, ⟨upd_same _ _ _⟩, ⟨by rw [HT.out, HTN.out]; simp⟩, ⟨(pw_below_drewN HB.out.1 _).setCell (Nat.le_refl _) _, by rw [size_set]; exact HB.out.2⟩⟩, ?_⟩
        · rw [upd_other _ _ hn]; exact HS.out i hi hn
        · rw [ndOf_is ((HDR.out.drewN _).set 800 (by omega) _) (upd_same _ _ _), ndOf_is HDR.out HN.out]
          omega
      · have hq : (((d : Int) + 48) == 48) = false := beq_eq_false_iff_ne.2 (by omega)
        have HTZ : Aside0 (tz x.D = x.D.take (m + 1)) := ⟨by rw [HT.out, HTN.out, if_neg hd0]⟩
        have hne : (((m : Int) + 1) == 0) = false := beq_eq_false_iff_ne.2 (by omega)
        have HM : Aside0 (m < x.D.length) := ⟨hm⟩
        go_wp2
        go_quiet (fail)
        go_wp2
        go_end0
        refine ⟨rfl, ⟨c', HDR.out.drewN _, ?_, fun i hi => ?_⟩, pw_below_drewN HB.out.1 _, HB.out.2⟩
        · have e : trimD x = ⟨x.D.take (m + 1), x.dp, x.neg, x.tr⟩ := by
            unfold trimD
            have hl : (x.D.take (m + 1)).length = m + 1 := by rw [List.length_take]; have := HM.out; omega
            rw [HTZ.out, if_neg (fun h => by rw [h] at hl; simp at hl)]
          rw [e]
          exact HI.out.cut (m + 1) (by have := HM.out; omega) x.dp _ (fun i hi => HS.out i (by omega) (by omega)) HN.out ((HS.out 801 (by omega) (by omega)).trans HI.out.dp) (HS.out 802 (by omega) (by omega)) (HS.out 803 (by omega) (by omega))
        · rw [HS.out i (by omega) (by omega)]; exact HA.out i hi
end Go.Proofs.YtogikhohkbcccaaGreatDoor.De

namespace Go.Proofs.YtogikhohkbcccaaGreatDoor.De
set_option linter.unusedVariables false
set_option linter.unusedSimpArgs false
open Go.RowKit Go.Proofs.YtogikhohkbcccaaGreatDoorW.PrintWords Go.Proofs.YtogikhohkbcccaaGreatDoorW.PrintLast Go.Proofs.YtogikhohkbcccaaGreatDoorW.PrintMore

/-- The first place from i on where P holds, within f steps. -/
def lst (P : Nat → Bool) : Nat → Nat → Nat
  | 0, i => i
  | f + 1, i => if P i then i else lst P f (i + 1)
theorem lst_is (P : Nat → Bool) : ∀ (f i m : Nat), i ≤ m → m ≤ i + f → P m = true → P (lst P f i) = true ∧ i ≤ lst P f i ∧ lst P f i ≤ m ∧ ∀ j, i ≤ j → j < lst P f i → P j = false
  | 0, i, m, h1, h2, h => by
    obtain rfl : m = i := by omega
    exact ⟨h, Nat.le_refl _, Nat.le_refl _, fun j a b => by rw [lst] at b; omega⟩
  | f + 1, i, m, h1, h2, h => by
    rw [lst]
    split
    case isTrue hp => exact ⟨hp, Nat.le_refl _, h1, fun j a b => by omega⟩
    case isFalse hp =>
      have hmi : m ≠ i := fun e => hp (e ▸ h)
      obtain ⟨a, b, c, d⟩ := lst_is P f (i + 1) m (by omega) (by omega) h
      refine ⟨a, by omega, c, fun j hj1 hj2 => ?_⟩
      by_cases hij : j = i
      · subst hij; simpa using hp
      · exact d j (by omega) hj2

def dg (D : List Nat) (i : Nat) : Nat := D.getD i 0
/-- The first digits as a number (noughts behind the end). -/
def num (D : List Nat) : Nat → Nat
  | 0 => 0
  | r + 1 => num D r * 10 + dg D r
theorem num_ge {D : List Nat} (h : 0 < dg D 0) : ∀ r, 10 ^ r ≤ num D (r + 1)
  | 0 => by simp [num]; omega
  | r + 1 => by
    have := num_ge h r
    rw [num, Nat.pow_succ]; omega
/-- How many digits the first step takes. -/
def rs0 (D : List Nat) (k : Nat) : Nat := lst (fun r => decide (2 ^ k ≤ num D r)) 70 0
/-- What is carried from digit to digit. -/
def rsn (D : List Nat) (k r0 : Nat) : Nat → Nat
  | 0 => num D r0
  | j + 1 => (rsn D k r0 j % 2 ^ k) * 10 + dg D (r0 + j)
def rsJ (D : List Nat) (k r0 : Nat) : Nat := lst (fun j => decide (D.length ≤ r0 + j) && rsn D k r0 j == 0) (D.length + k + 2) 0
theorem rs0_is {D : List Nat} {k : Nat} (hk : k ≤ 60) (h : 0 < dg D 0) : 2 ^ k ≤ num D (rs0 D k) ∧ 1 ≤ rs0 D k ∧ rs0 D k ≤ 62 ∧ ∀ r, r < rs0 D k → num D r < 2 ^ k := by
  have h61 : 2 ^ k ≤ num D (61 + 1) := by
    refine Nat.le_trans ?_ (num_ge h 61)
    exact Nat.le_trans (Nat.pow_le_pow_right (by omega) hk) (by decide)
  obtain ⟨a, b, c, d⟩ := lst_is (fun r => decide (2 ^ k ≤ num D r)) 70 0 62 (by omega) (by omega) (by simpa using h61)
  have hp : 0 < 2 ^ k := Nat.pos_of_ne_zero (by simp)
  refine ⟨by simpa [rs0] using a, ?_, c, fun r hr => by simpa using d r (by omega) hr⟩
  refine Nat.pos_of_ne_zero fun e => ?_
  have a' : 2 ^ k ≤ num D (rs0 D k) := by simpa [rs0] using a
  rw [e, num] at a'
  omega

theorem rsn_lt {D : List Nat} {k : Nat} (hk : k ≤ 60) (h : 0 < dg D 0) (h9 : ∀ i, dg D i ≤ 9) : ∀ j, rsn D k (rs0 D k) j < 10 * 2 ^ k
  | 0 => by
    obtain ⟨a, b, c, d⟩ := rs0_is hk h
    have hd := d (rs0 D k - 1) (by omega)
    have e : rs0 D k = (rs0 D k - 1) + 1 := by omega
    rw [rsn, e, num]
    have := h9 (rs0 D k - 1)
    omega
  | j + 1 => by
    rw [rsn]
    have hp : 0 < 2 ^ k := Nat.pos_of_ne_zero (by simp)
    have := Nat.mod_lt (rsn D k (rs0 D k) j) hp
    have := h9 (rs0 D k + j)
    omega

theorem rsJ_is {D : List Nat} {k r0 : Nat} : D.length ≤ r0 + rsJ D k r0 ∧ rsn D k r0 (rsJ D k r0) = 0 ∧ ∀ j, j < rsJ D k r0 → D.length ≤ r0 + j → rsn D k r0 j ≠ 0 := by
  have hdg : ∀ i, D.length ≤ i → dg D i = 0 := fun i hi => by unfold dg; rw [List.getD_eq_getElem?_getD, List.getElem?_eq_none hi]; rfl
  -- behind the digits the carry gains a factor two at each step
  have H : ∀ t, t ≤ k → 2 ^ t ∣ rsn D k r0 (D.length + t) := by
    intro t
    induction t with
    | zero => intro _; simp
    | succ t ih =>
      intro ht
      have h1 := ih (by omega)
      rw [show D.length + (t + 1) = (D.length + t) + 1 by omega, rsn, hdg _ (by omega), Nat.add_zero, Nat.pow_succ]
      have hm : 2 ^ t ∣ rsn D k r0 (D.length + t) % 2 ^ k := (Nat.dvd_mod_iff (Nat.pow_dvd_pow 2 (by omega))).2 h1
      exact Nat.mul_dvd_mul hm (by decide)
  have hz : rsn D k r0 (D.length + k + 1) = 0 := by
    rw [rsn, hdg _ (by omega), Nat.mod_eq_zero_of_dvd (H k (Nat.le_refl _))]
  obtain ⟨a, b, c, d⟩ := lst_is (fun j => decide (D.length ≤ r0 + j) && rsn D k r0 j == 0) (D.length + k + 2) 0 (D.length + k + 1) (by omega) (by omega) (by simp [hz]; omega)
  have a' : D.length ≤ r0 + rsJ D k r0 ∧ rsn D k r0 (rsJ D k r0) = 0 := by simpa [rsJ] using a
  refine ⟨a'.1, a'.2, fun j hj hl he => ?_⟩
  have := d j (by omega) hj
  simp [he, hl] at this

/-- The digits of the quotient. -/
def rsOut (D : List Nat) (k : Nat) : List Nat := (List.range (rsJ D k (rs0 D k))).map fun j => rsn D k (rs0 D k) j / 2 ^ k
/-- What rightShift leaves. -/
def rshD (k : Nat) (x : Dc) : Dc := trimD ⟨(rsOut x.D k).take 800, x.dp - ((rs0 x.D k : Int) - 1), x.neg, x.tr || ((rsOut x.D k).drop 800).any (· != 0)⟩

end Go.Proofs.YtogikhohkbcccaaGreatDoor.De

namespace Go.Proofs.YtogikhohkbcccaaGreatDoor.De
set_option linter.unusedVariables false
set_option linter.unusedSimpArgs false
open Go.RowKit Go.Proofs.YtogikhohkbcccaaGreatDoorW.PrintWords Go.Proofs.YtogikhohkbcccaaGreatDoorW.PrintLast Go.Proofs.YtogikhohkbcccaaGreatDoorW.PrintMore

/-- The value of a row of digits. -/
def val : List Nat → Nat
  | [] => 0
  | d :: D => d * 10 ^ D.length + val D
theorem val_lt : ∀ {D : List Nat}, (∀ d ∈ D, d ≤ 9) → val D < 10 ^ D.length
  | [], _ => by simp [val]
  | d :: D, h => by
    have h1 := val_lt (D := D) (fun x hx => h x (by simp [hx]))
    have h2 := h d (by simp)
    rw [val, List.length_cons, Nat.pow_succ]
    have : d * 10 ^ D.length ≤ 9 * 10 ^ D.length := Nat.mul_le_mul_right _ h2
    omega
/-- Are the digits less, as a fraction's? -/
def pl : List Nat → List Nat → Bool
  | _, [] => false
  | [], _ :: _ => true
  | d :: D, c :: C => if d = c then pl D C else decide (d < c)
theorem pl_is : ∀ (D C : List Nat), (∀ d ∈ D, d ≤ 9) → (∀ d ∈ C, d ≤ 9) → (C ≠ [] → 0 < C.getLast?.getD 0) → (pl D C = true ↔ val D * 10 ^ C.length < val C * 10 ^ D.length)
  | D, [], _, _, _ => by simp [pl, val]
  | [], c :: C, _, h9, hl => by
    simp only [pl, val, true_iff, List.length_nil, Nat.pow_zero, Nat.mul_one, Nat.zero_mul]
    have h1 := hl (by simp)
    cases C with
    | nil => simp at h1; simp [val]; exact h1
    | cons e C =>
      by_cases hc : 0 < c
      · exact Nat.add_pos_left (Nat.mul_pos hc (Nat.pos_of_ne_zero (by simp))) _
      · have := (pl_is [] (e :: C) (by simp) (fun d hd => h9 d (by simp [hd])) (fun _ => by simpa using h1)).1 (by simp [pl])
        simp [val] at this
        have : 0 < val (e :: C) := by simpa [val] using this
        omega
  | d :: D, c :: C, hD, hC, hl => by
    have hD' : ∀ x ∈ D, x ≤ 9 := fun x hx => hD x (by simp [hx])
    have hC' : ∀ x ∈ C, x ≤ 9 := fun x hx => hC x (by simp [hx])
    have vD := val_lt hD'
    have vC := val_lt hC'
    have key : (val (d :: D) * 10 ^ (c :: C).length < val (c :: C) * 10 ^ (d :: D).length) ↔ d * (10 ^ D.length * 10 ^ C.length) + val D * 10 ^ C.length < c * (10 ^ D.length * 10 ^ C.length) + val C * 10 ^ D.length := by
      have e1 : val (d :: D) * 10 ^ (c :: C).length = 10 * (d * (10 ^ D.length * 10 ^ C.length) + val D * 10 ^ C.length) := by
        simp only [val, List.length_cons, Nat.pow_succ, Nat.add_mul, Nat.mul_add]; ac_rfl
      have e2 : val (c :: C) * 10 ^ (d :: D).length = 10 * (c * (10 ^ D.length * 10 ^ C.length) + val C * 10 ^ D.length) := by
        simp only [val, List.length_cons, Nat.pow_succ, Nat.add_mul, Nat.mul_add]; ac_rfl
      rw [e1, e2]; omega
    rw [key, pl]
    have hx : val D * 10 ^ C.length < 10 ^ D.length * 10 ^ C.length := (Nat.mul_lt_mul_right (Nat.pos_of_ne_zero (by simp))).2 vD
    have hy : val C * 10 ^ D.length < 10 ^ D.length * 10 ^ C.length := by rw [Nat.mul_comm (10 ^ D.length)]; exact (Nat.mul_lt_mul_right (Nat.pos_of_ne_zero (by simp))).2 vC
    generalize 10 ^ D.length * 10 ^ C.length = P at hx hy
    by_cases hdc : d = c
    · subst hdc
      rw [if_pos rfl, pl_is D C hD' hC' (fun hne => by
        have := hl (by simp)
        cases C with
        | nil => exact absurd rfl hne
        | cons e C => simpa using this)]
      omega
    · rw [if_neg hdc]
      simp only [decide_eq_true_eq]
      constructor
      · intro h
        have : (d + 1) * P ≤ c * P := Nat.mul_le_mul_right _ h
        rw [Nat.add_mul] at this
        omega
      · intro h
        refine Classical.byContradiction fun hn => ?_
        have : (c + 1) * P ≤ d * P := Nat.mul_le_mul_right _ (by omega)
        rw [Nat.add_mul] at this
        omega

theorem val_snoc : ∀ (l : List Nat) (d : Nat), val (l ++ [d]) = val l * 10 + d
  | [], d => by simp [val]
  | a :: l, d => by
    rw [List.cons_append, val, val_snoc l d, val, List.length_append, Nat.add_mul, Nat.mul_assoc, ← Nat.pow_succ]
    simp only [List.length_cons, List.length_nil, Nat.zero_add, Nat.add_assoc]
theorem num_val : ∀ (D : List Nat) (r : Nat), r ≤ D.length → num D r = val (D.take r)
  | D, 0, _ => by simp [num, val]
  | D, r + 1, h => by
    rw [num, num_val D r (by omega), List.take_succ_eq_append_getElem (by omega), val_snoc]
    have e : dg D r = D[r]'(by omega) := by unfold dg; rw [List.getD_eq_getElem?_getD, List.getElem?_eq_getElem (by omega)]; rfl
    rw [e]

/-- The table's row for a shift. -/
def cheat (k : Nat) : Nat × List UInt8 := Go.Pinned.cheatRows.getD k (0, [])
def cutD (k : Nat) : List Nat := (cheat k).2.map fun b => b.toNat - 48
/-- What the table must say. -/
def cheatOK (k : Nat) : Bool :=
  let d := (cheat k).1
  let C := cutD k
  decide (1 ≤ d) && decide (val C = 5 ^ k) && decide (C.length + d = k + 1) && decide (10 ^ (d - 1) ≤ 2 ^ k) && decide (2 ^ k ≤ 10 ^ d) && C.all (fun c => decide (c ≤ 9)) && decide (0 < C.getLast?.getD 0) && (cheat k).2.all (fun b => decide (48 ≤ b.toNat))
theorem cheats_ok : ((List.range 60).all fun k => cheatOK (k + 1)) = true := by decide +kernel

/-- How many digits. -/
def nds (T n : Nat) : Nat := lst (fun m => decide (T < 10 ^ m)) (n + 20) 0
def lsOut (T m : Nat) : List Nat := (List.range m).map fun i => T / 10 ^ (m - 1 - i) % 10
/-- What leftShift leaves. -/
def lshD (k : Nat) (x : Dc) : Dc :=
  let T := num x.D x.D.length * 2 ^ k
  let m := nds T x.D.length
  trimD ⟨(lsOut T m).take 800, x.dp + ((m : Int) - x.D.length), x.neg, x.tr || ((lsOut T m).drop 800).any (· != 0)⟩

structure Cheat (k d : Nat) (C : List Nat) : Prop where
  d1 : 1 ≤ d
  cv : val C = 5 ^ k
  cl : C.length + d = k + 1
  lo : 10 ^ (d - 1) ≤ 2 ^ k
  hi : 2 ^ k ≤ 10 ^ d
  c9 : ∀ c ∈ C, c ≤ 9
  cz : 0 < C.getLast?.getD 0
theorem cheat_is {k : Nat} (h1 : 1 ≤ k) (h : k ≤ 60) : Cheat k (cheat k).1 (cutD k) ∧ ∀ b ∈ (cheat k).2, 48 ≤ b.toNat := by
  have := List.all_eq_true.1 cheats_ok (k - 1) (List.mem_range.2 (by omega))
  rw [show k - 1 + 1 = k by omega] at this
  simp only [cheatOK, Bool.and_eq_true, decide_eq_true_eq, List.all_eq_true] at this
  obtain ⟨⟨⟨⟨⟨⟨⟨a, b⟩, c⟩, d⟩, e⟩, f⟩, g⟩, i⟩ := this
  exact ⟨⟨a, b, c, d, e, f, g⟩, i⟩

/-- How many digits a shifted number has. -/
theorem digits_of {k d : Nat} {C D : List Nat} (hc : Cheat k d C) (h9 : ∀ x ∈ D, x ≤ 9) (hl : 0 < dg D 0) (hD : D ≠ []) :
    let m := D.length + d - (if pl D C = true then 1 else 0)
    val D * 2 ^ k < 10 ^ m ∧ 10 ^ (m - 1) ≤ val D * 2 ^ k ∧ D.length ≤ m := by
  have hlen : 0 < D.length := List.length_pos_iff.2 hD
  have hlo : 10 ^ (D.length - 1) ≤ val D := by
    have := num_ge hl (D.length - 1)
    rw [show D.length - 1 + 1 = D.length by omega, num_val D _ (Nat.le_refl _), List.take_length] at this
    exact this
  have hhi := val_lt h9
  have hcl := hc.cl
  have hd1 := hc.d1
  have hp : pl D C = true ↔ val D * 2 ^ k < 10 ^ (D.length + d - 1) := by
    rw [pl_is D C h9 hc.c9 (fun _ => hc.cz), hc.cv]
    -- times 10^d
    have e1 : val D * 10 ^ C.length * 10 ^ d = val D * 2 ^ k * (5 ^ k * 10) := by
      rw [Nat.mul_assoc, ← Nat.pow_add, hcl, Nat.pow_succ, show (10 : Nat) ^ k = 2 ^ k * 5 ^ k by rw [← Nat.mul_pow]]
      ac_rfl
    have e2 : 5 ^ k * 10 ^ D.length * 10 ^ d = 10 ^ (D.length + d - 1) * (5 ^ k * 10) := by
      have e3 : 10 ^ D.length * 10 ^ d = 10 ^ (D.length + d - 1) * 10 := by rw [← Nat.pow_add, ← Nat.pow_succ]; congr 1; omega
      rw [Nat.mul_assoc, e3]; ac_rfl
    have hp10 : 0 < 10 ^ d := Nat.pos_of_ne_zero (by simp)
    have hp5 : 0 < 5 ^ k * 10 := Nat.mul_pos (Nat.pos_of_ne_zero (by simp)) (by omega)
    rw [← Nat.mul_lt_mul_right hp10, e1, e2, Nat.mul_lt_mul_right hp5]
  have hup : val D * 2 ^ k < 10 ^ (D.length + d) := by
    rw [Nat.pow_add]
    exact Nat.lt_of_lt_of_le ((Nat.mul_lt_mul_right (Nat.pos_of_ne_zero (by simp))).2 hhi) (Nat.mul_le_mul_left _ hc.hi)
  have hdn : 10 ^ (D.length + d - 2) ≤ val D * 2 ^ k := by
    rw [show D.length + d - 2 = (D.length - 1) + (d - 1) by omega, Nat.pow_add]
    exact Nat.mul_le_mul hlo hc.lo
  cases hpl : pl D C with
  | true =>
    refine ⟨?_, ?_, ?_⟩
    · simpa using hp.1 hpl
    · simpa [show D.length + d - 1 - 1 = D.length + d - 2 by omega] using hdn
    · simp; omega
  | false =>
    have hn : ¬ val D * 2 ^ k < 10 ^ (D.length + d - 1) := fun h => by rw [hp.2 h] at hpl; cases hpl
    refine ⟨by simpa using hup, ?_, by simp⟩
    simp only [Bool.false_eq_true, if_false, Nat.sub_zero]
    omega

theorem nds_is {T n m : Nat} (h : T < 10 ^ m) (h1 : 10 ^ (m - 1) ≤ T) (hm : m ≤ n + 20) : nds T n = m := by
  obtain ⟨a, b, c, d⟩ := lst_is (fun m => decide (T < 10 ^ m)) (n + 20) 0 m (by omega) (by omega) (by simpa using h)
  have a' : T < 10 ^ nds T n := by simpa [nds] using a
  refine Nat.le_antisymm c ?_
  refine Nat.le_of_not_lt fun hlt => ?_
  have : 10 ^ nds T n ≤ 10 ^ (m - 1) := Nat.pow_le_pow_right (by omega) (by omega)
  omega
end Go.Proofs.YtogikhohkbcccaaGreatDoor.De
