import Derived.Test.YtogikhohkbcccaaGreatDoorRj
import Derived.Test.YtogikhohkbcccaaGreatDoorUp
import Derived.Lib.ConvBytes
import Derived.Lib.AtoiErrMem
namespace Go.Proofs.YtogikhohkbcccaaGreatDoor.De
set_option linter.unusedVariables false
set_option linter.unusedSimpArgs false
open Go.RowKit Go.Proofs.YtogikhohkbcccaaGreatDoorW.PrintWords Go.Proofs.YtogikhohkbcccaaGreatDoorW.PrintLast Go.Proofs.YtogikhohkbcccaaGreatDoorW.PrintMore

/-- A digit's worth. -/
def dV (c : Int) : Option Int :=
  if 48 ≤ c ∧ c ≤ 57 then some ((c - 48) % 256)
  else if 97 ≤ Go.bits .or .u8 c 32 ∧ Go.bits .or .u8 c 32 ≤ 122 then some (((Go.bits .or .u8 c 32 - 97) % 256 + 10) % 256)
  else none
/-- The loop over the digits. -/
def puL (β C M : Int) (s : ByteArray) : Nat → Nat → Int → Int × Option Int
  | 0, _, n => (n, none)
  | m + 1, k, n => match dV (bt s k) with
    | none => (0, some 2)
    | some d =>
      if β ≤ d then (0, some 2)
      else if C ≤ n then (M, some 1)
      else if IntKind.u64.wrap (IntKind.u64.wrap (n * β) + IntKind.u64.wrap d) < IntKind.u64.wrap (n * β) ∨ M < IntKind.u64.wrap (IntKind.u64.wrap (n * β) + IntKind.u64.wrap d) then (M, some 1)
      else puL β C M s m (k + 1) (IntKind.u64.wrap (IntKind.u64.wrap (n * β) + IntKind.u64.wrap d))
/-- The bound of a base, the greatest number of a size. -/
def cutOf (β : Int) : Int := if β = 10 then 1844674407370955162 else if β = 16 then 1152921504606846976 else 2305843009213693952
def maxOf (m : Int) : Int := if m = 8 then 255 else if m = 16 then 65535 else if m = 32 then 4294967295 else 18446744073709551615
def puV (β m : Int) (s : ByteArray) : Int × Option Int := puL β (cutOf β) (maxOf m) s s.size 0 0
/-- What the prefix says. -/
def PRE (s s' : ByteArray) (base β : Int) : Prop :=
  (base = β ∧ (β = 8 ∨ β = 10 ∨ β = 16) ∧ s' = s) ∨
  (base = 0 ∧ bt s 0 ≠ 48 ∧ β = 10 ∧ s' = s) ∨
  (base = 0 ∧ bt s 0 = 48 ∧ (3 ≤ s.size → Go.bits .or .u8 (bt s 1) 32 ≠ 98 ∧ Go.bits .or .u8 (bt s 1) 32 ≠ 111 ∧ Go.bits .or .u8 (bt s 1) 32 ≠ 120) ∧ β = 8 ∧ s' = s.extract 1 s.size) ∨
  (base = 0 ∧ 3 ≤ s.size ∧ bt s 0 = 48 ∧ bt s 1 = 120 ∧ β = 16 ∧ s' = s.extract 2 s.size)
theorem pu_hx {s : ByteArray} {i : Nat} {c : Int} (hc : c = bt s i) : ∀ h : i < s.size, ((s[i]'h).toNat : Int) = c := fun h => by
  rw [hc]; unfold bt; rw [dif_pos (by show i < s.size; exact h)]; rfl
theorem pu_ne {t : ByteArray} (hne : t.size ≠ 0) : t.toList.isEmpty = false := by
  rw [← decide_eq_emptyBytes]
  exact decide_eq_false (fun h => hne (by rw [h]; rfl))
theorem pu_lower (c : Int) (w : World) : Calls Tryz.prog 27 #[.int .u8 c] w fun e w' => e = .returned (.int .u8 (Go.bits .or .u8 c 32)) ∧ Drawn0 w w' := P.strconv_lower.calls c _ w rfl
theorem pu_cell (w : World) (t : ByteArray) (j : Nat) (hj : j < t.size) : (Lib.bytesWorld w 5 t).cell? ⟨w.heap.size, j, none⟩ = some (.int .u8 (bt t j)) := by
  rw [Lib.bytesWorld_cell w 5 t j hj]
  congr 2
  unfold bt
  rw [dif_pos (by show j < t.size; exact hj)]
  have h1 : j < t.data.toList.length := by simpa using hj
  simp only [List.getD, List.getElem?_eq_getElem h1, Option.getD_some]
  rfl
theorem puV_nil (β m : Int) (s : ByteArray) (h : s.size = 0) : puV β m s = (0, none) := by unfold puV; rw [h]; rfl
theorem pu_w8 {β : Int} (h : β = 8 ∨ β = 10 ∨ β = 16) : β % 256 = β := by rcases h with rfl | rfl | rfl <;> rfl
theorem pu_w64 {β : Int} (h : β = 8 ∨ β = 10 ∨ β = 16) : β % 18446744073709551616 = β := by rcases h with rfl | rfl | rfl <;> rfl
theorem pu_succ {k n : Nat} (h : k < n) (hs : n ≤ 400) : wrap64 ((k : Int) + 1) = (k : Int) + 1 := w_succ (by omega)
theorem pu_meas {n i : Nat} (h : i < n) (hw : wrap64 ((i : Int) + 1) = (i : Int) + 1) : n - (intOf (.int .i64 (wrap64 ((i : Int) + 1)))).toNat < n - (intOf (.int .i64 (i : Int))).toNat := by
  rw [hw]; show n - ((i : Int) + 1).toNat < n - (i : Int).toNat; omega

set_option maxHeartbeats 4000000 in
set_option maxRecDepth 100000 in
theorem pu_calls (s s' : ByteArray) (base β m : Int) (w : World) (hne : s.size ≠ 0) (hs : s'.size ≤ 400) (hu : ∀ i : Nat, i < s'.size → bt s' i ≠ 95) (hp : PRE s s' base β) (hm : m = 8 ∨ m = 16 ∨ m = 32 ∨ m = 64) :
    Calls Tryz.prog 19 #[.string s, .int .i64 base, .int .i64 m] w fun e w' => e = .returned (.tuple #[.int .u64 (puV β m s').1, errV (puV β m s').2]) ∧ Below w.heap.size w w' := by
  have c2 : s.toList.isEmpty = false := pu_ne hne
  have q1 : (0 < s.size) = True := eq_true (by omega)
  have q2 : (0 < (s.size : Int)) = True := eq_true (by omega)
  have hβ : β = 8 ∨ β = 10 ∨ β = 16 := by
    rcases hp with ⟨_, h, _⟩ | ⟨_, _, h, _⟩ | ⟨_, _, _, h, _⟩ | ⟨_, _, _, _, h, _⟩
    · exact h
    · exact .inr (.inl h)
    · exact .inl h
    · exact .inr (.inr h)
  have HU := Aside0.mk hu
  have HM := Aside0.mk hm
  have HP := Aside0.mk hp
  have HBB := Aside0.mk hβ
  clear hne hu hm hp hβ
  go_enter Tryz.func19, Tryz.ntmps19
  go_upto_block 0 with fail
  go_cut [0, 1] (fun v0 v1 wc => v0 = .string s' ∧ v1 = .int .i64 β ∧ Aside0 (Below w.heap.size w wc))
  case first => as_aux_lemma =>
    rcases HP.out with ⟨hbb, hb, hs'⟩ | ⟨hbb, h48, hb, hs'⟩ | ⟨hbb, h48, h3, hb, hs'⟩ | ⟨hbb, h3, h48, h120, hb, hs'⟩
    · have HS := Aside0.mk hs'
      rcases hb with hb | hb | hb
      all_goals
        have HV := Aside0.mk hb
        rw [hb] at hbb
        clear hs' hb
        subst hbb
        go_wp2
        go_meet
        case rel => exact ⟨by rw [HS.out], by rw [HV.out], ⟨Below.refl _ _⟩⟩
    · obtain ⟨c, hc⟩ : ∃ c, c = bt s 0 := ⟨_, rfl⟩
      have hx : ∀ h : 0 < s.size, ((s[0]'h).toNat : Int) = c := pu_hx (i := 0) hc
      have b1 : (c == 48) = false := beq_eq_false_iff_ne.2 (by rw [hc]; exact h48)
      have HS := Aside0.mk hs'
      have HV := Aside0.mk hb
      subst hbb
      clear hc h48 hs' hb
      go_wp2
      go_meet
      case rel => exact ⟨by rw [HS.out], by rw [HV.out], ⟨Below.refl _ _⟩⟩
    · obtain ⟨c, hc⟩ : ∃ c, c = bt s 0 := ⟨_, rfl⟩
      have hx : ∀ h : 0 < s.size, ((s[0]'h).toNat : Int) = c := pu_hx (i := 0) hc
      have b1 : (c == 48) = true := beq_iff_eq.2 (by rw [hc]; exact h48)
      have HS := Aside0.mk hs'
      have HV := Aside0.mk hb
      subst hbb
      clear hc h48 hs' hb
      by_cases hsz : 3 ≤ s.size
      · obtain ⟨d, hd⟩ : ∃ d, d = bt s 1 := ⟨_, rfl⟩
        have hy : ∀ h : 1 < s.size, ((s[1]'h).toNat : Int) = d := pu_hx (i := 1) hd
        have hn := h3 hsz
        rw [← hd] at hn
        have b2 : (Go.bits .or .u8 d 32 == 98) = false := beq_eq_false_iff_ne.2 hn.1
        have b3 : (Go.bits .or .u8 d 32 == 111) = false := beq_eq_false_iff_ne.2 hn.2.1
        have b4 : (Go.bits .or .u8 d 32 == 120) = false := beq_eq_false_iff_ne.2 hn.2.2
        have q3 : decide ((3 : Int) ≤ (s.size : Int)) = true := decide_eq_true (by omega)
        have q3' : decide (3 ≤ s.size) = true := decide_eq_true (by omega)
        have q4 : (1 < s.size) = True := eq_true (by omega)
        have q5 : ((1 : Int) < (s.size : Int)) = True := eq_true (by omega)
        have q6 : ((1 : Int) ≤ (s.size : Int)) = True := eq_true (by omega)
        have q7 : (1 ≤ s.size) = True := eq_true (by omega)
        clear hn h3 hd hsz
        go_wp2_with (go_at_call 27; ((with_reducible refine (pu_lower _ _).mono ?_); rintro e w3 ⟨rfl, ⟨nd, rfl⟩⟩))
        go_meet
        case rel => exact ⟨by rw [HS.out], by rw [HV.out], ⟨by (repeat apply pw_below_drewN); exact Below.refl _ _⟩⟩
      · have q3 : decide ((3 : Int) ≤ (s.size : Int)) = false := decide_eq_false (by omega)
        have q3' : decide (3 ≤ s.size) = false := decide_eq_false (by omega)
        have q6 : ((1 : Int) ≤ (s.size : Int)) = True := eq_true (by have := of_eq_true q1; omega)
        have q7 : (1 ≤ s.size) = True := eq_true (by have := of_eq_true q1; omega)
        clear h3 hsz
        go_wp2
        go_meet
        case rel => exact ⟨by rw [HS.out], by rw [HV.out], ⟨Below.refl _ _⟩⟩
    · obtain ⟨c, hc⟩ : ∃ c, c = bt s 0 := ⟨_, rfl⟩
      have hx : ∀ h : 0 < s.size, ((s[0]'h).toNat : Int) = c := pu_hx (i := 0) hc
      have b1 : (c == 48) = true := beq_iff_eq.2 (by rw [hc]; exact h48)
      have hy : ∀ h : 1 < s.size, ((s[1]'h).toNat : Int) = 120 := pu_hx (i := 1) h120.symm
      have b2 : (Go.bits .or .u8 120 32 == 98) = false := by decide
      have b3 : (Go.bits .or .u8 120 32 == 111) = false := by decide
      have b4 : (Go.bits .or .u8 120 32 == 120) = true := by decide
      have q3 : decide ((3 : Int) ≤ (s.size : Int)) = true := decide_eq_true (by omega)
      have q3' : decide (3 ≤ s.size) = true := decide_eq_true (by omega)
      have q4 : (1 < s.size) = True := eq_true (by omega)
      have q5 : ((1 : Int) < (s.size : Int)) = True := eq_true (by omega)
      have q6 : ((2 : Int) ≤ (s.size : Int)) = True := eq_true (by omega)
      have q7 : (2 ≤ s.size) = True := eq_true (by omega)
      have HS := Aside0.mk hs'
      have HV := Aside0.mk hb
      subst hbb
      clear hc h48 h120 hs' hb h3
      go_wp2_with (go_at_call 27; ((with_reducible refine (pu_lower _ _).mono ?_); rintro e w3 ⟨rfl, ⟨nd, rfl⟩⟩))
      go_meet
      case rel => exact ⟨by rw [HS.out], by rw [HV.out], ⟨by (repeat apply pw_below_drewN); exact Below.refl _ _⟩⟩
  case rest => as_aux_lemma =>
    obtain ⟨rfl, rfl, HB⟩ := hcut
    clear c2 q1 q2 HP
    have m1 : (m == 0) = false := beq_eq_false_iff_ne.2 (by have := HM.out; omega)
    have m2 : decide (m < 0) = false := decide_eq_false (by have := HM.out; omega)
    have m3 : decide (64 < m) = false := decide_eq_false (by have := HM.out; omega)
    generalize wc = w1 at HB ⊢
    go_upto_block 2 with fail
    go_cut [10] (fun v10 wc => v10 = .int .u64 (cutOf β) ∧ w1 = wc)
    case first => as_aux_lemma =>
      rcases HBB.out with hb | hb | hb
      all_goals
        have HV := Aside0.mk hb
        subst hb
        clear m1 m2 m3
        go_wp2
        go_meet
        case rel => exact ⟨rfl, rfl⟩
    case rest => as_aux_lemma =>
    obtain ⟨rfl, rfl⟩ := hcut
    clear m1 m2 m3
    go_upto_region 32 with fail
    go_cut [11] (fun v11 wc => v11 = .int .u64 (maxOf m) ∧ w1 = wc)
    case first => as_aux_lemma =>
      rcases HM.out with hb | hb | hb | hb
      all_goals
        have HV := Aside0.mk hb
        subst hb
        go_wp2
        go_meet
        case rel => exact ⟨rfl, rfl⟩
    case rest => as_aux_lemma =>
    obtain ⟨rfl, rfl⟩ := hcut
    have hcv := Lib.run_convert_string_bytes (P := Tryz.prog) w1 9 67 5 s' (u := .string) Tryz.underlying9 Tryz.underlying67 Tryz.underlying5
    have HCELL : Aside0 (∀ j, j < s'.size → (Lib.bytesWorld w1 5 s').cell? ⟨w1.heap.size, j, none⟩ = some (.int .u8 (bt s' j))) := ⟨pu_cell w1 s'⟩
    have HBW : Aside0 (Below w.heap.size w (Lib.bytesWorld w1 5 s')) := ⟨HB.out.trans ((Lib.bytesWorld_below w1 5 s').mono HB.out.size)⟩
    generalize Lib.bytesWorld w1 5 s' = W1 at hcv HCELL HBW
    obtain ⟨N, hN⟩ : ∃ N, N = w1.heap.size := ⟨_, rfl⟩
    rw [← hN] at hcv HCELL
    have V8 : β % 256 = β := pu_w8 HBB.out
    have V64 : β % 18446744073709551616 = β := pu_w64 HBB.out
    clear hN
    go_wp2
    go_loopw [12, 13, 101] (fun vu vn vi wr => ∃ (k : Nat) (n : Int), vu = .bool false ∧ vn = .int .u64 n ∧ vi = .int .i64 k ∧ k ≤ s'.size ∧ Aside0 (puV β m s' = puL β (cutOf β) (maxOf m) s' (s'.size - k) k n) ∧ Aside0 (∀ j, j < s'.size → wr.cell? ⟨N, j, none⟩ = some (.int .u8 (bt s' j))) ∧ Aside0 (Below w.heap.size w wr)) (fun _ _ vi _ => s'.size - (intOf vi).toNat)
    case atStart => exact ⟨0, 0, rfl, rfl, rfl, by omega, ⟨rfl⟩, HCELL, HBW⟩
    case round =>
      clear hcv HCELL HBW HB
      obtain ⟨k, n, rfl, rfl, rfl, hk, HR, HCELL, HB⟩ := hrel
      by_cases hkn : k < s'.size
      · obtain ⟨j, hj⟩ : ∃ j, s'.size - k = j + 1 := ⟨s'.size - k - 1, by omega⟩
        have hX := HR.out
        rw [hj, puL] at hX
        have hc := HCELL.out k hkn
        have h95 := HU.out k hkn
        generalize bt s' k = c at hX hc h95
        have b95 : (c == 95) = false := beq_eq_false_iff_ne.2 h95
        have c1 : ((k : Int) < (s'.size : Int)) = True := eq_true (by omega)
        have c1n : (k < s'.size) = True := eq_true hkn
        have p1 : ((0 : Int) ≤ (k : Int)) = True := eq_true (by omega)
        have HJ : Aside0 (s'.size - (k + 1) = j) := ⟨by omega⟩
        have HK : Aside0 (k < s'.size) := ⟨hkn⟩
        have HX := Aside0.mk hX
        clear hk hkn hj h95 hX HR
        go_upto_block 5 with fail
        go_cut [12, 16] (fun v12 v16 wc => ∃ d : Int, v12 = .bool false ∧ v16 = .int .u8 d ∧ Aside0 (dV c = some d) ∧ Aside0 (∀ j, j < s'.size → wc.cell? ⟨N, j, none⟩ = some (.int .u8 (bt s' j))) ∧ Aside0 (Below w.heap.size w wc))
        case first => as_aux_lemma =>
          have hret : ∀ W : World, Below w.heap.size w W → dV c = none → (Ending.returned (.tuple #[.int .u64 0, .iface 61 (.int .i64 2)]) = .returned (.tuple #[.int .u64 (puV β m s').1, errV (puV β m s').2]) ∧ Below w.heap.size w W) := fun W hb hd => by
            have h := HX.out
            rw [hd] at h
            rw [h]
            exact ⟨rfl, hb⟩
          have HRET := Aside0.mk hret
          clear hret
          by_cases h48 : 48 ≤ c ∧ c ≤ 57
          · have b1 : decide (48 ≤ c) = true := decide_eq_true h48.1
            have b2 : decide (c ≤ 57) = true := decide_eq_true h48.2
            have HD : Aside0 (dV c = some ((c - 48) % 256)) := ⟨by unfold dV; rw [if_pos h48]⟩
            clear h48 HX HRET
            go_wp2
            go_meet
            case rel => exact ⟨_, rfl, rfl, HD, HCELL, HB⟩
          · obtain ⟨lo, hlo⟩ : ∃ lo, lo = Go.bits .or .u8 c 32 := ⟨_, rfl⟩
            have HL := Aside0.mk hlo
            have HN := Aside0.mk h48
            by_cases hl : 97 ≤ lo ∧ lo ≤ 122
            · have b3 : decide (97 ≤ lo) = true := decide_eq_true hl.1
              have b4 : decide (lo ≤ 122) = true := decide_eq_true hl.2
              have HD : Aside0 (dV c = some (((lo - 97) % 256 + 10) % 256)) := ⟨by unfold dV; rw [if_neg h48, ← hlo, if_pos hl]⟩
              by_cases h48' : 48 ≤ c
              · have b1 : decide (48 ≤ c) = true := decide_eq_true h48'
                have b2 : decide (c ≤ 57) = false := decide_eq_false (fun e => h48 ⟨h48', e⟩)
                clear h48 h48' hl hlo HX HRET
                go_wp2_with (go_at_call 27; ((with_reducible refine (pu_lower _ _).mono ?_); rintro e w3 ⟨rfl, ⟨nd, rfl⟩⟩; rw [← HL.out]))
                go_meet
                case rel => exact ⟨_, rfl, rfl, HD, HCELL, ⟨by (repeat apply pw_below_drewN); exact HB.out⟩⟩
              · have b1 : decide (48 ≤ c) = false := decide_eq_false h48'
                clear h48 h48' hl hlo HX HRET
                go_wp2_with (go_at_call 27; ((with_reducible refine (pu_lower _ _).mono ?_); rintro e w3 ⟨rfl, ⟨nd, rfl⟩⟩; rw [← HL.out]))
                go_meet
                case rel => exact ⟨_, rfl, rfl, HD, HCELL, ⟨by (repeat apply pw_below_drewN); exact HB.out⟩⟩
            · have HD : Aside0 (dV c = none) := ⟨by unfold dV; rw [if_neg h48, ← hlo, if_neg hl]⟩
              have hb1 : decide (48 ≤ c) = false ∨ decide (48 ≤ c) = true ∧ decide (c ≤ 57) = false := by
                by_cases h : 48 ≤ c
                · exact .inr ⟨decide_eq_true h, decide_eq_false (fun e => h48 ⟨h, e⟩)⟩
                · exact .inl (decide_eq_false h)
              have hb3 : decide (97 ≤ lo) = false ∨ decide (97 ≤ lo) = true ∧ decide (lo ≤ 122) = false := by
                by_cases h : 97 ≤ lo
                · exact .inr ⟨decide_eq_true h, decide_eq_false (fun e => hl ⟨h, e⟩)⟩
                · exact .inl (decide_eq_false h)
              clear h48 hl hlo HX
              rcases hb1 with b1 | ⟨b1, b2⟩ <;> rcases hb3 with b3 | ⟨b3, b4⟩
              all_goals
                go_wp2_with (go_at_call 27; ((with_reducible refine (pu_lower _ _).mono ?_); rintro e w3 ⟨rfl, ⟨nd, rfl⟩⟩; rw [← HL.out]))
                refine bodyPost_ret (results_list (rs := [.tmp 6, .tmp 7]) rfl (by simp) (.tmp (.tmp .nil))) rfl ?_
                exact HRET.out _ (by (repeat apply pw_below_drewN); exact HB.out) HD.out
        case rest => as_aux_lemma =>
        clear HCELL HB hc b95
        obtain ⟨d, rfl, rfl, HD, HCELL, HB⟩ := hcut
        have hX := HX.out
        rw [HD.out] at hX
        dsimp only at hX
        clear HX HD
        obtain ⟨C, hC⟩ : ∃ C, C = cutOf β := ⟨_, rfl⟩
        obtain ⟨M, hM⟩ : ∃ M, M = maxOf m := ⟨_, rfl⟩
        rw [← hC, ← hM] at hX
        rw [← hC, ← hM]
        have HC := Aside0.mk hC
        have HMX := Aside0.mk hM
        clear hC hM
        by_cases hd : β ≤ d
        · have b1 : decide (β ≤ d) = true := decide_eq_true hd
          rw [if_pos hd] at hX
          have HX := Aside0.mk hX
          clear hd hX
          go_wp2
          refine bodyPost_ret (results_list (rs := [.tmp 6, .tmp 7]) rfl (by simp) (.tmp (.tmp .nil))) rfl ?_
          rw [HX.out]
          exact ⟨rfl, HB.out⟩
        · have b1 : decide (β ≤ d) = false := decide_eq_false hd
          rw [if_neg hd] at hX
          clear hd
          by_cases hn : C ≤ n
          · have b2 : decide (C ≤ n) = true := decide_eq_true hn
            rw [if_pos hn] at hX
            have HX := Aside0.mk hX
            clear hn hX
            go_wp2
            refine bodyPost_ret (results_list (rs := [.tmp 6, .tmp 7]) rfl (by simp) (.tmp (.tmp .nil))) rfl ?_
            rw [HX.out]
            exact ⟨rfl, HB.out⟩
          · have b2 : decide (C ≤ n) = false := decide_eq_false hn
            rw [if_neg hn] at hX
            clear hn
            by_cases ho : IntKind.u64.wrap (IntKind.u64.wrap (n * β) + IntKind.u64.wrap d) < IntKind.u64.wrap (n * β) ∨ M < IntKind.u64.wrap (IntKind.u64.wrap (n * β) + IntKind.u64.wrap d)
            · rw [if_pos ho] at hX
              have HX := Aside0.mk hX
              have hb : decide (IntKind.u64.wrap (IntKind.u64.wrap (n * β) + IntKind.u64.wrap d) < IntKind.u64.wrap (n * β)) = true ∨ decide (IntKind.u64.wrap (IntKind.u64.wrap (n * β) + IntKind.u64.wrap d) < IntKind.u64.wrap (n * β)) = false ∧ decide (M < IntKind.u64.wrap (IntKind.u64.wrap (n * β) + IntKind.u64.wrap d)) = true := by
                by_cases h : IntKind.u64.wrap (IntKind.u64.wrap (n * β) + IntKind.u64.wrap d) < IntKind.u64.wrap (n * β)
                · exact .inl (decide_eq_true h)
                · exact .inr ⟨decide_eq_false h, decide_eq_true (ho.resolve_left h)⟩
              clear hX ho
              rcases hb with b3 | ⟨b3, b4⟩
              all_goals
                go_wp2
                refine bodyPost_ret (results_list (rs := [.tmp 6, .tmp 7]) rfl (by simp) (.tmp (.tmp .nil))) rfl ?_
                rw [HX.out]
                exact ⟨rfl, HB.out⟩
            · rw [if_neg ho] at hX
              have HX := Aside0.mk hX
              have b3 : decide (IntKind.u64.wrap (IntKind.u64.wrap (n * β) + IntKind.u64.wrap d) < IntKind.u64.wrap (n * β)) = false := decide_eq_false (fun h => ho (.inl h))
              have b4 : decide (M < IntKind.u64.wrap (IntKind.u64.wrap (n * β) + IntKind.u64.wrap d)) = false := decide_eq_false (fun h => ho (.inr h))
              have W1 : wrap64 ((k : Int) + 1) = (k : Int) + 1 := pu_succ HK.out hs
              clear hX ho
              go_wp2
              rw [HC.out, HMX.out]
              go_roundw
              case measure => exact pu_meas HK.out W1
              case rel =>
                have hX := HX.out
                rw [HC.out, HMX.out] at hX
                exact ⟨k + 1, _, rfl, rfl, ri_next W1, HK.out, ⟨by rw [hX, HJ.out]⟩, HCELL, HB⟩
      · have c1 : ((k : Int) < (s'.size : Int)) = False := eq_false (by omega)
        have c1n : (k < s'.size) = False := eq_false hkn
        have HX : Aside0 (puV β m s' = (n, none)) := ⟨by rw [HR.out, show s'.size - k = 0 by omega]; rfl⟩
        clear hkn hk HR
        go_wp2
        refine bodyPost_ret (results_list (rs := [.tmp 6, .tmp 7]) rfl (by simp) (.tmp (.tmp .nil))) rfl ?_
        rw [HX.out]
        exact ⟨rfl, HB.out⟩
end Go.Proofs.YtogikhohkbcccaaGreatDoor.De
