/-
Match rules: what formatMatchOptions and the look at one pair of texts do, told by walks.
-/
import Derived.Test.YtoldgnmgjpjapaaQ0
import Derived.Test.YtoldgnmgjpjapaaShelf
import Derived.Test.YtoldgnmgjpjapaaCom
import Derived.Outline
namespace Go.Proofs.Ytoldgnmgjpjapaa.Mt
set_option linter.unusedVariables false
set_option linter.unusedSimpArgs false
open Go.RowKit Go.Proofs.Ytoldgnmgjpjapaa.Q Go.Proofs.YtoldgnmgjpjapaaW.PrintWords Go.Proofs.YtoldgnmgjpjapaaW.PrintLast Go.Proofs.YtoldgnmgjpjapaaW.PrintMore
open Go.Proofs.Ytoldgnmgjpjapaa.Com

/-! ### zzFits4 -/
def laws_zzFits4.f (a b : ByteArray) : Option Bool := some (decide (a.size ≤ 2147483647) && decide (b.size ≤ 2147483647))
set_option maxHeartbeats 4000000 in
theorem laws_zzFits4.calls (a b : ByteArray) (r : Bool) (w : World) (h : laws_zzFits4.f a b = some r) :
    Calls Try.prog 10 #[.agg #[.string a, .string b]] w fun e w' => e = .returned (.bool r) ∧ Below w.heap.size w w' := by
  obtain rfl := Option.some.inj h
  have hi0 : ∀ w, (Instr.index 30 (.agg #[.string a, .string b]) (.int .i64 0)).run Try.prog w = .ok (.string a) w := fun _ => by kernel_rfl
  have hi1 : ∀ w, (Instr.index 30 (.agg #[.string a, .string b]) (.int .i64 1)).run Try.prog w = .ok (.string b) w := fun _ => by kernel_rfl
  obtain ⟨x, hx⟩ : ∃ x : Bool, decide (2147483647 < (a.size : Int)) = x := ⟨_, rfl⟩
  obtain ⟨y, hy⟩ : ∃ y : Bool, decide (2147483647 < (b.size : Int)) = y := ⟨_, rfl⟩
  have hx2 : decide (a.size ≤ 2147483647) = !x := by rw [← hx, ← decide_not]; congr 1; apply propext; omega
  have hy2 : decide (b.size ≤ 2147483647) = !y := by rw [← hy, ← decide_not]; congr 1; apply propext; omega
  rw [hx2, hy2]
  have hx3 : decide (2147483647 < a.size) = x := by rw [← hx]; congr 1; apply propext; omega
  have hy3 : decide (2147483647 < b.size) = y := by rw [← hy]; congr 1; apply propext; omega
  clear hx2 hy2
  go_enter Try.func10, Try.ntmps10
  go_wp2
  go_loop [6] (fun i => i = .int .i64 0 ∨ (i = .int .i64 1 ∧ x = false) ∨ (i = .int .i64 2 ∧ x = false ∧ y = false)) (fun i => 2 - (intOf i).toNat)
  case atStart => exact .inl rfl
  case round =>
    rcases hrel with rfl | ⟨rfl, rfl⟩ | ⟨rfl, rfl, rfl⟩
    · cases x with
      | true =>
        go_wp2
        go_ret
        exact ⟨rfl, below_alloc (Below.refl _ _) _⟩
      | false =>
        go_wp2
        go_round
        case rel => simp
        case measure => simp [intOf]
    · cases y with
      | true =>
        go_wp2
        go_ret
        exact ⟨rfl, below_alloc (Below.refl _ _) _⟩
      | false =>
        go_wp2
        go_round
        case rel => simp
        case measure => simp [intOf]
    · go_wp2
      go_ret
      exact ⟨rfl, below_alloc (Below.refl _ _) _⟩

/-! ### formatMatchOptions -/
def opt (x : S36) : ByteArray := ((x.f0 ++ (⟨#[61, 39]⟩ : ByteArray)) ++ x.f1) ++ (⟨#[39]⟩ : ByteArray)
def rule (l : List S36) : ByteArray := ⟨(Lib.join ((l.map opt).map (·.data.toList)) [44]).toArray⟩
def dbus_formatMatchOptions.f (l0 : List S36) : Option ByteArray := if l0.length ≤ 1000 ∧ ∀ x ∈ l0, x.f0.size ≤ 1000 ∧ x.f1.size ≤ 1000 then some (rule l0) else none

theorem mk31 (n : Nat) (hn : n ≤ 1000) (W : World) : (Instr.makeSlice 31 (.int .i64 0) (.int .i64 (n : Int))).run Try.prog W = .ok (.slice (some ⟨W.heap.size, 0, none⟩) 0 n) (W.alloc (.cells (madeCells #[.string ⟨#[]⟩] n) 9)) := by
  obtain ⟨i, hi, hz0, hz1, hz2⟩ := info_parts info9
  have hr := run_make (P := Try.prog) W 31 9 i (.string ⟨#[]⟩) Try.underlying31 hi hz0 .i64 .i64 0 (n : Int) (Int.le_refl _) (by omega) (by rw [hz2]; omega) (by omega)
  simp only [hz1, Int.toNat_natCast, Int.toNat_zero, Nat.mul_one] at hr
  exact hr

theorem join_length (sep : List UInt8) : ∀ (l : List (List UInt8)) (n : Nat), (∀ x ∈ l, x.length ≤ n) → (Lib.join l sep).length ≤ l.length * (n + sep.length)
  | [], n, h => by simp [Lib.join, List.intercalate]
  | [a], n, h => by
    have := h a List.mem_cons_self
    simp [Lib.join, List.intercalate]; omega
  | a :: b :: l, n, h => by
    have h1 := h a List.mem_cons_self
    have ih := join_length sep (b :: l) n (fun x hx => h x (List.mem_cons_of_mem _ hx))
    have e : Lib.join (a :: b :: l) sep = a ++ (sep ++ Lib.join (b :: l) sep) := by simp [Lib.join, List.intercalate, List.intersperse]
    rw [e, List.length_append, List.length_append]
    simp only [List.length_cons] at ih ⊢
    have : (l.length + 1 + 1) * (n + sep.length) = (l.length + 1) * (n + sep.length) + (n + sep.length) := by rw [Nat.succ_mul]
    omega

set_option maxHeartbeats 4000000 in
theorem dbus_formatMatchOptions.calls (A0 : Option Addr) (c0 : Nat) (l0 : List S36) (r : ByteArray) (w : World) (hr0 : Kd.C k36 w A0 l0.length l0) (hc0 : l0.length ≤ c0) (h : dbus_formatMatchOptions.f l0 = some r) :
    Calls Try.prog 13 #[.slice A0 l0.length c0] w fun e w' => e = .returned (.string r) ∧ Below w.heap.size w w' := by
  unfold dbus_formatMatchOptions.f at h
  split at h
  case isFalse => cases h
  case isTrue hg =>
  obtain rfl := Option.some.inj h
  obtain ⟨hlen, hsz⟩ := hg
  have hsz_ := Aside0.mk hsz
  have HR0 := Aside0.mk hr0
  clear hr0 h hsz
  have hmk := mk31 l0.length hlen
  have hu36 := Try.underlying36
  go_enter Try.func13, Try.ntmps13
  go_wp2
  have HB := Aside0.mk (below_alloc (Below.refl w.heap.size w) (.cells (madeCells #[.string ⟨#[]⟩] l0.length) 9))
  have HO : Aside0 ((w.alloc (.cells (madeCells #[.string ⟨#[]⟩] l0.length) 9)).ownsRow w.heap.size 9 1 (.slice (some ⟨w.heap.size, 0, none⟩) 0 l0.length) 0 (encs Value.string (([] : List S36).map opt))) := ⟨World.ownsRow_made w (madeCells #[.string ⟨#[]⟩] l0.length) l0.length (Nat.le_refl _) (by unfold maxLen; omega) (by rw [size_madeCells]; omega)⟩
  generalize w.alloc (.cells (madeCells #[.string ⟨#[]⟩] l0.length) 9) = w0 at HB HO ⊢
  go_loopw [3, 11] (fun v i wr => ∃ (k : Nat), k ≤ l0.length ∧ i = .int .i64 k ∧ Aside0 (wr.ownsRow w.heap.size 9 1 v k (encs Value.string ((l0.take k).map opt))) ∧ Aside0 (Below w.heap.size w wr)) (fun _ i _ => l0.length - (intOf i).toNat)
  case atStart => exact ⟨0, Nat.zero_le _, rfl, HO, HB⟩
  case round =>
    clear HO HB
    obtain ⟨k, hk, rfl, HO, HB⟩ := hrel
    have hb0 := HB.out.size
    by_cases hlt : k < l0.length
    · obtain ⟨ad, e1, hcell0, hcell1⟩ := at_T36 (Kd.C_below HR0.out HB.out) (k : Int) (by omega) (by omega)
      cases e1
      have hs9 : rd_T36 l0 (k : Int) = l0[k] := by
        unfold rd_T36
        rw [Int.toNat_natCast, List.getD_eq_getElem?_getD, List.getElem?_eq_getElem hlt]; rfl
      rw [hs9, Int.toNat_natCast] at hcell0 hcell1
      have hsk := hsz_.out _ (List.getElem_mem hlt)
      have htk := Aside0.mk (List.take_succ_eq_append_getElem hlt)
      generalize l0[k] = s at hcell0 hcell1 hsk htk
      clear hs9
      obtain ⟨s0, s1⟩ := s
      have hsk0 : s0.size ≤ 1000 := hsk.1
      have hsk1 : s1.size ≤ 1000 := hsk.2
      have z1 : (9223372036854775807 < s0.size + 2) = False := eq_false (by omega)
      have z2 : (9223372036854775807 < s0.size + 2 + s1.size) = False := eq_false (by omega)
      have z3 : (9223372036854775807 < s0.size + 2 + s1.size + 1) = False := eq_false (by omega)
      clear hsk
      have hl : Aside0 (((l0.take k).map opt).length = k) := ⟨by rw [List.length_map, List.length_take]; omega⟩
      have HO1 := Aside0.mk (HO.out.alloc (.cells #[.string s0, .string s1] 36))
      have HB1 := Aside0.mk (below_alloc HB.out (.cells #[.string s0, .string s1] 36))
      go_wp2_with (first | (at_builtin; refine print_append_of (w0 := w) Value.string w.heap.size rfl (.tmp 15) (.tmp 23) 31 9 (.string ⟨#[]⟩) 16 rfl Try.underlying31 info9 rfl (by decide) u3 ((l0.take k).map opt) (opt ⟨s0, s1⟩) rfl (by simp [Act.eval]) rfl (by rw [hl.out]; exact HO1.out) HB1.out HB1.out.size (by rw [hl.out]; omega) ?_; intro v3 w3 ho3 hB3 hg3 hat3; rw [List.length_append, hl.out] at ho3; have HO3 := Aside0.mk ho3; have HB3 := Aside0.mk hB3; clear ho3 hB3 hg3 hat3 HO HB HO1 HB1))
      go_roundw
      case rel => exact ⟨k + 1, by omega, by go_num, ⟨by rw [htk.out, List.map_append]; exact HO3.out⟩, HB3⟩
      case measure => simp [intOf]; omega
    · obtain rfl : k = l0.length := by omega
      rw [List.take_length] at HO
      obtain ⟨A, c, rfl⟩ := own_slice HO.out
      have hcc := own_le HO.out
      rcases Nat.eq_zero_or_pos l0.length with h0 | h0
      · obtain rfl : l0 = [] := List.eq_nil_of_length_eq_zero h0
        go_wp2_with (go_at_call 14; refine (Try.strings_Join_none A c ⟨#[44]⟩ _).mono ?_; rintro e w' ⟨rfl, rfl⟩)
        go_ret
        exact ⟨rfl, HB.out⟩
      · have hm : (l0.map opt).length = l0.length := List.length_map ..
        have hle := own_le HO.out
        rcases HO.out.2 with ⟨he, h9⟩ | ⟨g, cap, cur, he, hg, hh, _, _, _, _⟩
        · omega
        · injection he with he1 he2 he3
          subst he1
          have hcells : ∀ (j : Nat) x, (l0.map opt)[j]? = some x → wr.cell? ⟨g, 0 + j, none⟩ = some (.string x) := by
            intro j x hx
            have := HO.out.cells (g := g) rfl j (.string x) (by simp only [encs, List.getElem?_map, hx, Option.map_some])
            rw [add_plain] at this
            rw [Nat.zero_add]; exact this
          have hjl := join_length [44] ((l0.map opt).map (·.data.toList)) 2003 (by
            intro y hy
            simp only [List.mem_map] at hy
            obtain ⟨z, ⟨q, hq, rfl⟩, rfl⟩ := hy
            have := hsz_.out q hq
            show (B (opt q)).length ≤ 2003
            rw [B_length]
            unfold opt
            simp only [ByteArray.size_append]
            have e1 : (⟨#[61, 39]⟩ : ByteArray).size = 2 := rfl
            have e2 : (⟨#[39]⟩ : ByteArray).size = 1 := rfl
            omega)
          have hcall := Try.strings_Join g 0 c (l0.map opt) ⟨#[44]⟩ wr hcells (blk_lt hh) (by rw [hm]; omega) (by omega) (by
            rw [List.length_map, hm] at hjl
            refine Nat.le_trans hjl ?_
            simp only [List.length_singleton]
            have := Nat.mul_le_mul_right (2003 + 1) hlen
            omega)
          rw [hm] at hcall
          have HC : Aside0 (Calls Try.prog 14 #[.slice (some ⟨g, 0, none⟩) l0.length c, .string ⟨#[44]⟩] wr fun e w' => e = .returned (.string (rule l0)) ∧ Below wr.heap.size wr w') := ⟨hcall⟩
          clear hcall hcells hjl hm hh hg he2 he3 hcc hle
          go_wp2_with (go_at_call 14; refine HC.out.mono ?_; rintro e w' ⟨rfl, hb⟩)
          go_ret
          exact ⟨rfl, below_step HB.out hb⟩

end Go.Proofs.Ytoldgnmgjpjapaa.Mt
