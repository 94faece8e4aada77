/-
Match rules: what formatMatchOptions and the look at one pair of texts do, told by walks.
-/
import Derived.Test.YtoldgnmgjpjapaaDoorQ0
import Derived.Test.YtoldgnmgjpjapaaDoorShelf
import Derived.Test.YtoldgnmgjpjapaaDoorCom
import Derived.Outline
namespace Go.Proofs.YtoldgnmgjpjapaaDoor.Mt
set_option linter.unusedVariables false
set_option linter.unusedSimpArgs false
open Go.RowKit Go.Proofs.YtoldgnmgjpjapaaDoor.Q Go.Proofs.YtoldgnmgjpjapaaDoorW.PrintWords Go.Proofs.YtoldgnmgjpjapaaDoorW.PrintLast Go.Proofs.YtoldgnmgjpjapaaDoor.Gt
open Go.Proofs.YtoldgnmgjpjapaaDoor.Com

/-! ### formatMatchOptions -/
def opt (x : S50) : ByteArray := ((x.f0 ++ (⟨#[61, 39]⟩ : ByteArray)) ++ x.f1) ++ (⟨#[39]⟩ : ByteArray)
def rule (l : List S50) : ByteArray := ⟨(Lib.join ((l.map opt).map (·.data.toList)) [44]).toArray⟩
def dbus_formatMatchOptions.f (l0 : List S50) : Option ByteArray := if l0.length ≤ 1000 ∧ ∀ x ∈ l0, x.f0.size ≤ 1000 ∧ x.f1.size ≤ 1000 then some (rule l0) else none

set_option maxRecDepth 100000 in
theorem mk23 (n : Nat) (hn : n ≤ 1000) (W : World) : (Instr.makeSlice 23 (.int .i64 0) (.int .i64 (n : Int))).run Tryd.prog W = .ok (.slice (some ⟨W.heap.size, 0, none⟩) 0 n) (W.alloc (.cells (madeCells #[.string ⟨#[]⟩] n) 9)) := by
  obtain ⟨i, hi, hz0, hz1, hz2⟩ := info_parts info9
  have hr := run_make (P := Tryd.prog) W 23 9 i (.string ⟨#[]⟩) Tryd.underlying23 hi hz0 .i64 .i64 0 (n : Int) (Int.le_refl _) (by omega) (by rw [hz2]; omega) (by omega)
  simp only [hz1, Int.toNat_natCast, Int.toNat_zero, Nat.mul_one] at hr
  exact hr

theorem join_length (sep : List UInt8) : ∀ (l : List (List UInt8)) (n : Nat), (∀ x ∈ l, x.length ≤ n) → (Lib.join l sep).length ≤ l.length * (n + sep.length)
  | [], n, h => by simp [Lib.join, List.intercalate]
  | [a], n, h => by
    have := h a List.mem_cons_self
    simp [Lib.join, List.intercalate]; omega
  | a :: b :: l, n, h => by
    have h1 := h a List.mem_cons_self
    have ih := join_length sep (b :: l) n (fun x hx => h x (List.mem_cons_of_mem _ hx))
    have e : Lib.join (a :: b :: l) sep = a ++ (sep ++ Lib.join (b :: l) sep) := by simp [Lib.join, List.intercalate, List.intersperse]
    rw [e, List.length_append, List.length_append]
    simp only [List.length_cons] at ih ⊢
    have : (l.length + 1 + 1) * (n + sep.length) = (l.length + 1) * (n + sep.length) + (n + sep.length) := by rw [Nat.succ_mul]
    omega

set_option maxHeartbeats 4000000 in
theorem dbus_formatMatchOptions.calls (A0 : Option Addr) (c0 : Nat) (l0 : List S50) (r : ByteArray) (w : World) (hr0 : Kd.C k50 w A0 l0.length l0) (hc0 : l0.length ≤ c0) (h : dbus_formatMatchOptions.f l0 = some r) :
    Calls Tryd.prog 27 #[.slice A0 l0.length c0] w fun e w' => e = .returned (.string r) ∧ Below w.heap.size w w' := by
  unfold dbus_formatMatchOptions.f at h
  split at h
  case isFalse => cases h
  case isTrue hg =>
  obtain rfl := Option.some.inj h
  obtain ⟨hlen, hsz⟩ := hg
  have hsz_ := Aside0.mk hsz
  have HR0 := Aside0.mk hr0
  clear hr0 h hsz
  have hmk := mk23 l0.length hlen
  have hu50 := Tryd.underlying50
  go_enter Tryd.func27, Tryd.ntmps27
  go_wp2
  have HB := Aside0.mk (below_alloc (Below.refl w.heap.size w) (.cells (madeCells #[.string ⟨#[]⟩] l0.length) 9))
  have HO : Aside0 ((w.alloc (.cells (madeCells #[.string ⟨#[]⟩] l0.length) 9)).ownsRow w.heap.size 9 1 (.slice (some ⟨w.heap.size, 0, none⟩) 0 l0.length) 0 (encs Value.string (([] : List S50).map opt))) := ⟨World.ownsRow_made w (madeCells #[.string ⟨#[]⟩] l0.length) l0.length (Nat.le_refl _) (by unfold maxLen; omega) (by rw [size_madeCells]; omega)⟩
  generalize w.alloc (.cells (madeCells #[.string ⟨#[]⟩] l0.length) 9) = w0 at HB HO ⊢
  go_loopw [3, 11] (fun v i wr => ∃ (k : Nat), k ≤ l0.length ∧ i = .int .i64 k ∧ Aside0 (wr.ownsRow w.heap.size 9 1 v k (encs Value.string ((l0.take k).map opt))) ∧ Aside0 (Below w.heap.size w wr)) (fun _ i _ => l0.length - (intOf i).toNat)
  case atStart => exact ⟨0, Nat.zero_le _, rfl, HO, HB⟩
  case round =>
    clear HO HB
    obtain ⟨k, hk, rfl, HO, HB⟩ := hrel
    have hb0 := HB.out.size
    by_cases hlt : k < l0.length
    · obtain ⟨ad, e1, hcell0, hcell1⟩ := at_T50 (Kd.C_below HR0.out HB.out) (k : Int) (by omega) (by omega)
      cases e1
      have hs9 : rd_T50 l0 (k : Int) = l0[k] := by
        unfold rd_T50
        rw [Int.toNat_natCast, List.getD_eq_getElem?_getD, List.getElem?_eq_getElem hlt]; rfl
      rw [hs9, Int.toNat_natCast] at hcell0 hcell1
      have hsk := hsz_.out _ (List.getElem_mem hlt)
      have htk := Aside0.mk (List.take_succ_eq_append_getElem hlt)
      generalize l0[k] = s at hcell0 hcell1 hsk htk
      clear hs9
      obtain ⟨s0, s1⟩ := s
      have hsk0 : s0.size ≤ 1000 := hsk.1
      have hsk1 : s1.size ≤ 1000 := hsk.2
      have z1 : (9223372036854775807 < s0.size + 2) = False := eq_false (by omega)
      have z2 : (9223372036854775807 < s0.size + 2 + s1.size) = False := eq_false (by omega)
      have z3 : (9223372036854775807 < s0.size + 2 + s1.size + 1) = False := eq_false (by omega)
      clear hsk
      have hl : Aside0 (((l0.take k).map opt).length = k) := ⟨by rw [List.length_map, List.length_take]; omega⟩
      have HO1 := Aside0.mk (HO.out.alloc (.cells #[.string s0, .string s1] 50))
      have HB1 := Aside0.mk (below_alloc HB.out (.cells #[.string s0, .string s1] 50))
      go_wp2_with (first | (at_builtin; refine print_append_of (w0 := w) Value.string w.heap.size rfl (.tmp 15) (.tmp 23) 23 9 (.string ⟨#[]⟩) 16 rfl Tryd.underlying23 info9 rfl (by decide) u3 ((l0.take k).map opt) (opt ⟨s0, s1⟩) rfl (by simp [Act.eval]) rfl (by rw [hl.out]; exact HO1.out) HB1.out HB1.out.size (by rw [hl.out]; omega) ?_; intro v3 w3 ho3 hB3 hg3 hat3; rw [List.length_append, hl.out] at ho3; have HO3 := Aside0.mk ho3; have HB3 := Aside0.mk hB3; clear ho3 hB3 hg3 hat3 HO HB HO1 HB1))
      go_roundw
      case rel => exact ⟨k + 1, by omega, by go_num, ⟨by rw [htk.out, List.map_append]; exact HO3.out⟩, HB3⟩
      case measure => simp [intOf]; omega
    · obtain rfl : k = l0.length := by omega
      rw [List.take_length] at HO
      obtain ⟨A, c, rfl⟩ := own_slice HO.out
      have hcc := own_le HO.out
      rcases Nat.eq_zero_or_pos l0.length with h0 | h0
      · obtain rfl : l0 = [] := List.eq_nil_of_length_eq_zero h0
        go_wp2_with (go_at_call 39; refine (Tryd.strings_Join_none A c ⟨#[44]⟩ _).mono ?_; rintro e w' ⟨rfl, rfl⟩)
        go_ret
        exact ⟨rfl, HB.out⟩
      · have hm : (l0.map opt).length = l0.length := List.length_map ..
        have hle := own_le HO.out
        rcases HO.out.2 with ⟨he, h9⟩ | ⟨g, cap, cur, he, hg, hh, _, _, _, _⟩
        · omega
        · injection he with he1 he2 he3
          subst he1
          have hcells : ∀ (j : Nat) x, (l0.map opt)[j]? = some x → wr.cell? ⟨g, 0 + j, none⟩ = some (.string x) := by
            intro j x hx
            have := HO.out.cells (g := g) rfl j (.string x) (by simp only [encs, List.getElem?_map, hx, Option.map_some])
            rw [add_plain] at this
            rw [Nat.zero_add]; exact this
          have hjl := join_length [44] ((l0.map opt).map (·.data.toList)) 2003 (by
            intro y hy
            simp only [List.mem_map] at hy
            obtain ⟨z, ⟨q, hq, rfl⟩, rfl⟩ := hy
            have := hsz_.out q hq
            show (B (opt q)).length ≤ 2003
            rw [B_length]
            unfold opt
            simp only [ByteArray.size_append]
            have e1 : (⟨#[61, 39]⟩ : ByteArray).size = 2 := rfl
            have e2 : (⟨#[39]⟩ : ByteArray).size = 1 := rfl
            omega)
          have hcall := Tryd.strings_Join g 0 c (l0.map opt) ⟨#[44]⟩ wr hcells (blk_lt hh) (by rw [hm]; omega) (by omega) (by
            rw [List.length_map, hm] at hjl
            refine Nat.le_trans hjl ?_
            simp only [List.length_singleton]
            have := Nat.mul_le_mul_right (2003 + 1) hlen
            omega)
          rw [hm] at hcall
          have HC : Aside0 (Calls Tryd.prog 39 #[.slice (some ⟨g, 0, none⟩) l0.length c, .string ⟨#[44]⟩] wr fun e w' => e = .returned (.string (rule l0)) ∧ Below wr.heap.size wr w') := ⟨hcall⟩
          clear hcall hcells hjl hm hh hg he2 he3 hcc hle
          go_wp2_with (go_at_call 39; refine HC.out.mono ?_; rintro e w' ⟨rfl, hb⟩)
          go_ret
          exact ⟨rfl, below_step HB.out hb⟩

end Go.Proofs.YtoldgnmgjpjapaaDoor.Mt
