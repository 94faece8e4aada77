import Derived.Test.YthhiijehdpchbaaExt5
import Derived.OneCell
namespace Go.Proofs.Ythhiijehdpchbaa.Ext
set_option linter.unusedVariables false
set_option linter.unusedSimpArgs false
open Go.RowKit Go.Proofs.YthhiijehdpchbaaW.PrintWords Go.Proofs.YthhiijehdpchbaaW.PrintLast Go.Proofs.YthhiijehdpchbaaW.PrintMore Go.Proofs.Ythhiijehdpchbaa.Com

/-- The types of a text, one behind the other, as the program reads them. -/
def pl : Nat → ByteArray → ByteArray → Option (Bool × ByteArray)
  | 0, _, _ => none
  | k + 1, a, s => if s.size = 0 then some (true, a) else (vs k s 0 0 0).bind fun p => if p.1 = true then pl k a p.2 else some (false, E0)

def dbus_ParseSignature.f (k : Nat) (a : ByteArray) : Option (Bool × ByteArray) :=
  if a.size = 0 then some (true, E0) else if 255 < a.size then some (false, E0) else pl k a a

/-- What holds at the head of the loop. -/
def PRel (k : Nat) (a : ByteArray) (b : Bool) (r : ByteArray) (w : World) (kq : Nat) (v0 v3 : Value) (w' : World) : Prop :=
  kq ≤ k ∧ Below w.heap.size w w' ∧ w'.heap[w.heap.size]? = some (.cells #[.string a] 37 (0, 0)) ∧ ((∃ s : ByteArray, v0 = .string s ∧ s.size ≤ 4294967296 ∧ v3 = .nilIface ∧ pl kq a s = some (b, r)) ∨ (∃ s : ByteArray, ∃ t u, v0 = .string s ∧ v3 = .iface t u ∧ b = false ∧ r = E0))

theorem block_alloc {w : World} {g : Nat} {o o' : Obj} (h : w.heap[g]? = some o) : (w.alloc o').heap[g]? = some o := by
  have hl := lt_of_block h
  rw [show (w.alloc o').heap[g]? = w.heap[g]? from Below.heap_alloc _ _ _ hl]; exact h
theorem block_drewN {w : World} {g : Nat} {o : Obj} (n : Nat) (h : w.heap[g]? = some o) : (w.drewN n).heap[g]? = some o := h
theorem block_new (w : World) (o : Obj) : (w.alloc o).heap[w.heap.size]? = some o := by
  show (w.heap.push o)[w.heap.size]? = some o
  simp
theorem block_below {w w' : World} {g : Nat} {o : Obj} (h : w.heap[g]? = some o) (hb : Below w.heap.size w w') : w'.heap[g]? = some o := (hb.block g (lt_of_block h)).trans h

set_option maxHeartbeats 1000000 in
set_option maxRecDepth 100000 in
theorem dbus_ParseSignature.calls (k : Nat) (a : ByteArray) (b : Bool) (r : ByteArray) (w : World) (h : dbus_ParseSignature.f k a = some (b, r)) :
    Calls Try.prog 18 #[.string a] w fun e w' => ∃ ev, e = .returned (.tuple #[.agg #[.string r], ev]) ∧ EB ev b ∧ Below w.heap.size w w' := by
  unfold dbus_ParseSignature.f at h
  by_cases c1 : a.size = 0
  · rw [if_pos c1] at h
    simp only [Option.some.injEq, Prod.mk.injEq] at h
    obtain ⟨rfl, rfl⟩ := h
    have z1 : ((a.size : Int) == 0) = true := by rw [c1]; rfl
    clear c1
    go_enter Try.func18, Try.ntmps18
    go_wp2
    exact bodyPost_ret (v := .tuple #[.agg #[.string E0], .nilIface]) (by simp [results, Try.results18, go_sem]) rfl ⟨_, rfl, EB_nil, below_alloc (Below.refl _ _) _⟩
  rw [if_neg c1] at h
  by_cases c2 : 255 < a.size
  · rw [if_pos c2] at h
    simp only [Option.some.injEq, Prod.mk.injEq] at h
    obtain ⟨rfl, rfl⟩ := h
    have z1 : ((a.size : Int) == 0) = false := by rw [beq_eq_false_iff_ne]; omega
    have z2 : decide (255 < (a.size : Int)) = true := by simp; omega
    clear c1
    go_enter Try.func18, Try.ntmps18
    go_wp2
    exact bodyPost_ret (v := .tuple #[.agg #[.string E0], .iface 46 (.agg #[.string a, .string ⟨#[116, 111, 111, 32, 108, 111, 110, 103]⟩])]) (by simp [results, Try.results18, go_sem]) rfl ⟨_, rfl, EB_err _ _, by repeat (first | exact Below.refl _ _ | apply below_alloc | apply pw_below_drewN | apply below_drew1 | refine below_set ?_ (by simp))⟩
  rw [if_neg c2] at h
  have z1 : ((a.size : Int) == 0) = false := by rw [beq_eq_false_iff_ne]; omega
  have z2 : decide (255 < (a.size : Int)) = false := by simp; omega
  have z3 : decide (255 < a.size) = false := by simp; omega
  have AH := Aside0.mk h
  have sle : a.size ≤ 4294967296 := by omega
  clear h c1 c2
  go_enter Try.func18, Try.ntmps18
  go_wp2
  go_loopg [0, 3] k (PRel k a b r w)
  case atStart => exact ⟨Nat.le_refl _, by repeat (first | exact Below.refl _ _ | apply below_alloc | apply pw_below_drewN | apply below_drew1 | refine below_set ?_ (by simp)), by first | exact block_new _ _ | exact one_setCell (block_new _ _), .inl ⟨a, rfl, sle, rfl, AH.out⟩⟩
  case round =>
    clear AH z1 z2 z3
    obtain ⟨hkq, hB, hG, hrel⟩ := hrel
    have HBr := Aside0.mk hB
    have HG := Aside0.mk hG
    have hcell := cell_of_one hG
    have hfree := free_of_one hG
    have hlt := lt_of_block hG
    clear hB hG
    rcases hrel with ⟨s, rfl, hsl, rfl, hv⟩ | ⟨s, ty, u, rfl, rfl, rfl, rfl⟩
    · by_cases h0 : s.size = 0
      · have n1 : ((s.size : Int) == 0) = true := by rw [h0]; rfl
        have n2 : ((s.size : Int) != 0) = false := by rw [h0]; rfl
        cases gk with
        | zero => exact absurd hv (by simp [pl])
        | succ k3 =>
          rw [pl, if_pos h0] at hv
          simp only [Option.some.injEq, Prod.mk.injEq] at hv
          obtain ⟨rfl, rfl⟩ := hv
          clear h0
          go_wp2
          exact bodyPost_ret (v := .tuple #[.agg #[.string a], .nilIface]) (by simp [results, Try.results18, go_sem, hcell]) rfl ⟨_, rfl, EB_nil, by repeat (first | exact HBr.out | apply below_alloc | apply pw_below_drewN | apply below_drew1)⟩
      · have n1 : ((s.size : Int) == 0) = false := by rw [beq_eq_false_iff_ne]; omega
        have n2 : ((s.size : Int) != 0) = true := by rw [bne, n1]; rfl
        cases gk with
        | zero => exact absurd hv (by simp [pl])
        | succ k3 =>
          rw [pl, if_neg h0] at hv
          obtain ⟨⟨b1, r1⟩, h1, hv⟩ := Option.bind_eq_some_iff.mp hv
          have A1 := Aside0.mk h1
          have AV := Aside0.mk hv
          clear h0 h1 hv
          go_wp2_with (first | (go_at_call 22; refine (Reads.go (Reads.all k3) _ 0 0 0 _ b1 r1 _ A1.out (Dep.new _ _ _ _) (by omega) (by omega) (by omega) (by omega) (by omega) (by omega) hsl).mono ?_; rintro e w3 ⟨ev, rfl, he, hb⟩; have HB3 := Aside0.mk (below_step (w := w) (by repeat (first | exact HBr.out | apply below_alloc | apply pw_below_drewN | apply below_drew1)) hb); have HG3 := Aside0.mk (block_below (by repeat (first | exact HG.out | apply block_alloc | apply block_drewN)) hb); clear hb))
          have r1le : r1.size ≤ 4294967296 := Nat.le_trans ((vs_le k3).1 _ _ _ _ _ _ A1.out) hsl
          go_roundg k3
          case measure => omega
          case rel =>
            refine ⟨by omega, HB3.out, HG3.out, ?_⟩
            cases b1 with
            | true => exact .inl ⟨r1, rfl, r1le, he, AV.out⟩
            | false =>
              obtain ⟨t, u, rfl⟩ := he
              have := AV.out
              simp only [Bool.false_eq_true, if_false, Option.some.injEq, Prod.mk.injEq] at this
              exact .inr ⟨r1, t, u, rfl, rfl, this.1.symm, this.2.symm⟩
    · go_wp2
      have hc2 := cell_of_one (one_setCell (u := .string E0) HG.out)
      exact bodyPost_ret (v := .tuple #[.agg #[.string E0], .iface ty u]) (by simp [results, Try.results18, go_sem, hc2]) rfl ⟨_, rfl, EB_err _ _, below_set HBr.out (Nat.le_refl _)⟩

/-- A text's signature, and its text. -/
def impl_SgParse.f (k : Nat) (a0 : ByteArray) : Option (ByteArray × Bool) := (dbus_ParseSignature.f k a0).bind fun p => some (p.2, p.1)

theorem sig_text (r : ByteArray) (w : World) : Calls Try.prog 19 #[.agg #[.string r]] w fun e w' => e = .returned (.string r) ∧ w' = w.alloc (.cells #[.string r] 37) := by
  go_enter Try.func19, Try.ntmps19
  go_wp2
  go_ret
  exact ⟨rfl, rfl⟩

set_option maxHeartbeats 1000000 in
set_option maxRecDepth 100000 in
theorem impl_SgParse.calls (k : Nat) (a0 : ByteArray) (r1 : ByteArray) (r2 : Bool) (w : World) (h : impl_SgParse.f k a0 = some (r1, r2)) :
    Calls Try.prog 10 #[.string a0] w fun e w' => e = .returned (.tuple #[.string r1, .bool r2]) ∧ Below w.heap.size w w' := by
  unfold impl_SgParse.f at h
  obtain ⟨⟨b, r⟩, h1, h2⟩ := Option.bind_eq_some_iff.mp h
  simp only [Option.some.injEq, Prod.mk.injEq] at h2
  obtain ⟨rfl, rfl⟩ := h2
  have AH := Aside0.mk h1
  clear h h1
  go_enter Try.func10, Try.ntmps10
  go_wp2_with (first | (go_at_call 18; refine (dbus_ParseSignature.calls k a0 b r _ AH.out).mono ?_; rintro e w1 ⟨ev, rfl, he, hb⟩; have HE := Aside0.mk he; have HB := Aside0.mk hb; clear he hb))
  cases b with
  | true =>
    obtain rfl : ev = .nilIface := HE.out
    go_region_held3 (fun W => W.cell? ⟨w1.heap.size, 0, none⟩ = some (.string r)) (first | go_keep)
      (first | (go_at_call 19; refine (sig_text r _).mono ?_; rintro e w2 ⟨rfl, rfl⟩))
    all_goals
      go_wp2
      go_ret2
      exact ⟨rfl, by repeat (first | exact HB.out | apply below_alloc | apply pw_below_drewN | apply below_drew1)⟩
  | false =>
    obtain ⟨t, u, rfl⟩ : ∃ t u, ev = .iface t u := HE.out
    go_region_held3 (fun W => W.cell? ⟨w1.heap.size, 0, none⟩ = some (.string r)) (first | go_keep)
      (first | (go_at_call 19; refine (sig_text r _).mono ?_; rintro e w2 ⟨rfl, rfl⟩))
    all_goals
      go_wp2
      go_ret2
      exact ⟨rfl, by repeat (first | exact HB.out | apply below_alloc | apply pw_below_drewN | apply below_drew1)⟩

theorem vs_mono : ∀ k, (∀ s x y z, LeO (vs k s x y z) (vs (k + 1) s x y z)) ∧ (∀ s i x y z, LeO (vd k s i x y z) (vd (k + 1) s i x y z)) ∧ (∀ s q x y z, LeO (vl k s q x y z) (vl (k + 1) s q x y z))
  | 0 => ⟨fun _ _ _ _ r h => by simp [vs] at h, fun _ _ _ _ _ r h => by simp [vd] at h, fun _ _ _ _ _ r h => by simp [vl] at h⟩
  | k + 1 => by
    obtain ⟨i1, i2, i3⟩ := vs_mono k
    refine ⟨?_, ?_, ?_⟩
    · intro s x y z
      rw [vs, vs]
      repeat' first
      | (with_reducible exact i1 _ _ _ _)
      | (with_reducible exact i2 _ _ _ _ _)
      | (with_reducible exact i3 _ _ _ _ _)
      | (with_reducible exact LeO.refl _)
      | (with_reducible refine LeO.ite ?_ ?_)
      | (with_reducible refine LeO.bind ?_ (fun _ => ?_))
    · intro s i x y z
      rw [vd, vd]
      repeat' first
      | (with_reducible exact i1 _ _ _ _)
      | (with_reducible exact i2 _ _ _ _ _)
      | (with_reducible exact i3 _ _ _ _ _)
      | (with_reducible exact LeO.refl _)
      | (with_reducible refine LeO.ite ?_ ?_)
      | (with_reducible refine LeO.bind ?_ (fun _ => ?_))
    · intro s q x y z
      rw [vl, vl]
      repeat' first
      | (with_reducible exact i1 _ _ _ _)
      | (with_reducible exact i2 _ _ _ _ _)
      | (with_reducible exact i3 _ _ _ _ _)
      | (with_reducible exact LeO.refl _)
      | (with_reducible refine LeO.ite ?_ ?_)
      | (with_reducible refine LeO.bind ?_ (fun _ => ?_))
theorem pl_mono : ∀ k a s, LeO (pl k a s) (pl (k + 1) a s)
  | 0 => fun _ _ r h => by simp [pl] at h
  | k + 1 => by
    have ih := pl_mono k
    intro a s
    rw [pl, pl]
    repeat' first
      | (with_reducible exact ih _ _)
      | (with_reducible exact (vs_mono k).1 _ _ _ _)
      | (with_reducible exact LeO.refl _)
      | (with_reducible refine LeO.ite ?_ ?_)
      | (with_reducible refine LeO.bind ?_ (fun _ => ?_))
theorem impl_SgParse.mono : ∀ a0 k, LeO (impl_SgParse.f k a0) (impl_SgParse.f (k + 1) a0) := by
  intro a0 k
  unfold impl_SgParse.f dbus_ParseSignature.f
  repeat' first
      | (with_reducible exact pl_mono _ _ _)
      | (with_reducible exact LeO.refl _)
      | (with_reducible refine LeO.ite ?_ ?_)
      | (with_reducible refine LeO.bind ?_ (fun _ => ?_))

/-- The inner reader of types, told what stands about it. -/
def impl_SgBegin.f (k : Nat) (a0 : ByteArray) (a1 a2 a3 : Int) : Option (ByteArray × Bool) :=
  if a0.size ≤ 4294967296 ∧ 0 ≤ a1 ∧ a1 ≤ 1000 ∧ 0 ≤ a2 ∧ a2 ≤ 1000 ∧ 0 ≤ a3 ∧ a3 ≤ 1000 then (vs k a0 a1 a2 a3).bind fun p => some (p.2, p.1) else none
theorem impl_SgBegin.mono : ∀ a0 a1 a2 a3 k, LeO (impl_SgBegin.f k a0 a1 a2 a3) (impl_SgBegin.f (k + 1) a0 a1 a2 a3) := by
  intro a0 a1 a2 a3 k
  unfold impl_SgBegin.f
  repeat' first
      | (with_reducible exact (vs_mono k).1 _ _ _ _)
      | (with_reducible exact LeO.refl _)
      | (with_reducible refine LeO.ite ?_ ?_)
      | (with_reducible refine LeO.bind ?_ (fun _ => ?_))

set_option maxRecDepth 100000 in
theorem dbus_DoorBegin.calls (k : Nat) (a0 : ByteArray) (a1 a2 a3 : Int) (b : Bool) (r : ByteArray) (w : World) (hs : a0.size ≤ 4294967296) (h1 : 0 ≤ a1) (h2 : a1 ≤ 1000) (h3 : 0 ≤ a2) (h4 : a2 ≤ 1000) (h5 : 0 ≤ a3) (h6 : a3 ≤ 1000) (h : vs k a0 a1 a2 a3 = some (b, r)) :
    Calls Try.prog 24 #[.string a0, .int .i64 a1, .int .i64 a2, .int .i64 a3] w fun e w' => ∃ ev, e = .returned (.tuple #[.string r, ev]) ∧ EB ev b ∧ Below w.heap.size w w' := by
  have AH := Aside0.mk h
  clear h
  go_enter Try.func24, Try.ntmps24
  go_wp2_with (first | (go_at_call 22; refine (Reads.go (Reads.all k) _ a1 a2 a3 _ b r _ AH.out (Dep.new _ _ _ _) (by omega) (by omega) (by omega) (by omega) (by omega) (by omega) hs).mono ?_; rintro e w3 ⟨ev, rfl, he, hb⟩; have HE := Aside0.mk he; have HB := Aside0.mk (below_step (w := w) (by repeat (first | exact Below.refl _ _ | apply below_alloc | apply pw_below_drewN | apply below_drew1)) hb); clear he hb))
  first
    | (go_ret2; exact ⟨_, rfl, HE.out, HB.out⟩)
    | (go_quiet (fail); go_wp2; go_ret2; exact ⟨_, rfl, HE.out, by repeat (first | exact HB.out | apply below_alloc | apply pw_below_drewN | apply below_drew1)⟩)

set_option maxRecDepth 100000 in
theorem impl_SgBegin.calls (k : Nat) (a0 : ByteArray) (a1 a2 a3 : Int) (r1 : ByteArray) (r2 : Bool) (w : World) (h : impl_SgBegin.f k a0 a1 a2 a3 = some (r1, r2)) :
    Calls Try.prog 21 #[.string a0, .int .i64 a1, .int .i64 a2, .int .i64 a3] w fun e w' => e = .returned (.tuple #[.string r1, .bool r2]) ∧ Below w.heap.size w w' := by
  unfold impl_SgBegin.f at h
  split at h
  case isFalse => simp at h
  case isTrue hh =>
    obtain ⟨hs, h1, h2, h3, h4, h5, h6⟩ := hh
    obtain ⟨⟨b, r⟩, hv, he⟩ := Option.bind_eq_some_iff.mp h
    simp only [Option.some.injEq, Prod.mk.injEq] at he
    obtain ⟨rfl, rfl⟩ := he
    have AH := Aside0.mk hv
    clear h hv
    go_enter Try.func21, Try.ntmps21
    go_wp2_with fail
    refine (dbus_DoorBegin.calls k a0 a1 a2 a3 b r _ hs h1 h2 h3 h4 h5 h6 AH.out).mono ?_
    rintro e w' ⟨ev, rfl, he, hb⟩
    have HB := Aside0.mk hb
    clear hb
    cases b with
    | true =>
      obtain rfl : ev = .nilIface := he
      go_wp2
      go_quiet (fail)
      go_wp2
      go_ret2
      exact ⟨rfl, by repeat (first | exact HB.out | apply pw_below_drewN | apply below_drew1)⟩
    | false =>
      obtain ⟨t, u, rfl⟩ : ∃ t u, ev = .iface t u := he
      go_wp2
      go_quiet (fail)
      go_wp2
      go_ret2
      exact ⟨rfl, by repeat (first | exact HB.out | apply pw_below_drewN | apply below_drew1)⟩
end Go.Proofs.Ythhiijehdpchbaa.Ext
