import Derived.Test.YtogikhohkbcccaaGreatDoorFl
import Derived.WalkMore
namespace Go.Proofs.YtogikhohkbcccaaGreatDoor.De
/-- A goto goes on behind its label. -/
def Exit.jumps (c : Code) (P : Program) (Q : Exit → Act → World → Prop) : Exit → Act → World → Prop
  | .goto l, a, w => ∃ r, findLabel c l = some r ∧ r.wp P (Exit.noGoto Q) a w
  | e, a, w => Q e a w
/-- A scope whose gotos lead on to code without a goto. -/
theorem wp_scope_on {P : Program} {a : Act} {w : World} {Q : Exit → Act → World → Prop} {c : Code} (first : c.wp P (Exit.jumps c P Q) a w) : (Code.scope c).wp P Q a w := by
  intro b k cs
  obtain ⟨e, a₁, w₁, hq, harr⟩ := first b (.inScope c :: k) cs
  cases e with
  | normal => exact ⟨.normal, a₁, w₁, hq, .head step_scope (Steps.trans harr (.one step_inScope))⟩
  | exit id => exact ⟨.exit id, a₁, w₁, hq, fun k' hk => .head step_scope (harr k' (by simp [exitTo, hk]))⟩
  | goto l =>
    obtain ⟨rest, hf, hJ⟩ := hq
    have hg : gotoIn l (.inScope c :: k) = some (.code rest :: .inScope c :: k) := by simp [gotoIn, hf]
    obtain ⟨e, a₂, w₂, hq₂, harr₂⟩ := hJ b (.inScope c :: k) cs
    have pre := (Steps.trans (.one step_scope) (harr _ hg))
    cases e with
    | normal => exact ⟨.normal, a₂, w₂, hq₂, Steps.trans pre (Steps.trans harr₂ (.one step_inScope))⟩
    | exit id => exact ⟨.exit id, a₂, w₂, hq₂, fun k' hk => Steps.trans pre (harr₂ k' (by simp [exitTo, hk]))⟩
    | goto l => exact hq₂.elim
    | ret => exact ⟨_, a₂, w₂, hq₂, .of_steps pre harr₂⟩
    | panic ch => exact ⟨_, a₂, w₂, hq₂, .of_steps pre harr₂⟩
    | outgrown => exact ⟨_, a₂, w₂, hq₂, .of_steps pre harr₂⟩
  | ret => exact ⟨_, a₁, w₁, hq, .of_steps (.one step_scope) harr⟩
  | panic ch => exact ⟨_, a₁, w₁, hq, .of_steps (.one step_scope) harr⟩
  | outgrown => exact ⟨_, a₁, w₁, hq, .of_steps (.one step_scope) harr⟩
/-- As Q; by a goto to a label: J. -/
def Exit.jmp (J : Nat → Act → World → Prop) (Q : Exit → Act → World → Prop) : Exit → Act → World → Prop
  | .goto l, a, w => J l a w
  | e, a, w => Q e a w
theorem Exit.jmp_jumps {c : Code} {P : Program} {Q : Exit → Act → World → Prop} : Exit.jumps c P Q = Exit.jmp (fun l a w => ∃ r, findLabel c l = some r ∧ r.wp P (Exit.noGoto Q) a w) Q := by
  funext e a w; cases e <;> rfl
theorem wp_scope_two {P : Program} {a : Act} {w : World} {Q : Exit → Act → World → Prop} {c r0 r1 : Code} (h0 : findLabel c 0 = some r0) (h1 : findLabel c 1 = some r1)
    (first : ∀ J : Nat → Act → World → Prop, (∀ a w, r0.wp P (Exit.noGoto Q) a w → J 0 a w) → (∀ a w, r1.wp P (Exit.noGoto Q) a w → J 1 a w) → c.wp P (Exit.jmp J Q) a w) : (Code.scope c).wp P Q a w := by
  refine wp_scope_on ?_
  rw [Exit.jmp_jumps]
  exact first _ (fun a w h => ⟨_, h0, h⟩) (fun a w h => ⟨_, h1, h⟩)
theorem Exit.jmp_normal {J : Nat → Act → World → Prop} {Q : Exit → Act → World → Prop} {a : Act} {w : World} : Exit.jmp J Q .normal a w = Q .normal a w := rfl
theorem Exit.jmp_ret {J : Nat → Act → World → Prop} {Q : Exit → Act → World → Prop} {a : Act} {w : World} : Exit.jmp J Q .ret a w = Q .ret a w := rfl
set_option linter.unusedVariables false
set_option linter.unusedSimpArgs false
open Go.RowKit Go.Proofs.YtogikhohkbcccaaGreatDoorW.PrintWords Go.Proofs.YtogikhohkbcccaaGreatDoorW.PrintLast Go.Proofs.YtogikhohkbcccaaGreatDoorW.PrintMore
attribute [local go_sem] Exit.jmp_normal Exit.jmp_ret

/-- The tables of floatBits lie in the world, below a block. -/
structure FT (B : Nat) (w : World) : Prop where
  hi : 10 < B
  mant : w.cell? ⟨5, 0, none⟩ = some (.int .u64 52)
  expo : w.cell? ⟨5, 1, none⟩ = some (.int .u64 11)
  bias : w.cell? ⟨5, 2, none⟩ = some (.int .i64 (-1023))
  tab : ∃ (b o cap : Nat), b < B ∧ w.cell? ⟨7, 0, none⟩ = some (.slice (some ⟨b, o, none⟩) 9 cap) ∧ ∀ k, k < 9 → w.cell? ⟨b, o + k, none⟩ = some (.int .i64 (pwTab k : Nat))
theorem FT.below {B g : Nat} {w w' : World} (h : FT B w) (hb : Below g w w') (hg : B ≤ g) : FT B w' := by
  have h0 := h.hi
  refine ⟨h0, ?_, ?_, ?_, ?_⟩
  · rw [hb.cell (by show 5 < g; omega)]; exact h.mant
  · rw [hb.cell (by show 5 < g; omega)]; exact h.expo
  · rw [hb.cell (by show 5 < g; omega)]; exact h.bias
  · obtain ⟨b, o, cap, h1, h2, h3⟩ := h.tab
    refine ⟨b, o, cap, h1, ?_, fun k hk => ?_⟩
    · rw [hb.cell (by show 7 < g; omega)]; exact h2
    · rw [hb.cell (by show b < g; omega)]; exact h3 k hk

def outB (ng : Bool) (m e : Int) : Int :=
  let b := bits .or .u64 (bits .and .u64 m 4503599627370495) (IntKind.u64.wrap (IntKind.u64.wrap (bits .and .i64 (e + 1023) 2047) * 4503599627370496))
  if ng = true then bits .or .u64 b 9223372036854775808 else b
def fbE (ng : Bool) (m e : Int) : Int × Bool := (outB ng m (if bits .and .u64 m 4503599627370496 == 0 then -1023 else e), false)
/-- What floatBits answers. -/
def fbO (x : Dc) : Int × Bool :=
  if x.D = [] then (outB x.neg 0 (-1023), false)
  else if 310 < x.dp then (outB x.neg 0 1024, true)
  else if x.dp < -330 then (outB x.neg 0 (-1023), false)
  else if 1024 ≤ (fbC x).2 then (outB x.neg 0 1024, true)
  else if riD (lshD 53 (fbC x).1) = 9007199254740992 then (if 1024 ≤ (fbC x).2 + 1 then (outB x.neg 0 1024, true) else fbE x.neg 4503599627370496 ((fbC x).2 + 1))
  else fbE x.neg (riD (lshD 53 (fbC x).1) : Nat) (fbC x).2

/-- How floatBits ends. -/
def BP (r : Int × Bool) (g : Nat) (w : World) (e : Ending) (w' : World) : Prop :=
  e = .returned (.tuple #[.int .u64 r.1, .bool r.2]) ∧ Below g w w' ∧ w'.heap.size = w.heap.size

set_option maxHeartbeats 4000000 in
set_option maxRecDepth 100000 in
theorem floatBits_zero (g : Nat) (x : Dc) (w : World) (B : Nat) (hBg : B ≤ g) (hF : FT B w) (h : Dec w g x) (hz : x.D = []) :
    Calls Tryz.prog 50 #[.pointer (some ⟨g, 0, none⟩), .pointer (some ⟨5, 0, none⟩)] w (BP (fbO x) g w) := by
  have h800 : w.cell? ⟨g, 800, none⟩ = some (.int .i64 0) := by rw [h.nd.1, hz]; rfl
  have h802 := h.neg
  have h50 := hF.mant
  have h51 := hF.expo
  have h52 := hF.bias
  have e : fbO x = (outB x.neg 0 (-1023), false) := if_pos hz
  rw [e]
  clear h hF e hz
  cases hn : x.neg with
  | false =>
    rw [hn] at h802
    clear hn
    go_enter Tryz.func50, Tryz.ntmps50
    go_wp2
    refine wp_scope_two (r0 := _) (r1 := _) rfl rfl fun J j0 j1 => ?_
    go_wp2
    go_step3
    refine j0 _ _ ?_
    clear j0 j1
    go_wp2
    go_quiet (fail)
    go_wp2
    rw [Exit.noGoto_ret]
    refine bodyPost_ret (results_list (rs := [.tmp 4, .tmp 5]) rfl (by simp) (.tmp (.tmp .nil))) rfl ?_
    exact ⟨rfl, pw_below_drewN (Below.refl _ _) _, rfl⟩
  | true =>
    rw [hn] at h802
    clear hn
    go_enter Tryz.func50, Tryz.ntmps50
    go_wp2
    refine wp_scope_two (r0 := _) (r1 := _) rfl rfl fun J j0 j1 => ?_
    go_wp2
    go_step3
    refine j0 _ _ ?_
    clear j0 j1
    go_wp2
    go_quiet (fail)
    go_wp2
    go_quiet (fail)
    go_wp2
    rw [Exit.noGoto_ret]
    refine bodyPost_ret (results_list (rs := [.tmp 4, .tmp 5]) rfl (by simp) (.tmp (.tmp .nil))) rfl ?_
    exact ⟨rfl, pw_below_drewN (pw_below_drewN (Below.refl _ _) _) _, rfl⟩
theorem fb_len {x : Dc} (h : 0 < dg x.D 0) : ((x.D.length : Int) == 0) = false := sh_len h
theorem fb_over {x : Dc} (h : 0 < dg x.D 0) (hp : 310 < x.dp) : fbO x = (outB x.neg 0 1024, true) := by
  unfold fbO; rw [if_neg (dg_ne h), if_pos hp]
theorem fb_under {x : Dc} (h : 0 < dg x.D 0) (hp : x.dp < -330) : fbO x = (outB x.neg 0 (-1023), false) := by
  unfold fbO; rw [if_neg (dg_ne h), if_neg (by omega), if_pos hp]

set_option maxHeartbeats 4000000 in
set_option maxRecDepth 100000 in
theorem floatBits_over (g : Nat) (x : Dc) (w : World) (B : Nat) (hBg : B ≤ g) (hF : FT B w) (h : Dec w g x) (hl : 0 < dg x.D 0) (hp : 310 < x.dp) :
    Calls Tryz.prog 50 #[.pointer (some ⟨g, 0, none⟩), .pointer (some ⟨5, 0, none⟩)] w (BP (fbO x) g w) := by
  have h800 := h.nd.1
  have hz := fb_len hl
  have h801 := h.dp
  have h802 := h.neg
  have h50 := hF.mant
  have h51 := hF.expo
  have h52 := hF.bias
  rw [fb_over hl hp]
  have g1 : (310 < x.dp) = True := eq_true hp
  clear h hF hl hp
  generalize x.D.length = N at h800 hz
  generalize x.dp = p at h801 g1
  cases hn : x.neg with
  | false =>
    rw [hn] at h802
    clear hn
    go_enter Tryz.func50, Tryz.ntmps50
    go_wp2
    refine wp_scope_two (r0 := _) (r1 := _) rfl rfl fun J j0 j1 => ?_
    go_wp2
    go_step3
    refine j1 _ _ ?_
    clear j0 j1
    go_wp2
    go_quiet (fail)
    go_wp2
    go_step3
    go_wp2
    go_quiet (fail)
    go_wp2
    rw [Exit.noGoto_ret]
    refine bodyPost_ret (results_list (rs := [.tmp 4, .tmp 5]) rfl (by simp) (.tmp (.tmp .nil))) rfl ?_
    exact ⟨rfl, (by (repeat apply pw_below_drewN); exact Below.refl _ _), rfl⟩
  | true =>
    rw [hn] at h802
    clear hn
    go_enter Tryz.func50, Tryz.ntmps50
    go_wp2
    refine wp_scope_two (r0 := _) (r1 := _) rfl rfl fun J j0 j1 => ?_
    go_wp2
    go_step3
    refine j1 _ _ ?_
    clear j0 j1
    go_wp2
    go_quiet (fail)
    go_wp2
    go_step3
    go_wp2
    go_quiet (fail)
    go_wp2
    go_quiet (fail)
    go_wp2
    rw [Exit.noGoto_ret]
    refine bodyPost_ret (results_list (rs := [.tmp 4, .tmp 5]) rfl (by simp) (.tmp (.tmp .nil))) rfl ?_
    exact ⟨rfl, (by (repeat apply pw_below_drewN); exact Below.refl _ _), rfl⟩
set_option maxHeartbeats 4000000 in
set_option maxRecDepth 100000 in
theorem floatBits_under (g : Nat) (x : Dc) (w : World) (B : Nat) (hBg : B ≤ g) (hF : FT B w) (h : Dec w g x) (hl : 0 < dg x.D 0) (hp : x.dp < -330) :
    Calls Tryz.prog 50 #[.pointer (some ⟨g, 0, none⟩), .pointer (some ⟨5, 0, none⟩)] w (BP (fbO x) g w) := by
  have h800 := h.nd.1
  have hz := fb_len hl
  have h801 := h.dp
  have h802 := h.neg
  have h50 := hF.mant
  have h51 := hF.expo
  have h52 := hF.bias
  rw [fb_under hl hp]
  have g1 : (310 < x.dp) = False := eq_false (by omega)
  have g2 : (x.dp < -330) = True := eq_true hp
  clear h hF hl hp
  generalize x.D.length = N at h800 hz
  generalize x.dp = p at h801 g1 g2
  cases hn : x.neg with
  | false =>
    rw [hn] at h802
    clear hn
    go_enter Tryz.func50, Tryz.ntmps50
    go_wp2
    refine wp_scope_two (r0 := _) (r1 := _) rfl rfl fun J j0 j1 => ?_
    go_wp2
    go_step3
    refine j0 _ _ ?_
    clear j0 j1
    go_wp2
    go_quiet (fail)
    go_wp2
    rw [Exit.noGoto_ret]
    refine bodyPost_ret (results_list (rs := [.tmp 4, .tmp 5]) rfl (by simp) (.tmp (.tmp .nil))) rfl ?_
    exact ⟨rfl, (by (repeat apply pw_below_drewN); exact Below.refl _ _), rfl⟩
  | true =>
    rw [hn] at h802
    clear hn
    go_enter Tryz.func50, Tryz.ntmps50
    go_wp2
    refine wp_scope_two (r0 := _) (r1 := _) rfl rfl fun J j0 j1 => ?_
    go_wp2
    go_step3
    refine j0 _ _ ?_
    clear j0 j1
    go_wp2
    go_quiet (fail)
    go_wp2
    go_quiet (fail)
    go_wp2
    rw [Exit.noGoto_ret]
    refine bodyPost_ret (results_list (rs := [.tmp 4, .tmp 5]) rfl (by simp) (.tmp (.tmp .nil))) rfl ?_
    exact ⟨rfl, (by (repeat apply pw_below_drewN); exact Below.refl _ _), rfl⟩
end Go.Proofs.YtogikhohkbcccaaGreatDoor.De
