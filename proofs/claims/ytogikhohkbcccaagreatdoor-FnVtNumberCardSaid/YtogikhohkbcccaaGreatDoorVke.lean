import Derived.Test.YtogikhohkbcccaaGreatDoorVn
namespace Go.Proofs.YtogikhohkbcccaaGreatDoor.De
set_option linter.unusedVariables false
set_option linter.unusedSimpArgs false
open Go.RowKit Go.Proofs.YtogikhohkbcccaaGreatDoorW.PrintWords Go.Proofs.YtogikhohkbcccaaGreatDoorW.PrintLast Go.Proofs.YtogikhohkbcccaaGreatDoorW.PrintMore

set_option maxHeartbeats 40000000 in
set_option maxRecDepth 100000 in
theorem vn_t (s s2 : ByteArray) (β : Int) (R : Int × Option Int) (w : World) (hE : EV w) (hg : 2 < w.heap.size) (hc : CutC s s2 β)
    (hr : R.2 = none → 0 ≤ R.1 ∧ R.1 ≤ 18446744073709551615)
    (HU : ∀ W, EV W → 2 < W.heap.size → Calls Tryz.prog 13 #[.string s2, .int .i64 β, .int .i64 64] W fun e w' => ∃ v, e = .returned (.tuple #[.int .u64 R.1, v]) ∧ PubErr R.2 v ∧ Below W.heap.size W w') :
    Calls Tryz.prog 20 #[.string s, .agg #[.string ⟨#[116]⟩]] w fun e w' => NAns R (fun n => .iface 24 (.int .u64 n)) e ∧ Below w.heap.size w w' := by
  have HV := Aside0.mk (VW.mk' ⟨#[116]⟩ hE hg)
  have HG := Aside0.mk hg
  obtain ⟨n, er⟩ := R
  go_enter Tryz.func20, Tryz.ntmps20
  go_upto_block 0 with fail
  go_cut [6, 7] (fun v6 v7 wc => v6 = .bool true ∧ v7 = .int .i64 64 ∧ Aside0 (VW w wc ⟨#[116]⟩))
  case first => as_aux_lemma =>
    clear hE hg hc hr HU
    go_wp2
    go_meet
    case rel => exact ⟨rfl, rfl, HV⟩
  case rest => as_aux_lemma =>
    clear HV
    obtain ⟨rfl, rfl, HV⟩ := hcut
    generalize wc = w1 at HV ⊢
    have hcell := HV.out.cell
    cases er with
    | none =>
      have hw : n % 18446744073709551616 = n := by have := hr rfl; simp only at this; first | omega | (rw [IntKind.wrap_u64]; omega)
      replace HU := Aside0.mk (show ∀ W, EV W → 2 < W.heap.size → Calls Tryz.prog 13 #[.string s2, .int .i64 β, .int .i64 64] W fun e w' => e = .returned (.tuple #[.int .u64 n, .nilIface]) ∧ Below W.heap.size W w' from fun W h1 h2 => (HU W h1 h2).mono fun e w' ⟨v, h1, h2, h3⟩ => ⟨by rcases h2 with ⟨_, rfl⟩ | ⟨h, _⟩; exact h1; exact absurd rfl h, h3⟩)
      have HW := Aside0.mk hw
      clear hE hg hr hw
      rcases hc with ⟨a, H1, H2, hz, hβ⟩ | ⟨H1, H2, hβ⟩ | ⟨H1, H2, hz, hβ⟩ | ⟨a, H1, H2, hz, hs, hβ⟩ | ⟨H1, H2, hs, hβ⟩
      · obtain ⟨z1, z2, z3, z4⟩ := sz_eq hz
        subst hβ
        replace H1 := Aside0.mk (show ∀ W, Calls Tryz.prog 29 #[.string s, .string ⟨#[48, 120]⟩] W fun e w' => e = .returned (.tuple #[.string s2, .bool true]) ∧ W = w' from H1)
        replace H2 := Aside0.mk (show ∀ W, Calls Tryz.prog 29 #[.string s2, .string ⟨#[48]⟩] W fun e w' => e = .returned (.tuple #[.string a, .bool true]) ∧ W = w' from H2)
        clear hz
        go_wp2_with (first | (go_at_call 29; ((with_reducible refine (H1.out _).mono ?_); rintro x w3 ⟨rfl, rfl⟩)) | (go_at_call 29; ((with_reducible refine (H2.out _).mono ?_); rintro x w3 ⟨rfl, rfl⟩)) | (go_at_call 13; ((with_reducible refine (HU.out _ HV.out.ev (Nat.lt_trans HG.out HV.out.size)).mono ?_); rintro x w2 ⟨rfl, hb⟩; have HV2 := Aside0.mk (VW.step HV.out hb HG.out); clear hb hcell; have hcell2 := HV2.out.cell)))
        refine bodyPost_ret (results_list (rs := [.tmp 4, .tmp 5]) rfl (by simp) (.tmp (.tmp .nil))) rfl ?_
        refine ⟨.inl ⟨rfl, ?_⟩, HV2.out.below⟩
        rfl
      · subst hβ
        replace H1 := Aside0.mk (show ∀ W, Calls Tryz.prog 29 #[.string s, .string ⟨#[48, 120]⟩] W fun e w' => e = .returned (.tuple #[.string s2, .bool true]) ∧ W = w' from H1)
        replace H2 := Aside0.mk (show ∀ W, Calls Tryz.prog 29 #[.string s2, .string ⟨#[48]⟩] W fun e w' => e = .returned (.tuple #[.string s2, .bool false]) ∧ W = w' from H2)
        go_wp2_with (first | (go_at_call 29; ((with_reducible refine (H1.out _).mono ?_); rintro x w3 ⟨rfl, rfl⟩)) | (go_at_call 29; ((with_reducible refine (H2.out _).mono ?_); rintro x w3 ⟨rfl, rfl⟩)) | (go_at_call 13; ((with_reducible refine (HU.out _ HV.out.ev (Nat.lt_trans HG.out HV.out.size)).mono ?_); rintro x w2 ⟨rfl, hb⟩; have HV2 := Aside0.mk (VW.step HV.out hb HG.out); clear hb hcell; have hcell2 := HV2.out.cell)))
        refine bodyPost_ret (results_list (rs := [.tmp 4, .tmp 5]) rfl (by simp) (.tmp (.tmp .nil))) rfl ?_
        refine ⟨.inl ⟨rfl, ?_⟩, HV2.out.below⟩
        rfl
      · obtain ⟨z1, z2, z3, z4⟩ := sz_ne hz
        subst hβ
        replace H1 := Aside0.mk (show ∀ W, Calls Tryz.prog 29 #[.string s, .string ⟨#[48, 120]⟩] W fun e w' => e = .returned (.tuple #[.string s, .bool false]) ∧ W = w' from H1)
        replace H2 := Aside0.mk (show ∀ W, Calls Tryz.prog 29 #[.string s, .string ⟨#[48]⟩] W fun e w' => e = .returned (.tuple #[.string s2, .bool true]) ∧ W = w' from H2)
        clear hz
        go_wp2_with (first | (go_at_call 29; ((with_reducible refine (H1.out _).mono ?_); rintro x w3 ⟨rfl, rfl⟩)) | (go_at_call 29; ((with_reducible refine (H2.out _).mono ?_); rintro x w3 ⟨rfl, rfl⟩)) | (go_at_call 13; ((with_reducible refine (HU.out _ HV.out.ev (Nat.lt_trans HG.out HV.out.size)).mono ?_); rintro x w2 ⟨rfl, hb⟩; have HV2 := Aside0.mk (VW.step HV.out hb HG.out); clear hb hcell; have hcell2 := HV2.out.cell)))
        refine bodyPost_ret (results_list (rs := [.tmp 4, .tmp 5]) rfl (by simp) (.tmp (.tmp .nil))) rfl ?_
        refine ⟨.inl ⟨rfl, ?_⟩, HV2.out.below⟩
        rfl
      · subst hs
        obtain ⟨z1, z2, z3, z4⟩ := sz_eq hz
        subst hβ
        replace H1 := Aside0.mk (show ∀ W, Calls Tryz.prog 29 #[.string s2, .string ⟨#[48, 120]⟩] W fun e w' => e = .returned (.tuple #[.string s2, .bool false]) ∧ W = w' from H1)
        replace H2 := Aside0.mk (show ∀ W, Calls Tryz.prog 29 #[.string s2, .string ⟨#[48]⟩] W fun e w' => e = .returned (.tuple #[.string a, .bool true]) ∧ W = w' from H2)
        clear hz
        go_wp2_with (first | (go_at_call 29; ((with_reducible refine (H1.out _).mono ?_); rintro x w3 ⟨rfl, rfl⟩)) | (go_at_call 29; ((with_reducible refine (H2.out _).mono ?_); rintro x w3 ⟨rfl, rfl⟩)) | (go_at_call 13; ((with_reducible refine (HU.out _ HV.out.ev (Nat.lt_trans HG.out HV.out.size)).mono ?_); rintro x w2 ⟨rfl, hb⟩; have HV2 := Aside0.mk (VW.step HV.out hb HG.out); clear hb hcell; have hcell2 := HV2.out.cell)))
        refine bodyPost_ret (results_list (rs := [.tmp 4, .tmp 5]) rfl (by simp) (.tmp (.tmp .nil))) rfl ?_
        refine ⟨.inl ⟨rfl, ?_⟩, HV2.out.below⟩
        rfl
      · subst hs
        subst hβ
        replace H1 := Aside0.mk (show ∀ W, Calls Tryz.prog 29 #[.string s2, .string ⟨#[48, 120]⟩] W fun e w' => e = .returned (.tuple #[.string s2, .bool false]) ∧ W = w' from H1)
        replace H2 := Aside0.mk (show ∀ W, Calls Tryz.prog 29 #[.string s2, .string ⟨#[48]⟩] W fun e w' => e = .returned (.tuple #[.string s2, .bool false]) ∧ W = w' from H2)
        go_wp2_with (first | (go_at_call 29; ((with_reducible refine (H1.out _).mono ?_); rintro x w3 ⟨rfl, rfl⟩)) | (go_at_call 29; ((with_reducible refine (H2.out _).mono ?_); rintro x w3 ⟨rfl, rfl⟩)) | (go_at_call 13; ((with_reducible refine (HU.out _ HV.out.ev (Nat.lt_trans HG.out HV.out.size)).mono ?_); rintro x w2 ⟨rfl, hb⟩; have HV2 := Aside0.mk (VW.step HV.out hb HG.out); clear hb hcell; have hcell2 := HV2.out.cell)))
        refine bodyPost_ret (results_list (rs := [.tmp 4, .tmp 5]) rfl (by simp) (.tmp (.tmp .nil))) rfl ?_
        refine ⟨.inl ⟨rfl, ?_⟩, HV2.out.below⟩
        rfl
    | some k =>
      replace HU := Aside0.mk (show ∀ W, EV W → 2 < W.heap.size → Calls Tryz.prog 13 #[.string s2, .int .i64 β, .int .i64 64] W fun e w' => ∃ N, e = .returned (.tuple #[.int .u64 n, .iface 62 (.pointer (some ⟨N, 0, none⟩))]) ∧ Below W.heap.size W w' from fun W h1 h2 => (HU W h1 h2).mono fun e w' ⟨v, h1, h2, h3⟩ => by rcases h2 with ⟨h, _⟩ | ⟨_, N, rfl⟩; cases h; exact ⟨N, h1, h3⟩)
      clear hE hg hr
      rcases hc with ⟨a, H1, H2, hz, hβ⟩ | ⟨H1, H2, hβ⟩ | ⟨H1, H2, hz, hβ⟩ | ⟨a, H1, H2, hz, hs, hβ⟩ | ⟨H1, H2, hs, hβ⟩
      · obtain ⟨z1, z2, z3, z4⟩ := sz_eq hz
        subst hβ
        replace H1 := Aside0.mk (show ∀ W, Calls Tryz.prog 29 #[.string s, .string ⟨#[48, 120]⟩] W fun e w' => e = .returned (.tuple #[.string s2, .bool true]) ∧ W = w' from H1)
        replace H2 := Aside0.mk (show ∀ W, Calls Tryz.prog 29 #[.string s2, .string ⟨#[48]⟩] W fun e w' => e = .returned (.tuple #[.string a, .bool true]) ∧ W = w' from H2)
        clear hz
        go_wp2_with (first | (go_at_call 29; ((with_reducible refine (H1.out _).mono ?_); rintro x w3 ⟨rfl, rfl⟩)) | (go_at_call 29; ((with_reducible refine (H2.out _).mono ?_); rintro x w3 ⟨rfl, rfl⟩)) | (go_at_call 13; ((with_reducible refine (HU.out _ HV.out.ev (Nat.lt_trans HG.out HV.out.size)).mono ?_); rintro x w2 ⟨N, rfl, hb⟩; have HV2 := Aside0.mk (VW.step HV.out hb HG.out); clear hb hcell; have hcell2 := HV2.out.cell)))
        refine bodyPost_ret (results_list (rs := [.tmp 4, .tmp 5]) rfl (by simp) (.tmp (.tmp .nil))) rfl ?_
        exact ⟨.inr ⟨by simp, _, rfl⟩, HV2.out.below⟩
      · subst hβ
        replace H1 := Aside0.mk (show ∀ W, Calls Tryz.prog 29 #[.string s, .string ⟨#[48, 120]⟩] W fun e w' => e = .returned (.tuple #[.string s2, .bool true]) ∧ W = w' from H1)
        replace H2 := Aside0.mk (show ∀ W, Calls Tryz.prog 29 #[.string s2, .string ⟨#[48]⟩] W fun e w' => e = .returned (.tuple #[.string s2, .bool false]) ∧ W = w' from H2)
        go_wp2_with (first | (go_at_call 29; ((with_reducible refine (H1.out _).mono ?_); rintro x w3 ⟨rfl, rfl⟩)) | (go_at_call 29; ((with_reducible refine (H2.out _).mono ?_); rintro x w3 ⟨rfl, rfl⟩)) | (go_at_call 13; ((with_reducible refine (HU.out _ HV.out.ev (Nat.lt_trans HG.out HV.out.size)).mono ?_); rintro x w2 ⟨N, rfl, hb⟩; have HV2 := Aside0.mk (VW.step HV.out hb HG.out); clear hb hcell; have hcell2 := HV2.out.cell)))
        refine bodyPost_ret (results_list (rs := [.tmp 4, .tmp 5]) rfl (by simp) (.tmp (.tmp .nil))) rfl ?_
        exact ⟨.inr ⟨by simp, _, rfl⟩, HV2.out.below⟩
      · obtain ⟨z1, z2, z3, z4⟩ := sz_ne hz
        subst hβ
        replace H1 := Aside0.mk (show ∀ W, Calls Tryz.prog 29 #[.string s, .string ⟨#[48, 120]⟩] W fun e w' => e = .returned (.tuple #[.string s, .bool false]) ∧ W = w' from H1)
        replace H2 := Aside0.mk (show ∀ W, Calls Tryz.prog 29 #[.string s, .string ⟨#[48]⟩] W fun e w' => e = .returned (.tuple #[.string s2, .bool true]) ∧ W = w' from H2)
        clear hz
        go_wp2_with (first | (go_at_call 29; ((with_reducible refine (H1.out _).mono ?_); rintro x w3 ⟨rfl, rfl⟩)) | (go_at_call 29; ((with_reducible refine (H2.out _).mono ?_); rintro x w3 ⟨rfl, rfl⟩)) | (go_at_call 13; ((with_reducible refine (HU.out _ HV.out.ev (Nat.lt_trans HG.out HV.out.size)).mono ?_); rintro x w2 ⟨N, rfl, hb⟩; have HV2 := Aside0.mk (VW.step HV.out hb HG.out); clear hb hcell; have hcell2 := HV2.out.cell)))
        refine bodyPost_ret (results_list (rs := [.tmp 4, .tmp 5]) rfl (by simp) (.tmp (.tmp .nil))) rfl ?_
        exact ⟨.inr ⟨by simp, _, rfl⟩, HV2.out.below⟩
      · subst hs
        obtain ⟨z1, z2, z3, z4⟩ := sz_eq hz
        subst hβ
        replace H1 := Aside0.mk (show ∀ W, Calls Tryz.prog 29 #[.string s2, .string ⟨#[48, 120]⟩] W fun e w' => e = .returned (.tuple #[.string s2, .bool false]) ∧ W = w' from H1)
        replace H2 := Aside0.mk (show ∀ W, Calls Tryz.prog 29 #[.string s2, .string ⟨#[48]⟩] W fun e w' => e = .returned (.tuple #[.string a, .bool true]) ∧ W = w' from H2)
        clear hz
        go_wp2_with (first | (go_at_call 29; ((with_reducible refine (H1.out _).mono ?_); rintro x w3 ⟨rfl, rfl⟩)) | (go_at_call 29; ((with_reducible refine (H2.out _).mono ?_); rintro x w3 ⟨rfl, rfl⟩)) | (go_at_call 13; ((with_reducible refine (HU.out _ HV.out.ev (Nat.lt_trans HG.out HV.out.size)).mono ?_); rintro x w2 ⟨N, rfl, hb⟩; have HV2 := Aside0.mk (VW.step HV.out hb HG.out); clear hb hcell; have hcell2 := HV2.out.cell)))
        refine bodyPost_ret (results_list (rs := [.tmp 4, .tmp 5]) rfl (by simp) (.tmp (.tmp .nil))) rfl ?_
        exact ⟨.inr ⟨by simp, _, rfl⟩, HV2.out.below⟩
      · subst hs
        subst hβ
        replace H1 := Aside0.mk (show ∀ W, Calls Tryz.prog 29 #[.string s2, .string ⟨#[48, 120]⟩] W fun e w' => e = .returned (.tuple #[.string s2, .bool false]) ∧ W = w' from H1)
        replace H2 := Aside0.mk (show ∀ W, Calls Tryz.prog 29 #[.string s2, .string ⟨#[48]⟩] W fun e w' => e = .returned (.tuple #[.string s2, .bool false]) ∧ W = w' from H2)
        go_wp2_with (first | (go_at_call 29; ((with_reducible refine (H1.out _).mono ?_); rintro x w3 ⟨rfl, rfl⟩)) | (go_at_call 29; ((with_reducible refine (H2.out _).mono ?_); rintro x w3 ⟨rfl, rfl⟩)) | (go_at_call 13; ((with_reducible refine (HU.out _ HV.out.ev (Nat.lt_trans HG.out HV.out.size)).mono ?_); rintro x w2 ⟨N, rfl, hb⟩; have HV2 := Aside0.mk (VW.step HV.out hb HG.out); clear hb hcell; have hcell2 := HV2.out.cell)))
        refine bodyPost_ret (results_list (rs := [.tmp 4, .tmp 5]) rfl (by simp) (.tmp (.tmp .nil))) rfl ?_
        exact ⟨.inr ⟨by simp, _, rfl⟩, HV2.out.below⟩
end Go.Proofs.YtogikhohkbcccaaGreatDoor.De

namespace Go.Proofs.YtogikhohkbcccaaGreatDoor.De
set_option linter.unusedVariables false
set_option linter.unusedSimpArgs false
open Go.RowKit Go.Proofs.YtogikhohkbcccaaGreatDoorW.PrintWords Go.Proofs.YtogikhohkbcccaaGreatDoorW.PrintLast Go.Proofs.YtogikhohkbcccaaGreatDoorW.PrintMore

/-- What a number's answer is, of d. -/
def DAns (r : Nat × Option Int) (e : Ending) : Prop :=
  (r.2 = none ∧ e = .returned (.tuple #[.iface 37 (.float .f64 r.1), .nilIface])) ∨ (r.2 ≠ none ∧ ∃ N, e = .returned (.tuple #[.nilIface, .iface 62 (.pointer (some ⟨N, 0, none⟩))]))
set_option maxHeartbeats 4000000 in
set_option maxRecDepth 100000 in
theorem vn_d (s : ByteArray) (R : Nat × Option Int) (w : World) (hg : 2 < w.heap.size)
    (hE : EV w) (HU : ∀ W, Below w.heap.size w W → Calls Tryz.prog 10 #[.string s, .int .i64 64] W fun e w' => ∃ v, e = .returned (.tuple #[.float .f64 R.1, v]) ∧ PubErr R.2 v ∧ Below W.heap.size W w') :
    Calls Tryz.prog 20 #[.string s, .agg #[.string ⟨#[100]⟩]] w fun e w' => DAns R e ∧ Below w.heap.size w w' := by
  have HV := Aside0.mk (VW.mk' ⟨#[100]⟩ hE hg).below
  have HS := Aside0.mk (VW.mk' ⟨#[100]⟩ hE hg).size
  obtain ⟨n, er⟩ := R
  cases er with
  | none =>
    replace HU := Aside0.mk (show ∀ W, Below w.heap.size w W → Calls Tryz.prog 10 #[.string s, .int .i64 64] W fun e w' => e = .returned (.tuple #[.float .f64 n, .nilIface]) ∧ Below W.heap.size W w' from fun W h1 => (HU W h1).mono fun e w' ⟨v, h1, h2, h3⟩ => ⟨by rcases h2 with ⟨_, rfl⟩ | ⟨h, _⟩; exact h1; exact absurd rfl h, h3⟩)
    clear hE hg
    go_enter Tryz.func20, Tryz.ntmps20
    go_wp2_with (go_at_call 10; ((with_reducible refine (HU.out _ HV.out).mono ?_); rintro x w2 ⟨rfl, hb⟩; have HB := Aside0.mk hb; clear hb))
    refine bodyPost_ret (results_list (rs := [.tmp 4, .tmp 5]) rfl (by simp) (.tmp (.tmp .nil))) rfl ?_
    exact ⟨.inl ⟨rfl, rfl⟩, HV.out.trans (HB.out.mono (Nat.le_of_lt HS.out))⟩
  | some k =>
    replace HU := Aside0.mk (show ∀ W, Below w.heap.size w W → Calls Tryz.prog 10 #[.string s, .int .i64 64] W fun e w' => ∃ N, e = .returned (.tuple #[.float .f64 n, .iface 62 (.pointer (some ⟨N, 0, none⟩))]) ∧ Below W.heap.size W w' from fun W h1 => (HU W h1).mono fun e w' ⟨v, h1, h2, h3⟩ => by rcases h2 with ⟨h, _⟩ | ⟨_, N, rfl⟩; cases h; exact ⟨N, h1, h3⟩)
    clear hE hg
    go_enter Tryz.func20, Tryz.ntmps20
    go_wp2_with (go_at_call 10; ((with_reducible refine (HU.out _ HV.out).mono ?_); rintro x w2 ⟨N, rfl, hb⟩; have HB := Aside0.mk hb; clear hb))
    refine bodyPost_ret (results_list (rs := [.tmp 4, .tmp 5]) rfl (by simp) (.tmp (.tmp .nil))) rfl ?_
    exact ⟨.inr ⟨by simp, _, rfl⟩, HV.out.trans (HB.out.mono (Nat.le_of_lt HS.out))⟩
end Go.Proofs.YtogikhohkbcccaaGreatDoor.De
