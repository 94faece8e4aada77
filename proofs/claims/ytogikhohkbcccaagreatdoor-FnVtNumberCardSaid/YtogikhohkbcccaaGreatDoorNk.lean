import Derived.Test.YtogikhohkbcccaaGreatDoorNo
namespace Go.Proofs.YtogikhohkbcccaaGreatDoor.To
set_option linter.unusedVariables false
set_option linter.unusedSimpArgs false
open Go.RowKit Go.Proofs.YtogikhohkbcccaaGreatDoorW.PrintWords Go.Proofs.YtogikhohkbcccaaGreatDoorW.PrintLast Go.Proofs.YtogikhohkbcccaaGreatDoorW.PrintMore Go.Proofs.YtogikhohkbcccaaGreatDoor.De

set_option maxHeartbeats 8000000 in
set_option maxRecDepth 100000 in
theorem no_y (s : ByteArray) (R : Int × Option Int) (w : World)
    (HU : ∀ W, Below w.heap.size w W → Calls Tryz.prog 13 #[.string s, .int .i64 0, .int .i64 8] W fun e w' => ∃ v, e = .returned (.tuple #[.int .u64 R.1, v]) ∧ PubErr R.2 v ∧ Below W.heap.size W w') :
    Calls Tryz.prog 5 #[.string s, .int .u8 121] w fun e w' => OAns R 121 R.1 e ∧ Below w.heap.size w w' := by
  have HA := Aside0.mk (NW.mk' w 121)
  obtain ⟨n, er⟩ := R
  go_enter Tryz.func5, Tryz.ntmps5
  go_upto_region 2 with fail
  go_cut [7] (fun v7 wc => v7 = .int .i64 8 ∧ Aside0 (NW w wc 121))
  case first => as_aux_lemma =>
    clear HU
    generalize World.alloc (World.alloc w _) _ = A at HA ⊢
    have hmm := @run_makeMap Tryz.prog
    have h0 := mp0 A
    have h1 := mp1 A
    have h2 := mp2 A
    have h3 := mp3 A
    have h4 := mp4 A
    have h5 := mp5 A
    have h6 := mp6 A
    have h7 := mpy A
    go_wp2
    go_meet
    case rel => exact ⟨rfl, ⟨HA.out.alloc _⟩⟩
  case rest => as_aux_lemma =>
    clear HA
    obtain ⟨rfl, HA⟩ := hcut
    generalize wc = w1 at HA ⊢
    cases er with
    | none =>
      replace HU := Aside0.mk (show ∀ W, Below w.heap.size w W → Calls Tryz.prog 13 #[.string s, .int .i64 0, .int .i64 8] W fun e w' => e = .returned (.tuple #[.int .u64 n, .nilIface]) ∧ Below W.heap.size W w' from fun W h1 => (HU W h1).mono fun e w' ⟨v, h1, h2, h3⟩ => ⟨by rcases h2 with ⟨_, rfl⟩ | ⟨h, _⟩; exact h1; exact absurd rfl h, h3⟩)
      go_wp2_with (go_at_call 13; ((with_reducible refine (HU.out _ HA.out.below).mono ?_); rintro x w2 ⟨rfl, hb⟩; have HB := Aside0.mk (NW.step HA.out hb); clear hb; obtain ⟨a0, a1, a2, a3, fa0, fa1, fa2, fa3⟩ := cells4 HB.out.a; obtain ⟨b0, b1, b2, b3, fb0, fb1, fb2, fb3⟩ := cells4 HB.out.b))
      refine bodyPost_ret (results_list (rs := [.cell 4 27, .tmp 5]) rfl (by simp) (.cell w.heap.size 27 (vc 121 n) (0, 0) _ rfl (blk_set (blk_set (blk_set (blk_set ((((Below.refl (w.heap.size + 1) _).setCell (Nat.le_refl _) _).block w.heap.size (by omega)).trans HB.out.a) 0 _) 1 _) 2 _) 3 _) Tryz.underlying27 rfl (by kernel_rfl) (.tmp .nil))) rfl ?_
      exact ⟨.inl ⟨rfl, rfl⟩, ((((HB.out.below.setCell (Nat.le_succ _) _).setCell (Nat.le_refl _) _).setCell (Nat.le_refl _) _).setCell (Nat.le_refl _) _).setCell (Nat.le_refl _) _⟩
    | some k =>
      replace HU := Aside0.mk (show ∀ W, Below w.heap.size w W → Calls Tryz.prog 13 #[.string s, .int .i64 0, .int .i64 8] W fun e w' => ∃ N, e = .returned (.tuple #[.int .u64 n, .iface 62 (.pointer (some ⟨N, 0, none⟩))]) ∧ Below W.heap.size W w' from fun W h1 => (HU W h1).mono fun e w' ⟨v, h1, h2, h3⟩ => by rcases h2 with ⟨h, _⟩ | ⟨_, N, rfl⟩; cases h; exact ⟨N, h1, h3⟩)
      go_wp2_with (go_at_call 13; ((with_reducible refine (HU.out _ HA.out.below).mono ?_); rintro x w2 ⟨N, rfl, hb⟩; have HB := Aside0.mk (NW.step HA.out hb); clear hb; obtain ⟨a0, a1, a2, a3, fa0, fa1, fa2, fa3⟩ := cells4 HB.out.a; obtain ⟨b0, b1, b2, b3, fb0, fb1, fb2, fb3⟩ := cells4 HB.out.b))
      refine bodyPost_ret (results_list (rs := [.cell 4 27, .tmp 5]) rfl (by simp) (.cell w.heap.size 27 (vc 0 0) (0, 0) _ rfl (blk_set (blk_set (blk_set (blk_set HB.out.a 0 _) 1 _) 2 _) 3 _) Tryz.underlying27 rfl (by kernel_rfl) (.tmp .nil))) rfl ?_
      exact ⟨.inr ⟨by simp, rfl⟩, (((HB.out.below.setCell (Nat.le_refl _) _).setCell (Nat.le_refl _) _).setCell (Nat.le_refl _) _).setCell (Nat.le_refl _) _⟩
end Go.Proofs.YtogikhohkbcccaaGreatDoor.To

namespace Go.Proofs.YtogikhohkbcccaaGreatDoor.To
set_option linter.unusedVariables false
set_option linter.unusedSimpArgs false
open Go.RowKit Go.Proofs.YtogikhohkbcccaaGreatDoorW.PrintWords Go.Proofs.YtogikhohkbcccaaGreatDoorW.PrintLast Go.Proofs.YtogikhohkbcccaaGreatDoorW.PrintMore Go.Proofs.YtogikhohkbcccaaGreatDoor.De

set_option maxHeartbeats 8000000 in
set_option maxRecDepth 100000 in
theorem no_n (s : ByteArray) (R : Int × Option Int) (w : World)
    (HU : ∀ W, Below w.heap.size w W → Calls Tryz.prog 12 #[.string s, .int .i64 0, .int .i64 16] W fun e w' => ∃ v, e = .returned (.tuple #[.int .i64 R.1, v]) ∧ PubErr R.2 v ∧ Below W.heap.size W w') :
    Calls Tryz.prog 5 #[.string s, .int .u8 110] w fun e w' => OAns R 110 (IntKind.u64.wrap R.1) e ∧ Below w.heap.size w w' := by
  have HA := Aside0.mk (NW.mk' w 110)
  obtain ⟨n, er⟩ := R
  go_enter Tryz.func5, Tryz.ntmps5
  go_upto_region 2 with fail
  go_cut [7] (fun v7 wc => v7 = .int .i64 16 ∧ Aside0 (NW w wc 110))
  case first => as_aux_lemma =>
    clear HU
    generalize World.alloc (World.alloc w _) _ = A at HA ⊢
    have hmm := @run_makeMap Tryz.prog
    have h0 := mp0 A
    have h1 := mp1 A
    have h2 := mp2 A
    have h3 := mp3 A
    have h4 := mp4 A
    have h5 := mp5 A
    have h6 := mp6 A
    have h7 := mpn A
    go_wp2
    go_meet
    case rel => exact ⟨rfl, ⟨HA.out.alloc _⟩⟩
  case rest => as_aux_lemma =>
    clear HA
    obtain ⟨rfl, HA⟩ := hcut
    generalize wc = w1 at HA ⊢
    cases er with
    | none =>
      replace HU := Aside0.mk (show ∀ W, Below w.heap.size w W → Calls Tryz.prog 12 #[.string s, .int .i64 0, .int .i64 16] W fun e w' => e = .returned (.tuple #[.int .i64 n, .nilIface]) ∧ Below W.heap.size W w' from fun W h1 => (HU W h1).mono fun e w' ⟨v, h1, h2, h3⟩ => ⟨by rcases h2 with ⟨_, rfl⟩ | ⟨h, _⟩; exact h1; exact absurd rfl h, h3⟩)
      go_wp2_with (go_at_call 12; ((with_reducible refine (HU.out _ HA.out.below).mono ?_); rintro x w2 ⟨rfl, hb⟩; have HB := Aside0.mk (NW.step HA.out hb); clear hb; obtain ⟨a0, a1, a2, a3, fa0, fa1, fa2, fa3⟩ := cells4 HB.out.a; obtain ⟨b0, b1, b2, b3, fb0, fb1, fb2, fb3⟩ := cells4 HB.out.b))
      refine bodyPost_ret (results_list (rs := [.cell 4 27, .tmp 5]) rfl (by simp) (.cell w.heap.size 27 (vc 110 (IntKind.u64.wrap n)) (0, 0) _ rfl (blk_set (blk_set (blk_set (blk_set ((((Below.refl (w.heap.size + 1) _).setCell (Nat.le_refl _) _).block w.heap.size (by omega)).trans HB.out.a) 0 _) 1 _) 2 _) 3 _) Tryz.underlying27 rfl (by kernel_rfl) (.tmp .nil))) rfl ?_
      exact ⟨.inl ⟨rfl, rfl⟩, ((((HB.out.below.setCell (Nat.le_succ _) _).setCell (Nat.le_refl _) _).setCell (Nat.le_refl _) _).setCell (Nat.le_refl _) _).setCell (Nat.le_refl _) _⟩
    | some k =>
      replace HU := Aside0.mk (show ∀ W, Below w.heap.size w W → Calls Tryz.prog 12 #[.string s, .int .i64 0, .int .i64 16] W fun e w' => ∃ N, e = .returned (.tuple #[.int .i64 n, .iface 62 (.pointer (some ⟨N, 0, none⟩))]) ∧ Below W.heap.size W w' from fun W h1 => (HU W h1).mono fun e w' ⟨v, h1, h2, h3⟩ => by rcases h2 with ⟨h, _⟩ | ⟨_, N, rfl⟩; cases h; exact ⟨N, h1, h3⟩)
      go_wp2_with (go_at_call 12; ((with_reducible refine (HU.out _ HA.out.below).mono ?_); rintro x w2 ⟨N, rfl, hb⟩; have HB := Aside0.mk (NW.step HA.out hb); clear hb; obtain ⟨a0, a1, a2, a3, fa0, fa1, fa2, fa3⟩ := cells4 HB.out.a; obtain ⟨b0, b1, b2, b3, fb0, fb1, fb2, fb3⟩ := cells4 HB.out.b))
      refine bodyPost_ret (results_list (rs := [.cell 4 27, .tmp 5]) rfl (by simp) (.cell w.heap.size 27 (vc 0 0) (0, 0) _ rfl (blk_set (blk_set (blk_set (blk_set HB.out.a 0 _) 1 _) 2 _) 3 _) Tryz.underlying27 rfl (by kernel_rfl) (.tmp .nil))) rfl ?_
      exact ⟨.inr ⟨by simp, rfl⟩, (((HB.out.below.setCell (Nat.le_refl _) _).setCell (Nat.le_refl _) _).setCell (Nat.le_refl _) _).setCell (Nat.le_refl _) _⟩
end Go.Proofs.YtogikhohkbcccaaGreatDoor.To

namespace Go.Proofs.YtogikhohkbcccaaGreatDoor.To
set_option linter.unusedVariables false
set_option linter.unusedSimpArgs false
open Go.RowKit Go.Proofs.YtogikhohkbcccaaGreatDoorW.PrintWords Go.Proofs.YtogikhohkbcccaaGreatDoorW.PrintLast Go.Proofs.YtogikhohkbcccaaGreatDoorW.PrintMore Go.Proofs.YtogikhohkbcccaaGreatDoor.De

set_option maxHeartbeats 8000000 in
set_option maxRecDepth 100000 in
theorem no_q (s : ByteArray) (R : Int × Option Int) (w : World)
    (HU : ∀ W, Below w.heap.size w W → Calls Tryz.prog 13 #[.string s, .int .i64 0, .int .i64 16] W fun e w' => ∃ v, e = .returned (.tuple #[.int .u64 R.1, v]) ∧ PubErr R.2 v ∧ Below W.heap.size W w') :
    Calls Tryz.prog 5 #[.string s, .int .u8 113] w fun e w' => OAns R 113 R.1 e ∧ Below w.heap.size w w' := by
  have HA := Aside0.mk (NW.mk' w 113)
  obtain ⟨n, er⟩ := R
  go_enter Tryz.func5, Tryz.ntmps5
  go_upto_region 2 with fail
  go_cut [7] (fun v7 wc => v7 = .int .i64 16 ∧ Aside0 (NW w wc 113))
  case first => as_aux_lemma =>
    clear HU
    generalize World.alloc (World.alloc w _) _ = A at HA ⊢
    have hmm := @run_makeMap Tryz.prog
    have h0 := mp0 A
    have h1 := mp1 A
    have h2 := mp2 A
    have h3 := mp3 A
    have h4 := mp4 A
    have h5 := mp5 A
    have h6 := mp6 A
    have h7 := mpq A
    go_wp2
    go_meet
    case rel => exact ⟨rfl, ⟨HA.out.alloc _⟩⟩
  case rest => as_aux_lemma =>
    clear HA
    obtain ⟨rfl, HA⟩ := hcut
    generalize wc = w1 at HA ⊢
    cases er with
    | none =>
      replace HU := Aside0.mk (show ∀ W, Below w.heap.size w W → Calls Tryz.prog 13 #[.string s, .int .i64 0, .int .i64 16] W fun e w' => e = .returned (.tuple #[.int .u64 n, .nilIface]) ∧ Below W.heap.size W w' from fun W h1 => (HU W h1).mono fun e w' ⟨v, h1, h2, h3⟩ => ⟨by rcases h2 with ⟨_, rfl⟩ | ⟨h, _⟩; exact h1; exact absurd rfl h, h3⟩)
      go_wp2_with (go_at_call 13; ((with_reducible refine (HU.out _ HA.out.below).mono ?_); rintro x w2 ⟨rfl, hb⟩; have HB := Aside0.mk (NW.step HA.out hb); clear hb; obtain ⟨a0, a1, a2, a3, fa0, fa1, fa2, fa3⟩ := cells4 HB.out.a; obtain ⟨b0, b1, b2, b3, fb0, fb1, fb2, fb3⟩ := cells4 HB.out.b))
      refine bodyPost_ret (results_list (rs := [.cell 4 27, .tmp 5]) rfl (by simp) (.cell w.heap.size 27 (vc 113 n) (0, 0) _ rfl (blk_set (blk_set (blk_set (blk_set ((((Below.refl (w.heap.size + 1) _).setCell (Nat.le_refl _) _).block w.heap.size (by omega)).trans HB.out.a) 0 _) 1 _) 2 _) 3 _) Tryz.underlying27 rfl (by kernel_rfl) (.tmp .nil))) rfl ?_
      exact ⟨.inl ⟨rfl, rfl⟩, ((((HB.out.below.setCell (Nat.le_succ _) _).setCell (Nat.le_refl _) _).setCell (Nat.le_refl _) _).setCell (Nat.le_refl _) _).setCell (Nat.le_refl _) _⟩
    | some k =>
      replace HU := Aside0.mk (show ∀ W, Below w.heap.size w W → Calls Tryz.prog 13 #[.string s, .int .i64 0, .int .i64 16] W fun e w' => ∃ N, e = .returned (.tuple #[.int .u64 n, .iface 62 (.pointer (some ⟨N, 0, none⟩))]) ∧ Below W.heap.size W w' from fun W h1 => (HU W h1).mono fun e w' ⟨v, h1, h2, h3⟩ => by rcases h2 with ⟨h, _⟩ | ⟨_, N, rfl⟩; cases h; exact ⟨N, h1, h3⟩)
      go_wp2_with (go_at_call 13; ((with_reducible refine (HU.out _ HA.out.below).mono ?_); rintro x w2 ⟨N, rfl, hb⟩; have HB := Aside0.mk (NW.step HA.out hb); clear hb; obtain ⟨a0, a1, a2, a3, fa0, fa1, fa2, fa3⟩ := cells4 HB.out.a; obtain ⟨b0, b1, b2, b3, fb0, fb1, fb2, fb3⟩ := cells4 HB.out.b))
      refine bodyPost_ret (results_list (rs := [.cell 4 27, .tmp 5]) rfl (by simp) (.cell w.heap.size 27 (vc 0 0) (0, 0) _ rfl (blk_set (blk_set (blk_set (blk_set HB.out.a 0 _) 1 _) 2 _) 3 _) Tryz.underlying27 rfl (by kernel_rfl) (.tmp .nil))) rfl ?_
      exact ⟨.inr ⟨by simp, rfl⟩, (((HB.out.below.setCell (Nat.le_refl _) _).setCell (Nat.le_refl _) _).setCell (Nat.le_refl _) _).setCell (Nat.le_refl _) _⟩
end Go.Proofs.YtogikhohkbcccaaGreatDoor.To

namespace Go.Proofs.YtogikhohkbcccaaGreatDoor.To
set_option linter.unusedVariables false
set_option linter.unusedSimpArgs false
open Go.RowKit Go.Proofs.YtogikhohkbcccaaGreatDoorW.PrintWords Go.Proofs.YtogikhohkbcccaaGreatDoorW.PrintLast Go.Proofs.YtogikhohkbcccaaGreatDoorW.PrintMore Go.Proofs.YtogikhohkbcccaaGreatDoor.De

set_option maxHeartbeats 8000000 in
set_option maxRecDepth 100000 in
theorem no_i (s : ByteArray) (R : Int × Option Int) (w : World)
    (HU : ∀ W, Below w.heap.size w W → Calls Tryz.prog 12 #[.string s, .int .i64 0, .int .i64 32] W fun e w' => ∃ v, e = .returned (.tuple #[.int .i64 R.1, v]) ∧ PubErr R.2 v ∧ Below W.heap.size W w') :
    Calls Tryz.prog 5 #[.string s, .int .u8 105] w fun e w' => OAns R 105 (IntKind.u64.wrap R.1) e ∧ Below w.heap.size w w' := by
  have HA := Aside0.mk (NW.mk' w 105)
  obtain ⟨n, er⟩ := R
  go_enter Tryz.func5, Tryz.ntmps5
  go_upto_region 2 with fail
  go_cut [7] (fun v7 wc => v7 = .int .i64 32 ∧ Aside0 (NW w wc 105))
  case first => as_aux_lemma =>
    clear HU
    generalize World.alloc (World.alloc w _) _ = A at HA ⊢
    have hmm := @run_makeMap Tryz.prog
    have h0 := mp0 A
    have h1 := mp1 A
    have h2 := mp2 A
    have h3 := mp3 A
    have h4 := mp4 A
    have h5 := mp5 A
    have h6 := mp6 A
    have h7 := mpi A
    go_wp2
    go_meet
    case rel => exact ⟨rfl, ⟨HA.out.alloc _⟩⟩
  case rest => as_aux_lemma =>
    clear HA
    obtain ⟨rfl, HA⟩ := hcut
    generalize wc = w1 at HA ⊢
    cases er with
    | none =>
      replace HU := Aside0.mk (show ∀ W, Below w.heap.size w W → Calls Tryz.prog 12 #[.string s, .int .i64 0, .int .i64 32] W fun e w' => e = .returned (.tuple #[.int .i64 n, .nilIface]) ∧ Below W.heap.size W w' from fun W h1 => (HU W h1).mono fun e w' ⟨v, h1, h2, h3⟩ => ⟨by rcases h2 with ⟨_, rfl⟩ | ⟨h, _⟩; exact h1; exact absurd rfl h, h3⟩)
      go_wp2_with (go_at_call 12; ((with_reducible refine (HU.out _ HA.out.below).mono ?_); rintro x w2 ⟨rfl, hb⟩; have HB := Aside0.mk (NW.step HA.out hb); clear hb; obtain ⟨a0, a1, a2, a3, fa0, fa1, fa2, fa3⟩ := cells4 HB.out.a; obtain ⟨b0, b1, b2, b3, fb0, fb1, fb2, fb3⟩ := cells4 HB.out.b))
      refine bodyPost_ret (results_list (rs := [.cell 4 27, .tmp 5]) rfl (by simp) (.cell w.heap.size 27 (vc 105 (IntKind.u64.wrap n)) (0, 0) _ rfl (blk_set (blk_set (blk_set (blk_set ((((Below.refl (w.heap.size + 1) _).setCell (Nat.le_refl _) _).block w.heap.size (by omega)).trans HB.out.a) 0 _) 1 _) 2 _) 3 _) Tryz.underlying27 rfl (by kernel_rfl) (.tmp .nil))) rfl ?_
      exact ⟨.inl ⟨rfl, rfl⟩, ((((HB.out.below.setCell (Nat.le_succ _) _).setCell (Nat.le_refl _) _).setCell (Nat.le_refl _) _).setCell (Nat.le_refl _) _).setCell (Nat.le_refl _) _⟩
    | some k =>
      replace HU := Aside0.mk (show ∀ W, Below w.heap.size w W → Calls Tryz.prog 12 #[.string s, .int .i64 0, .int .i64 32] W fun e w' => ∃ N, e = .returned (.tuple #[.int .i64 n, .iface 62 (.pointer (some ⟨N, 0, none⟩))]) ∧ Below W.heap.size W w' from fun W h1 => (HU W h1).mono fun e w' ⟨v, h1, h2, h3⟩ => by rcases h2 with ⟨h, _⟩ | ⟨_, N, rfl⟩; cases h; exact ⟨N, h1, h3⟩)
      go_wp2_with (go_at_call 12; ((with_reducible refine (HU.out _ HA.out.below).mono ?_); rintro x w2 ⟨N, rfl, hb⟩; have HB := Aside0.mk (NW.step HA.out hb); clear hb; obtain ⟨a0, a1, a2, a3, fa0, fa1, fa2, fa3⟩ := cells4 HB.out.a; obtain ⟨b0, b1, b2, b3, fb0, fb1, fb2, fb3⟩ := cells4 HB.out.b))
      refine bodyPost_ret (results_list (rs := [.cell 4 27, .tmp 5]) rfl (by simp) (.cell w.heap.size 27 (vc 0 0) (0, 0) _ rfl (blk_set (blk_set (blk_set (blk_set HB.out.a 0 _) 1 _) 2 _) 3 _) Tryz.underlying27 rfl (by kernel_rfl) (.tmp .nil))) rfl ?_
      exact ⟨.inr ⟨by simp, rfl⟩, (((HB.out.below.setCell (Nat.le_refl _) _).setCell (Nat.le_refl _) _).setCell (Nat.le_refl _) _).setCell (Nat.le_refl _) _⟩
end Go.Proofs.YtogikhohkbcccaaGreatDoor.To

namespace Go.Proofs.YtogikhohkbcccaaGreatDoor.To
set_option linter.unusedVariables false
set_option linter.unusedSimpArgs false
open Go.RowKit Go.Proofs.YtogikhohkbcccaaGreatDoorW.PrintWords Go.Proofs.YtogikhohkbcccaaGreatDoorW.PrintLast Go.Proofs.YtogikhohkbcccaaGreatDoorW.PrintMore Go.Proofs.YtogikhohkbcccaaGreatDoor.De

set_option maxHeartbeats 8000000 in
set_option maxRecDepth 100000 in
theorem no_u (s : ByteArray) (R : Int × Option Int) (w : World)
    (HU : ∀ W, Below w.heap.size w W → Calls Tryz.prog 13 #[.string s, .int .i64 0, .int .i64 32] W fun e w' => ∃ v, e = .returned (.tuple #[.int .u64 R.1, v]) ∧ PubErr R.2 v ∧ Below W.heap.size W w') :
    Calls Tryz.prog 5 #[.string s, .int .u8 117] w fun e w' => OAns R 117 R.1 e ∧ Below w.heap.size w w' := by
  have HA := Aside0.mk (NW.mk' w 117)
  obtain ⟨n, er⟩ := R
  go_enter Tryz.func5, Tryz.ntmps5
  go_upto_region 2 with fail
  go_cut [7] (fun v7 wc => v7 = .int .i64 32 ∧ Aside0 (NW w wc 117))
  case first => as_aux_lemma =>
    clear HU
    generalize World.alloc (World.alloc w _) _ = A at HA ⊢
    have hmm := @run_makeMap Tryz.prog
    have h0 := mp0 A
    have h1 := mp1 A
    have h2 := mp2 A
    have h3 := mp3 A
    have h4 := mp4 A
    have h5 := mp5 A
    have h6 := mp6 A
    have h7 := mpu A
    go_wp2
    go_meet
    case rel => exact ⟨rfl, ⟨HA.out.alloc _⟩⟩
  case rest => as_aux_lemma =>
    clear HA
    obtain ⟨rfl, HA⟩ := hcut
    generalize wc = w1 at HA ⊢
    cases er with
    | none =>
      replace HU := Aside0.mk (show ∀ W, Below w.heap.size w W → Calls Tryz.prog 13 #[.string s, .int .i64 0, .int .i64 32] W fun e w' => e = .returned (.tuple #[.int .u64 n, .nilIface]) ∧ Below W.heap.size W w' from fun W h1 => (HU W h1).mono fun e w' ⟨v, h1, h2, h3⟩ => ⟨by rcases h2 with ⟨_, rfl⟩ | ⟨h, _⟩; exact h1; exact absurd rfl h, h3⟩)
      go_wp2_with (go_at_call 13; ((with_reducible refine (HU.out _ HA.out.below).mono ?_); rintro x w2 ⟨rfl, hb⟩; have HB := Aside0.mk (NW.step HA.out hb); clear hb; obtain ⟨a0, a1, a2, a3, fa0, fa1, fa2, fa3⟩ := cells4 HB.out.a; obtain ⟨b0, b1, b2, b3, fb0, fb1, fb2, fb3⟩ := cells4 HB.out.b))
      refine bodyPost_ret (results_list (rs := [.cell 4 27, .tmp 5]) rfl (by simp) (.cell w.heap.size 27 (vc 117 n) (0, 0) _ rfl (blk_set (blk_set (blk_set (blk_set ((((Below.refl (w.heap.size + 1) _).setCell (Nat.le_refl _) _).block w.heap.size (by omega)).trans HB.out.a) 0 _) 1 _) 2 _) 3 _) Tryz.underlying27 rfl (by kernel_rfl) (.tmp .nil))) rfl ?_
      exact ⟨.inl ⟨rfl, rfl⟩, ((((HB.out.below.setCell (Nat.le_succ _) _).setCell (Nat.le_refl _) _).setCell (Nat.le_refl _) _).setCell (Nat.le_refl _) _).setCell (Nat.le_refl _) _⟩
    | some k =>
      replace HU := Aside0.mk (show ∀ W, Below w.heap.size w W → Calls Tryz.prog 13 #[.string s, .int .i64 0, .int .i64 32] W fun e w' => ∃ N, e = .returned (.tuple #[.int .u64 n, .iface 62 (.pointer (some ⟨N, 0, none⟩))]) ∧ Below W.heap.size W w' from fun W h1 => (HU W h1).mono fun e w' ⟨v, h1, h2, h3⟩ => by rcases h2 with ⟨h, _⟩ | ⟨_, N, rfl⟩; cases h; exact ⟨N, h1, h3⟩)
      go_wp2_with (go_at_call 13; ((with_reducible refine (HU.out _ HA.out.below).mono ?_); rintro x w2 ⟨N, rfl, hb⟩; have HB := Aside0.mk (NW.step HA.out hb); clear hb; obtain ⟨a0, a1, a2, a3, fa0, fa1, fa2, fa3⟩ := cells4 HB.out.a; obtain ⟨b0, b1, b2, b3, fb0, fb1, fb2, fb3⟩ := cells4 HB.out.b))
      refine bodyPost_ret (results_list (rs := [.cell 4 27, .tmp 5]) rfl (by simp) (.cell w.heap.size 27 (vc 0 0) (0, 0) _ rfl (blk_set (blk_set (blk_set (blk_set HB.out.a 0 _) 1 _) 2 _) 3 _) Tryz.underlying27 rfl (by kernel_rfl) (.tmp .nil))) rfl ?_
      exact ⟨.inr ⟨by simp, rfl⟩, (((HB.out.below.setCell (Nat.le_refl _) _).setCell (Nat.le_refl _) _).setCell (Nat.le_refl _) _).setCell (Nat.le_refl _) _⟩
end Go.Proofs.YtogikhohkbcccaaGreatDoor.To

namespace Go.Proofs.YtogikhohkbcccaaGreatDoor.To
set_option linter.unusedVariables false
set_option linter.unusedSimpArgs false
open Go.RowKit Go.Proofs.YtogikhohkbcccaaGreatDoorW.PrintWords Go.Proofs.YtogikhohkbcccaaGreatDoorW.PrintLast Go.Proofs.YtogikhohkbcccaaGreatDoorW.PrintMore Go.Proofs.YtogikhohkbcccaaGreatDoor.De

set_option maxHeartbeats 8000000 in
set_option maxRecDepth 100000 in
theorem no_x (s : ByteArray) (R : Int × Option Int) (w : World)
    (HU : ∀ W, Below w.heap.size w W → Calls Tryz.prog 12 #[.string s, .int .i64 0, .int .i64 64] W fun e w' => ∃ v, e = .returned (.tuple #[.int .i64 R.1, v]) ∧ PubErr R.2 v ∧ Below W.heap.size W w') :
    Calls Tryz.prog 5 #[.string s, .int .u8 120] w fun e w' => OAns R 120 (IntKind.u64.wrap R.1) e ∧ Below w.heap.size w w' := by
  have HA := Aside0.mk (NW.mk' w 120)
  obtain ⟨n, er⟩ := R
  go_enter Tryz.func5, Tryz.ntmps5
  go_upto_region 2 with fail
  go_cut [7] (fun v7 wc => v7 = .int .i64 64 ∧ Aside0 (NW w wc 120))
  case first => as_aux_lemma =>
    clear HU
    generalize World.alloc (World.alloc w _) _ = A at HA ⊢
    have hmm := @run_makeMap Tryz.prog
    have h0 := mp0 A
    have h1 := mp1 A
    have h2 := mp2 A
    have h3 := mp3 A
    have h4 := mp4 A
    have h5 := mp5 A
    have h6 := mp6 A
    have h7 := mpx A
    go_wp2
    go_meet
    case rel => exact ⟨rfl, ⟨HA.out.alloc _⟩⟩
  case rest => as_aux_lemma =>
    clear HA
    obtain ⟨rfl, HA⟩ := hcut
    generalize wc = w1 at HA ⊢
    cases er with
    | none =>
      replace HU := Aside0.mk (show ∀ W, Below w.heap.size w W → Calls Tryz.prog 12 #[.string s, .int .i64 0, .int .i64 64] W fun e w' => e = .returned (.tuple #[.int .i64 n, .nilIface]) ∧ Below W.heap.size W w' from fun W h1 => (HU W h1).mono fun e w' ⟨v, h1, h2, h3⟩ => ⟨by rcases h2 with ⟨_, rfl⟩ | ⟨h, _⟩; exact h1; exact absurd rfl h, h3⟩)
      go_wp2_with (go_at_call 12; ((with_reducible refine (HU.out _ HA.out.below).mono ?_); rintro x w2 ⟨rfl, hb⟩; have HB := Aside0.mk (NW.step HA.out hb); clear hb; obtain ⟨a0, a1, a2, a3, fa0, fa1, fa2, fa3⟩ := cells4 HB.out.a; obtain ⟨b0, b1, b2, b3, fb0, fb1, fb2, fb3⟩ := cells4 HB.out.b))
      refine bodyPost_ret (results_list (rs := [.cell 4 27, .tmp 5]) rfl (by simp) (.cell w.heap.size 27 (vc 120 (IntKind.u64.wrap n)) (0, 0) _ rfl (blk_set (blk_set (blk_set (blk_set ((((Below.refl (w.heap.size + 1) _).setCell (Nat.le_refl _) _).block w.heap.size (by omega)).trans HB.out.a) 0 _) 1 _) 2 _) 3 _) Tryz.underlying27 rfl (by kernel_rfl) (.tmp .nil))) rfl ?_
      exact ⟨.inl ⟨rfl, rfl⟩, ((((HB.out.below.setCell (Nat.le_succ _) _).setCell (Nat.le_refl _) _).setCell (Nat.le_refl _) _).setCell (Nat.le_refl _) _).setCell (Nat.le_refl _) _⟩
    | some k =>
      replace HU := Aside0.mk (show ∀ W, Below w.heap.size w W → Calls Tryz.prog 12 #[.string s, .int .i64 0, .int .i64 64] W fun e w' => ∃ N, e = .returned (.tuple #[.int .i64 n, .iface 62 (.pointer (some ⟨N, 0, none⟩))]) ∧ Below W.heap.size W w' from fun W h1 => (HU W h1).mono fun e w' ⟨v, h1, h2, h3⟩ => by rcases h2 with ⟨h, _⟩ | ⟨_, N, rfl⟩; cases h; exact ⟨N, h1, h3⟩)
      go_wp2_with (go_at_call 12; ((with_reducible refine (HU.out _ HA.out.below).mono ?_); rintro x w2 ⟨N, rfl, hb⟩; have HB := Aside0.mk (NW.step HA.out hb); clear hb; obtain ⟨a0, a1, a2, a3, fa0, fa1, fa2, fa3⟩ := cells4 HB.out.a; obtain ⟨b0, b1, b2, b3, fb0, fb1, fb2, fb3⟩ := cells4 HB.out.b))
      refine bodyPost_ret (results_list (rs := [.cell 4 27, .tmp 5]) rfl (by simp) (.cell w.heap.size 27 (vc 0 0) (0, 0) _ rfl (blk_set (blk_set (blk_set (blk_set HB.out.a 0 _) 1 _) 2 _) 3 _) Tryz.underlying27 rfl (by kernel_rfl) (.tmp .nil))) rfl ?_
      exact ⟨.inr ⟨by simp, rfl⟩, (((HB.out.below.setCell (Nat.le_refl _) _).setCell (Nat.le_refl _) _).setCell (Nat.le_refl _) _).setCell (Nat.le_refl _) _⟩
end Go.Proofs.YtogikhohkbcccaaGreatDoor.To

namespace Go.Proofs.YtogikhohkbcccaaGreatDoor.To
set_option linter.unusedVariables false
set_option linter.unusedSimpArgs false
open Go.RowKit Go.Proofs.YtogikhohkbcccaaGreatDoorW.PrintWords Go.Proofs.YtogikhohkbcccaaGreatDoorW.PrintLast Go.Proofs.YtogikhohkbcccaaGreatDoorW.PrintMore Go.Proofs.YtogikhohkbcccaaGreatDoor.De

set_option maxHeartbeats 8000000 in
set_option maxRecDepth 100000 in
theorem no_t (s : ByteArray) (R : Int × Option Int) (w : World)
    (HU : ∀ W, Below w.heap.size w W → Calls Tryz.prog 13 #[.string s, .int .i64 0, .int .i64 64] W fun e w' => ∃ v, e = .returned (.tuple #[.int .u64 R.1, v]) ∧ PubErr R.2 v ∧ Below W.heap.size W w') :
    Calls Tryz.prog 5 #[.string s, .int .u8 116] w fun e w' => OAns R 116 R.1 e ∧ Below w.heap.size w w' := by
  have HA := Aside0.mk (NW.mk' w 116)
  obtain ⟨n, er⟩ := R
  go_enter Tryz.func5, Tryz.ntmps5
  go_upto_region 2 with fail
  go_cut [7] (fun v7 wc => v7 = .int .i64 64 ∧ Aside0 (NW w wc 116))
  case first => as_aux_lemma =>
    clear HU
    generalize World.alloc (World.alloc w _) _ = A at HA ⊢
    have hmm := @run_makeMap Tryz.prog
    have h0 := mp0 A
    have h1 := mp1 A
    have h2 := mp2 A
    have h3 := mp3 A
    have h4 := mp4 A
    have h5 := mp5 A
    have h6 := mp6 A
    have h7 := mpt A
    go_wp2
    go_meet
    case rel => exact ⟨rfl, ⟨HA.out.alloc _⟩⟩
  case rest => as_aux_lemma =>
    clear HA
    obtain ⟨rfl, HA⟩ := hcut
    generalize wc = w1 at HA ⊢
    cases er with
    | none =>
      replace HU := Aside0.mk (show ∀ W, Below w.heap.size w W → Calls Tryz.prog 13 #[.string s, .int .i64 0, .int .i64 64] W fun e w' => e = .returned (.tuple #[.int .u64 n, .nilIface]) ∧ Below W.heap.size W w' from fun W h1 => (HU W h1).mono fun e w' ⟨v, h1, h2, h3⟩ => ⟨by rcases h2 with ⟨_, rfl⟩ | ⟨h, _⟩; exact h1; exact absurd rfl h, h3⟩)
      go_wp2_with (go_at_call 13; ((with_reducible refine (HU.out _ HA.out.below).mono ?_); rintro x w2 ⟨rfl, hb⟩; have HB := Aside0.mk (NW.step HA.out hb); clear hb; obtain ⟨a0, a1, a2, a3, fa0, fa1, fa2, fa3⟩ := cells4 HB.out.a; obtain ⟨b0, b1, b2, b3, fb0, fb1, fb2, fb3⟩ := cells4 HB.out.b))
      refine bodyPost_ret (results_list (rs := [.cell 4 27, .tmp 5]) rfl (by simp) (.cell w.heap.size 27 (vc 116 n) (0, 0) _ rfl (blk_set (blk_set (blk_set (blk_set ((((Below.refl (w.heap.size + 1) _).setCell (Nat.le_refl _) _).block w.heap.size (by omega)).trans HB.out.a) 0 _) 1 _) 2 _) 3 _) Tryz.underlying27 rfl (by kernel_rfl) (.tmp .nil))) rfl ?_
      exact ⟨.inl ⟨rfl, rfl⟩, ((((HB.out.below.setCell (Nat.le_succ _) _).setCell (Nat.le_refl _) _).setCell (Nat.le_refl _) _).setCell (Nat.le_refl _) _).setCell (Nat.le_refl _) _⟩
    | some k =>
      replace HU := Aside0.mk (show ∀ W, Below w.heap.size w W → Calls Tryz.prog 13 #[.string s, .int .i64 0, .int .i64 64] W fun e w' => ∃ N, e = .returned (.tuple #[.int .u64 n, .iface 62 (.pointer (some ⟨N, 0, none⟩))]) ∧ Below W.heap.size W w' from fun W h1 => (HU W h1).mono fun e w' ⟨v, h1, h2, h3⟩ => by rcases h2 with ⟨h, _⟩ | ⟨_, N, rfl⟩; cases h; exact ⟨N, h1, h3⟩)
      go_wp2_with (go_at_call 13; ((with_reducible refine (HU.out _ HA.out.below).mono ?_); rintro x w2 ⟨N, rfl, hb⟩; have HB := Aside0.mk (NW.step HA.out hb); clear hb; obtain ⟨a0, a1, a2, a3, fa0, fa1, fa2, fa3⟩ := cells4 HB.out.a; obtain ⟨b0, b1, b2, b3, fb0, fb1, fb2, fb3⟩ := cells4 HB.out.b))
      refine bodyPost_ret (results_list (rs := [.cell 4 27, .tmp 5]) rfl (by simp) (.cell w.heap.size 27 (vc 0 0) (0, 0) _ rfl (blk_set (blk_set (blk_set (blk_set HB.out.a 0 _) 1 _) 2 _) 3 _) Tryz.underlying27 rfl (by kernel_rfl) (.tmp .nil))) rfl ?_
      exact ⟨.inr ⟨by simp, rfl⟩, (((HB.out.below.setCell (Nat.le_refl _) _).setCell (Nat.le_refl _) _).setCell (Nat.le_refl _) _).setCell (Nat.le_refl _) _⟩
end Go.Proofs.YtogikhohkbcccaaGreatDoor.To

namespace Go.Proofs.YtogikhohkbcccaaGreatDoor.To
set_option linter.unusedVariables false
set_option linter.unusedSimpArgs false
open Go.RowKit Go.Proofs.YtogikhohkbcccaaGreatDoorW.PrintWords Go.Proofs.YtogikhohkbcccaaGreatDoorW.PrintLast Go.Proofs.YtogikhohkbcccaaGreatDoorW.PrintMore Go.Proofs.YtogikhohkbcccaaGreatDoor.De

set_option maxHeartbeats 8000000 in
set_option maxRecDepth 100000 in
theorem no_d (s : ByteArray) (R : Nat × Option Int) (w : World)
    (HU : ∀ W, Below w.heap.size w W → Calls Tryz.prog 10 #[.string s, .int .i64 64] W fun e w' => ∃ v, e = .returned (.tuple #[.float .f64 R.1, v]) ∧ PubErr R.2 v ∧ Below W.heap.size W w') :
    Calls Tryz.prog 5 #[.string s, .int .u8 100] w fun e w' => OAns ((R.1 : Int), R.2) 100 (R.1 : Nat) e ∧ Below w.heap.size w w' := by
  have HA := Aside0.mk (NW.mk' w 100)
  obtain ⟨n, er⟩ := R
  go_enter Tryz.func5, Tryz.ntmps5
  go_upto_region 2 with fail
  go_cut [7] (fun v7 wc => v7 = .int .i64 0 ∧ Aside0 (NW w wc 100))
  case first => as_aux_lemma =>
    clear HU
    generalize World.alloc (World.alloc w _) _ = A at HA ⊢
    have hmm := @run_makeMap Tryz.prog
    have h0 := mp0 A
    have h1 := mp1 A
    have h2 := mp2 A
    have h3 := mp3 A
    have h4 := mp4 A
    have h5 := mp5 A
    have h6 := mp6 A
    have h7 := mpd A
    go_wp2
    go_meet
    case rel => exact ⟨rfl, ⟨HA.out.alloc _⟩⟩
  case rest => as_aux_lemma =>
    clear HA
    obtain ⟨rfl, HA⟩ := hcut
    generalize wc = w1 at HA ⊢
    cases er with
    | none =>
      replace HU := Aside0.mk (show ∀ W, Below w.heap.size w W → Calls Tryz.prog 10 #[.string s, .int .i64 64] W fun e w' => e = .returned (.tuple #[.float .f64 n, .nilIface]) ∧ Below W.heap.size W w' from fun W h1 => (HU W h1).mono fun e w' ⟨v, h1, h2, h3⟩ => ⟨by rcases h2 with ⟨_, rfl⟩ | ⟨h, _⟩; exact h1; exact absurd rfl h, h3⟩)
      have hd := bits_run
      go_wp2_with (go_at_call 10; ((with_reducible refine (HU.out _ HA.out.below).mono ?_); rintro x w2 ⟨rfl, hb⟩; have HB := Aside0.mk (NW.step HA.out hb); clear hb; obtain ⟨a0, a1, a2, a3, fa0, fa1, fa2, fa3⟩ := cells4 HB.out.a; obtain ⟨b0, b1, b2, b3, fb0, fb1, fb2, fb3⟩ := cells4 HB.out.b))
      refine bodyPost_ret (results_list (rs := [.cell 4 27, .tmp 5]) rfl (by simp) (.cell w.heap.size 27 (vc 100 (n : Int)) (0, 0) _ rfl (blk_set (blk_set (blk_set (blk_set ((((Below.refl (w.heap.size + 1) _).setCell (Nat.le_refl _) _).block w.heap.size (by omega)).trans HB.out.a) 0 _) 1 _) 2 _) 3 _) Tryz.underlying27 rfl (by kernel_rfl) (.tmp .nil))) rfl ?_
      exact ⟨.inl ⟨rfl, rfl⟩, ((((HB.out.below.setCell (Nat.le_succ _) _).setCell (Nat.le_refl _) _).setCell (Nat.le_refl _) _).setCell (Nat.le_refl _) _).setCell (Nat.le_refl _) _⟩
    | some k =>
      replace HU := Aside0.mk (show ∀ W, Below w.heap.size w W → Calls Tryz.prog 10 #[.string s, .int .i64 64] W fun e w' => ∃ N, e = .returned (.tuple #[.float .f64 n, .iface 62 (.pointer (some ⟨N, 0, none⟩))]) ∧ Below W.heap.size W w' from fun W h1 => (HU W h1).mono fun e w' ⟨v, h1, h2, h3⟩ => by rcases h2 with ⟨h, _⟩ | ⟨_, N, rfl⟩; cases h; exact ⟨N, h1, h3⟩)
      have hd := bits_run
      go_wp2_with (go_at_call 10; ((with_reducible refine (HU.out _ HA.out.below).mono ?_); rintro x w2 ⟨N, rfl, hb⟩; have HB := Aside0.mk (NW.step HA.out hb); clear hb; obtain ⟨a0, a1, a2, a3, fa0, fa1, fa2, fa3⟩ := cells4 HB.out.a; obtain ⟨b0, b1, b2, b3, fb0, fb1, fb2, fb3⟩ := cells4 HB.out.b))
      refine bodyPost_ret (results_list (rs := [.cell 4 27, .tmp 5]) rfl (by simp) (.cell w.heap.size 27 (vc 0 0) (0, 0) _ rfl (blk_set (blk_set (blk_set (blk_set HB.out.a 0 _) 1 _) 2 _) 3 _) Tryz.underlying27 rfl (by kernel_rfl) (.tmp .nil))) rfl ?_
      exact ⟨.inr ⟨by simp, rfl⟩, (((HB.out.below.setCell (Nat.le_refl _) _).setCell (Nat.le_refl _) _).setCell (Nat.le_refl _) _).setCell (Nat.le_refl _) _⟩
end Go.Proofs.YtogikhohkbcccaaGreatDoor.To
