import Derived.Test.YtogikhohkbcccaaGreatDoorPi
import Derived.Test.YtogikhohkbcccaaGreatDoorAi
namespace Go.Proofs.YtogikhohkbcccaaGreatDoor.De
set_option linter.unusedVariables false
set_option linter.unusedSimpArgs false
open Go.RowKit Go.Proofs.YtogikhohkbcccaaGreatDoorW.PrintWords Go.Proofs.YtogikhohkbcccaaGreatDoorW.PrintLast Go.Proofs.YtogikhohkbcccaaGreatDoorW.PrintMore

theorem puV_err (β m : Int) (s : ByteArray) : EOK (puV β m s).2 := by
  rcases puV_ok β m s with ⟨h, _⟩ | ⟨h, _⟩ | h
  · exact .inl h
  · exact .inr (.inl h)
  · exact .inr (.inr h)
theorem piV_err (neg : Bool) (C : Int) (r : Int × Option Int) : EOK (piV neg C r).2 := by
  unfold piV
  split
  · exact .inr (.inr rfl)
  · split
    · exact .inr (.inl rfl)
    · split
      · exact .inr (.inl rfl)
      · exact .inl rfl
set_option maxHeartbeats 4000000 in
set_option maxRecDepth 100000 in
theorem pubU (s : ByteArray) (base m : Int) (R : Int × Option Int) (w : World) (hs : s.size ≤ 281474976710656) (hE : EV w) (hg : 2 < w.heap.size) (hk : EOK R.2)
    (HA : Calls Tryz.prog 19 #[.string s, .int .i64 base, .int .i64 m] w fun e w' => e = .returned (.tuple #[.int .u64 R.1, errV R.2]) ∧ Below w.heap.size w w') :
    Calls Tryz.prog 13 #[.string s, .int .i64 base, .int .i64 m] w fun e w' => ∃ v, e = .returned (.tuple #[.int .u64 R.1, v]) ∧ PubErr R.2 v ∧ Below w.heap.size w w' := by
  obtain ⟨n, er⟩ := R
  have HE := Aside0.mk hE
  have HS := Aside0.mk hs
  have HG := Aside0.mk hg
  clear hE hs hg
  rcases hk with h | h | h
  all_goals
    have h : er = _ := h
    subst h
  · replace HA := Aside0.mk (show Calls Tryz.prog 19 #[.string s, .int .i64 base, .int .i64 m] w fun e w' => e = .returned (.tuple #[.int .u64 n, .nilIface]) ∧ Below w.heap.size w w' from HA)
    go_enter Tryz.func13, Tryz.ntmps13
    go_wp2_with (go_at_call 19; ((with_reducible refine (HA.out).mono ?_); rintro x w2 ⟨rfl, hb⟩; have HB := Aside0.mk hb; clear hb))
    refine bodyPost_ret (results_list (rs := [.tmp 6, .tmp 7]) rfl (by simp) (.tmp (.tmp .nil))) rfl ?_
    exact ⟨.nilIface, rfl, .inl ⟨rfl, rfl⟩, HB.out⟩
  · replace HA := Aside0.mk (show Calls Tryz.prog 19 #[.string s, .int .i64 base, .int .i64 m] w fun e w' => e = .returned (.tuple #[.int .u64 n, .iface 61 (.int .i64 1)]) ∧ Below w.heap.size w w' from HA)
    go_enter Tryz.func13, Tryz.ntmps13
    go_wp2_with (first | (go_at_call 19; ((with_reducible refine (HA.out).mono ?_); rintro x w2 ⟨rfl, hb⟩; have HB := Aside0.mk hb; clear hb)) | (go_at_call 17; ((with_reducible refine (toError_calls _ s base m 1 (.inl rfl) _ HS.out (HE.out.below HB.out HG.out)).mono ?_); rintro x w3 ⟨N, rfl, hb⟩; have HC := Aside0.mk hb; clear hb)))
    refine bodyPost_ret (results_list (rs := [.tmp 6, .tmp 7]) rfl (by simp) (.tmp (.tmp .nil))) rfl ?_
    exact ⟨_, rfl, .inr ⟨by simp, _, rfl⟩, HB.out.trans (HC.out.mono HB.out.size)⟩
  · replace HA := Aside0.mk (show Calls Tryz.prog 19 #[.string s, .int .i64 base, .int .i64 m] w fun e w' => e = .returned (.tuple #[.int .u64 n, .iface 61 (.int .i64 2)]) ∧ Below w.heap.size w w' from HA)
    go_enter Tryz.func13, Tryz.ntmps13
    go_wp2_with (first | (go_at_call 19; ((with_reducible refine (HA.out).mono ?_); rintro x w2 ⟨rfl, hb⟩; have HB := Aside0.mk hb; clear hb)) | (go_at_call 17; ((with_reducible refine (toError_calls _ s base m 2 (.inr rfl) _ HS.out (HE.out.below HB.out HG.out)).mono ?_); rintro x w3 ⟨N, rfl, hb⟩; have HC := Aside0.mk hb; clear hb)))
    refine bodyPost_ret (results_list (rs := [.tmp 6, .tmp 7]) rfl (by simp) (.tmp (.tmp .nil))) rfl ?_
    exact ⟨_, rfl, .inr ⟨by simp, _, rfl⟩, HB.out.trans (HC.out.mono HB.out.size)⟩
set_option maxHeartbeats 4000000 in
set_option maxRecDepth 100000 in
theorem pubI (s : ByteArray) (base m : Int) (R : Int × Option Int) (w : World) (hs : s.size ≤ 281474976710656) (hE : EV w) (hg : 2 < w.heap.size) (hk : EOK R.2)
    (HA : Calls Tryz.prog 18 #[.string s, .int .i64 base, .int .i64 m] w fun e w' => e = .returned (.tuple #[.int .i64 R.1, errV R.2]) ∧ Below w.heap.size w w') :
    Calls Tryz.prog 12 #[.string s, .int .i64 base, .int .i64 m] w fun e w' => ∃ v, e = .returned (.tuple #[.int .i64 R.1, v]) ∧ PubErr R.2 v ∧ Below w.heap.size w w' := by
  obtain ⟨n, er⟩ := R
  have HE := Aside0.mk hE
  have HS := Aside0.mk hs
  have HG := Aside0.mk hg
  clear hE hs hg
  rcases hk with h | h | h
  all_goals
    have h : er = _ := h
    subst h
  · replace HA := Aside0.mk (show Calls Tryz.prog 18 #[.string s, .int .i64 base, .int .i64 m] w fun e w' => e = .returned (.tuple #[.int .i64 n, .nilIface]) ∧ Below w.heap.size w w' from HA)
    go_enter Tryz.func12, Tryz.ntmps12
    go_wp2_with (go_at_call 18; ((with_reducible refine (HA.out).mono ?_); rintro x w2 ⟨rfl, hb⟩; have HB := Aside0.mk hb; clear hb))
    refine bodyPost_ret (results_list (rs := [.tmp 6, .tmp 7]) rfl (by simp) (.tmp (.tmp .nil))) rfl ?_
    exact ⟨.nilIface, rfl, .inl ⟨rfl, rfl⟩, HB.out⟩
  · replace HA := Aside0.mk (show Calls Tryz.prog 18 #[.string s, .int .i64 base, .int .i64 m] w fun e w' => e = .returned (.tuple #[.int .i64 n, .iface 61 (.int .i64 1)]) ∧ Below w.heap.size w w' from HA)
    go_enter Tryz.func12, Tryz.ntmps12
    go_wp2_with (first | (go_at_call 18; ((with_reducible refine (HA.out).mono ?_); rintro x w2 ⟨rfl, hb⟩; have HB := Aside0.mk hb; clear hb)) | (go_at_call 17; ((with_reducible refine (toError_calls _ s base m 1 (.inl rfl) _ HS.out (HE.out.below HB.out HG.out)).mono ?_); rintro x w3 ⟨N, rfl, hb⟩; have HC := Aside0.mk hb; clear hb)))
    refine bodyPost_ret (results_list (rs := [.tmp 6, .tmp 7]) rfl (by simp) (.tmp (.tmp .nil))) rfl ?_
    exact ⟨_, rfl, .inr ⟨by simp, _, rfl⟩, HB.out.trans (HC.out.mono HB.out.size)⟩
  · replace HA := Aside0.mk (show Calls Tryz.prog 18 #[.string s, .int .i64 base, .int .i64 m] w fun e w' => e = .returned (.tuple #[.int .i64 n, .iface 61 (.int .i64 2)]) ∧ Below w.heap.size w w' from HA)
    go_enter Tryz.func12, Tryz.ntmps12
    go_wp2_with (first | (go_at_call 18; ((with_reducible refine (HA.out).mono ?_); rintro x w2 ⟨rfl, hb⟩; have HB := Aside0.mk hb; clear hb)) | (go_at_call 17; ((with_reducible refine (toError_calls _ s base m 2 (.inr rfl) _ HS.out (HE.out.below HB.out HG.out)).mono ?_); rintro x w3 ⟨N, rfl, hb⟩; have HC := Aside0.mk hb; clear hb)))
    refine bodyPost_ret (results_list (rs := [.tmp 6, .tmp 7]) rfl (by simp) (.tmp (.tmp .nil))) rfl ?_
    exact ⟨_, rfl, .inr ⟨by simp, _, rfl⟩, HB.out.trans (HC.out.mono HB.out.size)⟩
theorem ParseUint_calls (s s' : ByteArray) (base β m : Int) (w : World) (hE : EV w) (hg : 2 < w.heap.size) (hne : s.size ≠ 0) (hl : s.size ≤ 400) (hs : s'.size ≤ 400) (hu : ∀ i : Nat, i < s'.size → bt s' i ≠ 95) (hp : PRE s s' base β) (hm : m = 8 ∨ m = 16 ∨ m = 32 ∨ m = 64) :
    Calls Tryz.prog 13 #[.string s, .int .i64 base, .int .i64 m] w fun e w' => ∃ v, e = .returned (.tuple #[.int .u64 (puV β m s').1, v]) ∧ PubErr (puV β m s').2 v ∧ Below w.heap.size w w' :=
  pubU s base m _ w (Nat.le_trans hl (by decide)) hE hg (puV_err _ _ _) (pu_calls s s' base β m w hne hs hu hp hm)
theorem ParseInt_calls (s s1 s' : ByteArray) (neg : Bool) (base β m : Int) (w : World) (hE : EV w) (hg : 2 < w.heap.size) (hne : s.size ≠ 0) (hl : s.size ≤ 400) (hsg : SG s s1 neg) (h1 : s1.size ≠ 0) (hs : s'.size ≤ 400) (hu : ∀ i : Nat, i < s'.size → bt s' i ≠ 95) (hp : PRE s1 s' base β) (hm : m = 16 ∨ m = 32 ∨ m = 64) :
    Calls Tryz.prog 12 #[.string s, .int .i64 base, .int .i64 m] w fun e w' => ∃ v, e = .returned (.tuple #[.int .i64 (piV neg (halfOf m) (puV β m s')).1, v]) ∧ PubErr (piV neg (halfOf m) (puV β m s')).2 v ∧ Below w.heap.size w w' :=
  pubI s base m _ w (Nat.le_trans hl (by decide)) hE hg (piV_err _ _ _) (pi_calls s s1 s' neg base β m w hne hsg h1 hs hu hp hm)
end Go.Proofs.YtogikhohkbcccaaGreatDoor.De
