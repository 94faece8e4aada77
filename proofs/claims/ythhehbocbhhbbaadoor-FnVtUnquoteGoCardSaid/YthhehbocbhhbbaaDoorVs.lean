/-
What is proved: what impl.VtUnquote answers, in the print's form.
-/
import Derived.Test.YthhehbocbhhbbaaDoorVr
namespace Go.Proofs.YthhehbocbhhbbaaDoor.Vs
set_option linter.unusedVariables false
set_option linter.unusedSimpArgs false
open Go.RowKit Go.Proofs.YthhehbocbhhbbaaDoorW.PrintWords Go.Proofs.YthhehbocbhhbbaaDoor.Pn Go.Proofs.YthhehbocbhhbbaaDoor.Vp Go.Proofs.YthhehbocbhhbbaaDoor.Vq Go.Proofs.YthhehbocbhhbbaaDoor.Vr

set_option maxHeartbeats 4000000 in
set_option maxRecDepth 100000 in
theorem door_some (s : ByteArray) (l : List UInt8) (h2 : 2 ≤ s.size) (hs : s.size ≤ 1099511627776) (hv : vp s.size (s.extract 1 (s.size - 1)) [] = some l) (w : World) (hT : Tabs w) :
    Calls Tryd.prog 15 #[.string s] w fun e w' => e = .returned (.tuple #[.string ⟨l.toArray⟩, .nilIface]) ∧ Below w.heap.size w w' := by
  have hW := walk s h2 hs w hT
  rw [hv] at hW
  have hW : Calls Tryd.prog 19 #[.string s] w fun e w' => e = .returned (.tuple #[.string ⟨l.toArray⟩, .nilIface]) ∧ Below w.heap.size w w' := hW
  clear hv
  go_enter Tryd.func15, Tryd.ntmps15
  go_wp2_with (go_at_call 19; refine hW.mono ?_; rintro e W1 ⟨rfl, b1⟩)
  go_ret2
  exact ⟨rfl, b1⟩
set_option maxHeartbeats 4000000 in
set_option maxRecDepth 100000 in
theorem door_none (s : ByteArray) (h2 : 2 ≤ s.size) (hs : s.size ≤ 1099511627776) (hv : vp s.size (s.extract 1 (s.size - 1)) [] = none) (w : World) (hT : Tabs w) :
    Calls Tryd.prog 15 #[.string s] w fun e w' => (∃ tp p, e = .returned (.tuple #[.string ⟨#[]⟩, .iface tp p])) ∧ Below w.heap.size w w' := by
  have hW := walk s h2 hs w hT
  rw [hv] at hW
  have hW : Calls Tryd.prog 19 #[.string s] w fun e w' => (∃ tp p, e = .returned (.tuple #[.string ⟨#[]⟩, .iface tp p])) ∧ Below w.heap.size w w' := hW
  clear hv
  go_enter Tryd.func15, Tryd.ntmps15
  go_wp2_with (go_at_call 19; refine hW.mono ?_; rintro e W1 ⟨⟨tp, p, rfl⟩, b1⟩)
  go_ret2
  exact ⟨⟨_, _, rfl⟩, b1⟩

/-- impl.VtUnquote: the characters and true, or nothing and false. -/
def impl_VtUnquote.f (s : ByteArray) : Option (ByteArray × Bool) :=
  if s.size ≤ 1099511627776 then
    (if s.size < 2 then some (⟨#[]⟩, false)
    else match vp s.size (s.extract 1 (s.size - 1)) [] with
      | some l => some (⟨l.toArray⟩, true)
      | none => some (⟨#[]⟩, false))
  else none
set_option maxHeartbeats 4000000 in
set_option maxRecDepth 100000 in
theorem impl_VtUnquote.calls (a0 : ByteArray) (r1 : ByteArray) (r2 : Bool) (w : World) (hT : Tabs w) (h : impl_VtUnquote.f a0 = some (r1, r2)) :
    Calls Tryd.prog 9 #[.string a0] w fun e w' => e = .returned (.tuple #[.string r1, .bool r2]) ∧ Below w.heap.size w w' := by
  unfold impl_VtUnquote.f at h
  by_cases hs : a0.size ≤ 1099511627776
  · rw [if_pos hs] at h
    by_cases h2 : a0.size < 2
    · rw [if_pos h2] at h
      obtain ⟨rfl, rfl⟩ := Prod.mk.inj (Option.some.inj h)
      clear h
      go_enter Tryd.func9, Tryd.ntmps9
      go_wp2
      go_ret2
      exact ⟨rfl, Below.refl _ _⟩
    · rw [if_neg h2] at h
      cases hv : vp a0.size (a0.extract 1 (a0.size - 1)) [] with
      | some l =>
        rw [hv] at h
        obtain ⟨rfl, rfl⟩ := Prod.mk.inj (Option.some.inj h)
        have c1 := door_some a0 l (by omega) hs hv w hT
        clear h hv
        go_enter Tryd.func9, Tryd.ntmps9
        go_wp2_with (go_at_call 15; refine c1.mono ?_; rintro e W1 ⟨rfl, b1⟩)
        go_quiet (fail)
        go_wp2
        go_ret2
        exact ⟨rfl, pw_below_drewN b1 _⟩
      | none =>
        rw [hv] at h
        obtain ⟨rfl, rfl⟩ := Prod.mk.inj (Option.some.inj h)
        have c1 := door_none a0 (by omega) hs hv w hT
        clear h hv
        go_enter Tryd.func9, Tryd.ntmps9
        go_wp2_with (go_at_call 15; refine c1.mono ?_; rintro e W1 ⟨⟨tp, p, rfl⟩, b1⟩)
        go_quiet (fail)
        go_wp2
        go_ret2
        exact ⟨rfl, pw_below_drewN b1 _⟩
  · rw [if_neg hs] at h; cases h
end Go.Proofs.YthhehbocbhhbbaaDoor.Vs
