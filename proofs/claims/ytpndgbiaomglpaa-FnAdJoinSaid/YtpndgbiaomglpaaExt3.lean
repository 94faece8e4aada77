import Derived.Test.YtpndgbiaomglpaaExt2
namespace Go.Proofs.Ytpndgbiaomglpaa.Ext
open Go.RowKit Go.Proofs.YtpndgbiaomglpaaW.PrintWords Go.Proofs.YtpndgbiaomglpaaW.PrintLast Go.Proofs.YtpndgbiaomglpaaW.PrintMore
set_option linter.unusedVariables false
set_option linter.unusedSimpArgs false

theorem dbus_UnescapeBusAddressValue.calls (k : Nat) (a0 : ByteArray) (r1 : ByteArray) (r2 : Bool) (w : World) (h : dbus_zzPathUnescape.f k a0 = some (r1, r2)) :
    Calls Try.prog 23 #[.string a0] w fun e w' => ∃ ev, e = .returned (.tuple #[.string r1, ev]) ∧ EB ev r2 ∧ Below w.heap.size w w' := by
  have H := Aside0.mk h
  clear h
  go_enter Try.func23, Try.ntmps23
  go_wp2_with fail
  refine (dbus_zzPathUnescape.calls k a0 r1 r2 _ H.out).mono ?_
  rintro e w' ⟨ev, rfl, he, hb⟩
  have HE := Aside0.mk he
  clear he
  go_wp2
  go_ret2
  exact ⟨_, rfl, HE.out, hb⟩

def impl_AdUnescape.f (k : Nat) (a0 : ByteArray) : Option (ByteArray × Bool) := dbus_zzPathUnescape.f k a0
theorem impl_AdUnescape.mono : ∀ a0 k, LeO (impl_AdUnescape.f k a0) (impl_AdUnescape.f (k + 1) a0) := dbus_zzPathUnescape.mono
theorem impl_AdUnescape.calls (k : Nat) (a0 : ByteArray) (r1 : ByteArray) (r2 : Bool) (w : World) (h : impl_AdUnescape.f k a0 = some (r1, r2)) :
    Calls Try.prog 15 #[.string a0] w fun e w' => e = .returned (.tuple #[.string r1, .bool r2]) ∧ Below w.heap.size w w' := by
  have H := Aside0.mk h
  clear h
  go_enter Try.func15, Try.ntmps15
  go_wp2_with fail
  refine (dbus_UnescapeBusAddressValue.calls k a0 r1 r2 _ H.out).mono ?_
  rintro e w' ⟨ev, rfl, he, hb⟩
  have HB := Aside0.mk hb
  clear hb
  cases r2 with
  | true =>
    obtain rfl : ev = .nilIface := he
    go_wp2
    go_quiet (fail)
    go_wp2
    go_ret2
    exact ⟨rfl, by repeat (first | exact HB.out | apply pw_below_drewN | apply below_drew1)⟩
  | false =>
    obtain ⟨t, u, rfl⟩ : ∃ t u, ev = .iface t u := he
    go_wp2
    go_quiet (fail)
    go_wp2
    go_ret2
    exact ⟨rfl, by repeat (first | exact HB.out | apply pw_below_drewN | apply below_drew1)⟩
end Go.Proofs.Ytpndgbiaomglpaa.Ext
