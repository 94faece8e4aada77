/-
UnescapeBusAddressValue reads a text of at most 2^12 bytes as the reference does, '%' and two hexadecimal digits for a byte and every other byte for itself, and gives an error just where two such digits do not follow a '%'; for longer texts the law returns true at once.
-/
import Derived.Test.YtpndgbiaomglpaaAd
namespace Go.Proofs.Ytpndgbiaomglpaa.Pure
set_option linter.unusedVariables false
set_option linter.unusedSimpArgs false
open Go.RowKit Go.Proofs.Ytpndgbiaomglpaa.Ext Go.Proofs.Ytpndgbiaomglpaa.R Go.Proofs.YtpndgbiaomglpaaW.PrintWords Go.Proofs.YtpndgbiaomglpaaW.PrintLast Go.Proofs.Ytpndgbiaomglpaa.Com Go.Proofs.Ytpndgbiaomglpaa.Ad

theorem FnAdUnescape : laws_FnAdUnescape.Pure := by
  intro s hs
  have main : Ev (fun k => laws_FnAdUnescape.f k s) true := by
    unfold laws_FnAdUnescape.f
    refine Ev.both (fun _ => Ev.now _) (fun g1 => Ev.both (fun _ => Ev.now _) (fun g2 => ?_))
    have ch : ((⟨#[97]⟩ : ByteArray).toList == ([97] : List UInt8)) = true := by rw [B_toList]; decide
    have one : got (un [] (B (⟨#[37, 54, 49]⟩ : ByteArray))) = ((⟨#[97]⟩ : ByteArray), true) := by decide +kernel
    refine Ev.bind (spec_un s (by omega)) (Ev.bind (dbus_un s (by omega)) ?_)
    have h3 := dbus_un (⟨#[37, 54, 49]⟩ : ByteArray) (by decide)
    rw [one] at h3
    refine Ev.bind h3 ?_
    refine Ev.yes (by simp) ?_
    refine Ev.both (fun _ => Ev.yes rfl (Ev.yes rfl (Ev.is ch))) (fun _ => Ev.yes rfl (Ev.is ch))
  exact main.rounds

end Go.Proofs.Ytpndgbiaomglpaa.Pure
