/-
MtWith's contract; beside it formatMatchOptions (Mtf) and Fits (Fit): what the print Q takes as told by hand.
-/
import Derived.Test.YtoldgnmgjpjapaaDoorMtf
import Derived.Test.YtoldgnmgjpjapaaDoorWn
import Derived.Test.YtoldgnmgjpjapaaDoorFit
namespace Go.Proofs.YtoldgnmgjpjapaaDoor.Mt
set_option linter.unusedVariables false
set_option linter.unusedSimpArgs false
open Go.RowKit Go.Proofs.YtoldgnmgjpjapaaDoor.Q Go.Proofs.YtoldgnmgjpjapaaDoorW.PrintWords Go.Proofs.YtoldgnmgjpjapaaDoorW.PrintLast Go.Proofs.YtoldgnmgjpjapaaDoor.Gt
open Go.Proofs.YtoldgnmgjpjapaaDoor.Com Go.Proofs.YtoldgnmgjpjapaaDoor.Wm

def impl_MtWith.f (kind n : Int) (v : ByteArray) : Option (ByteArray × ByteArray × Bool) := if 0 ≤ kind ∧ kind ≤ 8 ∧ 0 ≤ n ∧ n ≤ 63 then some (optKey kind.toNat n.toNat, v, true) else none
set_option maxHeartbeats 4000000 in
theorem impl_MtWith.calls (a0 a1 : Int) (a2 : ByteArray) (r1 r2 : ByteArray) (r3 : Bool) (w : World) (h : impl_MtWith.f a0 a1 a2 = some (r1, r2, r3)) :
    Calls Tryd.prog 8 #[.int .i64 a0, .int .i64 a1, .string a2] w fun e w' => e = .returned (.tuple #[.string r1, .string r2, .bool r3]) ∧ Below w.heap.size w w' := by
  unfold impl_MtWith.f at h
  split at h
  case isFalse => cases h
  case isTrue hc =>
  obtain ⟨c1, c2, c3, c4⟩ := hc
  simp only [Option.some.injEq, Prod.mk.injEq] at h
  obtain ⟨rfl, rfl, rfl⟩ := h
  obtain ⟨k, rfl⟩ := Int.eq_ofNat_of_zero_le c1
  obtain ⟨n, rfl⟩ := Int.eq_ofNat_of_zero_le c3
  have HW := Aside0.mk (fun W => with_calls k n (by omega) (by omega) a2 W)
  rw [Int.toNat_natCast, Int.toNat_natCast]
  generalize optKey k n = key at HW ⊢
  clear c1 c2 c3 c4
  go_enter Tryd.func8, Tryd.ntmps8
  go_wp2_with (go_at_call 14; refine (HW.out _).mono ?_; rintro e w1 ⟨rfl, hb1⟩)
  go_ret3
  exact ⟨rfl, hb1⟩
end Go.Proofs.YtoldgnmgjpjapaaDoor.Mt
