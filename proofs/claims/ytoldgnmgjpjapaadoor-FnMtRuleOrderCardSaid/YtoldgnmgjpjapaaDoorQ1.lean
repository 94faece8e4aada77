-- Written by a program of this session out of the translation; Lean checks it.
import Derived.Test.YtoldgnmgjpjapaaDoorQ0
import Derived.Test.YtoldgnmgjpjapaaDoorWEqStruct
namespace Go.Proofs.YtoldgnmgjpjapaaDoor.Q
open Go.RowKit Go.Proofs.YtoldgnmgjpjapaaDoorW.PrintWords Go.Proofs.YtoldgnmgjpjapaaDoorW.PrintLast Go.Proofs.YtoldgnmgjpjapaaDoor.Gt
set_option linter.unusedVariables false
set_option linter.unusedSimpArgs false

theorem eqA41 (d : Nat) (w : World) (x0 y0 : ByteArray) (x1 y1 : ByteArray) :
    (Op.equalIn (d + 2) 41 (.agg #[.string x0, .string x1]) (.agg #[.string y0, .string y1])).run Tryd.prog w = .ok (x0.toList == y0.toList && (x1.toList == y1.toList)) w := by
  refine eqA_of Tryd.underlying41 (by kernel_rfl) ?_
  refine eqf_cons (by rfl) (by go_simp; rfl) (by go_simp; rfl) (by go_simp) ?_
  exact eqf_last (by rfl) (by go_simp; rfl) (by go_simp; rfl) (by go_simp)
end Go.Proofs.YtoldgnmgjpjapaaDoor.Q
