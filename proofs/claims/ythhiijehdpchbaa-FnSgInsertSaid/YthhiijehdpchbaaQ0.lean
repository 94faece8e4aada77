-- Written by a program of this session out of the translation; Lean checks it.
import Derived.Test.YthhiijehdpchbaaProg
import Derived.Below
import Derived.Deep.Draws
import Derived.Deep.AppendLies
import Derived.Maps.AppendAt
import Derived.OwnWalk
import Derived.Laws.BytesArg
import Derived.Laws.MakeOwn
import Derived.Laws.OwnMore
import Derived.Deep.OwnRows
import Derived.Tactics
import Derived.Lib.ConvBytes
import Derived.Laws.Slices
import Derived.WalkKit
import Derived.KernelRfl
import Derived.RowKit3
import Derived.Deep.LoopGhost
import Derived.Deep.QuietTactic
import Derived.BigQuiet
import Derived.WideLaws
import Derived.Deep.DeepCutAuto
import Derived.Deep.CutBlock
import Derived.Deep.RegionHeld3
import Derived.Laws.Rows
import Derived.Lib.AppendStr
import Derived.ArgAppend
import Derived.Laws.IdiomCopy
import Derived.OrdersHeld
import Derived.Laws.BitsLemmas
import Derived.RowKit
import Derived.Test.YthhiijehdpchbaaExt6
import Derived.Test.YthhiijehdpchbaaWWords
import Derived.Test.YthhiijehdpchbaaWLast
import Derived.Test.YthhiijehdpchbaaWTab
import Derived.Test.YthhiijehdpchbaaWFour
import Derived.Test.YthhiijehdpchbaaWQPut
import Derived.Test.YthhiijehdpchbaaWApart
import Derived.Test.YthhiijehdpchbaaWArr
import Derived.Test.YthhiijehdpchbaaWZeros
import Derived.Test.YthhiijehdpchbaaWFoot
import Derived.Test.YthhiijehdpchbaaWKept
import Derived.Test.YthhiijehdpchbaaWShare
import Derived.Test.YthhiijehdpchbaaWN
import Derived.Test.YthhiijehdpchbaaWFootNe
import Derived.Test.YthhiijehdpchbaaWAt
import Derived.Test.YthhiijehdpchbaaWEqStruct
import Derived.Test.YthhiijehdpchbaaWRepsOne
import Derived.Test.YthhiijehdpchbaaWInv
import Derived.Test.YthhiijehdpchbaaWInvWords
import Derived.Test.YthhiijehdpchbaaWGuard
import Derived.Test.YthhiijehdpchbaaWNEv
import Derived.Test.YthhiijehdpchbaaWMore
namespace Go.Proofs.Ythhiijehdpchbaa.Q
open Go.RowKit Go.Proofs.Ythhiijehdpchbaa.Ext Go.Proofs.YthhiijehdpchbaaW.PrintWords Go.Proofs.YthhiijehdpchbaaW.PrintLast Go.Proofs.YthhiijehdpchbaaW.PrintMore
attribute [local go_sem] max2_int min2_int max_two min_two max_three min_three max_four min_four   -- for this text's walks alone
set_option linter.unusedVariables false
set_option linter.unusedSimpArgs false



def errW : Option Int → Value
  | none => .nilIface
  | some c => .iface 0 (.int .i64 c)
theorem errW_none : errW none = .nilIface := rfl
theorem errW_some (c : Int) : errW (some c) = .iface 0 (.int .i64 c) := rfl

theorem info5 : (Try.prog.info? 5).map (fun i => (i.zero, i.size, i.bytes)) = some (some (.int .u8 0), 1, 1) := by kernel_rfl
theorem info9 : (Try.prog.info? 9).map (fun i => (i.zero, i.size, i.bytes)) = some (some (.string ⟨#[]⟩), 1, 16) := by kernel_rfl
-- the values' own types

end Go.Proofs.Ythhiijehdpchbaa.Q
