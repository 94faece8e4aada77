-- Written by a program of this session out of the translation; Lean checks it.
import Derived.Test.YthhehbocbhhbbaaDoorProg
import Derived.Below
import Derived.Deep.Draws
import Derived.Deep.AppendLies
import Derived.Maps.AppendAt
import Derived.OwnWalk
import Derived.Laws.BytesArg
import Derived.Laws.MakeOwn
import Derived.Laws.OwnMore
import Derived.Deep.OwnRows
import Derived.Tactics
import Derived.Lib.ConvBytes
import Derived.Laws.Slices
import Derived.WalkKit
import Derived.KernelRfl
import Derived.RowKit3
import Derived.Deep.LoopGhost
import Derived.Deep.QuietTactic
import Derived.BigQuiet
import Derived.WideLaws
import Derived.Deep.DeepCutAuto
import Derived.Deep.CutBlock
import Derived.Deep.RegionHeld3
import Derived.Laws.Rows
import Derived.Lib.AppendStr
import Derived.ArgAppend
import Derived.Laws.IdiomCopy
import Derived.OrdersHeld
import Derived.Laws.BitsLemmas
import Derived.RowKit
import Derived.Test.YthhehbocbhhbbaaDoorVs
import Derived.Test.YthhehbocbhhbbaaDoorWWords
import Derived.Test.YthhehbocbhhbbaaDoorWLast
import Derived.Test.YthhehbocbhhbbaaDoorWTab
import Derived.Test.YthhehbocbhhbbaaDoorWFour
import Derived.Test.YthhehbocbhhbbaaDoorWQPut
import Derived.Test.YthhehbocbhhbbaaDoorWApart
import Derived.Test.YthhehbocbhhbbaaDoorWArr
import Derived.Test.YthhehbocbhhbbaaDoorWZeros
import Derived.Test.YthhehbocbhhbbaaDoorWFoot
import Derived.Test.YthhehbocbhhbbaaDoorWKept
import Derived.Test.YthhehbocbhhbbaaDoorWShare
import Derived.Test.YthhehbocbhhbbaaDoorWN
import Derived.Test.YthhehbocbhhbbaaDoorWFootNe
import Derived.Test.YthhehbocbhhbbaaDoorWAt
import Derived.Test.YthhehbocbhhbbaaDoorWEqStruct
import Derived.Test.YthhehbocbhhbbaaDoorWRepsOne
import Derived.Test.YthhehbocbhhbbaaDoorWInv
import Derived.Test.YthhehbocbhhbbaaDoorWInvWords
import Derived.Test.YthhehbocbhhbbaaDoorWGuard
import Derived.Test.YthhehbocbhhbbaaDoorWNEv
import Derived.Test.YthhehbocbhhbbaaDoorWMore
namespace Go.Proofs.YthhehbocbhhbbaaDoor.Q
open Go.RowKit Go.Proofs.YthhehbocbhhbbaaDoor.Vs Go.Proofs.YthhehbocbhhbbaaDoorW.PrintWords Go.Proofs.YthhehbocbhhbbaaDoorW.PrintLast Go.Proofs.YthhehbocbhhbbaaDoorW.PrintMore
attribute [local go_sem] max2_int min2_int max_two min_two max_three min_three max_four min_four   -- for this text's walks alone
set_option linter.unusedVariables false
set_option linter.unusedSimpArgs false



def errW : Option Int → Value
  | none => .nilIface
  | some c => .iface 0 (.int .i64 c)
theorem errW_none : errW none = .nilIface := rfl
theorem errW_some (c : Int) : errW (some c) = .iface 0 (.int .i64 c) := rfl

theorem info5 : (Tryd.prog.info? 5).map (fun i => (i.zero, i.size, i.bytes)) = some (some (.int .u8 0), 1, 1) := by kernel_rfl
-- the values' own types

end Go.Proofs.YthhehbocbhhbbaaDoor.Q
