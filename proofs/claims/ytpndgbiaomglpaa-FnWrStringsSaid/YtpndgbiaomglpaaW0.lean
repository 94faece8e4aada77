-- Written by a program of this session out of the translation; Lean checks it.
import Derived.Test.YtpndgbiaomglpaaProg
import Derived.Below
import Derived.Deep.Draws
import Derived.Deep.AppendLies
import Derived.Maps.AppendAt
import Derived.OwnWalk
import Derived.Laws.BytesArg
import Derived.Laws.MakeOwn
import Derived.Laws.OwnMore
import Derived.Deep.OwnRows
import Derived.Tactics
import Derived.Lib.ConvBytes
import Derived.Laws.Slices
import Derived.WalkKit
import Derived.KernelRfl
import Derived.RowKit3
import Derived.Deep.LoopGhost
import Derived.Deep.QuietTactic
import Derived.BigQuiet
import Derived.WideLaws
import Derived.Deep.DeepCutAuto
import Derived.Deep.CutBlock
import Derived.Deep.RegionHeld3
import Derived.Laws.Rows
import Derived.Lib.AppendStr
import Derived.ArgAppend
import Derived.Laws.IdiomCopy
import Derived.OrdersHeld
import Derived.Laws.BitsLemmas
import Derived.RowKit
import Derived.Test.YtpndgbiaomglpaaWWords
import Derived.Test.YtpndgbiaomglpaaWLast
import Derived.Test.YtpndgbiaomglpaaWTab
import Derived.Test.YtpndgbiaomglpaaWFour
import Derived.Test.YtpndgbiaomglpaaWQPut
import Derived.Test.YtpndgbiaomglpaaWApart
import Derived.Test.YtpndgbiaomglpaaWArr
import Derived.Test.YtpndgbiaomglpaaWZeros
import Derived.Test.YtpndgbiaomglpaaWFoot
import Derived.Test.YtpndgbiaomglpaaWKept
import Derived.Test.YtpndgbiaomglpaaWShare
import Derived.Test.YtpndgbiaomglpaaWN
import Derived.Test.YtpndgbiaomglpaaWFootNe
import Derived.Test.YtpndgbiaomglpaaWAt
import Derived.Test.YtpndgbiaomglpaaWEqStruct
import Derived.Test.YtpndgbiaomglpaaWRepsOne
import Derived.Test.YtpndgbiaomglpaaWInv
import Derived.Test.YtpndgbiaomglpaaWInvWords
import Derived.Test.YtpndgbiaomglpaaWGuard
import Derived.Test.YtpndgbiaomglpaaWNEv
import Derived.Test.YtpndgbiaomglpaaWMore
namespace Go.Proofs.Ytpndgbiaomglpaa.W
open Go.RowKit Go.Proofs.YtpndgbiaomglpaaW.PrintWords Go.Proofs.YtpndgbiaomglpaaW.PrintLast Go.Proofs.YtpndgbiaomglpaaW.PrintMore
attribute [local go_sem] max2_int min2_int max_two min_two max_three min_three max_four min_four   -- for this text's walks alone
set_option linter.unusedVariables false
set_option linter.unusedSimpArgs false



def errW : Option Int → Value
  | none => .nilIface
  | some c => .iface 0 (.int .i64 c)
theorem errW_none : errW none = .nilIface := rfl
theorem errW_some (c : Int) : errW (some c) = .iface 0 (.int .i64 c) := rfl

-- the values' own types

end Go.Proofs.Ytpndgbiaomglpaa.W
