-- Written by a program of ours (wip/xp) out of the translation; Lean checks it.
import Derived.Test.YtkkkaegocinkeaaProg
import Derived.Below
import Derived.Deep.Draws
import Derived.Deep.AppendLies
import Derived.Maps.AppendAt
import Derived.OwnWalk
import Derived.Laws.BytesArg
import Derived.Laws.MakeOwn
import Derived.Laws.OwnMore
import Derived.Deep.OwnRows
import Derived.Tactics
import Derived.Lib.ConvBytes
import Derived.Laws.Slices
import Derived.WalkKit
import Derived.KernelRfl
import Derived.RowKit3
import Derived.Deep.LoopGhost
import Derived.Deep.QuietTactic
import Derived.BigQuiet
import Derived.WideLaws
import Derived.Deep.DeepCutAuto
import Derived.Deep.CutBlock
import Derived.Deep.RegionHeld3
import Derived.Laws.Rows
import Derived.Lib.AppendStr
import Derived.ArgAppend
import Derived.Laws.IdiomCopy
import Derived.OrdersHeld
import Derived.Laws.BitsLemmas
import Derived.RowKit
import Derived.Test.YtkkkaegocinkeaaWWords
import Derived.Test.YtkkkaegocinkeaaWLast
import Derived.Test.YtkkkaegocinkeaaWTab
import Derived.Test.YtkkkaegocinkeaaWFour
import Derived.Test.YtkkkaegocinkeaaWQPut
import Derived.Test.YtkkkaegocinkeaaWApart
import Derived.Test.YtkkkaegocinkeaaWArr
import Derived.Test.YtkkkaegocinkeaaWZeros
import Derived.Test.YtkkkaegocinkeaaWFoot
import Derived.Test.YtkkkaegocinkeaaWKept
import Derived.Test.YtkkkaegocinkeaaWShare
import Derived.Test.YtkkkaegocinkeaaWN
import Derived.Test.YtkkkaegocinkeaaWFootNe
import Derived.Test.YtkkkaegocinkeaaWAt
import Derived.Test.YtkkkaegocinkeaaWEqStruct
import Derived.Test.YtkkkaegocinkeaaWRepsOne
import Derived.Test.YtkkkaegocinkeaaWInv
import Derived.Test.YtkkkaegocinkeaaWInvWords
import Derived.Test.YtkkkaegocinkeaaWGuard
import Derived.Test.YtkkkaegocinkeaaWNEv
import Derived.Test.YtkkkaegocinkeaaWMore
namespace Go.Proofs.Ytkkkaegocinkeaa.Q
open Go.RowKit Go.Proofs.YtkkkaegocinkeaaW.PrintWords Go.Proofs.YtkkkaegocinkeaaW.PrintLast Go.Proofs.YtkkkaegocinkeaaW.PrintMore
attribute [local go_sem] max2_int min2_int max_two min_two max_three min_three max_four min_four   -- for this text's walks alone
set_option linter.unusedVariables false
set_option linter.unusedSimpArgs false



def errW : Option Int → Value
  | none => .nilIface
  | some c => .iface 0 (.int .i64 c)
theorem errW_none : errW none = .nilIface := rfl
theorem errW_some (c : Int) : errW (some c) = .iface 0 (.int .i64 c) := rfl

-- the values' own types

end Go.Proofs.Ytkkkaegocinkeaa.Q
