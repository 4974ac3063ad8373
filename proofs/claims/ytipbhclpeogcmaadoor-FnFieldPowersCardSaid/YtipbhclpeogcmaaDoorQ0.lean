-- Written by a program of ours (wip/xp) out of the translation; Lean checks it.
import Derived.Test.YtipbhclpeogcmaaDoorProg
import Derived.Below
import Derived.Deep.Draws
import Derived.Deep.AppendLies
import Derived.Maps.AppendAt
import Derived.OwnWalk
import Derived.Laws.BytesArg
import Derived.Laws.MakeOwn
import Derived.Laws.OwnMore
import Derived.Deep.OwnRows
import Derived.Tactics
import Derived.Lib.ConvBytes
import Derived.Laws.Slices
import Derived.WalkKit
import Derived.KernelRfl
import Derived.RowKit3
import Derived.Deep.LoopGhost
import Derived.Deep.QuietTactic
import Derived.BigQuiet
import Derived.WideLaws
import Derived.Deep.DeepCutAuto
import Derived.Deep.CutBlock
import Derived.Deep.RegionHeld3
import Derived.Laws.Rows
import Derived.Lib.AppendStr
import Derived.ArgAppend
import Derived.Laws.IdiomCopy
import Derived.OrdersHeld
import Derived.Laws.BitsLemmas
import Derived.RowKit
import Derived.Test.YtipbhclpeogcmaaDoorTabF
import Derived.Handy
import Derived.Test.YtipbhclpeogcmaaDoorWWords
import Derived.Test.YtipbhclpeogcmaaDoorWLast
import Derived.Test.YtipbhclpeogcmaaDoorWTab
import Derived.Test.YtipbhclpeogcmaaDoorWFour
import Derived.Test.YtipbhclpeogcmaaDoorWQPut
import Derived.Test.YtipbhclpeogcmaaDoorWApart
import Derived.Test.YtipbhclpeogcmaaDoorWArr
import Derived.Test.YtipbhclpeogcmaaDoorWZeros
import Derived.Test.YtipbhclpeogcmaaDoorWFoot
import Derived.Test.YtipbhclpeogcmaaDoorWKept
import Derived.Test.YtipbhclpeogcmaaDoorWShare
import Derived.Test.YtipbhclpeogcmaaDoorWN
import Derived.Test.YtipbhclpeogcmaaDoorWFootNe
import Derived.Test.YtipbhclpeogcmaaDoorWAt
import Derived.Test.YtipbhclpeogcmaaDoorWEqStruct
import Derived.Test.YtipbhclpeogcmaaDoorWRepsOne
import Derived.Test.YtipbhclpeogcmaaDoorWInv
import Derived.Test.YtipbhclpeogcmaaDoorWInvWords
import Derived.Test.YtipbhclpeogcmaaDoorWGuard
import Derived.Test.YtipbhclpeogcmaaDoorWNEv
import Derived.Test.YtipbhclpeogcmaaDoorWMore
namespace Go.Proofs.YtipbhclpeogcmaaDoor.Q
open Go.RowKit Go.Proofs.YtipbhclpeogcmaaDoorW.PrintWords Go.Proofs.YtipbhclpeogcmaaDoorW.PrintLast Go.Proofs.YtipbhclpeogcmaaDoorW.PrintMore
attribute [local go_sem] max2_int min2_int max_two min_two max_three min_three max_four min_four   -- for this text's walks alone
set_option linter.unusedVariables false
set_option linter.unusedSimpArgs false



def errW : Option Int → Value
  | none => .nilIface
  | some c => .iface 0 (.int .i64 c)
theorem errW_none : errW none = .nilIface := rfl
theorem errW_some (c : Int) : errW (some c) = .iface 0 (.int .i64 c) := rfl

theorem info5 : (Tryd.prog.info? 5).map (fun i => (i.zero, i.size, i.bytes)) = some (some (.int .u8 0), 1, 1) := by kernel_rfl
-- the values' own types

end Go.Proofs.YtipbhclpeogcmaaDoor.Q
