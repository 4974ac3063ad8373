-- Written by a program of ours (wip/xp) out of the translation; Lean checks it.
import Derived.Test.YtipbhclpeogcmaaDoorMm1
import Derived.Test.YtipbhclpeogcmaaDoorMm2
import Derived.Test.YtipbhclpeogcmaaDoorMm3
import Derived.Test.YtipbhclpeogcmaaDoorMm4
namespace Go.Proofs.YtipbhclpeogcmaaDoor.M
open Go.RowKit Go.Proofs.YtipbhclpeogcmaaDoorW.PrintWords Go.Proofs.YtipbhclpeogcmaaDoorW.PrintLast Go.Proofs.YtipbhclpeogcmaaDoorW.PrintMore
attribute [local go_sem] max2_int min2_int max_two min_two max_three min_three max_four min_four   -- for this text's walks alone
set_option linter.unusedVariables false
set_option linter.unusedSimpArgs false

end Go.Proofs.YtipbhclpeogcmaaDoor.M
