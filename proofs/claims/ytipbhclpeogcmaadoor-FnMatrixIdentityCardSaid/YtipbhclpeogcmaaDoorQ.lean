-- Written by a program of ours (wip/xp) out of the translation; Lean checks it.
import Derived.Test.YtipbhclpeogcmaaDoorQ0
import Derived.Test.YtipbhclpeogcmaaDoorQF46
import Derived.Test.YtipbhclpeogcmaaDoorQF30
import Derived.Test.YtipbhclpeogcmaaDoorQF10
import Derived.Test.YtipbhclpeogcmaaDoorQF47
import Derived.Test.YtipbhclpeogcmaaDoorQF31
import Derived.Test.YtipbhclpeogcmaaDoorQF11
import Derived.Test.YtipbhclpeogcmaaDoorQF32
import Derived.Test.YtipbhclpeogcmaaDoorQF33
import Derived.Test.YtipbhclpeogcmaaDoorQF13
import Derived.Test.YtipbhclpeogcmaaDoorQF12
import Derived.Test.YtipbhclpeogcmaaDoorQF3
import Derived.Test.YtipbhclpeogcmaaDoorQF4
import Derived.Test.YtipbhclpeogcmaaDoorQF48
import Derived.Test.YtipbhclpeogcmaaDoorQF34
import Derived.Test.YtipbhclpeogcmaaDoorQF14
import Derived.Test.YtipbhclpeogcmaaDoorQF15
import Derived.Test.YtipbhclpeogcmaaDoorQF5
import Derived.Test.YtipbhclpeogcmaaDoorQF57
import Derived.Test.YtipbhclpeogcmaaDoorQF49
import Derived.Test.YtipbhclpeogcmaaDoorQF35
import Derived.Test.YtipbhclpeogcmaaDoorQF36
import Derived.Test.YtipbhclpeogcmaaDoorQF16
import Derived.Test.YtipbhclpeogcmaaDoorQF17
import Derived.Test.YtipbhclpeogcmaaDoorQF37
import Derived.Test.YtipbhclpeogcmaaDoorQF18
import Derived.Test.YtipbhclpeogcmaaDoorQF6
namespace Go.Proofs.YtipbhclpeogcmaaDoor.Q
open Go.RowKit Go.Proofs.YtipbhclpeogcmaaDoorW.PrintWords Go.Proofs.YtipbhclpeogcmaaDoorW.PrintLast Go.Proofs.YtipbhclpeogcmaaDoorW.PrintMore
attribute [local go_sem] max2_int min2_int max_two min_two max_three min_three max_four min_four   -- for this text's walks alone
set_option linter.unusedVariables false
set_option linter.unusedSimpArgs false

end Go.Proofs.YtipbhclpeogcmaaDoor.Q
