-- Written by a program of ours (wip/xp) out of the translation; Lean checks it.
import Derived.Test.YtkkkaegocinkeaaDoorMm1
import Derived.Test.YtkkkaegocinkeaaDoorMm2
import Derived.Test.YtkkkaegocinkeaaDoorMm3
import Derived.Test.YtkkkaegocinkeaaDoorMm4
import Derived.Test.YtkkkaegocinkeaaDoorMm5
import Derived.Test.YtkkkaegocinkeaaDoorMm6
import Derived.Test.YtkkkaegocinkeaaDoorMm7
import Derived.Test.YtkkkaegocinkeaaDoorMm8
namespace Go.Proofs.YtkkkaegocinkeaaDoor.M
open Go.RowKit Go.Proofs.YtkkkaegocinkeaaDoorW.PrintWords Go.Proofs.YtkkkaegocinkeaaDoorW.PrintLast Go.Proofs.YtkkkaegocinkeaaDoorW.PrintMore
attribute [local go_sem] max2_int min2_int max_two min_two max_three min_three max_four min_four   -- for this text's walks alone
set_option linter.unusedVariables false
set_option linter.unusedSimpArgs false

end Go.Proofs.YtkkkaegocinkeaaDoor.M
