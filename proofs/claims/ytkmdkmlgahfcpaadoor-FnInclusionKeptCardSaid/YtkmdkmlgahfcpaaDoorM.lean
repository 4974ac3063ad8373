import Derived.Test.YtkmdkmlgahfcpaaDoorMm1
import Derived.Test.YtkmdkmlgahfcpaaDoorMm4
import Derived.Test.YtkmdkmlgahfcpaaDoorMm5
import Derived.Test.YtkmdkmlgahfcpaaDoorMm3
import Derived.Test.YtkmdkmlgahfcpaaDoorMm2
import Derived.Test.YtkmdkmlgahfcpaaDoorMm6
import Derived.Test.YtkmdkmlgahfcpaaDoorMm7
import Derived.Test.YtkmdkmlgahfcpaaDoorMm8
import Derived.Test.YtkmdkmlgahfcpaaDoorMm9
namespace Go.Proofs.YtkmdkmlgahfcpaaDoor.M
open Go.RowKit Go.Proofs.YtkmdkmlgahfcpaaDoorW.PrintWords Go.Proofs.YtkmdkmlgahfcpaaDoorW.PrintLast Go.Proofs.YtkmdkmlgahfcpaaDoorW.PrintMore
attribute [local go_sem] max2_int min2_int max_two min_two max_three min_three max_four min_four
set_option linter.unusedVariables false
set_option linter.unusedSimpArgs false
end Go.Proofs.YtkmdkmlgahfcpaaDoor.M
