-- Written by a program of ours (wip/xp) out of the translation; Lean checks it.
import Derived.Test.YtkmdkmlgahfcpaaM0
import Derived.Test.YtkmdkmlgahfcpaaMF10
import Derived.Test.YtkmdkmlgahfcpaaMF6
import Derived.Test.YtkmdkmlgahfcpaaMF20
import Derived.Test.YtkmdkmlgahfcpaaMF7
import Derived.Test.YtkmdkmlgahfcpaaMF36
import Derived.Test.YtkmdkmlgahfcpaaMF49
import Derived.Test.YtkmdkmlgahfcpaaMF45
import Derived.Test.YtkmdkmlgahfcpaaMF46
import Derived.Test.YtkmdkmlgahfcpaaMF37
import Derived.Test.YtkmdkmlgahfcpaaMF23
import Derived.Test.YtkmdkmlgahfcpaaMF38
import Derived.Test.YtkmdkmlgahfcpaaMF8
import Derived.Test.YtkmdkmlgahfcpaaMF25
import Derived.Test.YtkmdkmlgahfcpaaMF9
import Derived.Test.YtkmdkmlgahfcpaaMF3
namespace Go.Proofs.Ytkmdkmlgahfcpaa.M
open Go.RowKit Go.Proofs.YtkmdkmlgahfcpaaW.PrintWords Go.Proofs.YtkmdkmlgahfcpaaW.PrintLast Go.Proofs.YtkmdkmlgahfcpaaW.PrintMore
attribute [local go_sem] max2_int min2_int max_two min_two max_three min_three max_four min_four   -- for this text's walks alone
set_option linter.unusedVariables false
set_option linter.unusedSimpArgs false

end Go.Proofs.Ytkmdkmlgahfcpaa.M
