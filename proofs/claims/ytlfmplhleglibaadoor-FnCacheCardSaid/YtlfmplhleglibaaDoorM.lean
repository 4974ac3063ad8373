-- Written by a program of ours (wip/xp) out of the translation; Lean checks it.
import Derived.Test.YtlfmplhleglibaaDoorMm1
namespace Go.Proofs.YtlfmplhleglibaaDoor.M
open Go.RowKit Go.Proofs.YtlfmplhleglibaaDoorW.PrintWords Go.Proofs.YtlfmplhleglibaaDoorW.PrintLast Go.Proofs.YtlfmplhleglibaaDoorW.PrintMore
attribute [local go_sem] max2_int min2_int max_two min_two max_three min_three max_four min_four   -- for this text's walks alone
set_option linter.unusedVariables false
set_option linter.unusedSimpArgs false

end Go.Proofs.YtlfmplhleglibaaDoor.M
