-- Written by a program of this session (myprint.py, out of the translation). Not trusted: Lean checks it.
import Derived.Test.YtcdbhpmnilfpfaaMFnNmPathx0
import Derived.Test.YtcdbhpmnilfpfaaMFnNmPathx1
import Derived.Test.YtcdbhpmnilfpfaaMFnNmPathx2
import Derived.Test.YtcdbhpmnilfpfaaMFnNmPathx3
import Derived.Test.YtcdbhpmnilfpfaaMFnNmPathx4
import Derived.Test.YtcdbhpmnilfpfaaMFnNmPathx5
namespace Go.Proofs.Ytcdbhpmnilfpfaa.MFnNmPath
open Go.RowKit Go.Proofs.YtcdbhpmnilfpfaaW.PrintWords Go.Proofs.YtcdbhpmnilfpfaaW.PrintLast Go.Proofs.YtcdbhpmnilfpfaaW.PrintMore
attribute [local go_sem] max2_int min2_int max_two min_two max_three min_three max_four min_four   -- for this text's walks alone
set_option linter.unusedVariables false
set_option linter.unusedSimpArgs false

end Go.Proofs.Ytcdbhpmnilfpfaa.MFnNmPath
