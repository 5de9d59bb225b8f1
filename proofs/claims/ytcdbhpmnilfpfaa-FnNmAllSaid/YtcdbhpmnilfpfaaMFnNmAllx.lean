-- Written by a program of this session (myprint.py, out of the translation). Not trusted: Lean checks it.
import Derived.Test.YtcdbhpmnilfpfaaMFnNmAllx0
import Derived.Test.YtcdbhpmnilfpfaaMFnNmAllx1
import Derived.Test.YtcdbhpmnilfpfaaMFnNmAllx2
import Derived.Test.YtcdbhpmnilfpfaaMFnNmAllx3
import Derived.Test.YtcdbhpmnilfpfaaMFnNmAllx4
import Derived.Test.YtcdbhpmnilfpfaaMFnNmAllx5
import Derived.Test.YtcdbhpmnilfpfaaMFnNmAllx6
import Derived.Test.YtcdbhpmnilfpfaaMFnNmAllx7
import Derived.Test.YtcdbhpmnilfpfaaMFnNmAllx8
import Derived.Test.YtcdbhpmnilfpfaaMFnNmAllx9
namespace Go.Proofs.Ytcdbhpmnilfpfaa.MFnNmAll
open Go.RowKit Go.Proofs.YtcdbhpmnilfpfaaW.PrintWords Go.Proofs.YtcdbhpmnilfpfaaW.PrintLast Go.Proofs.YtcdbhpmnilfpfaaW.PrintMore
attribute [local go_sem] max2_int min2_int max_two min_two max_three min_three max_four min_four   -- for this text's walks alone
set_option linter.unusedVariables false
set_option linter.unusedSimpArgs false

end Go.Proofs.Ytcdbhpmnilfpfaa.MFnNmAll
