-- Written by a program of this session (myprint.py, out of the translation). Not trusted: Lean checks it.
import Derived.Test.YtfipimoemhbnlaaMFnSgBeginsx0
import Derived.Test.YtfipimoemhbnlaaMFnSgBeginsx1
import Derived.Test.YtfipimoemhbnlaaMFnSgBeginsx2
import Derived.Test.YtfipimoemhbnlaaMFnSgBeginsx3
import Derived.Test.YtfipimoemhbnlaaMFnSgBeginsx4
import Derived.Test.YtfipimoemhbnlaaMFnSgBeginsx5
import Derived.Test.YtfipimoemhbnlaaMFnSgBeginsx6
import Derived.Test.YtfipimoemhbnlaaMFnSgBeginsx7
import Derived.Test.YtfipimoemhbnlaaMFnSgBeginsx8
import Derived.Test.YtfipimoemhbnlaaMFnSgBeginsx9
import Derived.Test.YtfipimoemhbnlaaMFnSgBeginsx10
namespace Go.Proofs.Ytfipimoemhbnlaa.MFnSgBegins
open Go.RowKit Go.Proofs.YtfipimoemhbnlaaW.PrintWords Go.Proofs.YtfipimoemhbnlaaW.PrintLast Go.Proofs.YtfipimoemhbnlaaW.PrintMore
attribute [local go_sem] max2_int min2_int max_two min_two max_three min_three max_four min_four   -- for this text's walks alone
set_option linter.unusedVariables false
set_option linter.unusedSimpArgs false

end Go.Proofs.Ytfipimoemhbnlaa.MFnSgBegins
