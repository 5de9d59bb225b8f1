-- Written by a program of this session (myprint.py, out of the translation). Not trusted: Lean checks it.
import Derived.Test.YtfipimoemhbnlaaMFnSgReplacex0
import Derived.Test.YtfipimoemhbnlaaMFnSgReplacex1
import Derived.Test.YtfipimoemhbnlaaMFnSgReplacex2
import Derived.Test.YtfipimoemhbnlaaMFnSgReplacex3
import Derived.Test.YtfipimoemhbnlaaMFnSgReplacex4
import Derived.Test.YtfipimoemhbnlaaMFnSgReplacex5
import Derived.Test.YtfipimoemhbnlaaMFnSgReplacex6
import Derived.Test.YtfipimoemhbnlaaMFnSgReplacex7
import Derived.Test.YtfipimoemhbnlaaMFnSgReplacex8
import Derived.Test.YtfipimoemhbnlaaMFnSgReplacex9
namespace Go.Proofs.Ytfipimoemhbnlaa.MFnSgReplace
open Go.RowKit Go.Proofs.YtfipimoemhbnlaaW.PrintWords Go.Proofs.YtfipimoemhbnlaaW.PrintLast Go.Proofs.YtfipimoemhbnlaaW.PrintMore
attribute [local go_sem] max2_int min2_int max_two min_two max_three min_three max_four min_four   -- for this text's walks alone
set_option linter.unusedVariables false
set_option linter.unusedSimpArgs false

end Go.Proofs.Ytfipimoemhbnlaa.MFnSgReplace
