-- Written by a program of this session (myprint.py, out of the translation). Not trusted: Lean checks it.
import Derived.Test.YtfipimoemhbnlaaMFnSgJoinx0
import Derived.Test.YtfipimoemhbnlaaMFnSgJoinx1
import Derived.Test.YtfipimoemhbnlaaMFnSgJoinx2
import Derived.Test.YtfipimoemhbnlaaMFnSgJoinx3
import Derived.Test.YtfipimoemhbnlaaMFnSgJoinx4
import Derived.Test.YtfipimoemhbnlaaMFnSgJoinx5
import Derived.Test.YtfipimoemhbnlaaMFnSgJoinx6
import Derived.Test.YtfipimoemhbnlaaMFnSgJoinx7
import Derived.Test.YtfipimoemhbnlaaMFnSgJoinx8
namespace Go.Proofs.Ytfipimoemhbnlaa.MFnSgJoin
open Go.RowKit Go.Proofs.YtfipimoemhbnlaaW.PrintWords Go.Proofs.YtfipimoemhbnlaaW.PrintLast Go.Proofs.YtfipimoemhbnlaaW.PrintMore
attribute [local go_sem] max2_int min2_int max_two min_two max_three min_three max_four min_four   -- for this text's walks alone
set_option linter.unusedVariables false
set_option linter.unusedSimpArgs false

end Go.Proofs.Ytfipimoemhbnlaa.MFnSgJoin
