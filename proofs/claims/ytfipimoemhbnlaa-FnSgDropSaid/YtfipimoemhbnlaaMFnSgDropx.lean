-- Written by a program of this session (myprint.py, out of the translation). Not trusted: Lean checks it.
import Derived.Test.YtfipimoemhbnlaaMFnSgDropx0
import Derived.Test.YtfipimoemhbnlaaMFnSgDropx1
import Derived.Test.YtfipimoemhbnlaaMFnSgDropx2
import Derived.Test.YtfipimoemhbnlaaMFnSgDropx3
import Derived.Test.YtfipimoemhbnlaaMFnSgDropx4
import Derived.Test.YtfipimoemhbnlaaMFnSgDropx5
import Derived.Test.YtfipimoemhbnlaaMFnSgDropx6
import Derived.Test.YtfipimoemhbnlaaMFnSgDropx7
import Derived.Test.YtfipimoemhbnlaaMFnSgDropx8
import Derived.Test.YtfipimoemhbnlaaMFnSgDropx9
import Derived.Test.YtfipimoemhbnlaaMFnSgDropx10
import Derived.Test.YtfipimoemhbnlaaMFnSgDropx11
namespace Go.Proofs.Ytfipimoemhbnlaa.MFnSgDrop
open Go.RowKit Go.Proofs.YtfipimoemhbnlaaW.PrintWords Go.Proofs.YtfipimoemhbnlaaW.PrintLast Go.Proofs.YtfipimoemhbnlaaW.PrintMore
attribute [local go_sem] max2_int min2_int max_two min_two max_three min_three max_four min_four   -- for this text's walks alone
set_option linter.unusedVariables false
set_option linter.unusedSimpArgs false

end Go.Proofs.Ytfipimoemhbnlaa.MFnSgDrop
