-- Written by a program of this session (myprint.py, out of the translation). Not trusted: Lean checks it.
import Derived.Test.YtfipimoemhbnlaaMFnSgEntryx0
import Derived.Test.YtfipimoemhbnlaaMFnSgEntryx1
import Derived.Test.YtfipimoemhbnlaaMFnSgEntryx2
import Derived.Test.YtfipimoemhbnlaaMFnSgEntryx3
import Derived.Test.YtfipimoemhbnlaaMFnSgEntryx4
import Derived.Test.YtfipimoemhbnlaaMFnSgEntryx5
import Derived.Test.YtfipimoemhbnlaaMFnSgEntryx6
import Derived.Test.YtfipimoemhbnlaaMFnSgEntryx7
import Derived.Test.YtfipimoemhbnlaaMFnSgEntryx8
import Derived.Test.YtfipimoemhbnlaaMFnSgEntryx9
namespace Go.Proofs.Ytfipimoemhbnlaa.MFnSgEntry
open Go.RowKit Go.Proofs.YtfipimoemhbnlaaW.PrintWords Go.Proofs.YtfipimoemhbnlaaW.PrintLast Go.Proofs.YtfipimoemhbnlaaW.PrintMore
attribute [local go_sem] max2_int min2_int max_two min_two max_three min_three max_four min_four   -- for this text's walks alone
set_option linter.unusedVariables false
set_option linter.unusedSimpArgs false

end Go.Proofs.Ytfipimoemhbnlaa.MFnSgEntry
