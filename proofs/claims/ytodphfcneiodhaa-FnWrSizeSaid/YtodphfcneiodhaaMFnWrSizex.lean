-- Written by a program of this session (myprint.py, out of the translation). Not trusted: Lean checks it.
import Derived.Test.YtodphfcneiodhaaMFnWrSizex0
import Derived.Test.YtodphfcneiodhaaMFnWrSizex1
import Derived.Test.YtodphfcneiodhaaMFnWrSizex2
import Derived.Test.YtodphfcneiodhaaMFnWrSizex3
import Derived.Test.YtodphfcneiodhaaMFnWrSizex4
import Derived.Test.YtodphfcneiodhaaMFnWrSizex5
namespace Go.Proofs.Ytodphfcneiodhaa.MFnWrSize
open Go.RowKit Go.Proofs.YtodphfcneiodhaaW.PrintWords Go.Proofs.YtodphfcneiodhaaW.PrintLast Go.Proofs.YtodphfcneiodhaaW.PrintMore
attribute [local go_sem] max2_int min2_int max_two min_two max_three min_three max_four min_four   -- for this text's walks alone
set_option linter.unusedVariables false
set_option linter.unusedSimpArgs false

end Go.Proofs.Ytodphfcneiodhaa.MFnWrSize
