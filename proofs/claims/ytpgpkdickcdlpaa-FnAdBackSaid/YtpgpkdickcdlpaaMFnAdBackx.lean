-- Written by a program of this session (myprint.py, out of the translation). Not trusted: Lean checks it.
import Derived.Test.YtpgpkdickcdlpaaMFnAdBackx0
import Derived.Test.YtpgpkdickcdlpaaMFnAdBackx1
import Derived.Test.YtpgpkdickcdlpaaMFnAdBackx2
import Derived.Test.YtpgpkdickcdlpaaMFnAdBackx3
import Derived.Test.YtpgpkdickcdlpaaMFnAdBackx4
import Derived.Test.YtpgpkdickcdlpaaMFnAdBackx5
namespace Go.Proofs.Ytpgpkdickcdlpaa.MFnAdBack
open Go.RowKit Go.Proofs.YtpgpkdickcdlpaaW.PrintWords Go.Proofs.YtpgpkdickcdlpaaW.PrintLast Go.Proofs.YtpgpkdickcdlpaaW.PrintMore
attribute [local go_sem] max2_int min2_int max_two min_two max_three min_three max_four min_four   -- for this text's walks alone
set_option linter.unusedVariables false
set_option linter.unusedSimpArgs false

end Go.Proofs.Ytpgpkdickcdlpaa.MFnAdBack
