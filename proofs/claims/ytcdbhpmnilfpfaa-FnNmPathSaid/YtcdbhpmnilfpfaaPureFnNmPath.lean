/- The check of object paths says of every text of at most 4096 bytes what the reference says. -/
import Derived.Test.YtcdbhpmnilfpfaaMFnNmPathp
namespace Go.Proofs.Ytcdbhpmnilfpfaa.Pure
open Go Go.RowKit Go.Proofs.Ytcdbhpmnilfpfaa.MFnNmPath Go.Proofs.YtcdbhpmnilfpfaaW.PrintWords Go.Proofs.YtcdbhpmnilfpfaaW.PrintLast Go.Proofs.YtcdbhpmnilfpfaaW.PrintMore Go.Proofs.Ytcdbhpmnilfpfaa.Hlp Go.Proofs.Ytcdbhpmnilfpfaa.MFnNmPathp
set_option linter.unusedVariables false

theorem FnNmPath : laws_FnNmPath.Pure := by
  intro s hs
  apply Ev.rounds
  unfold laws_FnNmPath.f
  by_cases h1 : (s.size : Int) > 2147483647
  · exact ev_ite_pos h1 (fun _ => rfl) (Ev.now _)
  refine ev_ite_neg h1 (fun _ => rfl) ?_
  by_cases h2 : (s.size : Int) > 4096
  · exact ev_ite_pos h2 (fun _ => rfl) (Ev.now _)
  refine ev_ite_neg h2 (fun _ => rfl) ?_
  obtain ⟨b, hA, hB⟩ := both s (by omega)
  exact Ev.bind hA (Ev.bind hB (ev_ite_pos (by simp) (fun _ => rfl) (Ev.bind slash_a (Ev.now _))))

end Go.Proofs.Ytcdbhpmnilfpfaa.Pure
