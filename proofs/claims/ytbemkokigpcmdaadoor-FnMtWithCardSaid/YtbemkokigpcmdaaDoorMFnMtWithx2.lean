-- Written by a program of this session (myprint.py, out of the translation). Not trusted: Lean checks it.
import Derived.Test.YtbemkokigpcmdaaDoorMFnMtWithx0
import Derived.Test.YtbemkokigpcmdaaDoorMFnMtWithx1
namespace Go.Proofs.YtbemkokigpcmdaaDoor.MFnMtWith
open Go.RowKit Go.Proofs.YtbemkokigpcmdaaDoorW.PrintWords Go.Proofs.YtbemkokigpcmdaaDoorW.PrintLast Go.Proofs.YtbemkokigpcmdaaDoorW.PrintMore
attribute [local go_sem] max2_int min2_int max_two min_two max_three min_three max_four min_four   -- for this text's walks alone
set_option linter.unusedVariables false
set_option linter.unusedSimpArgs false

/-! ### strconv_FormatInt: function 28 -/
-- GIVENTEXT
def strconv_FormatInt.f (a0 a1 : Int) : Option ByteArray := if a1 = 10 then if 0 ≤ a0 then if a0 < 100 then strconv_small.f a0 else none else none else none
set_option maxHeartbeats 1000000 in
theorem strconv_FormatInt.calls (a0 a1 : Int) (r : ByteArray) (w : World) (h : strconv_FormatInt.f a0 a1 = some r) :
    Calls Tryd.prog 28 #[.int .i64 a0, .int .i64 a1] w fun e w' => e = .returned (.string r) ∧ Drawn0 w w' := by
  unfold strconv_FormatInt.f at h
  split at h
  · rename_i h1
    subst h1
    split at h
    · rename_i h2
      split at h
      · rename_i h3
        have HS := Aside0.mk h
        clear h
        have d1 : decide (0 ≤ a0) = true := decide_eq_true h2
        have d2 : decide (a0 < 100) = true := decide_eq_true h3
        go_enter Tryd.func28, Tryd.ntmps28
        go_wp2_with (go_at_call 29; refine (strconv_small.calls a0 r _ HS.out).mono ?_; rintro e w' ⟨rfl, ⟨nd, rfl⟩⟩)
        go_ret
        exact ⟨rfl, by repeat (first | exact Drawn0.refl _ | apply Drawn0.step)⟩
      · cases h
    · cases h
  · cases h

end Go.Proofs.YtbemkokigpcmdaaDoor.MFnMtWith
