-- Written by a program of this session (myprint.py, out of the translation). Not trusted: Lean checks it.
import Derived.Test.YtcdbhpmnilfpfaaMFnNmAllx0
import Derived.Test.YtcdbhpmnilfpfaaMFnNmAllx3
namespace Go.Proofs.Ytcdbhpmnilfpfaa.MFnNmAll
open Go.RowKit Go.Proofs.YtcdbhpmnilfpfaaW.PrintWords Go.Proofs.YtcdbhpmnilfpfaaW.PrintLast Go.Proofs.YtcdbhpmnilfpfaaW.PrintMore
attribute [local go_sem] max2_int min2_int max_two min_two max_three min_three max_four min_four   -- for this text's walks alone
set_option linter.unusedVariables false
set_option linter.unusedSimpArgs false

/-! ### spec_ValidMember: function 7 -/
def spec_ValidMember.f (k : Nat) (a0 : ByteArray) : Option (Bool) := if (a0.size : Int) ≤ 255 then ((spec_points.f k a0).bind fun t114 => (if t114 = 0 then ((spec_named.f k a0 false false).bind fun t115 => (some t115)) else (some false))) else (some false)
theorem spec_ValidMember.mono : ∀ a0 k, LeO (spec_ValidMember.f k a0) (spec_ValidMember.f (k + 1) a0) := by
  intro a0 k
  unfold spec_ValidMember.f
  repeat' first
      | (with_reducible exact spec_named.mono _ _ _ _)
      | (with_reducible exact spec_points.mono _ _)
      | (with_reducible exact LeO.refl _)
      | (with_reducible exact LeO.none _)
      | (with_reducible refine LeO.ite ?_ ?_)
      | (with_reducible refine LeO.bind ?_ (fun _ => ?_))
      | exact spec_named.mono _ _ _ _
      | exact spec_points.mono _ _
      | exact LeO.none _
      | refine LeO.ite ?_ ?_
      | refine LeO.bind ?_ (fun _ => ?_)
set_option maxHeartbeats 8000000 in
set_option maxRecDepth 100000 in
theorem spec_ValidMember.calls (k : Nat) (a0 : ByteArray) (r : Bool) (w : World) (h : spec_ValidMember.f k a0 = some r) :
    Calls Try.prog 7 #[.string a0] w fun e w' => e = .returned (.bool r) ∧ Below w.heap.size w w' := by
  have HB := Aside0.mk (Below.refl w.heap.size w)
  have H : (if (a0.size : Int) ≤ 255 then ((spec_points.f k a0).bind fun t114 => (if t114 = 0 then ((spec_named.f k a0 false false).bind fun t115 => (some t115)) else (some false))) else (some false)) = some r := h
  clear h
  by_cases c2 : (a0.size : Int) ≤ 255
  · rw [if_pos c2] at H
    have c2b0 : decide ((a0.size : Int) ≤ 255) = true := decide_eq_true c2
    have c2b1 : decide (a0.size ≤ 255) = true := decide_eq_true (by omega)
    clear c2
    replace H := Option.bind_eq_some_iff.mp H
    obtain ⟨t114, A30, H⟩ := H
    replace H : (if t114 = 0 then ((spec_named.f k a0 false false).bind fun t115 => (some t115)) else (some false)) = some r := H
    have A3 := Aside0.mk A30
    clear A30
    by_cases c4 : t114 = 0
    · rw [if_pos c4] at H
      have c4b0 : (t114 == 0) = true := beq_iff_eq.mpr c4
      have c4b1 : (t114 != 0) = false := bne_eq_false_iff_eq.mpr c4
      clear c4
      replace H := Option.bind_eq_some_iff.mp H
      obtain ⟨t115, A50, H⟩ := H
      replace H : (some t115) = some r := H
      have A5 := Aside0.mk A50
      clear A50
      obtain rfl := Option.some.inj H
      go_enter Try.func7, Try.ntmps7
      go_wp2_with (first | (go_at_call 13; (with_reducible refine (spec_points.calls k a0 t114 _ A3.out).mono ?_); rintro e w' ⟨rfl, ⟨nd, rfl⟩⟩) | (go_at_call 14; (with_reducible refine (spec_named.calls k a0 false false t115 _ A5.out).mono ?_); rintro e w6 ⟨rfl, hb⟩; have n0_ := Aside0.mk (below_step (by repeat (first | (with_reducible first | exact HB.out | apply below_alloc | apply pw_below_drewN | apply below_drew1) | exact HB.out)) hb); clear HB; have HB := n0_; clear n0_; (try clear hb); (try clear hb2); (try clear hk); (try clear hi)))
      go_ret
      exact ⟨by first | rfl | (simp [errW_none, errW_some] <;> rfl) | (simp [*, errW_none, errW_some] <;> rfl) | (simp (disch := omega) only [wrap64_id] <;> rfl), by repeat (first | (with_reducible first | exact HB.out | apply below_alloc | apply pw_below_drewN | apply below_drew1) | exact HB.out)⟩
    · rw [if_neg c4] at H
      have c4b0 : (t114 == 0) = false := beq_eq_false_iff_ne.mpr c4
      have c4b1 : (t114 != 0) = true := bne_iff_ne.mpr c4
      obtain rfl := Option.some.inj H
      go_enter Try.func7, Try.ntmps7
      go_wp2_with (first | (go_at_call 13; (with_reducible refine (spec_points.calls k a0 t114 _ A3.out).mono ?_); rintro e w' ⟨rfl, ⟨nd, rfl⟩⟩))
      go_ret
      exact ⟨by first | rfl | (simp [errW_none, errW_some] <;> rfl) | (simp [*, errW_none, errW_some] <;> rfl) | (simp (disch := omega) only [wrap64_id] <;> rfl), by repeat (first | (with_reducible first | exact HB.out | apply below_alloc | apply pw_below_drewN | apply below_drew1) | exact HB.out)⟩
  · rw [if_neg c2] at H
    have c2b0 : decide ((a0.size : Int) ≤ 255) = false := decide_eq_false c2
    have c2b1 : decide (a0.size ≤ 255) = false := decide_eq_false (by omega)
    clear c2
    obtain rfl := Option.some.inj H
    go_enter Try.func7, Try.ntmps7
    go_wp2
    go_ret
    exact ⟨by first | rfl | (simp [errW_none, errW_some] <;> rfl) | (simp [*, errW_none, errW_some] <;> rfl) | (simp (disch := omega) only [wrap64_id] <;> rfl), by repeat (first | (with_reducible first | exact HB.out | apply below_alloc | apply pw_below_drewN | apply below_drew1) | exact HB.out)⟩

end Go.Proofs.Ytcdbhpmnilfpfaa.MFnNmAll
