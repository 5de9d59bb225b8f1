-- Written by a program of this session (myprint.py, out of the translation). Not trusted: Lean checks it.
import Derived.Test.YtcnhpiodomknfaaGreatDoorMFnWrTurnedx0
namespace Go.Proofs.YtcnhpiodomknfaaGreatDoor.MFnWrTurned
open Go.RowKit Go.Proofs.YtcnhpiodomknfaaGreatDoorW.PrintWords Go.Proofs.YtcnhpiodomknfaaGreatDoorW.PrintLast Go.Proofs.YtcnhpiodomknfaaGreatDoorW.PrintMore
attribute [local go_sem] max2_int min2_int max_two min_two max_three min_three max_four min_four   -- for this text's walks alone
set_option linter.unusedVariables false
set_option linter.unusedSimpArgs false

/-! ### laws_wrZeros: function 7 -/
def laws_wrZeros.l0 : Nat → Int → Int → ByteArray → Option (ByteArray)
  | 0, _, _, _ => none
  | k + 1, x0, x1, x5 => if x1 = 0 then (none) else (if (Int.tmod (wrap64 (x0 + (x5.size : Int))) x1) = 0 then (some x5) else (if x5.size + 1 ≤ 9223372036854775807 then (laws_wrZeros.l0 k x0 x1 (x5 ++ (⟨#[0]⟩ : ByteArray))) else (none)))
def laws_wrZeros.f (k : Nat) (a0 : Int) (a1 : Int) : Option (ByteArray) := laws_wrZeros.l0 k a0 a1 (⟨#[]⟩ : ByteArray)
theorem laws_wrZeros.mono_l : ∀ k, (∀ y0 y1 y2, LeO (laws_wrZeros.l0 k y0 y1 y2) (laws_wrZeros.l0 (k + 1) y0 y1 y2))
  | 0 => fun _ _ _ r h => by simp [laws_wrZeros.l0] at h
  | k + 1 => by
    have ih0 := laws_wrZeros.mono_l k
    · intro y0 y1 y2
      unfold laws_wrZeros.l0
      repeat' first
      | (with_reducible exact ih0 _ _ _)
      | (with_reducible exact LeO.refl _)
      | (with_reducible exact LeO.none _)
      | (with_reducible refine LeO.ite ?_ ?_)
      | (with_reducible refine LeO.bind ?_ (fun _ => ?_))
      | exact ih0 _ _ _
      | exact LeO.none _
      | refine LeO.ite ?_ ?_
      | refine LeO.bind ?_ (fun _ => ?_)
theorem laws_wrZeros.mono : ∀ a0 a1 k, LeO (laws_wrZeros.f k a0 a1) (laws_wrZeros.f (k + 1) a0 a1) := by
  intro a0 a1 k
  have ih0 := laws_wrZeros.mono_l k
  unfold laws_wrZeros.f
  repeat' first
      | (with_reducible exact ih0 _ _ _)
      | (with_reducible exact LeO.refl _)
      | (with_reducible exact LeO.none _)
      | (with_reducible refine LeO.ite ?_ ?_)
      | (with_reducible refine LeO.bind ?_ (fun _ => ?_))
      | exact ih0 _ _ _
      | exact LeO.none _
      | refine LeO.ite ?_ ?_
      | refine LeO.bind ?_ (fun _ => ?_)
set_option maxHeartbeats 8000000 in
set_option maxRecDepth 100000 in
theorem laws_wrZeros.calls (k : Nat) (a0 : Int) (a1 : Int) (r : ByteArray) (w : World) (h : laws_wrZeros.f k a0 a1 = some r) :
    Calls Tryz.prog 7 #[.int .i64 a0, .int .i64 a1] w fun e w' => e = .returned (.string r) ∧ Drawn0 w w' := by
  have H : (laws_wrZeros.l0 k a0 a1 (⟨#[]⟩ : ByteArray)) = some r := h
  clear h
  have H' := Aside0.mk H
  clear H
  go_enter Tryz.func7, Tryz.ntmps7
  go_wp2
  go_loopg [5] k (fun kq v5 w' => ∃ (x5_1 : ByteArray), v5 = .string x5_1 ∧ Aside0 (laws_wrZeros.l0 kq a0 a1 x5_1 = some r) ∧ Aside0 (kq ≤ k) ∧ Drawn0 w w')
  case atStart => exact ⟨((⟨#[]⟩ : ByteArray)), (by first | rfl | (simp; done) | (simp [*]; done)), H', ⟨Nat.le_refl _⟩, by repeat (first | exact Drawn0.refl _ | apply Drawn0.step)⟩
  case round =>
    clear H'
    try clear p2
    obtain ⟨x5_1, rfl, HA, HK1, ⟨m1, rfl⟩⟩ := hrel
    cases gk with
    | zero => exact absurd HA.out (by simp [laws_wrZeros.l0])
    | succ k1 =>
      have H := HA.out
      clear HA
      simp only [laws_wrZeros.l0] at H
      by_cases c3 : a1 = 0
      · rw [if_pos c3] at H
        exact absurd H (by simp)
      · rw [if_neg c3] at H
        have c3b0 : (a1 == 0) = false := beq_eq_false_iff_ne.mpr c3
        have c3b1 : (a1 != 0) = true := bne_iff_ne.mpr c3
        by_cases c4 : (Int.tmod (wrap64 (a0 + (x5_1.size : Int))) a1) = 0
        · rw [if_pos c4] at H
          have c4b0 : ((Int.tmod (wrap64 (a0 + (x5_1.size : Int))) a1) == 0) = true := beq_iff_eq.mpr c4
          have c4b1 : ((Int.tmod (wrap64 (a0 + (x5_1.size : Int))) a1) != 0) = false := bne_eq_false_iff_eq.mpr c4
          clear c4
          obtain rfl := Option.some.inj H
          go_wp2
          go_ret
          exact ⟨by first | rfl | (simp; done) | (simp [*]; done), by repeat (first | exact Drawn0.refl _ | apply Drawn0.step)⟩
        · rw [if_neg c4] at H
          have c4b0 : ((Int.tmod (wrap64 (a0 + (x5_1.size : Int))) a1) == 0) = false := beq_eq_false_iff_ne.mpr c4
          have c4b1 : ((Int.tmod (wrap64 (a0 + (x5_1.size : Int))) a1) != 0) = true := bne_iff_ne.mpr c4
          by_cases c5 : x5_1.size + 1 ≤ 9223372036854775807
          · rw [if_pos c5] at H
            have c5b0 := eq_true c5
            have c5b1 : decide (x5_1.size + 1 ≤ 9223372036854775807) = true := decide_eq_true c5
            try have c5b2 : (9223372036854775807 < x5_1.size + 1) = False := eq_false (Nat.not_lt.2 c5)
            have H' := Aside0.mk H
            clear H
            go_wp2
            go_roundg k1
            case measure => have := HK1.out; omega
            case rel => exact ⟨(x5_1 ++ (⟨#[0]⟩ : ByteArray)), (by first | rfl | (simp; done) | (simp [*]; done)), H', ⟨by have := HK1.out; omega⟩, by repeat (first | exact Drawn0.refl _ | apply Drawn0.step)⟩
          · rw [if_neg c5] at H
            exact absurd H (by simp)

-- NOT PRINTED: function 3 (laws_FnWrTurned)

end Go.Proofs.YtcnhpiodomknfaaGreatDoor.MFnWrTurned
