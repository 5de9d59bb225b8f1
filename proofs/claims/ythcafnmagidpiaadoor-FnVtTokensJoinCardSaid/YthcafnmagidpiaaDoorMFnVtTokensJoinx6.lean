-- Written by a program of this session (myprint.py, out of the translation). Not trusted: Lean checks it.
import Derived.Test.YthcafnmagidpiaaDoorMFnVtTokensJoinx0
import Derived.Test.YthcafnmagidpiaaDoorMFnVtTokensJoinx1
namespace Go.Proofs.YthcafnmagidpiaaDoor.MFnVtTokensJoin
open Go.RowKit Go.Proofs.YthcafnmagidpiaaDoorW.PrintWords Go.Proofs.YthcafnmagidpiaaDoorW.PrintLast Go.Proofs.YthcafnmagidpiaaDoorW.PrintMore
attribute [local go_sem] max2_int min2_int max_two min_two max_three min_three max_four min_four   -- for this text's walks alone
set_option linter.unusedVariables false
set_option linter.unusedSimpArgs false

/-! ### spec_paired: function 19 -/
def spec_paired.l0 : Nat → ByteArray → Bool → Int → Option (Bool)
 | 0, _, _, _ => none
 | k + 1, x0, x3, x4 => if x4 < (x0.size : Int) then (if x3 = true then (spec_paired.l0 k x0 true (wrap64 (x4 + 1))) else (if 0 ≤ x4 then ((spec_among.f k (bt x0 x4) (⟨#[40, 41, 123, 125]⟩ : ByteArray)).bind fun t106 => (spec_paired.l0 k x0 t106 (wrap64 (x4 + 1)))) else (none))) else (some x3)
def spec_paired.f (k : Nat) (a0 : ByteArray) : Option (Bool) := spec_paired.l0 k a0 false 0
theorem spec_paired.mono_l : ∀ k, (∀ y0 y1 y2, LeO (spec_paired.l0 k y0 y1 y2) (spec_paired.l0 (k + 1) y0 y1 y2))
 | 0 => fun _ _ _ r h => by simp [spec_paired.l0] at h
 | k + 1 => by
  have ih0 := spec_paired.mono_l k
  ·intro y0 y1 y2
   unfold spec_paired.l0
   repeat' first
   | (with_reducible exact ih0 _ _ _)
   | (with_reducible exact spec_among.mono _ _ _)
   | (with_reducible exact LeO.refl _)
   | (with_reducible exact LeO.none _)
   | (with_reducible refine LeO.ite ?_ ?_)
   | (with_reducible refine LeO.bind ?_ (fun _ => ?_))
   | exact ih0 _ _ _
   | exact spec_among.mono _ _ _
   | exact LeO.none _
   | refine LeO.ite ?_ ?_
   | refine LeO.bind ?_ (fun _ => ?_)
theorem spec_paired.mono : ∀ a0 k, LeO (spec_paired.f k a0) (spec_paired.f (k + 1) a0) := by
 intro a0 k
 have ih0 := spec_paired.mono_l k
 unfold spec_paired.f
 repeat' first
   | (with_reducible exact ih0 _ _ _)
   | (with_reducible exact spec_among.mono _ _ _)
   | (with_reducible exact LeO.refl _)
   | (with_reducible exact LeO.none _)
   | (with_reducible refine LeO.ite ?_ ?_)
   | (with_reducible refine LeO.bind ?_ (fun _ => ?_))
   | exact ih0 _ _ _
   | exact spec_among.mono _ _ _
   | exact LeO.none _
   | refine LeO.ite ?_ ?_
   | refine LeO.bind ?_ (fun _ => ?_)
set_option maxHeartbeats 8000000 in
set_option maxRecDepth 100000 in
theorem spec_paired.calls (k : Nat) (a0 : ByteArray) (r : Bool) (w : World) (h : spec_paired.f k a0 = some r) :
  Calls Tryd.prog 19 #[.string a0] w fun e w' => e = .returned (.bool r) ∧ Drawn0 w w' := by
 have H : (spec_paired.l0 k a0 false 0) = some r := h
 clear h
 have H' := Aside0.mk H
 clear H
 go_enter Tryd.func19, Tryd.ntmps19
 go_wp2
 go_loopg [3, 4] k (fun kq v3 v4 w' => ∃ (x3_1 : Bool) (x4_1 : Int), v3 = .bool x3_1 ∧ v4 = .int .i64 x4_1 ∧ Aside0 (spec_paired.l0 kq a0 x3_1 x4_1 = some r) ∧ Aside0 (kq ≤ k) ∧ Drawn0 w w')
 case atStart => exact ⟨(false), (0), (by first | rfl | (simp; done) | (simp [*]; done)), (by first | rfl | (simp; done) | (simp [*]; done)), H', ⟨Nat.le_refl _⟩, by repeat (first | exact Drawn0.refl _ | apply Drawn0.step)⟩
 case round =>
  clear H'
  try clear c1
  obtain ⟨x3_1, x4_1, rfl, rfl, HA, HK1, ⟨m1, rfl⟩⟩ := hrel
  cases gk with
  | zero => exact absurd HA.out (by simp [spec_paired.l0])
  | succ k1 =>
   have H := HA.out
   clear HA
   simp only [spec_paired.l0] at H
   by_cases c2 : x4_1 < (a0.size : Int)
   ·rw [if_pos c2] at H
    have c2b0 : decide (x4_1 < (a0.size : Int)) = true := decide_eq_true c2
    clear c2
    by_cases c3 : x3_1 = true
    ·subst c3
     have H1 : (spec_paired.l0 k1 a0 true (wrap64 (x4_1 + 1))) = some r := by rw [if_pos rfl] at H; exact H
     clear H
     have H := H1
     clear H1
     have H' := Aside0.mk H
     clear H
     go_wp2
     go_roundg k1
     case measure => have := HK1.out; omega
     case rel => exact ⟨(true), (wrap64 (x4_1 + 1)), (by first | rfl | (simp; done) | (simp [*]; done)), (by first | rfl | (simp; done) | (simp [*]; done)), H', ⟨by have := HK1.out; omega⟩, by repeat (first | exact Drawn0.refl _ | apply Drawn0.step)⟩
    ·replace c3 := Bool.eq_false_iff.mpr c3
     subst c3
     have H1 : (if 0 ≤ x4_1 then ((spec_among.f k1 (bt a0 x4_1) (⟨#[40, 41, 123, 125]⟩ : ByteArray)).bind fun t106 => (spec_paired.l0 k1 a0 t106 (wrap64 (x4_1 + 1)))) else (none)) = some r := by rw [if_neg (show ¬ (false = true) by decide)] at H; exact H
     clear H
     have H := H1
     clear H1
     by_cases c4 : 0 ≤ x4_1
     ·rw [if_pos c4] at H
      have c4b0 : decide (0 ≤ x4_1) = true := decide_eq_true c4
      clear c4
      replace H := Option.bind_eq_some_iff.mp H
      obtain ⟨t106, A60, H⟩ := H
      replace H : (spec_paired.l0 k1 a0 t106 (wrap64 (x4_1 + 1))) = some r := H
      have A6 := Aside0.mk A60
      clear A60
      have H' := Aside0.mk H
      clear H
      have p5 : 0 ≤ (x4_1 : Int) := of_decide_eq_true (by first | (with_reducible assumption) | assumption)
      have q5 : x4_1 < (a0.size : Int) := of_decide_eq_true (by first | (with_reducible assumption) | assumption)
      have hx5 := bt_at a0 x4_1
      replace p5 := eq_true p5
      replace q5 := eq_true q5
      go_wp2_with (first | (go_at_call 9; (with_reducible refine (spec_among.calls k1 (bt a0 x4_1) (⟨#[40, 41, 123, 125]⟩ : ByteArray) t106 _ A6.out).mono ?_); rintro e w' ⟨rfl, ⟨nd, rfl⟩⟩))
      go_roundg k1
      case measure => have := HK1.out; omega
      case rel => exact ⟨(t106), (wrap64 (x4_1 + 1)), (by first | rfl | (simp; done) | (simp [*]; done)), (by first | rfl | (simp; done) | (simp [*]; done)), H', ⟨by have := HK1.out; omega⟩, by repeat (first | exact Drawn0.refl _ | apply Drawn0.step)⟩
     ·rw [if_neg c4] at H
      exact absurd H (by simp)
   ·rw [if_neg c2] at H
    have c2b0 : decide (x4_1 < (a0.size : Int)) = false := decide_eq_false c2
    clear c2
    obtain rfl := Option.some.inj H
    go_wp2
    go_ret
    exact ⟨by first | rfl | (simp; done) | (simp [*]; done), by repeat (first | exact Drawn0.refl _ | apply Drawn0.step)⟩

/-! ### spec_Basic: function 45 -/
def spec_Basic.f (a0 : Int) : Option (Bool) := if a0 = 121 then (some true) else (if a0 = 98 then (some true) else (if a0 = 110 then (some true) else (if a0 = 113 then (some true) else (if a0 = 105 then (some true) else (if a0 = 117 then (some true) else (if a0 = 120 then (some true) else (if a0 = 116 then (some true) else (if a0 = 100 then (some true) else (if a0 = 115 then (some true) else (if a0 = 111 then (some true) else (if a0 = 103 then (some true) else (if a0 = 104 then (some true) else (some false)))))))))))))
set_option maxHeartbeats 8000000 in
set_option maxRecDepth 100000 in
theorem spec_Basic.calls (a0 : Int) (r : Bool) (w : World) (h : spec_Basic.f a0 = some r) :
  Calls Tryd.prog 45 #[.int .u8 a0] w fun e w' => e = .returned (.bool r) ∧ Drawn0 w w' := by
 have H : (if a0 = 121 then (some true) else (if a0 = 98 then (some true) else (if a0 = 110 then (some true) else (if a0 = 113 then (some true) else (if a0 = 105 then (some true) else (if a0 = 117 then (some true) else (if a0 = 120 then (some true) else (if a0 = 116 then (some true) else (if a0 = 100 then (some true) else (if a0 = 115 then (some true) else (if a0 = 111 then (some true) else (if a0 = 103 then (some true) else (if a0 = 104 then (some true) else (some false)))))))))))))) = some r := h
 clear h
 by_cases c2 : a0 = 121
 ·rw [if_pos c2] at H
  have c2b0 : (a0 == 121) = true := beq_iff_eq.mpr c2
  have c2b1 : (a0 != 121) = false := bne_eq_false_iff_eq.mpr c2
  clear c2
  obtain rfl := Option.some.inj H
  go_enter Tryd.func45, Tryd.ntmps45
  go_wp2
  go_ret
  exact ⟨by first | rfl | (simp; done) | (simp [*]; done), by repeat (first | exact Drawn0.refl _ | apply Drawn0.step)⟩
 ·rw [if_neg c2] at H
  have c2b0 : (a0 == 121) = false := beq_eq_false_iff_ne.mpr c2
  have c2b1 : (a0 != 121) = true := bne_iff_ne.mpr c2
  by_cases c3 : a0 = 98
  ·rw [if_pos c3] at H
   have c3b0 : (a0 == 98) = true := beq_iff_eq.mpr c3
   have c3b1 : (a0 != 98) = false := bne_eq_false_iff_eq.mpr c3
   clear c3
   obtain rfl := Option.some.inj H
   go_enter Tryd.func45, Tryd.ntmps45
   go_wp2
   go_ret
   exact ⟨by first | rfl | (simp; done) | (simp [*]; done), by repeat (first | exact Drawn0.refl _ | apply Drawn0.step)⟩
  ·rw [if_neg c3] at H
   have c3b0 : (a0 == 98) = false := beq_eq_false_iff_ne.mpr c3
   have c3b1 : (a0 != 98) = true := bne_iff_ne.mpr c3
   by_cases c4 : a0 = 110
   ·rw [if_pos c4] at H
    have c4b0 : (a0 == 110) = true := beq_iff_eq.mpr c4
    have c4b1 : (a0 != 110) = false := bne_eq_false_iff_eq.mpr c4
    clear c4
    obtain rfl := Option.some.inj H
    go_enter Tryd.func45, Tryd.ntmps45
    go_wp2
    go_ret
    exact ⟨by first | rfl | (simp; done) | (simp [*]; done), by repeat (first | exact Drawn0.refl _ | apply Drawn0.step)⟩
   ·rw [if_neg c4] at H
    have c4b0 : (a0 == 110) = false := beq_eq_false_iff_ne.mpr c4
    have c4b1 : (a0 != 110) = true := bne_iff_ne.mpr c4
    by_cases c5 : a0 = 113
    ·rw [if_pos c5] at H
     have c5b0 : (a0 == 113) = true := beq_iff_eq.mpr c5
     have c5b1 : (a0 != 113) = false := bne_eq_false_iff_eq.mpr c5
     clear c5
     obtain rfl := Option.some.inj H
     go_enter Tryd.func45, Tryd.ntmps45
     go_wp2
     go_ret
     exact ⟨by first | rfl | (simp; done) | (simp [*]; done), by repeat (first | exact Drawn0.refl _ | apply Drawn0.step)⟩
    ·rw [if_neg c5] at H
     have c5b0 : (a0 == 113) = false := beq_eq_false_iff_ne.mpr c5
     have c5b1 : (a0 != 113) = true := bne_iff_ne.mpr c5
     by_cases c6 : a0 = 105
     ·rw [if_pos c6] at H
      have c6b0 : (a0 == 105) = true := beq_iff_eq.mpr c6
      have c6b1 : (a0 != 105) = false := bne_eq_false_iff_eq.mpr c6
      clear c6
      obtain rfl := Option.some.inj H
      go_enter Tryd.func45, Tryd.ntmps45
      go_wp2
      go_ret
      exact ⟨by first | rfl | (simp; done) | (simp [*]; done), by repeat (first | exact Drawn0.refl _ | apply Drawn0.step)⟩
     ·rw [if_neg c6] at H
      have c6b0 : (a0 == 105) = false := beq_eq_false_iff_ne.mpr c6
      have c6b1 : (a0 != 105) = true := bne_iff_ne.mpr c6
      by_cases c7 : a0 = 117
      ·rw [if_pos c7] at H
       have c7b0 : (a0 == 117) = true := beq_iff_eq.mpr c7
       have c7b1 : (a0 != 117) = false := bne_eq_false_iff_eq.mpr c7
       clear c7
       obtain rfl := Option.some.inj H
       go_enter Tryd.func45, Tryd.ntmps45
       go_wp2
       go_ret
       exact ⟨by first | rfl | (simp; done) | (simp [*]; done), by repeat (first | exact Drawn0.refl _ | apply Drawn0.step)⟩
      ·rw [if_neg c7] at H
       have c7b0 : (a0 == 117) = false := beq_eq_false_iff_ne.mpr c7
       have c7b1 : (a0 != 117) = true := bne_iff_ne.mpr c7
       by_cases c8 : a0 = 120
       ·rw [if_pos c8] at H
        have c8b0 : (a0 == 120) = true := beq_iff_eq.mpr c8
        have c8b1 : (a0 != 120) = false := bne_eq_false_iff_eq.mpr c8
        clear c8
        obtain rfl := Option.some.inj H
        go_enter Tryd.func45, Tryd.ntmps45
        go_wp2
        go_ret
        exact ⟨by first | rfl | (simp; done) | (simp [*]; done), by repeat (first | exact Drawn0.refl _ | apply Drawn0.step)⟩
       ·rw [if_neg c8] at H
        have c8b0 : (a0 == 120) = false := beq_eq_false_iff_ne.mpr c8
        have c8b1 : (a0 != 120) = true := bne_iff_ne.mpr c8
        by_cases c9 : a0 = 116
        ·rw [if_pos c9] at H
         have c9b0 : (a0 == 116) = true := beq_iff_eq.mpr c9
         have c9b1 : (a0 != 116) = false := bne_eq_false_iff_eq.mpr c9
         clear c9
         obtain rfl := Option.some.inj H
         go_enter Tryd.func45, Tryd.ntmps45
         go_wp2
         go_ret
         exact ⟨by first | rfl | (simp; done) | (simp [*]; done), by repeat (first | exact Drawn0.refl _ | apply Drawn0.step)⟩
        ·rw [if_neg c9] at H
         have c9b0 : (a0 == 116) = false := beq_eq_false_iff_ne.mpr c9
         have c9b1 : (a0 != 116) = true := bne_iff_ne.mpr c9
         by_cases c10 : a0 = 100
         ·rw [if_pos c10] at H
          have c10b0 : (a0 == 100) = true := beq_iff_eq.mpr c10
          have c10b1 : (a0 != 100) = false := bne_eq_false_iff_eq.mpr c10
          clear c10
          obtain rfl := Option.some.inj H
          go_enter Tryd.func45, Tryd.ntmps45
          go_wp2
          go_ret
          exact ⟨by first | rfl | (simp; done) | (simp [*]; done), by repeat (first | exact Drawn0.refl _ | apply Drawn0.step)⟩
         ·rw [if_neg c10] at H
          have c10b0 : (a0 == 100) = false := beq_eq_false_iff_ne.mpr c10
          have c10b1 : (a0 != 100) = true := bne_iff_ne.mpr c10
          by_cases c11 : a0 = 115
          ·rw [if_pos c11] at H
           have c11b0 : (a0 == 115) = true := beq_iff_eq.mpr c11
           have c11b1 : (a0 != 115) = false := bne_eq_false_iff_eq.mpr c11
           clear c11
           obtain rfl := Option.some.inj H
           go_enter Tryd.func45, Tryd.ntmps45
           go_wp2
           go_ret
           exact ⟨by first | rfl | (simp; done) | (simp [*]; done), by repeat (first | exact Drawn0.refl _ | apply Drawn0.step)⟩
          ·rw [if_neg c11] at H
           have c11b0 : (a0 == 115) = false := beq_eq_false_iff_ne.mpr c11
           have c11b1 : (a0 != 115) = true := bne_iff_ne.mpr c11
           by_cases c12 : a0 = 111
           ·rw [if_pos c12] at H
            have c12b0 : (a0 == 111) = true := beq_iff_eq.mpr c12
            have c12b1 : (a0 != 111) = false := bne_eq_false_iff_eq.mpr c12
            clear c12
            obtain rfl := Option.some.inj H
            go_enter Tryd.func45, Tryd.ntmps45
            go_wp2
            go_ret
            exact ⟨by first | rfl | (simp; done) | (simp [*]; done), by repeat (first | exact Drawn0.refl _ | apply Drawn0.step)⟩
           ·rw [if_neg c12] at H
            have c12b0 : (a0 == 111) = false := beq_eq_false_iff_ne.mpr c12
            have c12b1 : (a0 != 111) = true := bne_iff_ne.mpr c12
            by_cases c13 : a0 = 103
            ·rw [if_pos c13] at H
             have c13b0 : (a0 == 103) = true := beq_iff_eq.mpr c13
             have c13b1 : (a0 != 103) = false := bne_eq_false_iff_eq.mpr c13
             clear c13
             obtain rfl := Option.some.inj H
             go_enter Tryd.func45, Tryd.ntmps45
             go_wp2
             go_ret
             exact ⟨by first | rfl | (simp; done) | (simp [*]; done), by repeat (first | exact Drawn0.refl _ | apply Drawn0.step)⟩
            ·rw [if_neg c13] at H
             have c13b0 : (a0 == 103) = false := beq_eq_false_iff_ne.mpr c13
             have c13b1 : (a0 != 103) = true := bne_iff_ne.mpr c13
             by_cases c14 : a0 = 104
             ·rw [if_pos c14] at H
              have c14b0 : (a0 == 104) = true := beq_iff_eq.mpr c14
              have c14b1 : (a0 != 104) = false := bne_eq_false_iff_eq.mpr c14
              clear c14
              obtain rfl := Option.some.inj H
              go_enter Tryd.func45, Tryd.ntmps45
              go_wp2
              go_ret
              exact ⟨by first | rfl | (simp; done) | (simp [*]; done), by repeat (first | exact Drawn0.refl _ | apply Drawn0.step)⟩
             ·rw [if_neg c14] at H
              have c14b0 : (a0 == 104) = false := beq_eq_false_iff_ne.mpr c14
              have c14b1 : (a0 != 104) = true := bne_iff_ne.mpr c14
              obtain rfl := Option.some.inj H
              go_enter Tryd.func45, Tryd.ntmps45
              go_wp2
              go_ret
              exact ⟨by first | rfl | (simp; done) | (simp [*]; done), by repeat (first | exact Drawn0.refl _ | apply Drawn0.step)⟩

end Go.Proofs.YthcafnmagidpiaaDoor.MFnVtTokensJoin
