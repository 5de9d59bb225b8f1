-- Written by a program of this session (myprint.py, out of the translation). Not trusted: Lean checks it.
import Derived.Test.YtpgpkdickcdlpaaMFnAdAddressx0
namespace Go.Proofs.Ytpgpkdickcdlpaa.MFnAdAddress
open Go.RowKit Go.Proofs.YtpgpkdickcdlpaaW.PrintWords Go.Proofs.YtpgpkdickcdlpaaW.PrintLast Go.Proofs.YtpgpkdickcdlpaaW.PrintMore
attribute [local go_sem] max2_int min2_int max_two min_two max_three min_three max_four min_four   -- for this text's walks alone
set_option linter.unusedVariables false
set_option linter.unusedSimpArgs false

/-! ### dbus_needsEscape: function 21 -/
def dbus_needsEscape.j0 : Nat → Int → Bool → Option (Bool)
  | 0, _, _ => none
  | k + 1, x0, x24 => if x24 = true then (some false) else (if x0 = 45 then (some false) else (if x0 = 95 then (some false) else (if x0 = 47 then (some false) else (if x0 = 92 then (some false) else (if x0 = 46 then (some false) else (if x0 = 42 then (some false) else (some true)))))))
def dbus_needsEscape.f (k : Nat) (a0 : Int) : Option (Bool) := if 97 ≤ a0 then (if a0 ≤ 122 then (dbus_needsEscape.j0 k a0 true) else (if 65 ≤ a0 then (if a0 ≤ 90 then (dbus_needsEscape.j0 k a0 true) else (if 48 ≤ a0 then (dbus_needsEscape.j0 k a0 (decide (a0 ≤ 57))) else (dbus_needsEscape.j0 k a0 false))) else (if 48 ≤ a0 then (dbus_needsEscape.j0 k a0 (decide (a0 ≤ 57))) else (dbus_needsEscape.j0 k a0 false)))) else (if 65 ≤ a0 then (if a0 ≤ 90 then (dbus_needsEscape.j0 k a0 true) else (if 48 ≤ a0 then (dbus_needsEscape.j0 k a0 (decide (a0 ≤ 57))) else (dbus_needsEscape.j0 k a0 false))) else (if 48 ≤ a0 then (dbus_needsEscape.j0 k a0 (decide (a0 ≤ 57))) else (dbus_needsEscape.j0 k a0 false)))
theorem dbus_needsEscape.mono_l : ∀ k, (∀ y0 y1, LeO (dbus_needsEscape.j0 k y0 y1) (dbus_needsEscape.j0 (k + 1) y0 y1))
  | 0 => fun _ _ r h => by simp [dbus_needsEscape.j0] at h
  | k + 1 => by
    have ih0 := dbus_needsEscape.mono_l k
    · intro y0 y1
      unfold dbus_needsEscape.j0
      repeat' first
      | (with_reducible exact ih0 _ _)
      | (with_reducible exact LeO.refl _)
      | (with_reducible exact LeO.none _)
      | (with_reducible refine LeO.ite ?_ ?_)
      | (with_reducible refine LeO.bind ?_ (fun _ => ?_))
      | exact ih0 _ _
      | exact LeO.none _
      | refine LeO.ite ?_ ?_
      | refine LeO.bind ?_ (fun _ => ?_)
theorem dbus_needsEscape.mono : ∀ a0 k, LeO (dbus_needsEscape.f k a0) (dbus_needsEscape.f (k + 1) a0) := by
  intro a0 k
  have ih0 := dbus_needsEscape.mono_l k
  unfold dbus_needsEscape.f
  repeat' first
      | (with_reducible exact ih0 _ _)
      | (with_reducible exact LeO.refl _)
      | (with_reducible exact LeO.none _)
      | (with_reducible refine LeO.ite ?_ ?_)
      | (with_reducible refine LeO.bind ?_ (fun _ => ?_))
      | exact ih0 _ _
      | exact LeO.none _
      | refine LeO.ite ?_ ?_
      | refine LeO.bind ?_ (fun _ => ?_)
set_option maxHeartbeats 8000000 in
set_option maxRecDepth 100000 in
theorem dbus_needsEscape.calls (k : Nat) (a0 : Int) (r : Bool) (w : World) (h : dbus_needsEscape.f k a0 = some r) :
    Calls Try.prog 21 #[.int .u8 a0] w fun e w' => e = .returned (.bool r) ∧ Drawn0 w w' := by
  have H : (if 97 ≤ a0 then (if a0 ≤ 122 then (dbus_needsEscape.j0 k a0 true) else (if 65 ≤ a0 then (if a0 ≤ 90 then (dbus_needsEscape.j0 k a0 true) else (if 48 ≤ a0 then (dbus_needsEscape.j0 k a0 (decide (a0 ≤ 57))) else (dbus_needsEscape.j0 k a0 false))) else (if 48 ≤ a0 then (dbus_needsEscape.j0 k a0 (decide (a0 ≤ 57))) else (dbus_needsEscape.j0 k a0 false)))) else (if 65 ≤ a0 then (if a0 ≤ 90 then (dbus_needsEscape.j0 k a0 true) else (if 48 ≤ a0 then (dbus_needsEscape.j0 k a0 (decide (a0 ≤ 57))) else (dbus_needsEscape.j0 k a0 false))) else (if 48 ≤ a0 then (dbus_needsEscape.j0 k a0 (decide (a0 ≤ 57))) else (dbus_needsEscape.j0 k a0 false)))) = some r := h
  clear h
  have HC2 := Aside0.mk H
  clear H
  go_enter Try.func21, Try.ntmps21
  go_upto_region 1 with (fail)
  go_cut [24] (fun v24 wc => ∃ (kq : Nat) (x24_1 : Bool), v24 = .bool x24_1 ∧ Aside0 (dbus_needsEscape.j0 kq a0 x24_1 = some r) ∧ Aside0 (kq ≤ k) ∧ Drawn0 w wc)
  case first =>
    have H := HC2.out
    clear HC2
    by_cases c3 : 97 ≤ a0
    · rw [if_pos c3] at H
      have c3b0 : decide (97 ≤ a0) = true := decide_eq_true c3
      clear c3
      (first | rw [c3b0] | (simp only [i64_w, i32_w]; rw [c3b0]) | skip)
      by_cases c4 : a0 ≤ 122
      · rw [if_pos c4] at H
        have c4b0 : decide (a0 ≤ 122) = true := decide_eq_true c4
        clear c4
        have H' := Aside0.mk H
        clear H
        go_wp2
        go_meet
        case rel => exact ⟨_, (true), (by first | rfl | (simp; done) | (simp [*]; done)), H', ⟨by first | omega | exact Nat.le_refl _⟩, by repeat (first | exact Drawn0.refl _ | apply Drawn0.step)⟩
      · rw [if_neg c4] at H
        have c4b0 : decide (a0 ≤ 122) = false := decide_eq_false c4
        clear c4
        by_cases c5 : 65 ≤ a0
        · rw [if_pos c5] at H
          have c5b0 : decide (65 ≤ a0) = true := decide_eq_true c5
          clear c5
          by_cases c6 : a0 ≤ 90
          · rw [if_pos c6] at H
            have c6b0 : decide (a0 ≤ 90) = true := decide_eq_true c6
            clear c6
            have H' := Aside0.mk H
            clear H
            go_wp2
            go_meet
            case rel => exact ⟨_, (true), (by first | rfl | (simp; done) | (simp [*]; done)), H', ⟨by first | omega | exact Nat.le_refl _⟩, by repeat (first | exact Drawn0.refl _ | apply Drawn0.step)⟩
          · rw [if_neg c6] at H
            have c6b0 : decide (a0 ≤ 90) = false := decide_eq_false c6
            clear c6
            by_cases c7 : 48 ≤ a0
            · rw [if_pos c7] at H
              have c7b0 : decide (48 ≤ a0) = true := decide_eq_true c7
              clear c7
              have H' := Aside0.mk H
              clear H
              go_wp2
              go_meet
              case rel => exact ⟨_, (decide (a0 ≤ 57)), (by first | rfl | (simp; done) | (simp [*]; done)), H', ⟨by first | omega | exact Nat.le_refl _⟩, by repeat (first | exact Drawn0.refl _ | apply Drawn0.step)⟩
            · rw [if_neg c7] at H
              have c7b0 : decide (48 ≤ a0) = false := decide_eq_false c7
              clear c7
              have H' := Aside0.mk H
              clear H
              go_wp2
              go_meet
              case rel => exact ⟨_, (false), (by first | rfl | (simp; done) | (simp [*]; done)), H', ⟨by first | omega | exact Nat.le_refl _⟩, by repeat (first | exact Drawn0.refl _ | apply Drawn0.step)⟩
        · rw [if_neg c5] at H
          have c5b0 : decide (65 ≤ a0) = false := decide_eq_false c5
          clear c5
          by_cases c8 : 48 ≤ a0
          · rw [if_pos c8] at H
            have c8b0 : decide (48 ≤ a0) = true := decide_eq_true c8
            clear c8
            have H' := Aside0.mk H
            clear H
            go_wp2
            go_meet
            case rel => exact ⟨_, (decide (a0 ≤ 57)), (by first | rfl | (simp; done) | (simp [*]; done)), H', ⟨by first | omega | exact Nat.le_refl _⟩, by repeat (first | exact Drawn0.refl _ | apply Drawn0.step)⟩
          · rw [if_neg c8] at H
            have c8b0 : decide (48 ≤ a0) = false := decide_eq_false c8
            clear c8
            have H' := Aside0.mk H
            clear H
            go_wp2
            go_meet
            case rel => exact ⟨_, (false), (by first | rfl | (simp; done) | (simp [*]; done)), H', ⟨by first | omega | exact Nat.le_refl _⟩, by repeat (first | exact Drawn0.refl _ | apply Drawn0.step)⟩
    · rw [if_neg c3] at H
      have c3b0 : decide (97 ≤ a0) = false := decide_eq_false c3
      clear c3
      (first | rw [c3b0] | (simp only [i64_w, i32_w]; rw [c3b0]) | skip)
      by_cases c9 : 65 ≤ a0
      · rw [if_pos c9] at H
        have c9b0 : decide (65 ≤ a0) = true := decide_eq_true c9
        clear c9
        by_cases c10 : a0 ≤ 90
        · rw [if_pos c10] at H
          have c10b0 : decide (a0 ≤ 90) = true := decide_eq_true c10
          clear c10
          have H' := Aside0.mk H
          clear H
          go_wp2
          go_meet
          case rel => exact ⟨_, (true), (by first | rfl | (simp; done) | (simp [*]; done)), H', ⟨by first | omega | exact Nat.le_refl _⟩, by repeat (first | exact Drawn0.refl _ | apply Drawn0.step)⟩
        · rw [if_neg c10] at H
          have c10b0 : decide (a0 ≤ 90) = false := decide_eq_false c10
          clear c10
          by_cases c11 : 48 ≤ a0
          · rw [if_pos c11] at H
            have c11b0 : decide (48 ≤ a0) = true := decide_eq_true c11
            clear c11
            have H' := Aside0.mk H
            clear H
            go_wp2
            go_meet
            case rel => exact ⟨_, (decide (a0 ≤ 57)), (by first | rfl | (simp; done) | (simp [*]; done)), H', ⟨by first | omega | exact Nat.le_refl _⟩, by repeat (first | exact Drawn0.refl _ | apply Drawn0.step)⟩
          · rw [if_neg c11] at H
            have c11b0 : decide (48 ≤ a0) = false := decide_eq_false c11
            clear c11
            have H' := Aside0.mk H
            clear H
            go_wp2
            go_meet
            case rel => exact ⟨_, (false), (by first | rfl | (simp; done) | (simp [*]; done)), H', ⟨by first | omega | exact Nat.le_refl _⟩, by repeat (first | exact Drawn0.refl _ | apply Drawn0.step)⟩
      · rw [if_neg c9] at H
        have c9b0 : decide (65 ≤ a0) = false := decide_eq_false c9
        clear c9
        by_cases c12 : 48 ≤ a0
        · rw [if_pos c12] at H
          have c12b0 : decide (48 ≤ a0) = true := decide_eq_true c12
          clear c12
          have H' := Aside0.mk H
          clear H
          go_wp2
          go_meet
          case rel => exact ⟨_, (decide (a0 ≤ 57)), (by first | rfl | (simp; done) | (simp [*]; done)), H', ⟨by first | omega | exact Nat.le_refl _⟩, by repeat (first | exact Drawn0.refl _ | apply Drawn0.step)⟩
        · rw [if_neg c12] at H
          have c12b0 : decide (48 ≤ a0) = false := decide_eq_false c12
          clear c12
          have H' := Aside0.mk H
          clear H
          go_wp2
          go_meet
          case rel => exact ⟨_, (false), (by first | rfl | (simp; done) | (simp [*]; done)), H', ⟨by first | omega | exact Nat.le_refl _⟩, by repeat (first | exact Drawn0.refl _ | apply Drawn0.step)⟩
  case rest =>
    clear HC2
    try clear c1
    try clear c2
    try clear p2
    try clear c3
    try clear c3b0
    try clear c4
    try clear c4b0
    try clear c5
    try clear c5b0
    try clear c6
    try clear c6b0
    try clear c7
    try clear c7b0
    try clear c8
    try clear c8b0
    try clear c9
    try clear c9b0
    try clear c10
    try clear c10b0
    try clear c11
    try clear c11b0
    try clear c12
    try clear c12b0
    obtain ⟨kq, x24_1, rfl, HA, HJ1, ⟨mc1, rfl⟩⟩ := hcut
    cases kq with
    | zero => exact absurd HA.out (by simp [dbus_needsEscape.j0])
    | succ kj1 =>
      have H := HA.out
      clear HA
      simp only [dbus_needsEscape.j0] at H
      by_cases c13 : x24_1 = true
      · subst c13
        have H1 : (some false) = some r := by rw [if_pos rfl] at H; exact H
        clear H
        have H := H1
        clear H1
        obtain rfl := Option.some.inj H
        go_wp2
        go_ret
        exact ⟨by first | rfl | (simp; done) | (simp [*]; done), by repeat (first | exact Drawn0.refl _ | apply Drawn0.step)⟩
      · replace c13 := Bool.eq_false_iff.mpr c13
        subst c13
        have H1 : (if a0 = 45 then (some false) else (if a0 = 95 then (some false) else (if a0 = 47 then (some false) else (if a0 = 92 then (some false) else (if a0 = 46 then (some false) else (if a0 = 42 then (some false) else (some true))))))) = some r := by rw [if_neg (show ¬ (false = true) by decide)] at H; exact H
        clear H
        have H := H1
        clear H1
        by_cases c14 : a0 = 45
        · rw [if_pos c14] at H
          have c14b0 : (a0 == 45) = true := beq_iff_eq.mpr c14
          have c14b1 : (a0 != 45) = false := bne_eq_false_iff_eq.mpr c14
          clear c14
          obtain rfl := Option.some.inj H
          go_wp2
          go_ret
          exact ⟨by first | rfl | (simp; done) | (simp [*]; done), by repeat (first | exact Drawn0.refl _ | apply Drawn0.step)⟩
        · rw [if_neg c14] at H
          have c14b0 : (a0 == 45) = false := beq_eq_false_iff_ne.mpr c14
          have c14b1 : (a0 != 45) = true := bne_iff_ne.mpr c14
          by_cases c15 : a0 = 95
          · rw [if_pos c15] at H
            have c15b0 : (a0 == 95) = true := beq_iff_eq.mpr c15
            have c15b1 : (a0 != 95) = false := bne_eq_false_iff_eq.mpr c15
            clear c15
            obtain rfl := Option.some.inj H
            go_wp2
            go_ret
            exact ⟨by first | rfl | (simp; done) | (simp [*]; done), by repeat (first | exact Drawn0.refl _ | apply Drawn0.step)⟩
          · rw [if_neg c15] at H
            have c15b0 : (a0 == 95) = false := beq_eq_false_iff_ne.mpr c15
            have c15b1 : (a0 != 95) = true := bne_iff_ne.mpr c15
            by_cases c16 : a0 = 47
            · rw [if_pos c16] at H
              have c16b0 : (a0 == 47) = true := beq_iff_eq.mpr c16
              have c16b1 : (a0 != 47) = false := bne_eq_false_iff_eq.mpr c16
              clear c16
              obtain rfl := Option.some.inj H
              go_wp2
              go_ret
              exact ⟨by first | rfl | (simp; done) | (simp [*]; done), by repeat (first | exact Drawn0.refl _ | apply Drawn0.step)⟩
            · rw [if_neg c16] at H
              have c16b0 : (a0 == 47) = false := beq_eq_false_iff_ne.mpr c16
              have c16b1 : (a0 != 47) = true := bne_iff_ne.mpr c16
              by_cases c17 : a0 = 92
              · rw [if_pos c17] at H
                have c17b0 : (a0 == 92) = true := beq_iff_eq.mpr c17
                have c17b1 : (a0 != 92) = false := bne_eq_false_iff_eq.mpr c17
                clear c17
                obtain rfl := Option.some.inj H
                go_wp2
                go_ret
                exact ⟨by first | rfl | (simp; done) | (simp [*]; done), by repeat (first | exact Drawn0.refl _ | apply Drawn0.step)⟩
              · rw [if_neg c17] at H
                have c17b0 : (a0 == 92) = false := beq_eq_false_iff_ne.mpr c17
                have c17b1 : (a0 != 92) = true := bne_iff_ne.mpr c17
                by_cases c18 : a0 = 46
                · rw [if_pos c18] at H
                  have c18b0 : (a0 == 46) = true := beq_iff_eq.mpr c18
                  have c18b1 : (a0 != 46) = false := bne_eq_false_iff_eq.mpr c18
                  clear c18
                  obtain rfl := Option.some.inj H
                  go_wp2
                  go_ret
                  exact ⟨by first | rfl | (simp; done) | (simp [*]; done), by repeat (first | exact Drawn0.refl _ | apply Drawn0.step)⟩
                · rw [if_neg c18] at H
                  have c18b0 : (a0 == 46) = false := beq_eq_false_iff_ne.mpr c18
                  have c18b1 : (a0 != 46) = true := bne_iff_ne.mpr c18
                  by_cases c19 : a0 = 42
                  · rw [if_pos c19] at H
                    have c19b0 : (a0 == 42) = true := beq_iff_eq.mpr c19
                    have c19b1 : (a0 != 42) = false := bne_eq_false_iff_eq.mpr c19
                    clear c19
                    obtain rfl := Option.some.inj H
                    go_wp2
                    go_ret
                    exact ⟨by first | rfl | (simp; done) | (simp [*]; done), by repeat (first | exact Drawn0.refl _ | apply Drawn0.step)⟩
                  · rw [if_neg c19] at H
                    have c19b0 : (a0 == 42) = false := beq_eq_false_iff_ne.mpr c19
                    have c19b1 : (a0 != 42) = true := bne_iff_ne.mpr c19
                    obtain rfl := Option.some.inj H
                    go_wp2
                    go_ret
                    exact ⟨by first | rfl | (simp; done) | (simp [*]; done), by repeat (first | exact Drawn0.refl _ | apply Drawn0.step)⟩

/-! ### dbus_strNeedsEscape: function 20 -/
def dbus_strNeedsEscape.l0 : Nat → ByteArray → Int → Int → Option (Int)
  | 0, _, _, _ => none
  | k + 1, x0, x3, x4 => if x4 < (x0.size : Int) then (if 0 ≤ x4 then ((dbus_needsEscape.f k (bt x0 x4)).bind fun t105 => (if t105 = true then (dbus_strNeedsEscape.l0 k x0 (wrap64 (x3 + 1)) (wrap64 (x4 + 1))) else (dbus_strNeedsEscape.l0 k x0 x3 (wrap64 (x4 + 1))))) else (none)) else (some x3)
def dbus_strNeedsEscape.f (k : Nat) (a0 : ByteArray) : Option (Int) := dbus_strNeedsEscape.l0 k a0 0 0
theorem dbus_strNeedsEscape.mono_l : ∀ k, (∀ y0 y1 y2, LeO (dbus_strNeedsEscape.l0 k y0 y1 y2) (dbus_strNeedsEscape.l0 (k + 1) y0 y1 y2))
  | 0 => fun _ _ _ r h => by simp [dbus_strNeedsEscape.l0] at h
  | k + 1 => by
    have ih0 := dbus_strNeedsEscape.mono_l k
    · intro y0 y1 y2
      unfold dbus_strNeedsEscape.l0
      repeat' first
      | (with_reducible exact ih0 _ _ _)
      | (with_reducible exact dbus_needsEscape.mono _ _)
      | (with_reducible exact LeO.refl _)
      | (with_reducible exact LeO.none _)
      | (with_reducible refine LeO.ite ?_ ?_)
      | (with_reducible refine LeO.bind ?_ (fun _ => ?_))
      | exact ih0 _ _ _
      | exact dbus_needsEscape.mono _ _
      | exact LeO.none _
      | refine LeO.ite ?_ ?_
      | refine LeO.bind ?_ (fun _ => ?_)
theorem dbus_strNeedsEscape.mono : ∀ a0 k, LeO (dbus_strNeedsEscape.f k a0) (dbus_strNeedsEscape.f (k + 1) a0) := by
  intro a0 k
  have ih0 := dbus_strNeedsEscape.mono_l k
  unfold dbus_strNeedsEscape.f
  repeat' first
      | (with_reducible exact ih0 _ _ _)
      | (with_reducible exact dbus_needsEscape.mono _ _)
      | (with_reducible exact LeO.refl _)
      | (with_reducible exact LeO.none _)
      | (with_reducible refine LeO.ite ?_ ?_)
      | (with_reducible refine LeO.bind ?_ (fun _ => ?_))
      | exact ih0 _ _ _
      | exact dbus_needsEscape.mono _ _
      | exact LeO.none _
      | refine LeO.ite ?_ ?_
      | refine LeO.bind ?_ (fun _ => ?_)
set_option maxHeartbeats 8000000 in
set_option maxRecDepth 100000 in
theorem dbus_strNeedsEscape.calls (k : Nat) (a0 : ByteArray) (r : Int) (w : World) (h : dbus_strNeedsEscape.f k a0 = some r) :
    Calls Try.prog 20 #[.string a0] w fun e w' => e = .returned (.int .i64 r) ∧ Drawn0 w w' := by
  have H : (dbus_strNeedsEscape.l0 k a0 0 0) = some r := h
  clear h
  have H' := Aside0.mk H
  clear H
  go_enter Try.func20, Try.ntmps20
  go_wp2
  go_loopg [3, 4] k (fun kq v3 v4 w' => ∃ (x3_1 : Int) (x4_1 : Int), v3 = .int .i64 x3_1 ∧ v4 = .int .i64 x4_1 ∧ Aside0 (dbus_strNeedsEscape.l0 kq a0 x3_1 x4_1 = some r) ∧ Aside0 (kq ≤ k) ∧ Drawn0 w w')
  case atStart => exact ⟨(0), (0), (by first | rfl | (simp; done) | (simp [*]; done)), (by first | rfl | (simp; done) | (simp [*]; done)), H', ⟨Nat.le_refl _⟩, by repeat (first | exact Drawn0.refl _ | apply Drawn0.step)⟩
  case round =>
    clear H'
    obtain ⟨x3_1, x4_1, rfl, rfl, HA, HK1, ⟨m1, rfl⟩⟩ := hrel
    cases gk with
    | zero => exact absurd HA.out (by simp [dbus_strNeedsEscape.l0])
    | succ k1 =>
      have H := HA.out
      clear HA
      simp only [dbus_strNeedsEscape.l0] at H
      by_cases c2 : x4_1 < (a0.size : Int)
      · rw [if_pos c2] at H
        have c2b0 : decide (x4_1 < (a0.size : Int)) = true := decide_eq_true c2
        clear c2
        by_cases c3 : 0 ≤ x4_1
        · rw [if_pos c3] at H
          have c3b0 : decide (0 ≤ x4_1) = true := decide_eq_true c3
          clear c3
          replace H := Option.bind_eq_some_iff.mp H
          obtain ⟨t105, A50, H⟩ := H
          replace H : (if t105 = true then (dbus_strNeedsEscape.l0 k1 a0 (wrap64 (x3_1 + 1)) (wrap64 (x4_1 + 1))) else (dbus_strNeedsEscape.l0 k1 a0 x3_1 (wrap64 (x4_1 + 1)))) = some r := H
          have A5 := Aside0.mk A50
          clear A50
          by_cases c6 : t105 = true
          · subst c6
            have H1 : (dbus_strNeedsEscape.l0 k1 a0 (wrap64 (x3_1 + 1)) (wrap64 (x4_1 + 1))) = some r := by rw [if_pos rfl] at H; exact H
            clear H
            have H := H1
            clear H1
            have H' := Aside0.mk H
            clear H
            have p4 : 0 ≤ (x4_1 : Int) := of_decide_eq_true (by first | (with_reducible assumption) | assumption)
            have q4 : x4_1 < (a0.size : Int) := of_decide_eq_true (by first | (with_reducible assumption) | assumption)
            have hx4 := bt_at a0 x4_1
            replace p4 := eq_true p4
            replace q4 := eq_true q4
            go_wp2_with (first | ((with_reducible refine gate_callee (f := 21) rfl ?_); refine goesL_ (some 14) rfl rfl Try.func21 (by kernel_rfl) rfl #[.int .u8 (bt a0 x4_1)] rfl (by (try simp only [List.map_toArray, List.map_cons, List.map_nil]); first | done | rfl | (simp only [List.length_drop, List.length_take]; rfl)) ?_; (with_reducible refine (dbus_needsEscape.calls k1 (bt a0 x4_1) true _ A5.out).mono ?_); rintro e w' ⟨rfl, ⟨nd, rfl⟩⟩; refine ⟨_, rfl, ?_⟩))
            go_roundg k1
            case measure => have := HK1.out; omega
            case rel => exact ⟨(wrap64 (x3_1 + 1)), (wrap64 (x4_1 + 1)), (by first | rfl | (simp; done) | (simp [*]; done)), (by first | rfl | (simp; done) | (simp [*]; done)), H', ⟨by have := HK1.out; omega⟩, by repeat (first | exact Drawn0.refl _ | apply Drawn0.step)⟩
          · replace c6 := Bool.eq_false_iff.mpr c6
            subst c6
            have H1 : (dbus_strNeedsEscape.l0 k1 a0 x3_1 (wrap64 (x4_1 + 1))) = some r := by rw [if_neg (show ¬ (false = true) by decide)] at H; exact H
            clear H
            have H := H1
            clear H1
            have H' := Aside0.mk H
            clear H
            have p4 : 0 ≤ (x4_1 : Int) := of_decide_eq_true (by first | (with_reducible assumption) | assumption)
            have q4 : x4_1 < (a0.size : Int) := of_decide_eq_true (by first | (with_reducible assumption) | assumption)
            have hx4 := bt_at a0 x4_1
            replace p4 := eq_true p4
            replace q4 := eq_true q4
            go_wp2_with (first | ((with_reducible refine gate_callee (f := 21) rfl ?_); refine goesL_ (some 14) rfl rfl Try.func21 (by kernel_rfl) rfl #[.int .u8 (bt a0 x4_1)] rfl (by (try simp only [List.map_toArray, List.map_cons, List.map_nil]); first | done | rfl | (simp only [List.length_drop, List.length_take]; rfl)) ?_; (with_reducible refine (dbus_needsEscape.calls k1 (bt a0 x4_1) false _ A5.out).mono ?_); rintro e w' ⟨rfl, ⟨nd, rfl⟩⟩; refine ⟨_, rfl, ?_⟩))
            go_roundg k1
            case measure => have := HK1.out; omega
            case rel => exact ⟨(x3_1), (wrap64 (x4_1 + 1)), (by first | rfl | (simp; done) | (simp [*]; done)), (by first | rfl | (simp; done) | (simp [*]; done)), H', ⟨by have := HK1.out; omega⟩, by repeat (first | exact Drawn0.refl _ | apply Drawn0.step)⟩
        · rw [if_neg c3] at H
          exact absurd H (by simp)
      · rw [if_neg c2] at H
        have c2b0 : decide (x4_1 < (a0.size : Int)) = false := decide_eq_false c2
        clear c2
        obtain rfl := Option.some.inj H
        go_wp2
        go_ret
        exact ⟨by first | rfl | (simp; done) | (simp [*]; done), by repeat (first | exact Drawn0.refl _ | apply Drawn0.step)⟩

/-! ### dbus_hexchar: function 22 -/
def dbus_hexchar.f (a0 : Int) : Option (Int) := if 0 ≤ a0 then (if a0 < 16 then (some (bt (⟨#[48, 49, 50, 51, 52, 53, 54, 55, 56, 57, 97, 98, 99, 100, 101, 102]⟩ : ByteArray) a0)) else (none)) else (none)
set_option maxHeartbeats 8000000 in
set_option maxRecDepth 100000 in
theorem dbus_hexchar.calls (a0 : Int) (r : Int) (w : World) (h : dbus_hexchar.f a0 = some r) :
    Calls Try.prog 22 #[.int .u8 a0] w fun e w' => e = .returned (.int .u8 r) ∧ Drawn0 w w' := by
  have H : (if 0 ≤ a0 then (if a0 < 16 then (some (bt (⟨#[48, 49, 50, 51, 52, 53, 54, 55, 56, 57, 97, 98, 99, 100, 101, 102]⟩ : ByteArray) a0)) else (none)) else (none)) = some r := h
  clear h
  by_cases c2 : 0 ≤ a0
  · rw [if_pos c2] at H
    have c2b0 : decide (0 ≤ a0) = true := decide_eq_true c2
    clear c2
    by_cases c3 : a0 < 16
    · rw [if_pos c3] at H
      have c3b0 : decide (a0 < 16) = true := decide_eq_true c3
      clear c3
      obtain rfl := Option.some.inj H
      have p4 : 0 ≤ (a0 : Int) := of_decide_eq_true (by first | (with_reducible assumption) | assumption)
      have q4 : a0 < (16 : Int) := of_decide_eq_true (by first | (with_reducible assumption) | assumption)
      have hx4 := bt_at (⟨#[48, 49, 50, 51, 52, 53, 54, 55, 56, 57, 97, 98, 99, 100, 101, 102]⟩ : ByteArray) a0
      replace p4 := eq_true p4
      replace q4 := eq_true q4
      go_enter Try.func22, Try.ntmps22
      go_wp2
      go_ret
      exact ⟨by first | rfl | (simp; done) | (simp [*]; done), by repeat (first | exact Drawn0.refl _ | apply Drawn0.step)⟩
    · rw [if_neg c3] at H
      exact absurd H (by simp)
  · rw [if_neg c2] at H
    exact absurd H (by simp)

end Go.Proofs.Ytpgpkdickcdlpaa.MFnAdAddress
