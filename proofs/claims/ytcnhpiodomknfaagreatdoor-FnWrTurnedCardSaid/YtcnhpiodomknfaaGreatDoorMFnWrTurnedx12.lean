-- Written by a program of this session (myprint.py, out of the translation). Not trusted: Lean checks it.
import Derived.Test.YtcnhpiodomknfaaGreatDoorMFnWrTurnedx0
namespace Go.Proofs.YtcnhpiodomknfaaGreatDoor.MFnWrTurned
open Go.RowKit Go.Proofs.YtcnhpiodomknfaaGreatDoorW.PrintWords Go.Proofs.YtcnhpiodomknfaaGreatDoorW.PrintLast Go.Proofs.YtcnhpiodomknfaaGreatDoorW.PrintMore
attribute [local go_sem] max2_int min2_int max_two min_two max_three min_three max_four min_four   -- for this text's walks alone
set_option linter.unusedVariables false
set_option linter.unusedSimpArgs false

-- NOT PRINTED: function 70 (dbus_doorOne)

/-! ### dbus_zzSigToType: function 71 -/
def dbus_zzSigToType.f (a0 : Int) : Option (ByteArray × Bool) := if a0 = 121 then (some ((⟨#[121]⟩ : ByteArray), true)) else (if a0 = 98 then (some ((⟨#[98]⟩ : ByteArray), true)) else (if a0 = 110 then (some ((⟨#[110]⟩ : ByteArray), true)) else (if a0 = 113 then (some ((⟨#[113]⟩ : ByteArray), true)) else (if a0 = 105 then (some ((⟨#[105]⟩ : ByteArray), true)) else (if a0 = 117 then (some ((⟨#[117]⟩ : ByteArray), true)) else (if a0 = 120 then (some ((⟨#[120]⟩ : ByteArray), true)) else (if a0 = 116 then (some ((⟨#[116]⟩ : ByteArray), true)) else (if a0 = 100 then (some ((⟨#[100]⟩ : ByteArray), true)) else (if a0 = 115 then (some ((⟨#[115]⟩ : ByteArray), true)) else (if a0 = 103 then (some ((⟨#[103]⟩ : ByteArray), true)) else (if a0 = 111 then (some ((⟨#[111]⟩ : ByteArray), true)) else (if a0 = 118 then (some ((⟨#[118]⟩ : ByteArray), true)) else (if a0 = 104 then (some ((⟨#[104]⟩ : ByteArray), true)) else (some ((⟨#[]⟩ : ByteArray), false)))))))))))))))
set_option maxHeartbeats 8000000 in
set_option maxRecDepth 100000 in
theorem dbus_zzSigToType.calls (a0 : Int) (r1 : ByteArray) (r2 : Bool) (w : World) (h : dbus_zzSigToType.f a0 = some (r1, r2)) :
    Calls Tryz.prog 71 #[.int .u8 a0] w fun e w' => e = .returned (.tuple #[.string r1, .bool r2]) ∧ Drawn0 w w' := by
  have H : (if a0 = 121 then (some ((⟨#[121]⟩ : ByteArray), true)) else (if a0 = 98 then (some ((⟨#[98]⟩ : ByteArray), true)) else (if a0 = 110 then (some ((⟨#[110]⟩ : ByteArray), true)) else (if a0 = 113 then (some ((⟨#[113]⟩ : ByteArray), true)) else (if a0 = 105 then (some ((⟨#[105]⟩ : ByteArray), true)) else (if a0 = 117 then (some ((⟨#[117]⟩ : ByteArray), true)) else (if a0 = 120 then (some ((⟨#[120]⟩ : ByteArray), true)) else (if a0 = 116 then (some ((⟨#[116]⟩ : ByteArray), true)) else (if a0 = 100 then (some ((⟨#[100]⟩ : ByteArray), true)) else (if a0 = 115 then (some ((⟨#[115]⟩ : ByteArray), true)) else (if a0 = 103 then (some ((⟨#[103]⟩ : ByteArray), true)) else (if a0 = 111 then (some ((⟨#[111]⟩ : ByteArray), true)) else (if a0 = 118 then (some ((⟨#[118]⟩ : ByteArray), true)) else (if a0 = 104 then (some ((⟨#[104]⟩ : ByteArray), true)) else (some ((⟨#[]⟩ : ByteArray), false)))))))))))))))) = some (r1, r2) := h
  clear h
  by_cases c2 : a0 = 121
  · rw [if_pos c2] at H
    have c2b0 : (a0 == 121) = true := beq_iff_eq.mpr c2
    have c2b1 : (a0 != 121) = false := bne_eq_false_iff_eq.mpr c2
    clear c2
    simp only [Option.some.injEq, Prod.mk.injEq] at H
    obtain ⟨rfl, rfl⟩ := H
    go_enter Tryz.func71, Tryz.ntmps71
    go_wp2
    go_ret2
    exact ⟨by first | rfl | (simp; done) | (simp [*]; done), by repeat (first | exact Drawn0.refl _ | apply Drawn0.step)⟩
  · rw [if_neg c2] at H
    have c2b0 : (a0 == 121) = false := beq_eq_false_iff_ne.mpr c2
    have c2b1 : (a0 != 121) = true := bne_iff_ne.mpr c2
    by_cases c3 : a0 = 98
    · rw [if_pos c3] at H
      have c3b0 : (a0 == 98) = true := beq_iff_eq.mpr c3
      have c3b1 : (a0 != 98) = false := bne_eq_false_iff_eq.mpr c3
      clear c3
      simp only [Option.some.injEq, Prod.mk.injEq] at H
      obtain ⟨rfl, rfl⟩ := H
      go_enter Tryz.func71, Tryz.ntmps71
      go_wp2
      go_ret2
      exact ⟨by first | rfl | (simp; done) | (simp [*]; done), by repeat (first | exact Drawn0.refl _ | apply Drawn0.step)⟩
    · rw [if_neg c3] at H
      have c3b0 : (a0 == 98) = false := beq_eq_false_iff_ne.mpr c3
      have c3b1 : (a0 != 98) = true := bne_iff_ne.mpr c3
      by_cases c4 : a0 = 110
      · rw [if_pos c4] at H
        have c4b0 : (a0 == 110) = true := beq_iff_eq.mpr c4
        have c4b1 : (a0 != 110) = false := bne_eq_false_iff_eq.mpr c4
        clear c4
        simp only [Option.some.injEq, Prod.mk.injEq] at H
        obtain ⟨rfl, rfl⟩ := H
        go_enter Tryz.func71, Tryz.ntmps71
        go_wp2
        go_ret2
        exact ⟨by first | rfl | (simp; done) | (simp [*]; done), by repeat (first | exact Drawn0.refl _ | apply Drawn0.step)⟩
      · rw [if_neg c4] at H
        have c4b0 : (a0 == 110) = false := beq_eq_false_iff_ne.mpr c4
        have c4b1 : (a0 != 110) = true := bne_iff_ne.mpr c4
        by_cases c5 : a0 = 113
        · rw [if_pos c5] at H
          have c5b0 : (a0 == 113) = true := beq_iff_eq.mpr c5
          have c5b1 : (a0 != 113) = false := bne_eq_false_iff_eq.mpr c5
          clear c5
          simp only [Option.some.injEq, Prod.mk.injEq] at H
          obtain ⟨rfl, rfl⟩ := H
          go_enter Tryz.func71, Tryz.ntmps71
          go_wp2
          go_ret2
          exact ⟨by first | rfl | (simp; done) | (simp [*]; done), by repeat (first | exact Drawn0.refl _ | apply Drawn0.step)⟩
        · rw [if_neg c5] at H
          have c5b0 : (a0 == 113) = false := beq_eq_false_iff_ne.mpr c5
          have c5b1 : (a0 != 113) = true := bne_iff_ne.mpr c5
          by_cases c6 : a0 = 105
          · rw [if_pos c6] at H
            have c6b0 : (a0 == 105) = true := beq_iff_eq.mpr c6
            have c6b1 : (a0 != 105) = false := bne_eq_false_iff_eq.mpr c6
            clear c6
            simp only [Option.some.injEq, Prod.mk.injEq] at H
            obtain ⟨rfl, rfl⟩ := H
            go_enter Tryz.func71, Tryz.ntmps71
            go_wp2
            go_ret2
            exact ⟨by first | rfl | (simp; done) | (simp [*]; done), by repeat (first | exact Drawn0.refl _ | apply Drawn0.step)⟩
          · rw [if_neg c6] at H
            have c6b0 : (a0 == 105) = false := beq_eq_false_iff_ne.mpr c6
            have c6b1 : (a0 != 105) = true := bne_iff_ne.mpr c6
            by_cases c7 : a0 = 117
            · rw [if_pos c7] at H
              have c7b0 : (a0 == 117) = true := beq_iff_eq.mpr c7
              have c7b1 : (a0 != 117) = false := bne_eq_false_iff_eq.mpr c7
              clear c7
              simp only [Option.some.injEq, Prod.mk.injEq] at H
              obtain ⟨rfl, rfl⟩ := H
              go_enter Tryz.func71, Tryz.ntmps71
              go_wp2
              go_ret2
              exact ⟨by first | rfl | (simp; done) | (simp [*]; done), by repeat (first | exact Drawn0.refl _ | apply Drawn0.step)⟩
            · rw [if_neg c7] at H
              have c7b0 : (a0 == 117) = false := beq_eq_false_iff_ne.mpr c7
              have c7b1 : (a0 != 117) = true := bne_iff_ne.mpr c7
              by_cases c8 : a0 = 120
              · rw [if_pos c8] at H
                have c8b0 : (a0 == 120) = true := beq_iff_eq.mpr c8
                have c8b1 : (a0 != 120) = false := bne_eq_false_iff_eq.mpr c8
                clear c8
                simp only [Option.some.injEq, Prod.mk.injEq] at H
                obtain ⟨rfl, rfl⟩ := H
                go_enter Tryz.func71, Tryz.ntmps71
                go_wp2
                go_ret2
                exact ⟨by first | rfl | (simp; done) | (simp [*]; done), by repeat (first | exact Drawn0.refl _ | apply Drawn0.step)⟩
              · rw [if_neg c8] at H
                have c8b0 : (a0 == 120) = false := beq_eq_false_iff_ne.mpr c8
                have c8b1 : (a0 != 120) = true := bne_iff_ne.mpr c8
                by_cases c9 : a0 = 116
                · rw [if_pos c9] at H
                  have c9b0 : (a0 == 116) = true := beq_iff_eq.mpr c9
                  have c9b1 : (a0 != 116) = false := bne_eq_false_iff_eq.mpr c9
                  clear c9
                  simp only [Option.some.injEq, Prod.mk.injEq] at H
                  obtain ⟨rfl, rfl⟩ := H
                  go_enter Tryz.func71, Tryz.ntmps71
                  go_wp2
                  go_ret2
                  exact ⟨by first | rfl | (simp; done) | (simp [*]; done), by repeat (first | exact Drawn0.refl _ | apply Drawn0.step)⟩
                · rw [if_neg c9] at H
                  have c9b0 : (a0 == 116) = false := beq_eq_false_iff_ne.mpr c9
                  have c9b1 : (a0 != 116) = true := bne_iff_ne.mpr c9
                  by_cases c10 : a0 = 100
                  · rw [if_pos c10] at H
                    have c10b0 : (a0 == 100) = true := beq_iff_eq.mpr c10
                    have c10b1 : (a0 != 100) = false := bne_eq_false_iff_eq.mpr c10
                    clear c10
                    simp only [Option.some.injEq, Prod.mk.injEq] at H
                    obtain ⟨rfl, rfl⟩ := H
                    go_enter Tryz.func71, Tryz.ntmps71
                    go_wp2
                    go_ret2
                    exact ⟨by first | rfl | (simp; done) | (simp [*]; done), by repeat (first | exact Drawn0.refl _ | apply Drawn0.step)⟩
                  · rw [if_neg c10] at H
                    have c10b0 : (a0 == 100) = false := beq_eq_false_iff_ne.mpr c10
                    have c10b1 : (a0 != 100) = true := bne_iff_ne.mpr c10
                    by_cases c11 : a0 = 115
                    · rw [if_pos c11] at H
                      have c11b0 : (a0 == 115) = true := beq_iff_eq.mpr c11
                      have c11b1 : (a0 != 115) = false := bne_eq_false_iff_eq.mpr c11
                      clear c11
                      simp only [Option.some.injEq, Prod.mk.injEq] at H
                      obtain ⟨rfl, rfl⟩ := H
                      go_enter Tryz.func71, Tryz.ntmps71
                      go_wp2
                      go_ret2
                      exact ⟨by first | rfl | (simp; done) | (simp [*]; done), by repeat (first | exact Drawn0.refl _ | apply Drawn0.step)⟩
                    · rw [if_neg c11] at H
                      have c11b0 : (a0 == 115) = false := beq_eq_false_iff_ne.mpr c11
                      have c11b1 : (a0 != 115) = true := bne_iff_ne.mpr c11
                      by_cases c12 : a0 = 103
                      · rw [if_pos c12] at H
                        have c12b0 : (a0 == 103) = true := beq_iff_eq.mpr c12
                        have c12b1 : (a0 != 103) = false := bne_eq_false_iff_eq.mpr c12
                        clear c12
                        simp only [Option.some.injEq, Prod.mk.injEq] at H
                        obtain ⟨rfl, rfl⟩ := H
                        go_enter Tryz.func71, Tryz.ntmps71
                        go_wp2
                        go_ret2
                        exact ⟨by first | rfl | (simp; done) | (simp [*]; done), by repeat (first | exact Drawn0.refl _ | apply Drawn0.step)⟩
                      · rw [if_neg c12] at H
                        have c12b0 : (a0 == 103) = false := beq_eq_false_iff_ne.mpr c12
                        have c12b1 : (a0 != 103) = true := bne_iff_ne.mpr c12
                        by_cases c13 : a0 = 111
                        · rw [if_pos c13] at H
                          have c13b0 : (a0 == 111) = true := beq_iff_eq.mpr c13
                          have c13b1 : (a0 != 111) = false := bne_eq_false_iff_eq.mpr c13
                          clear c13
                          simp only [Option.some.injEq, Prod.mk.injEq] at H
                          obtain ⟨rfl, rfl⟩ := H
                          go_enter Tryz.func71, Tryz.ntmps71
                          go_wp2
                          go_ret2
                          exact ⟨by first | rfl | (simp; done) | (simp [*]; done), by repeat (first | exact Drawn0.refl _ | apply Drawn0.step)⟩
                        · rw [if_neg c13] at H
                          have c13b0 : (a0 == 111) = false := beq_eq_false_iff_ne.mpr c13
                          have c13b1 : (a0 != 111) = true := bne_iff_ne.mpr c13
                          by_cases c14 : a0 = 118
                          · rw [if_pos c14] at H
                            have c14b0 : (a0 == 118) = true := beq_iff_eq.mpr c14
                            have c14b1 : (a0 != 118) = false := bne_eq_false_iff_eq.mpr c14
                            clear c14
                            simp only [Option.some.injEq, Prod.mk.injEq] at H
                            obtain ⟨rfl, rfl⟩ := H
                            go_enter Tryz.func71, Tryz.ntmps71
                            go_wp2
                            go_ret2
                            exact ⟨by first | rfl | (simp; done) | (simp [*]; done), by repeat (first | exact Drawn0.refl _ | apply Drawn0.step)⟩
                          · rw [if_neg c14] at H
                            have c14b0 : (a0 == 118) = false := beq_eq_false_iff_ne.mpr c14
                            have c14b1 : (a0 != 118) = true := bne_iff_ne.mpr c14
                            by_cases c15 : a0 = 104
                            · rw [if_pos c15] at H
                              have c15b0 : (a0 == 104) = true := beq_iff_eq.mpr c15
                              have c15b1 : (a0 != 104) = false := bne_eq_false_iff_eq.mpr c15
                              clear c15
                              simp only [Option.some.injEq, Prod.mk.injEq] at H
                              obtain ⟨rfl, rfl⟩ := H
                              go_enter Tryz.func71, Tryz.ntmps71
                              go_wp2
                              go_ret2
                              exact ⟨by first | rfl | (simp; done) | (simp [*]; done), by repeat (first | exact Drawn0.refl _ | apply Drawn0.step)⟩
                            · rw [if_neg c15] at H
                              have c15b0 : (a0 == 104) = false := beq_eq_false_iff_ne.mpr c15
                              have c15b1 : (a0 != 104) = true := bne_iff_ne.mpr c15
                              simp only [Option.some.injEq, Prod.mk.injEq] at H
                              obtain ⟨rfl, rfl⟩ := H
                              go_enter Tryz.func71, Tryz.ntmps71
                              go_wp2
                              go_ret2
                              exact ⟨by first | rfl | (simp; done) | (simp [*]; done), by repeat (first | exact Drawn0.refl _ | apply Drawn0.step)⟩

-- NOT PRINTED: function 55 (dbus_doorType)

-- NOT PRINTED: function 56 (dbus_zzValue_SetMapIndex)

-- NOT PRINTED: function 21 (dbus_doorIn)

-- NOT PRINTED: function 15 (dbus_doorsIn)

-- NOT PRINTED: function 16 (bytes_Buffer_String)

-- NOT PRINTED: function 9 (dbus_DoorEncode)

/-! ### impl_valIn: function 17 -/
mutual
def impl_valIn.l0 : Nat → List (S28) → Int → Int → Int → Int → ByteArray → List (S59) → Option (Int × Int × ByteArray × (List (S59)))
  | 0, _, _, _, _, _, _, _ => none
  | k + 1, x14, x15, x16, x146000, x146001, x146002, x146003 => if x16 < x15 then (if 0 ≤ x16 then (if x16 < (x14.length : Int) then ((impl_valIn.f k ((rd_T28 x14 x16).f0) ((rd_T28 x14 x16).f1) ((rd_T28 x14 x16).f2) ((rd_T28 x14 x16).f3)).bind fun bt148 => (if x146003.length < 2513169434916 then (impl_valIn.l0 k x14 x15 (wrap64 (x16 + 1)) x146000 x146001 x146002 (x146003 ++ [(⟨bt148.1, bt148.2.1, bt148.2.2.1, bt148.2.2.2⟩ : S59)])) else (none))) else (none)) else (none)) else (some (x146000, x146001, x146002, x146003))
def impl_valIn.f : Nat → Int → Int → ByteArray → List (S28) → Option (Int × Int × ByteArray × (List (S59)))
  | 0, _, _, _, _ => none
  | k + 1, a0_0, a0_1, a0_2, l0_3 => impl_valIn.l0 k l0_3 (l0_3.length : Int) 0 a0_0 a0_1 a0_2 ([] : List (S59))
end
theorem impl_valIn.mono_l : ∀ k, (∀ y0 y1 y2 y3, LeO (impl_valIn.f k y0 y1 y2 y3) (impl_valIn.f (k + 1) y0 y1 y2 y3)) ∧ (∀ y0 y1 y2 y3 y4 y5 y6, LeO (impl_valIn.l0 k y0 y1 y2 y3 y4 y5 y6) (impl_valIn.l0 (k + 1) y0 y1 y2 y3 y4 y5 y6))
  | 0 => ⟨fun _ _ _ _ r h => by simp [impl_valIn.f] at h, fun _ _ _ _ _ _ _ r h => by simp [impl_valIn.l0] at h⟩
  | k + 1 => by
    obtain ⟨ih0, ih1⟩ := impl_valIn.mono_l k
    refine ⟨?_, ?_⟩
    · intro y0 y1 y2 y3
      unfold impl_valIn.f
      repeat' first
      | (with_reducible exact ih0 _ _ _ _)
      | (with_reducible exact ih1 _ _ _ _ _ _ _)
      | (with_reducible exact LeO.refl _)
      | (with_reducible exact LeO.none _)
      | (with_reducible refine LeO.ite ?_ ?_)
      | (with_reducible refine LeO.bind ?_ (fun _ => ?_))
      | exact ih0 _ _ _ _
      | exact ih1 _ _ _ _ _ _ _
      | exact LeO.none _
      | refine LeO.ite ?_ ?_
      | refine LeO.bind ?_ (fun _ => ?_)
    · intro y0 y1 y2 y3 y4 y5 y6
      unfold impl_valIn.l0
      repeat' first
      | (with_reducible exact ih0 _ _ _ _)
      | (with_reducible exact ih1 _ _ _ _ _ _ _)
      | (with_reducible exact LeO.refl _)
      | (with_reducible exact LeO.none _)
      | (with_reducible refine LeO.ite ?_ ?_)
      | (with_reducible refine LeO.bind ?_ (fun _ => ?_))
      | exact ih0 _ _ _ _
      | exact ih1 _ _ _ _ _ _ _
      | exact LeO.none _
      | refine LeO.ite ?_ ?_
      | refine LeO.bind ?_ (fun _ => ?_)
theorem impl_valIn.mono : ∀ a0 a1 a2 a3 k, LeO (impl_valIn.f k a0 a1 a2 a3) (impl_valIn.f (k + 1) a0 a1 a2 a3) := by
  intro a0 a1 a2 a3 k
  obtain ⟨ih0, ih1⟩ := impl_valIn.mono_l k
  exact ih0 a0 a1 a2 a3
def impl_valIn.T5 : Bool × List (List Nat × List Nat) := (true, [([], []), ([0], [0]), ([], []), ([2], [2]), ([3], [3]), ([1, 4, 3], [1, 4]), ([0, 1, 2, 3, 4, 5], []), ([6, 5, 5, 0, 1, 2, 3, 4, 5], [5, 6])])
def impl_valIn.B5 : List Nat := [0, 1, 0, 4, 12, 31, 63, 127]
theorem impl_valIn.tab5 : rtab .any (opsOf Tryz.f17 5) = impl_valIn.T5 := by kernel_rfl
theorem impl_valIn.bits5 : waitsOk impl_valIn.T5.2 impl_valIn.B5 = true := by kernel_rfl
set_option maxHeartbeats 8000000 in
set_option maxRecDepth 100000 in
theorem impl_valIn.calls (k : Nat) : ∀ (a0_0 : Int) (a0_1 : Int) (a0_2 : ByteArray) (A0_3 : Option Addr) (c0_3 : Nat) (l0_3 : List (S28)) (r1 : Int) (r2 : Int) (r3 : ByteArray) (r4 : List (S59)) (w : World) (hr0_3 : Kd.C k28 w A0_3 l0_3.length l0_3) (hc0_3 : l0_3.length ≤ c0_3) (h : impl_valIn.f k a0_0 a0_1 a0_2 l0_3 = some (r1, r2, r3, r4)),
    Calls Tryz.prog 17 #[.agg #[.int .u8 a0_0, .int .u64 a0_1, .string a0_2, .slice A0_3 l0_3.length c0_3]] w fun e w' => ∃ v3_ : Value, e = .returned (.agg #[.int .u8 r1, .int .u64 r2, .string r3, v3_]) ∧ Kd.R k59 59 w' w.heap.size (fun _ => True) v3_ r4 ∧ Below w.heap.size w w' := by
  induction k using Nat.strongRecOn with
  | _ k ih =>
  intro a0_0 a0_1 a0_2 A0_3 c0_3 l0_3 r1 r2 r3 r4 w hr0_3 hc0_3 h
  cases k with
  | zero => exact absurd h (by simp [impl_valIn.f])
  | succ k =>
  simp only [impl_valIn.f] at h
  have hu28 := Tryz.underlying28
  have hu59 := Tryz.underlying59
  have HR0_3 := Aside0.mk hr0_3
  have HC0_3 := Aside0.mk hc0_3
  clear hr0_3 hc0_3
  have HB := Aside0.mk (Below.refl w.heap.size w)
  have H : (impl_valIn.l0 k l0_3 (l0_3.length : Int) 0 a0_0 a0_1 a0_2 ([] : List (S59))) = some (r1, r2, r3, r4) := h
  clear h
  have H' := Aside0.mk H
  clear H
  go_enter Tryz.func17, Tryz.ntmps17
  go_wp2_with (first | ((with_reducible refine gate_dst (N := 1) rfl ?_); refine box_event ?hg (N := 1) ?hd (cs := #[.int .u8 a0_0, .int .u64 a0_1, .string a0_2, .slice A0_3 l0_3.length c0_3]) (t := 28) ?hr ?_; (case hd => rfl); (case hg => rfl); (case hr => first | (go_simp; done) | (go_simp; rfl)); intro gb143 hg w2 hbox hb; have n0_ := Aside0.mk (below_step (by repeat (first | (with_reducible first | exact HB.out | apply below_alloc | apply pw_below_drewN | apply below_drew1) | exact HB.out)) hb); have n1_ := Aside0.mk (hbox); have n2_ := Aside0.mk ((by rw [hg]; exact (below_size (by repeat (first | (with_reducible first | exact HB.out | apply below_alloc | apply pw_below_drewN | apply below_drew1) | exact HB.out))) : w.heap.size ≤ gb143)); have n3_ := Aside0.mk ((by rw [hg]; exact (below_size (by repeat (first | (with_reducible first | exact HB.out | apply below_alloc | apply pw_below_drewN | apply below_drew1) | exact HB.out))) : w.heap.size ≤ gb143)); clear HB; have HB := n0_; have BK143 := n1_; have GW143 := n2_; have GE143 := n3_; clear n0_ n1_ n2_ n3_; clear hb hbox hg) | ((with_reducible refine gate_dst (N := 2) rfl ?_); refine box_event ?hg (N := 2) ?hd (cs := #[.int .u8 0, .int .u64 0, .string (⟨#[]⟩ : ByteArray), .slice none 0 0]) (t := 59) ?hr ?_; (case hd => rfl); (case hg => rfl); (case hr => first | (go_simp; done) | (go_simp; rfl)); intro gb144 hg w3 hbox hb; have n0_ := Aside0.mk (blk_below (g := gb143) (o := .cells #[.int .u8 a0_0, .int .u64 a0_1, .string a0_2, .slice A0_3 l0_3.length c0_3] 28 (0, 0)) (by (with_reducible repeat (first | refine blk_drewN ?_ _ | refine blk_drew ?_ | refine blk_alloc ?_ _)); exact BK143.out) hb); have n1_ := Aside0.mk (below_step (by repeat (first | (with_reducible first | exact HB.out | apply below_alloc | apply pw_below_drewN | apply below_drew1 | refine below_set ?_ GE143.out) | exact HB.out)) hb); have n2_ := Aside0.mk (hbox); have n3_ := Aside0.mk ((by rw [hg]; exact (below_size (by repeat (first | (with_reducible first | exact HB.out | apply below_alloc | apply pw_below_drewN | apply below_drew1 | refine below_set ?_ GE143.out) | exact HB.out))) : w.heap.size ≤ gb144)); have n4_ := Aside0.mk ((by rw [hg]; exact (below_size (by repeat (first | (with_reducible first | exact HB.out | apply below_alloc | apply pw_below_drewN | apply below_drew1 | refine below_set ?_ GE143.out) | exact HB.out))) : w.heap.size ≤ gb144)); have n5_ := Aside0.mk ((by rw [hg]; exact Nat.ne_of_lt (blk_lt (g := gb143) (o := .cells #[.int .u8 a0_0, .int .u64 a0_1, .string a0_2, .slice A0_3 l0_3.length c0_3] 28 (0, 0)) (by (with_reducible repeat (first | refine blk_drewN ?_ _ | refine blk_drew ?_ | refine blk_alloc ?_ _)); exact BK143.out)) : gb143 ≠ gb144)); have n6_ := Aside0.mk ((by rw [hg]; exact Nat.ne_of_gt (blk_lt (g := gb143) (o := .cells #[.int .u8 a0_0, .int .u64 a0_1, .string a0_2, .slice A0_3 l0_3.length c0_3] 28 (0, 0)) (by (with_reducible repeat (first | refine blk_drewN ?_ _ | refine blk_drew ?_ | refine blk_alloc ?_ _)); exact BK143.out)) : gb144 ≠ gb143)); clear BK143; clear HB; have BK143 := n0_; have HB := n1_; have BK144 := n2_; have GW144 := n3_; have GE144 := n4_; have NB143_144 := n5_; have NB144_143 := n6_; clear n0_ n1_ n2_ n3_ n4_ n5_ n6_; clear hb hbox hg; have hnb4 := NB143_144.out; have hnc4 := NB144_143.out; have hcz5_0 : w3.cell? ⟨gb143, 0, none⟩ = some (.int .u8 a0_0) := (blk_cell BK143.out 0).trans rfl; have hcz5_1 : w3.cell? ⟨gb143, 1, none⟩ = some (.int .u64 a0_1) := (blk_cell BK143.out 1).trans rfl; have hcz5_2 : w3.cell? ⟨gb143, 2, none⟩ = some (.string a0_2) := (blk_cell BK143.out 2).trans rfl; have hcz5_3 : w3.cell? ⟨gb143, 3, none⟩ = some (.slice A0_3 l0_3.length c0_3) := (blk_cell BK143.out 3).trans rfl; have hfz5_0 := blk_frozen BK143.out 0; have hfz5_1 := blk_frozen BK143.out 1; have hfz5_2 := blk_frozen BK143.out 2; have hfz5_3 := blk_frozen BK143.out 3) | ((with_reducible refine gate_dst (N := 3) rfl ?_); refine box_event ?hg (N := 3) ?hd (cs := #[.int .u8 0, .int .u64 0, .string (⟨#[]⟩ : ByteArray), .slice none 0 0]) (t := 59) ?hr ?_; (case hd => rfl); (case hg => rfl); (case hr => first | (go_simp; done) | (go_simp; rfl)); intro gb145 hg w6 hbox hb; have n0_ := Aside0.mk (blk_below (g := gb143) (o := .cells #[.int .u8 a0_0, .int .u64 a0_1, .string a0_2, .slice A0_3 l0_3.length c0_3] 28 (0, 0)) (by (with_reducible repeat (first | refine blk_drewN ?_ _ | refine blk_drew ?_ | refine blk_alloc ?_ _)); exact BK143.out) hb); have n1_ := Aside0.mk (blk_below (g := gb144) (o := .cells #[.int .u8 0, .int .u64 0, .string (⟨#[]⟩ : ByteArray), .slice none 0 0] 59 (0, 0)) (by (with_reducible repeat (first | refine blk_drewN ?_ _ | refine blk_drew ?_ | refine blk_alloc ?_ _)); exact BK144.out) hb); have n2_ := Aside0.mk (below_step (by repeat (first | (with_reducible first | exact HB.out | apply below_alloc | apply pw_below_drewN | apply below_drew1 | refine below_set ?_ GE143.out | refine below_set ?_ GE144.out) | exact HB.out)) hb); have n3_ := Aside0.mk (hbox); have n4_ := Aside0.mk ((by rw [hg]; exact (below_size (by repeat (first | (with_reducible first | exact HB.out | apply below_alloc | apply pw_below_drewN | apply below_drew1 | refine below_set ?_ GE143.out | refine below_set ?_ GE144.out) | exact HB.out))) : w.heap.size ≤ gb145)); have n5_ := Aside0.mk ((by rw [hg]; exact (below_size (by repeat (first | (with_reducible first | exact HB.out | apply below_alloc | apply pw_below_drewN | apply below_drew1 | refine below_set ?_ GE143.out | refine below_set ?_ GE144.out) | exact HB.out))) : w.heap.size ≤ gb145)); have n6_ := Aside0.mk ((by rw [hg]; exact Nat.ne_of_lt (blk_lt (g := gb143) (o := .cells #[.int .u8 a0_0, .int .u64 a0_1, .string a0_2, .slice A0_3 l0_3.length c0_3] 28 (0, 0)) (by (with_reducible repeat (first | refine blk_drewN ?_ _ | refine blk_drew ?_ | refine blk_alloc ?_ _)); exact BK143.out)) : gb143 ≠ gb145)); have n7_ := Aside0.mk ((by rw [hg]; exact Nat.ne_of_gt (blk_lt (g := gb143) (o := .cells #[.int .u8 a0_0, .int .u64 a0_1, .string a0_2, .slice A0_3 l0_3.length c0_3] 28 (0, 0)) (by (with_reducible repeat (first | refine blk_drewN ?_ _ | refine blk_drew ?_ | refine blk_alloc ?_ _)); exact BK143.out)) : gb145 ≠ gb143)); have n8_ := Aside0.mk ((by rw [hg]; exact Nat.ne_of_lt (blk_lt (g := gb144) (o := .cells #[.int .u8 0, .int .u64 0, .string (⟨#[]⟩ : ByteArray), .slice none 0 0] 59 (0, 0)) (by (with_reducible repeat (first | refine blk_drewN ?_ _ | refine blk_drew ?_ | refine blk_alloc ?_ _)); exact BK144.out)) : gb144 ≠ gb145)); have n9_ := Aside0.mk ((by rw [hg]; exact Nat.ne_of_gt (blk_lt (g := gb144) (o := .cells #[.int .u8 0, .int .u64 0, .string (⟨#[]⟩ : ByteArray), .slice none 0 0] 59 (0, 0)) (by (with_reducible repeat (first | refine blk_drewN ?_ _ | refine blk_drew ?_ | refine blk_alloc ?_ _)); exact BK144.out)) : gb145 ≠ gb144)); clear BK143; clear BK144; clear HB; have BK143 := n0_; have BK144 := n1_; have HB := n2_; have BK145 := n3_; have GW145 := n4_; have GE145 := n5_; have NB143_145 := n6_; have NB145_143 := n7_; have NB144_145 := n8_; have NB145_144 := n9_; clear n0_ n1_ n2_ n3_ n4_ n5_ n6_ n7_ n8_ n9_; clear hb hbox hg; have hnb7 := NB145_143.out; have hnc7 := NB143_145.out; have hnb8 := NB145_144.out; have hnc8 := NB144_145.out; have hcz9_0 : w6.cell? ⟨gb145, 0, none⟩ = some (.int .u8 0) := (blk_cell BK145.out 0).trans rfl; have hcz9_1 : w6.cell? ⟨gb145, 1, none⟩ = some (.int .u64 0) := (blk_cell BK145.out 1).trans rfl; have hcz9_2 : w6.cell? ⟨gb145, 2, none⟩ = some (.string (⟨#[]⟩ : ByteArray)) := (blk_cell BK145.out 2).trans rfl; have hcz9_3 : w6.cell? ⟨gb145, 3, none⟩ = some (.slice none 0 0) := (blk_cell BK145.out 3).trans rfl; have hfz9_0 := blk_frozen BK145.out 0; have hfz9_1 := blk_frozen BK145.out 1; have hfz9_2 := blk_frozen BK145.out 2; have hfz9_3 := blk_frozen BK145.out 3; have hcz10_0 : w6.cell? ⟨gb143, 0, none⟩ = some (.int .u8 a0_0) := (blk_cell BK143.out 0).trans rfl; have hcz10_1 : w6.cell? ⟨gb143, 1, none⟩ = some (.int .u64 a0_1) := (blk_cell BK143.out 1).trans rfl; have hcz10_2 : w6.cell? ⟨gb143, 2, none⟩ = some (.string a0_2) := (blk_cell BK143.out 2).trans rfl; have hcz10_3 : w6.cell? ⟨gb143, 3, none⟩ = some (.slice A0_3 l0_3.length c0_3) := (blk_cell BK143.out 3).trans rfl; have hfz10_0 := blk_frozen BK143.out 0; have hfz10_1 := blk_frozen BK143.out 1; have hfz10_2 := blk_frozen BK143.out 2; have hfz10_3 := blk_frozen BK143.out 3))
  go_loopg [16] k (fun kq v16 w' => ∃ (x16_1 : Int) (x146003_1 : List (S59)) (u146003 : Value), v16 = .int .i64 x16_1 ∧ Aside0 (impl_valIn.l0 kq l0_3 (l0_3.length : Int) x16_1 a0_0 a0_1 a0_2 x146003_1 = some (r1, r2, r3, r4)) ∧ Aside0 (kq ≤ k) ∧ Aside0 (Kd.R k59 59 w' w.heap.size (fun k_ => k_ ≠ gb144 ∧ k_ ≠ gb145) u146003 x146003_1) ∧ Aside0 (w'.heap[gb143]? = some (.cells #[.int .u8 a0_0, .int .u64 a0_1, .string a0_2, (.slice A0_3 l0_3.length c0_3)] 28 (0, 0))) ∧ Aside0 (w'.heap[gb144]? = some (.cells #[.int .u8 0, .int .u64 0, .string (⟨#[]⟩ : ByteArray), (.slice none 0 0)] 59 (0, 0))) ∧ Aside0 (w'.heap[gb145]? = some (.cells #[.int .u8 a0_0, .int .u64 a0_1, .string a0_2, u146003] 59 (0, 0))) ∧ Aside0 (Below w.heap.size w w'))
  case atStart => exact ⟨(0), (([] : List (S59))), (.slice none 0 0), (by first | rfl | (simp; done) | (simp [*]; done)), H', ⟨Nat.le_refl _⟩, ⟨by first | exact Kd.R_nil _ _ _ _ _ | exact Kd.N_nil _ _ _ _ _ | exact Kd.V_nil _ _ _ _ _ | exact Kd.Q_nil _ _ _ _ _ | exact Kd.S_nil _ _ _ _ _⟩, ⟨by (with_reducible repeat (first | refine blk_drewN ?_ _ | refine blk_drew ?_ | refine blk_alloc ?_ _)); refine blk_far ?_ NB143_145.out _; (with_reducible repeat (first | refine blk_drewN ?_ _ | refine blk_drew ?_ | refine blk_alloc ?_ _)); refine blk_far ?_ NB143_145.out _; (with_reducible repeat (first | refine blk_drewN ?_ _ | refine blk_drew ?_ | refine blk_alloc ?_ _)); refine blk_far ?_ NB143_145.out _; (with_reducible repeat (first | refine blk_drewN ?_ _ | refine blk_drew ?_ | refine blk_alloc ?_ _)); refine blk_far ?_ NB143_145.out _; (with_reducible repeat (first | refine blk_drewN ?_ _ | refine blk_drew ?_ | refine blk_alloc ?_ _)); exact BK143.out⟩, ⟨by (with_reducible repeat (first | refine blk_drewN ?_ _ | refine blk_drew ?_ | refine blk_alloc ?_ _)); refine blk_far ?_ NB144_145.out _; (with_reducible repeat (first | refine blk_drewN ?_ _ | refine blk_drew ?_ | refine blk_alloc ?_ _)); refine blk_far ?_ NB144_145.out _; (with_reducible repeat (first | refine blk_drewN ?_ _ | refine blk_drew ?_ | refine blk_alloc ?_ _)); refine blk_far ?_ NB144_145.out _; (with_reducible repeat (first | refine blk_drewN ?_ _ | refine blk_drew ?_ | refine blk_alloc ?_ _)); refine blk_far ?_ NB144_145.out _; (with_reducible repeat (first | refine blk_drewN ?_ _ | refine blk_drew ?_ | refine blk_alloc ?_ _)); exact BK144.out⟩, ⟨by (with_reducible repeat (first | refine blk_drewN ?_ _ | refine blk_drew ?_ | refine blk_alloc ?_ _)); refine blk_put (cs := #[.int .u8 a0_0, .int .u64 a0_1, .string a0_2, .slice none 0 0]) ?_ 3 _ rfl; (with_reducible repeat (first | refine blk_drewN ?_ _ | refine blk_drew ?_ | refine blk_alloc ?_ _)); refine blk_put (cs := #[.int .u8 a0_0, .int .u64 a0_1, .string (⟨#[]⟩ : ByteArray), .slice none 0 0]) ?_ 2 _ rfl; (with_reducible repeat (first | refine blk_drewN ?_ _ | refine blk_drew ?_ | refine blk_alloc ?_ _)); refine blk_put (cs := #[.int .u8 a0_0, .int .u64 0, .string (⟨#[]⟩ : ByteArray), .slice none 0 0]) ?_ 1 _ rfl; (with_reducible repeat (first | refine blk_drewN ?_ _ | refine blk_drew ?_ | refine blk_alloc ?_ _)); refine blk_put (cs := #[.int .u8 0, .int .u64 0, .string (⟨#[]⟩ : ByteArray), .slice none 0 0]) ?_ 0 _ rfl; (with_reducible repeat (first | refine blk_drewN ?_ _ | refine blk_drew ?_ | refine blk_alloc ?_ _)); exact BK145.out⟩, ⟨by repeat (first | (with_reducible first | exact HB.out | apply below_alloc | apply pw_below_drewN | apply below_drew1 | refine below_set ?_ GE143.out | refine below_set ?_ GE144.out | refine below_set ?_ GE145.out) | exact HB.out)⟩⟩
  case round =>
    clear H'
    try clear c1
    try clear p2
    try clear c4
    try clear c7
    try clear c8
    try clear hcz10_0
    try clear hcz10_1
    try clear hcz10_2
    try clear hcz10_3
    try clear hcz5_0
    try clear hcz5_1
    try clear hcz5_2
    try clear hcz5_3
    try clear hcz9_0
    try clear hcz9_1
    try clear hcz9_2
    try clear hcz9_3
    try clear hfz10_0
    try clear hfz10_1
    try clear hfz10_2
    try clear hfz10_3
    try clear hfz5_0
    try clear hfz5_1
    try clear hfz5_2
    try clear hfz5_3
    try clear hfz9_0
    try clear hfz9_1
    try clear hfz9_2
    try clear hfz9_3
    obtain ⟨x16_1, x146003_1, u146003, rfl, HA, HK1, HO_146003, BK143, BK144, BK145, HB⟩ := hrel
    cases gk with
    | zero => exact absurd HA.out (by simp [impl_valIn.l0])
    | succ k1 =>
      have H := HA.out
      clear HA
      simp only [impl_valIn.l0] at H
      by_cases c11 : x16_1 < (l0_3.length : Int)
      · rw [if_pos c11] at H
        have c11b0 : decide (x16_1 < (l0_3.length : Int)) = true := decide_eq_true c11
        clear c11
        by_cases c12 : 0 ≤ x16_1
        · rw [if_pos c12] at H
          have c12b0 : decide (0 ≤ x16_1) = true := decide_eq_true c12
          clear c12
          by_cases c13 : x16_1 < (l0_3.length : Int)
          · rw [if_pos c13] at H
            have c13b0 : decide (x16_1 < (l0_3.length : Int)) = true := decide_eq_true c13
            clear c13
            replace H := Option.bind_eq_some_iff.mp H
            obtain ⟨⟨t148, t149, t150, t151⟩, A140, H⟩ := H
            replace H : (if x146003_1.length < 2513169434916 then (impl_valIn.l0 k1 l0_3 (l0_3.length : Int) (wrap64 (x16_1 + 1)) a0_0 a0_1 a0_2 (x146003_1 ++ [(⟨t148, t149, t150, t151⟩ : S59)])) else (none)) = some (r1, r2, r3, r4) := H
            have A14 := Aside0.mk A140
            clear A140
            by_cases c15 : x146003_1.length < 2513169434916
            · rw [if_pos c15] at H
              have LMc15 := Aside0.mk c15
              clear c15
              obtain ⟨y154, hy154⟩ : ∃ y_ : List (S59), y_ = (x146003_1 ++ [(⟨t148, t149, t150, t151⟩ : S59)]) := ⟨_, rfl⟩
              replace H : (impl_valIn.l0 k1 l0_3 (l0_3.length : Int) (wrap64 (x16_1 + 1)) a0_0 a0_1 a0_2 y154) = some (r1, r2, r3, r4) := by first | (rw [hy154]; with_reducible exact H) | (have H2_ := (Option.bind_some _ _).symm.trans H; rw [hy154]; with_reducible exact H2_) | (have H2_ := (Option.bind_some _ _).symm.trans H; with_reducible exact H2_) | with_reducible exact H | (rw [hy154]; exact H) | exact H
              have Ny154 := Aside0.mk hy154
              clear hy154
              have H' := Aside0.mk H
              clear H
              have p146 : 0 ≤ (x16_1 : Int) := of_decide_eq_true (by first | (with_reducible assumption) | assumption)
              have q146 : x16_1 < (l0_3.length : Int) := of_decide_eq_true (by first | (with_reducible assumption) | assumption)
              obtain ⟨ad146, A146_3, c146_3, e146, hx146_0, hx146_1, hx146_2, hx146_3, hl146_3, hi146_3⟩ := at_T28 HR0_3.out x16_1 p146 q146
              cases e146
              replace hx146_0 := (HB.out.cell (World.block_lt_of_cell? w _ hx146_0)).trans hx146_0
              replace hx146_1 := (HB.out.cell (World.block_lt_of_cell? w _ hx146_1)).trans hx146_1
              replace hx146_2 := (HB.out.cell (World.block_lt_of_cell? w _ hx146_2)).trans hx146_2
              replace hx146_3 := (HB.out.cell (World.block_lt_of_cell? w _ hx146_3)).trans hx146_3
              have HR146_3 := Aside0.mk hi146_3
              have HC146_3 := Aside0.mk hl146_3
              clear hi146_3 hl146_3
              replace p146 := eq_true p146
              replace q146 := eq_true q146
              try go_wp2_with (first | ((with_reducible refine gate_dst (N := 5) rfl ?_); refine box_event ?hg (N := 5) ?hd (cs := #[.int .u8 0, .int .u64 0, .string (⟨#[]⟩ : ByteArray), .slice none 0 0]) (t := 28) ?hr ?_; (case hd => rfl); (case hg => rfl); (case hr => first | (go_simp; done) | (go_simp; rfl)); intro gb147 hg w16 hbox hb; have n0_ := Aside0.mk (Kd.R_below (by (with_reducible repeat (first | apply Kd.R_alloc | apply Kd.R_drewN | apply Kd.R_drew)); exact HO_146003.out) hb); have n1_ := Aside0.mk (blk_below (g := gb143) (o := .cells #[.int .u8 a0_0, .int .u64 a0_1, .string a0_2, .slice (some ad146) l0_3.length c0_3] 28 (0, 0)) (by (with_reducible repeat (first | refine blk_drewN ?_ _ | refine blk_drew ?_ | refine blk_alloc ?_ _)); exact BK143.out) hb); have n2_ := Aside0.mk (blk_below (g := gb144) (o := .cells #[.int .u8 0, .int .u64 0, .string (⟨#[]⟩ : ByteArray), .slice none 0 0] 59 (0, 0)) (by (with_reducible repeat (first | refine blk_drewN ?_ _ | refine blk_drew ?_ | refine blk_alloc ?_ _)); exact BK144.out) hb); have n3_ := Aside0.mk (blk_below (g := gb145) (o := .cells #[.int .u8 a0_0, .int .u64 a0_1, .string a0_2, u146003] 59 (0, 0)) (by (with_reducible repeat (first | refine blk_drewN ?_ _ | refine blk_drew ?_ | refine blk_alloc ?_ _)); exact BK145.out) hb); have n4_ := Aside0.mk (below_step (by repeat (first | (with_reducible first | exact HB.out | apply below_alloc | apply pw_below_drewN | apply below_drew1 | refine below_set ?_ GE143.out | refine below_set ?_ GE144.out | refine below_set ?_ GE145.out) | exact HB.out)) hb); have n5_ := Aside0.mk (hbox); have n6_ := Aside0.mk ((by rw [hg]; exact (below_size (by repeat (first | (with_reducible first | exact HB.out | apply below_alloc | apply pw_below_drewN | apply below_drew1 | refine below_set ?_ GE143.out | refine below_set ?_ GE144.out | refine below_set ?_ GE145.out) | exact HB.out))) : w.heap.size ≤ gb147)); have n7_ := Aside0.mk ((by rw [hg]; exact (below_size (by repeat (first | (with_reducible first | exact HB.out | apply below_alloc | apply pw_below_drewN | apply below_drew1 | refine below_set ?_ GE143.out | refine below_set ?_ GE144.out | refine below_set ?_ GE145.out) | exact HB.out))) : w.heap.size ≤ gb147)); have n8_ := Aside0.mk ((by rw [hg]; exact Nat.ne_of_lt (blk_lt (g := gb143) (o := .cells #[.int .u8 a0_0, .int .u64 a0_1, .string a0_2, .slice (some ad146) l0_3.length c0_3] 28 (0, 0)) (by (with_reducible repeat (first | refine blk_drewN ?_ _ | refine blk_drew ?_ | refine blk_alloc ?_ _)); exact BK143.out)) : gb143 ≠ gb147)); have n9_ := Aside0.mk ((by rw [hg]; exact Nat.ne_of_gt (blk_lt (g := gb143) (o := .cells #[.int .u8 a0_0, .int .u64 a0_1, .string a0_2, .slice (some ad146) l0_3.length c0_3] 28 (0, 0)) (by (with_reducible repeat (first | refine blk_drewN ?_ _ | refine blk_drew ?_ | refine blk_alloc ?_ _)); exact BK143.out)) : gb147 ≠ gb143)); have n10_ := Aside0.mk ((by rw [hg]; exact Nat.ne_of_lt (blk_lt (g := gb144) (o := .cells #[.int .u8 0, .int .u64 0, .string (⟨#[]⟩ : ByteArray), .slice none 0 0] 59 (0, 0)) (by (with_reducible repeat (first | refine blk_drewN ?_ _ | refine blk_drew ?_ | refine blk_alloc ?_ _)); exact BK144.out)) : gb144 ≠ gb147)); have n11_ := Aside0.mk ((by rw [hg]; exact Nat.ne_of_gt (blk_lt (g := gb144) (o := .cells #[.int .u8 0, .int .u64 0, .string (⟨#[]⟩ : ByteArray), .slice none 0 0] 59 (0, 0)) (by (with_reducible repeat (first | refine blk_drewN ?_ _ | refine blk_drew ?_ | refine blk_alloc ?_ _)); exact BK144.out)) : gb147 ≠ gb144)); have n12_ := Aside0.mk ((by rw [hg]; exact Nat.ne_of_lt (blk_lt (g := gb145) (o := .cells #[.int .u8 a0_0, .int .u64 a0_1, .string a0_2, u146003] 59 (0, 0)) (by (with_reducible repeat (first | refine blk_drewN ?_ _ | refine blk_drew ?_ | refine blk_alloc ?_ _)); exact BK145.out)) : gb145 ≠ gb147)); have n13_ := Aside0.mk ((by rw [hg]; exact Nat.ne_of_gt (blk_lt (g := gb145) (o := .cells #[.int .u8 a0_0, .int .u64 a0_1, .string a0_2, u146003] 59 (0, 0)) (by (with_reducible repeat (first | refine blk_drewN ?_ _ | refine blk_drew ?_ | refine blk_alloc ?_ _)); exact BK145.out)) : gb147 ≠ gb145)); clear HO_146003; clear BK143; clear BK144; clear BK145; clear HB; have HO_146003 := n0_; have BK143 := n1_; have BK144 := n2_; have BK145 := n3_; have HB := n4_; have BK147 := n5_; have GW147 := n6_; have GE147 := n7_; have NB143_147 := n8_; have NB147_143 := n9_; have NB144_147 := n10_; have NB147_144 := n11_; have NB145_147 := n12_; have NB147_145 := n13_; clear n0_ n1_ n2_ n3_ n4_ n5_ n6_ n7_ n8_ n9_ n10_ n11_ n12_ n13_; clear hb hbox hg; have hnb17 := NB147_143.out; have hnc17 := NB143_147.out; have hnb18 := NB147_144.out; have hnc18 := NB144_147.out; have hnb19 := NB147_145.out; have hnc19 := NB145_147.out; have hcz20_0 : w16.cell? ⟨gb147, 0, none⟩ = some (.int .u8 0) := (blk_cell BK147.out 0).trans rfl; have hcz20_1 : w16.cell? ⟨gb147, 1, none⟩ = some (.int .u64 0) := (blk_cell BK147.out 1).trans rfl; have hcz20_2 : w16.cell? ⟨gb147, 2, none⟩ = some (.string (⟨#[]⟩ : ByteArray)) := (blk_cell BK147.out 2).trans rfl; have hcz20_3 : w16.cell? ⟨gb147, 3, none⟩ = some (.slice none 0 0) := (blk_cell BK147.out 3).trans rfl; have hfz20_0 := blk_frozen BK147.out 0; have hfz20_1 := blk_frozen BK147.out 1; have hfz20_2 := blk_frozen BK147.out 2; have hfz20_3 := blk_frozen BK147.out 3))
              have n0_ : Aside0 (Kd.R k59 59 ((((w16.setCell ⟨gb147, 0, none⟩ (.int .u8 ((rd_T28 l0_3 x16_1).f0))).setCell ⟨gb147, 1, none⟩ (.int .u64 ((rd_T28 l0_3 x16_1).f1))).setCell ⟨gb147, 2, none⟩ (.string ((rd_T28 l0_3 x16_1).f2))).setCell ⟨gb147, 3, none⟩ (.slice A146_3 ((rd_T28 l0_3 x16_1).f3).length c146_3)) w.heap.size (fun k_ => k_ ≠ gb144 ∧ k_ ≠ gb145) u146003 x146003_1) := ⟨by (with_reducible repeat (first | apply Kd.R_alloc | apply Kd.R_drewN | apply Kd.R_drew)); exact Kd.R_mono (Kd.R_far (p := ⟨gb147, 3, none⟩) (Kd.R_far (p := ⟨gb147, 2, none⟩) (Kd.R_far (p := ⟨gb147, 1, none⟩) (Kd.R_far (p := ⟨gb147, 0, none⟩) (Kd.R_types HO_146003.out BK147.out (by decide)) (fun _ hk => hk.2) (.int .u8 ((rd_T28 l0_3 x16_1).f0))) (fun _ hk => hk.2) (.int .u64 ((rd_T28 l0_3 x16_1).f1))) (fun _ hk => hk.2) (.string ((rd_T28 l0_3 x16_1).f2))) (fun _ hk => hk.2) (.slice A146_3 ((rd_T28 l0_3 x16_1).f3).length c146_3)) (fun _ hk => ⟨hk.1.1, hk.1.2⟩)⟩
              have n1_ : Aside0 (((((w16.setCell ⟨gb147, 0, none⟩ (.int .u8 ((rd_T28 l0_3 x16_1).f0))).setCell ⟨gb147, 1, none⟩ (.int .u64 ((rd_T28 l0_3 x16_1).f1))).setCell ⟨gb147, 2, none⟩ (.string ((rd_T28 l0_3 x16_1).f2))).setCell ⟨gb147, 3, none⟩ (.slice A146_3 ((rd_T28 l0_3 x16_1).f3).length c146_3)).heap[gb143]? = some (.cells #[.int .u8 a0_0, .int .u64 a0_1, .string a0_2, .slice (some ad146) l0_3.length c0_3] 28 (0, 0))) := ⟨by (with_reducible repeat (first | refine blk_drewN ?_ _ | refine blk_drew ?_ | refine blk_alloc ?_ _)); refine blk_far ?_ NB143_147.out _; (with_reducible repeat (first | refine blk_drewN ?_ _ | refine blk_drew ?_ | refine blk_alloc ?_ _)); refine blk_far ?_ NB143_147.out _; (with_reducible repeat (first | refine blk_drewN ?_ _ | refine blk_drew ?_ | refine blk_alloc ?_ _)); refine blk_far ?_ NB143_147.out _; (with_reducible repeat (first | refine blk_drewN ?_ _ | refine blk_drew ?_ | refine blk_alloc ?_ _)); refine blk_far ?_ NB143_147.out _; (with_reducible repeat (first | refine blk_drewN ?_ _ | refine blk_drew ?_ | refine blk_alloc ?_ _)); exact BK143.out⟩
              have n2_ : Aside0 (((((w16.setCell ⟨gb147, 0, none⟩ (.int .u8 ((rd_T28 l0_3 x16_1).f0))).setCell ⟨gb147, 1, none⟩ (.int .u64 ((rd_T28 l0_3 x16_1).f1))).setCell ⟨gb147, 2, none⟩ (.string ((rd_T28 l0_3 x16_1).f2))).setCell ⟨gb147, 3, none⟩ (.slice A146_3 ((rd_T28 l0_3 x16_1).f3).length c146_3)).heap[gb144]? = some (.cells #[.int .u8 0, .int .u64 0, .string (⟨#[]⟩ : ByteArray), .slice none 0 0] 59 (0, 0))) := ⟨by (with_reducible repeat (first | refine blk_drewN ?_ _ | refine blk_drew ?_ | refine blk_alloc ?_ _)); refine blk_far ?_ NB144_147.out _; (with_reducible repeat (first | refine blk_drewN ?_ _ | refine blk_drew ?_ | refine blk_alloc ?_ _)); refine blk_far ?_ NB144_147.out _; (with_reducible repeat (first | refine blk_drewN ?_ _ | refine blk_drew ?_ | refine blk_alloc ?_ _)); refine blk_far ?_ NB144_147.out _; (with_reducible repeat (first | refine blk_drewN ?_ _ | refine blk_drew ?_ | refine blk_alloc ?_ _)); refine blk_far ?_ NB144_147.out _; (with_reducible repeat (first | refine blk_drewN ?_ _ | refine blk_drew ?_ | refine blk_alloc ?_ _)); exact BK144.out⟩
              have n3_ : Aside0 (((((w16.setCell ⟨gb147, 0, none⟩ (.int .u8 ((rd_T28 l0_3 x16_1).f0))).setCell ⟨gb147, 1, none⟩ (.int .u64 ((rd_T28 l0_3 x16_1).f1))).setCell ⟨gb147, 2, none⟩ (.string ((rd_T28 l0_3 x16_1).f2))).setCell ⟨gb147, 3, none⟩ (.slice A146_3 ((rd_T28 l0_3 x16_1).f3).length c146_3)).heap[gb145]? = some (.cells #[.int .u8 a0_0, .int .u64 a0_1, .string a0_2, u146003] 59 (0, 0))) := ⟨by (with_reducible repeat (first | refine blk_drewN ?_ _ | refine blk_drew ?_ | refine blk_alloc ?_ _)); refine blk_far ?_ NB145_147.out _; (with_reducible repeat (first | refine blk_drewN ?_ _ | refine blk_drew ?_ | refine blk_alloc ?_ _)); refine blk_far ?_ NB145_147.out _; (with_reducible repeat (first | refine blk_drewN ?_ _ | refine blk_drew ?_ | refine blk_alloc ?_ _)); refine blk_far ?_ NB145_147.out _; (with_reducible repeat (first | refine blk_drewN ?_ _ | refine blk_drew ?_ | refine blk_alloc ?_ _)); refine blk_far ?_ NB145_147.out _; (with_reducible repeat (first | refine blk_drewN ?_ _ | refine blk_drew ?_ | refine blk_alloc ?_ _)); exact BK145.out⟩
              have n4_ : Aside0 (((((w16.setCell ⟨gb147, 0, none⟩ (.int .u8 ((rd_T28 l0_3 x16_1).f0))).setCell ⟨gb147, 1, none⟩ (.int .u64 ((rd_T28 l0_3 x16_1).f1))).setCell ⟨gb147, 2, none⟩ (.string ((rd_T28 l0_3 x16_1).f2))).setCell ⟨gb147, 3, none⟩ (.slice A146_3 ((rd_T28 l0_3 x16_1).f3).length c146_3)).heap[gb147]? = some (.cells #[.int .u8 ((rd_T28 l0_3 x16_1).f0), .int .u64 ((rd_T28 l0_3 x16_1).f1), .string ((rd_T28 l0_3 x16_1).f2), .slice A146_3 ((rd_T28 l0_3 x16_1).f3).length c146_3] 28 (0, 0))) := ⟨by (with_reducible repeat (first | refine blk_drewN ?_ _ | refine blk_drew ?_ | refine blk_alloc ?_ _)); refine blk_put (cs := #[.int .u8 ((rd_T28 l0_3 x16_1).f0), .int .u64 ((rd_T28 l0_3 x16_1).f1), .string ((rd_T28 l0_3 x16_1).f2), .slice none 0 0]) ?_ 3 _ rfl; (with_reducible repeat (first | refine blk_drewN ?_ _ | refine blk_drew ?_ | refine blk_alloc ?_ _)); refine blk_put (cs := #[.int .u8 ((rd_T28 l0_3 x16_1).f0), .int .u64 ((rd_T28 l0_3 x16_1).f1), .string (⟨#[]⟩ : ByteArray), .slice none 0 0]) ?_ 2 _ rfl; (with_reducible repeat (first | refine blk_drewN ?_ _ | refine blk_drew ?_ | refine blk_alloc ?_ _)); refine blk_put (cs := #[.int .u8 ((rd_T28 l0_3 x16_1).f0), .int .u64 0, .string (⟨#[]⟩ : ByteArray), .slice none 0 0]) ?_ 1 _ rfl; (with_reducible repeat (first | refine blk_drewN ?_ _ | refine blk_drew ?_ | refine blk_alloc ?_ _)); refine blk_put (cs := #[.int .u8 0, .int .u64 0, .string (⟨#[]⟩ : ByteArray), .slice none 0 0]) ?_ 0 _ rfl; (with_reducible repeat (first | refine blk_drewN ?_ _ | refine blk_drew ?_ | refine blk_alloc ?_ _)); exact BK147.out⟩
              have n5_ : Aside0 (Below w.heap.size w ((((w16.setCell ⟨gb147, 0, none⟩ (.int .u8 ((rd_T28 l0_3 x16_1).f0))).setCell ⟨gb147, 1, none⟩ (.int .u64 ((rd_T28 l0_3 x16_1).f1))).setCell ⟨gb147, 2, none⟩ (.string ((rd_T28 l0_3 x16_1).f2))).setCell ⟨gb147, 3, none⟩ (.slice A146_3 ((rd_T28 l0_3 x16_1).f3).length c146_3))) := ⟨by repeat (first | (with_reducible first | exact HB.out | apply below_alloc | apply pw_below_drewN | apply below_drew1 | refine below_set ?_ GE143.out | refine below_set ?_ GE144.out | refine below_set ?_ GE145.out | refine below_set ?_ GE147.out) | exact HB.out)⟩
              (try clear HO_146003)
              (try clear BK143)
              (try clear BK144)
              (try clear BK145)
              (try clear BK147)
              (try clear HB)
              generalize ((((w16.setCell ⟨gb147, 0, none⟩ (.int .u8 ((rd_T28 l0_3 x16_1).f0))).setCell ⟨gb147, 1, none⟩ (.int .u64 ((rd_T28 l0_3 x16_1).f1))).setCell ⟨gb147, 2, none⟩ (.string ((rd_T28 l0_3 x16_1).f2))).setCell ⟨gb147, 3, none⟩ (.slice A146_3 ((rd_T28 l0_3 x16_1).f3).length c146_3)) = w21 at n0_ n1_ n2_ n3_ n4_ n5_ ⊢
              have HO_146003 := n0_
              have BK143 := n1_
              have BK144 := n2_
              have BK145 := n3_
              have BK147 := n4_
              have HB := n5_
              clear n0_ n1_ n2_ n3_ n4_ n5_
              have n0_ := Aside0.mk (Kd.R_drew HO_146003.out)
              have n1_ := Aside0.mk (blk_drew BK143.out)
              have n2_ := Aside0.mk (blk_drew BK144.out)
              have n3_ := Aside0.mk (blk_drew BK145.out)
              have n4_ := Aside0.mk (blk_drew BK147.out)
              have n5_ := Aside0.mk (below_drew1 HB.out)
              clear HO_146003
              clear BK143
              clear BK144
              clear BK145
              clear BK147
              clear HB
              have HO_146003 := n0_
              have BK143 := n1_
              have BK144 := n2_
              have BK145 := n3_
              have BK147 := n4_
              have HB := n5_
              clear n0_ n1_ n2_ n3_ n4_ n5_
              refine start_ (n := 8) (S := fun w' => w'.cell? ⟨gb145, 0, none⟩ = some (.int .u8 a0_0) ∧ w'.cell? ⟨gb145, 1, none⟩ = some (.int .u64 a0_1) ∧ w'.cell? ⟨gb145, 2, none⟩ = some (.string a0_2) ∧ w'.cell? ⟨gb145, 3, none⟩ = some (u146003) ∧ w'.cell? ⟨gb147, 0, none⟩ = some (.int .u8 ((rd_T28 l0_3 x16_1).f0)) ∧ w'.cell? ⟨gb147, 1, none⟩ = some (.int .u64 ((rd_T28 l0_3 x16_1).f1)) ∧ w'.cell? ⟨gb147, 2, none⟩ = some (.string ((rd_T28 l0_3 x16_1).f2)) ∧ w'.cell? ⟨gb147, 3, none⟩ = some (.slice A146_3 ((rd_T28 l0_3 x16_1).f3).length c146_3)) (ds := [7]) #[false, false, false, false, false, false, false, false] (by kernel_rfl) rfl rfl ⟨(blk_cell BK145.out 0).trans rfl, (blk_cell BK145.out 1).trans rfl, (blk_cell BK145.out 2).trans rfl, (blk_cell BK145.out 3).trans rfl, (blk_cell BK147.out 0).trans rfl, (blk_cell BK147.out 1).trans rfl, (blk_cell BK147.out 2).trans rfl, (blk_cell BK147.out 3).trans rfl⟩ (fun hHeld => ?_); refine with_tabW impl_valIn.tab5 impl_valIn.bits5 (fun HT_ HW_ => ?_)
              generalize w21.drew = w22 at HO_146003 BK143 BK144 BK145 BK147 HB hHeld ⊢
              refine pure_ (i := 0) (N := some 20) (v := ?_) (a' := ?_) #[true, false, false, false, false, false, false, false] rfl rfl (any_of HT_.out (by kernel_rfl)) (fun _ _ _ h => h) (Or.inl ⟨by rfl, ?_⟩) ?_ ?_
              rotate_left
              · intro w'
                go_simp
                with_reducible rfl
              rotate_left
              · simp only [Act.put, List.setIfInBounds_toArray, List.set_cons_zero, List.set_cons_succ, i64_w, i32_w]
                rfl
              refine take_ (i := 1) (N := some 21) (v := ?_) (a' := ?_) #[true, true, false, false, false, false, false, false] rfl rfl (take_ofW HT_.out HW_.out (by kernel_rfl)) (fun _ _ _ h => h) (Or.inl ⟨by rfl, ?_⟩) hHeld ?_ ?_
              rotate_left
              · rintro w' ⟨s0, s1, s2, s3, s4, s5, s6, s7⟩
                go_simp
                with_reducible rfl
              rotate_left
              · simp only [Act.put, List.setIfInBounds_toArray, List.set_cons_zero, List.set_cons_succ, i64_w, i32_w]
                rfl
              refine take_ (i := 2) (N := some 22) (v := ?_) (a' := ?_) #[true, true, true, false, false, false, false, false] rfl rfl (take_ofW HT_.out HW_.out (by kernel_rfl)) (fun _ _ _ h => h) (Or.inl ⟨by rfl, ?_⟩) hHeld ?_ ?_
              rotate_left
              · rintro w' ⟨s0, s1, s2, s3, s4, s5, s6, s7⟩
                go_simp
                with_reducible rfl
              rotate_left
              · simp only [Act.put, List.setIfInBounds_toArray, List.set_cons_zero, List.set_cons_succ, i64_w, i32_w]
                rfl
              refine one_ (i := 3) (N := some 23) #[true, true, true, true, false, false, false, false] rfl rfl (one_of HT_.out (by kernel_rfl)) (by decide) (fun K hK => ?_)
              refine goes_ Tryz.func17 (by kernel_rfl) rfl #[.agg #[.int .u8 ((rd_T28 l0_3 x16_1).f0), .int .u64 ((rd_T28 l0_3 x16_1).f1), .string ((rd_T28 l0_3 x16_1).f2), .slice A146_3 ((rd_T28 l0_3 x16_1).f3).length c146_3]] (by rfl) rfl rfl (by (try simp only [List.map_toArray, List.map_cons, List.map_nil]); first | done | rfl | (simp only [List.length_drop, List.length_take]; rfl)) ?_
              with_reducible refine (ih k1 (by have := HK1.out; omega) ((rd_T28 l0_3 x16_1).f0) ((rd_T28 l0_3 x16_1).f1) ((rd_T28 l0_3 x16_1).f2) _ _ ((rd_T28 l0_3 x16_1).f3) t148 t149 t150 t151 _ ?side1 ?side2 A14.out).mono ?_
              (case side1 => repeat (first | exact (Kd.C_below HR146_3.out HB.out) | (with_reducible refine Kd.C_alloc ?_ _) | (with_reducible refine Kd.C_drewN ?_ _) | (with_reducible refine Kd.C_drew ?_)))
              (case side2 => exact HC146_3.out)
              rintro e w23 ⟨v152, rfl, ho0, hb⟩
              refine ⟨_, rfl, ?_⟩
              have n0_ := Aside0.mk (Kd.R_elder' (by (with_reducible repeat (first | apply Kd.R_alloc | apply Kd.R_drewN | apply Kd.R_drew)); exact HO_146003.out) (Kd.R_base ho0) hb)
              have n1_ := Aside0.mk (Kd.R_lower (Kd.R_newB (Kd.R_newB (Kd.R_new' ho0 (Kd.R_lt (by (with_reducible repeat (first | apply Kd.R_alloc | apply Kd.R_drewN | apply Kd.R_drew)); exact HO_146003.out))) (g := gb144) (o := .cells #[.int .u8 0, .int .u64 0, .string (⟨#[]⟩ : ByteArray), .slice none 0 0] 59 (0, 0)) (by (with_reducible repeat (first | refine blk_drewN ?_ _ | refine blk_drew ?_ | refine blk_alloc ?_ _)); exact BK144.out)) (g := gb145) (o := .cells #[.int .u8 a0_0, .int .u64 a0_1, .string a0_2, u146003] 59 (0, 0)) (by (with_reducible repeat (first | refine blk_drewN ?_ _ | refine blk_drew ?_ | refine blk_alloc ?_ _)); exact BK145.out)) (below_size (by repeat (first | (with_reducible first | exact HB.out | apply below_alloc | apply pw_below_drewN | apply below_drew1 | refine below_set ?_ GE143.out | refine below_set ?_ GE144.out | refine below_set ?_ GE145.out | refine below_set ?_ GE147.out) | exact HB.out))))
              have n2_ := Aside0.mk (blk_below (g := gb143) (o := .cells #[.int .u8 a0_0, .int .u64 a0_1, .string a0_2, .slice (some ad146) l0_3.length c0_3] 28 (0, 0)) (by (with_reducible repeat (first | refine blk_drewN ?_ _ | refine blk_drew ?_ | refine blk_alloc ?_ _)); exact BK143.out) hb)
              have n3_ := Aside0.mk (blk_below (g := gb144) (o := .cells #[.int .u8 0, .int .u64 0, .string (⟨#[]⟩ : ByteArray), .slice none 0 0] 59 (0, 0)) (by (with_reducible repeat (first | refine blk_drewN ?_ _ | refine blk_drew ?_ | refine blk_alloc ?_ _)); exact BK144.out) hb)
              have n4_ := Aside0.mk (blk_below (g := gb145) (o := .cells #[.int .u8 a0_0, .int .u64 a0_1, .string a0_2, u146003] 59 (0, 0)) (by (with_reducible repeat (first | refine blk_drewN ?_ _ | refine blk_drew ?_ | refine blk_alloc ?_ _)); exact BK145.out) hb)
              have n5_ := Aside0.mk (blk_below (g := gb147) (o := .cells #[.int .u8 ((rd_T28 l0_3 x16_1).f0), .int .u64 ((rd_T28 l0_3 x16_1).f1), .string ((rd_T28 l0_3 x16_1).f2), .slice A146_3 ((rd_T28 l0_3 x16_1).f3).length c146_3] 28 (0, 0)) (by (with_reducible repeat (first | refine blk_drewN ?_ _ | refine blk_drew ?_ | refine blk_alloc ?_ _)); exact BK147.out) hb)
              have n6_ := Aside0.mk (below_step (by repeat (first | (with_reducible first | exact HB.out | apply below_alloc | apply pw_below_drewN | apply below_drew1 | refine below_set ?_ GE143.out | refine below_set ?_ GE144.out | refine below_set ?_ GE145.out | refine below_set ?_ GE147.out) | exact HB.out)) hb)
              clear HO_146003
              clear BK143
              clear BK144
              clear BK145
              clear BK147
              clear HB
              have HO_146003 := n0_
              have HO153 := n1_
              have BK143 := n2_
              have BK144 := n3_
              have BK145 := n4_
              have BK147 := n5_
              have HB := n6_
              clear n0_ n1_ n2_ n3_ n4_ n5_ n6_
              (try clear hb)
              (try clear hb2)
              (try clear hk)
              (try clear hi)
              (try clear ho0)
              obtain ⟨Ao25, co25, eo25⟩ := Kd.R_slice HO153.out
              (first | subst eo25 | (injection eo25 with f1_ f2_ f3_; have f4_ := f1_.symm; have f5_ := f3_.symm; clear f1_ f2_ f3_; subst f4_; subst f5_))
              refine hK.out _ _ ⟨(blk_cell BK145.out 0).trans rfl, (blk_cell BK145.out 1).trans rfl, (blk_cell BK145.out 2).trans rfl, (blk_cell BK145.out 3).trans rfl, (blk_cell BK147.out 0).trans rfl, (blk_cell BK147.out 1).trans rfl, (blk_cell BK147.out 2).trans rfl, (blk_cell BK147.out 3).trans rfl⟩ (fun hHeld => ?_)
              clear hK K
              refine norm_ (a' := ?_) ?_ ?_
              rotate_left
              · show Act.put _ (some 23) _ = _
                simp only [Act.put, List.setIfInBounds_toArray, List.set_cons_zero, List.set_cons_succ, i64_w, i32_w]
                rfl
              refine one_ (i := 4) (N := some 24) #[true, true, true, true, true, false, false, false] rfl rfl (one_of HT_.out (by kernel_rfl)) (by decide) (fun K hK => ?_)
              refine value_ (w1 := ?_) (v := ?_) (by rfl) rfl ?_ ?_
              rotate_left 2
              · go_simp
                constructor
                · rfl
                · rfl
              refine hK.out _ _ ⟨(blk_cell (blk_alloc BK145.out _) 0).trans rfl, (blk_cell (blk_alloc BK145.out _) 1).trans rfl, (blk_cell (blk_alloc BK145.out _) 2).trans rfl, (blk_cell (blk_alloc BK145.out _) 3).trans rfl, (blk_cell (blk_alloc BK147.out _) 0).trans rfl, (blk_cell (blk_alloc BK147.out _) 1).trans rfl, (blk_cell (blk_alloc BK147.out _) 2).trans rfl, (blk_cell (blk_alloc BK147.out _) 3).trans rfl⟩ (fun hHeld => ?_)
              clear hK K
              refine norm_ (a' := ?_) ?_ ?_
              rotate_left
              · show Act.put _ (some 24) _ = _
                simp only [Act.put, List.setIfInBounds_toArray, List.set_cons_zero, List.set_cons_succ, i64_w, i32_w]
                rfl
              refine one_ (i := 5) (N := some 25) #[true, true, true, true, true, true, false, false] rfl rfl (one_of HT_.out (by kernel_rfl)) (by decide) (fun K hK => ?_)
              refine Kd.R_append_step k59 (w0 := w) w.heap.size (by rfl) (.tmp 21) (.tmp 24) 41 59 (.agg #[(.int .u8 0), (.int .u64 0), (.string ⟨#[]⟩), (.slice none 0 0)]) 56 rfl Tryz.underlying41 info59 rfl (by decide) (by omega) u146003 x146003_1 (⟨t148, t149, t150, t151⟩ : S59) [.int .u8 t148, .int .u64 t149, .string t150, .slice Ao25 t151.length co25] (fun k_ => k_ ≠ gb144 ∧ k_ ≠ gb145) (fun k_ => ((fun k_ => k_ ≠ gb144 ∧ k_ ≠ gb145)) k_ ∧ some k_ ≠ (u146003 : Value).ownBlock) rfl rfl ?aP (fun _ hk => hk) ?aF ?aO ?aB ?aS ?aL ?_
              (case aP => exact k59_mkM _ _ _ (⟨t148, t149, t150, t151⟩ : S59) (Kd.R_mono (HO153.out) (fun k_ hk => ⟨⟨hk.1.2, hk.2⟩, hk.1.1.2⟩)))
              (case aB => exact (by repeat (first | (with_reducible first | exact HB.out | apply below_alloc | apply pw_below_drewN | apply below_drew1 | refine below_set ?_ GE143.out | refine below_set ?_ GE144.out | refine below_set ?_ GE145.out | refine below_set ?_ GE147.out) | exact HB.out)))
              (case aF => exact (fun k_ hk => ⟨Kd.freshB (g := gb144) (o := .cells #[.int .u8 0, .int .u64 0, .string (⟨#[]⟩ : ByteArray), .slice none 0 0] 59 (0, 0)) (by (with_reducible repeat (first | refine blk_drewN ?_ _ | refine blk_drew ?_ | refine blk_alloc ?_ _)); exact BK144.out) k_ hk, Kd.freshB (g := gb145) (o := .cells #[.int .u8 a0_0, .int .u64 a0_1, .string a0_2, u146003] 59 (0, 0)) (by (with_reducible repeat (first | refine blk_drewN ?_ _ | refine blk_drew ?_ | refine blk_alloc ?_ _)); exact BK145.out) k_ hk⟩))
              (case aO => exact (by (with_reducible repeat (first | apply Kd.R_alloc | apply Kd.R_drewN | apply Kd.R_drew)); exact Kd.R_mono HO_146003.out (fun _ hk => ⟨hk.1.1, hk.1.2⟩)))
              (case aS => exact (below_size (by repeat (first | (with_reducible first | exact HB.out | apply below_alloc | apply pw_below_drewN | apply below_drew1 | refine below_set ?_ GE143.out | refine below_set ?_ GE144.out | refine below_set ?_ GE145.out | refine below_set ?_ GE147.out) | exact HB.out))))
              (case aL => have := LMc15.out; omega)
              intro v155 w24 ho hb hg hat
              rw [← Ny154.out] at ho
              have n0_ := Aside0.mk (blk_grown (g := gb143) (o := .cells #[.int .u8 a0_0, .int .u64 a0_1, .string a0_2, .slice (some ad146) l0_3.length c0_3] 28 (0, 0)) (by (with_reducible repeat (first | refine blk_drewN ?_ _ | refine blk_drew ?_ | refine blk_alloc ?_ _)); exact BK143.out) hg (Kd.R_ne HO_146003.out BK143.out (by decide)))
              have n1_ := Aside0.mk (blk_grown (g := gb144) (o := .cells #[.int .u8 0, .int .u64 0, .string (⟨#[]⟩ : ByteArray), .slice none 0 0] 59 (0, 0)) (by (with_reducible repeat (first | refine blk_drewN ?_ _ | refine blk_drew ?_ | refine blk_alloc ?_ _)); exact BK144.out) hg (Kd.R_away HO_146003.out (fun _ hk => hk.1.1)))
              have n2_ := Aside0.mk (blk_grown (g := gb145) (o := .cells #[.int .u8 a0_0, .int .u64 a0_1, .string a0_2, u146003] 59 (0, 0)) (by (with_reducible repeat (first | refine blk_drewN ?_ _ | refine blk_drew ?_ | refine blk_alloc ?_ _)); exact BK145.out) hg (Kd.R_away HO_146003.out (fun _ hk => hk.1.2)))
              have n3_ := Aside0.mk (blk_grown (g := gb147) (o := .cells #[.int .u8 ((rd_T28 l0_3 x16_1).f0), .int .u64 ((rd_T28 l0_3 x16_1).f1), .string ((rd_T28 l0_3 x16_1).f2), .slice A146_3 ((rd_T28 l0_3 x16_1).f3).length c146_3] 28 (0, 0)) (by (with_reducible repeat (first | refine blk_drewN ?_ _ | refine blk_drew ?_ | refine blk_alloc ?_ _)); exact BK147.out) hg (Kd.R_ne HO_146003.out BK147.out (by decide)))
              have n4_ := Aside0.mk (hb)
              have n5_ := Aside0.mk (ho)
              clear BK143
              clear BK144
              clear BK145
              clear BK147
              clear HB
              clear HO_146003
              clear HO153
              have BK143 := n0_
              have BK144 := n1_
              have BK145 := n2_
              have BK147 := n3_
              have HB := n4_
              have HO156 := n5_
              clear n0_ n1_ n2_ n3_ n4_ n5_
              clear ho hb hg hat
              obtain ⟨Ao26, co26, eo26⟩ := Kd.R_slice HO156.out
              (first | subst eo26 | (injection eo26 with f1_ f2_ f3_; have f4_ := f1_.symm; have f5_ := f3_.symm; clear f1_ f2_ f3_; subst f4_; subst f5_))
              refine hK.out _ _ ⟨(blk_cell BK145.out 0).trans rfl, (blk_cell BK145.out 1).trans rfl, (blk_cell BK145.out 2).trans rfl, (blk_cell BK145.out 3).trans rfl, (blk_cell BK147.out 0).trans rfl, (blk_cell BK147.out 1).trans rfl, (blk_cell BK147.out 2).trans rfl, (blk_cell BK147.out 3).trans rfl⟩ (fun hHeld => ?_)
              clear hK K
              refine norm_ (a' := ?_) ?_ ?_
              rotate_left
              · show Act.put _ (some 25) _ = _
                simp only [Act.put, List.setIfInBounds_toArray, List.set_cons_zero, List.set_cons_succ, i64_w, i32_w]
                rfl
              refine pure_ (i := 6) (N := some 26) (v := ?_) (a' := ?_) #[true, true, true, true, true, true, true, false] rfl rfl (any_of HT_.out (by kernel_rfl)) (fun _ _ _ h => h) (Or.inl ⟨by rfl, ?_⟩) ?_ ?_
              rotate_left
              · intro w'
                go_simp
                with_reducible rfl
              rotate_left
              · simp only [Act.put, List.setIfInBounds_toArray, List.set_cons_zero, List.set_cons_succ, i64_w, i32_w]
                rfl
              refine last_ (i := 7) (N := none) #[true, true, true, true, true, true, true, true] rfl rfl (one_of HT_.out (by kernel_rfl)) (by decide) (fun K hK => ?_)
              have hs27 : w24.cell? ⟨gb145, 3, none⟩ = some (u146003) := (blk_cell BK145.out 3).trans rfl
              have hfs27 := blk_frozen BK145.out 3
              have hns27_0 := NB143_145.out
              have hns27_1 := NB144_145.out
              have hns27_3 := NB147_145.out
              have hms27_0 := NB145_143.out
              have hms27_1 := NB145_144.out
              have hms27_3 := NB145_147.out
              refine skip_ (w1 := ?_) (by rfl) rfl ?_ ?_
              rotate_left
              · go_simp
                rfl
              refine hK.out _ _ ?_
              clear hK K
              refine done_ (done_of HT_.out (by kernel_rfl)) ?_
              try go_wp2
              go_roundg k1
              case measure => have := HK1.out; omega
              case rel => exact ⟨(wrap64 (x16_1 + 1)), (y154), (.slice Ao26 y154.length co26), (by first | rfl | (simp; done) | (simp [*]; done)), H', ⟨by have := HK1.out; omega⟩, ⟨by (with_reducible repeat (first | apply Kd.R_alloc | apply Kd.R_drewN | apply Kd.R_drew)); exact Kd.R_mono (Kd.R_far (p := ⟨gb145, 3, none⟩) (Kd.R_mono HO156.out (fun k_ hk => (⟨hk, hk.2⟩ : _ ∧ k_ ≠ gb145))) (fun _ hk => hk.2) (.slice Ao26 y154.length co26)) (fun _ hk => ⟨hk.1.1, hk.1.2⟩)⟩, ⟨by (with_reducible repeat (first | refine blk_drewN ?_ _ | refine blk_drew ?_ | refine blk_alloc ?_ _)); refine blk_far ?_ NB143_145.out _; (with_reducible repeat (first | refine blk_drewN ?_ _ | refine blk_drew ?_ | refine blk_alloc ?_ _)); exact BK143.out⟩, ⟨by (with_reducible repeat (first | refine blk_drewN ?_ _ | refine blk_drew ?_ | refine blk_alloc ?_ _)); refine blk_far ?_ NB144_145.out _; (with_reducible repeat (first | refine blk_drewN ?_ _ | refine blk_drew ?_ | refine blk_alloc ?_ _)); exact BK144.out⟩, ⟨by (with_reducible repeat (first | refine blk_drewN ?_ _ | refine blk_drew ?_ | refine blk_alloc ?_ _)); refine blk_put (cs := #[.int .u8 a0_0, .int .u64 a0_1, .string a0_2, u146003]) ?_ 3 _ rfl; (with_reducible repeat (first | refine blk_drewN ?_ _ | refine blk_drew ?_ | refine blk_alloc ?_ _)); exact BK145.out⟩, ⟨by repeat (first | (with_reducible first | exact HB.out | apply below_alloc | apply pw_below_drewN | apply below_drew1 | refine below_set ?_ GE143.out | refine below_set ?_ GE144.out | refine below_set ?_ GE145.out | refine below_set ?_ GE147.out) | exact HB.out)⟩⟩
            · rw [if_neg c15] at H
              exact absurd H (by simp)
          · rw [if_neg c13] at H
            exact absurd H (by simp)
        · rw [if_neg c12] at H
          exact absurd H (by simp)
      · rw [if_neg c11] at H
        have c11b0 : decide (x16_1 < (l0_3.length : Int)) = false := decide_eq_false c11
        clear c11
        simp only [Option.some.injEq, Prod.mk.injEq] at H
        obtain ⟨rfl, rfl, rfl, rfl⟩ := H
        have hnb28 := NB145_143.out
        have hnc28 := NB143_145.out
        have hnb29 := NB145_144.out
        have hnc29 := NB144_145.out
        have hcz30_0 : wr.cell? ⟨gb145, 0, none⟩ = some (.int .u8 a0_0) := (blk_cell BK145.out 0).trans rfl
        have hcz30_1 : wr.cell? ⟨gb145, 1, none⟩ = some (.int .u64 a0_1) := (blk_cell BK145.out 1).trans rfl
        have hcz30_2 : wr.cell? ⟨gb145, 2, none⟩ = some (.string a0_2) := (blk_cell BK145.out 2).trans rfl
        have hcz30_3 : wr.cell? ⟨gb145, 3, none⟩ = some (u146003) := (blk_cell BK145.out 3).trans rfl
        have hfz30_0 := blk_frozen BK145.out 0
        have hfz30_1 := blk_frozen BK145.out 1
        have hfz30_2 := blk_frozen BK145.out 2
        have hfz30_3 := blk_frozen BK145.out 3
        have hnb31 := NB144_143.out
        have hnc31 := NB143_144.out
        have hcz32_0 : wr.cell? ⟨gb144, 0, none⟩ = some (.int .u8 0) := (blk_cell BK144.out 0).trans rfl
        have hcz32_1 : wr.cell? ⟨gb144, 1, none⟩ = some (.int .u64 0) := (blk_cell BK144.out 1).trans rfl
        have hcz32_2 : wr.cell? ⟨gb144, 2, none⟩ = some (.string (⟨#[]⟩ : ByteArray)) := (blk_cell BK144.out 2).trans rfl
        have hcz32_3 : wr.cell? ⟨gb144, 3, none⟩ = some (.slice none 0 0) := (blk_cell BK144.out 3).trans rfl
        have hfz32_0 := blk_frozen BK144.out 0
        have hfz32_1 := blk_frozen BK144.out 1
        have hfz32_2 := blk_frozen BK144.out 2
        have hfz32_3 := blk_frozen BK144.out 3
        obtain ⟨Ao33, co33, eo33⟩ := Kd.R_slice HO_146003.out
        subst eo33
        go_wp2
        refine bodyPost_ret (results_cell_row rfl _ _ gb144 59 #[.int .u8 a0_0, .int .u64 a0_1, .string a0_2, .slice Ao33 x146003_1.length co33] (0, 0) _ rfl (by (with_reducible repeat (first | refine blk_drewN ?_ _ | refine blk_drew ?_ | refine blk_alloc ?_ _)); refine blk_put (cs := #[.int .u8 a0_0, .int .u64 a0_1, .string a0_2, .slice none 0 0]) ?_ 3 _ rfl; (with_reducible repeat (first | refine blk_drewN ?_ _ | refine blk_drew ?_ | refine blk_alloc ?_ _)); refine blk_put (cs := #[.int .u8 a0_0, .int .u64 a0_1, .string (⟨#[]⟩ : ByteArray), .slice none 0 0]) ?_ 2 _ rfl; (with_reducible repeat (first | refine blk_drewN ?_ _ | refine blk_drew ?_ | refine blk_alloc ?_ _)); refine blk_put (cs := #[.int .u8 a0_0, .int .u64 0, .string (⟨#[]⟩ : ByteArray), .slice none 0 0]) ?_ 1 _ rfl; (with_reducible repeat (first | refine blk_drewN ?_ _ | refine blk_drew ?_ | refine blk_alloc ?_ _)); refine blk_put (cs := #[.int .u8 0, .int .u64 0, .string (⟨#[]⟩ : ByteArray), .slice none 0 0]) ?_ 0 _ rfl; (with_reducible repeat (first | refine blk_drewN ?_ _ | refine blk_drew ?_ | refine blk_alloc ?_ _)); exact BK144.out) Tryz.underlying59 rfl (by kernel_rfl)) rfl ?_
        exact ⟨_, by first | rfl | (simp [errW_none, errW_some] <;> rfl) | (simp [*, errW_none, errW_some] <;> rfl) | (simp (disch := omega) only [wrap64_id] <;> rfl), by (with_reducible repeat (first | apply Kd.R_alloc | apply Kd.R_drewN | apply Kd.R_drew)); exact Kd.R_mono (Kd.R_far (p := ⟨gb144, 3, none⟩) (Kd.R_far (p := ⟨gb144, 2, none⟩) (Kd.R_far (p := ⟨gb144, 1, none⟩) (Kd.R_far (p := ⟨gb144, 0, none⟩) (Kd.R_mono HO_146003.out (fun k_ hk => (⟨hk, hk.1⟩ : _ ∧ k_ ≠ gb144))) (fun _ hk => hk.2) (.int .u8 a0_0)) (fun _ hk => hk.2) (.int .u64 a0_1)) (fun _ hk => hk.2) (.string a0_2)) (fun _ hk => hk.2) (.slice Ao33 x146003_1.length co33)) (fun _ hk => trivial), by repeat (first | (with_reducible first | exact HB.out | apply below_alloc | apply pw_below_drewN | apply below_drew1 | refine below_set ?_ GE143.out | refine below_set ?_ GE144.out | refine below_set ?_ GE145.out) | exact HB.out)⟩

/-! ### impl_valsIn: function 10 -/
def impl_valsIn.l0 : Nat → List (S59) → List (S28) → Int → Int → Option ((List (S59)))
  | 0, _, _, _, _ => none
  | k + 1, x3, x6, x7, x8 => if x8 < x7 then (if 0 ≤ x8 then (if x8 < (x6.length : Int) then ((impl_valIn.f k ((rd_T28 x6 x8).f0) ((rd_T28 x6 x8).f1) ((rd_T28 x6 x8).f2) ((rd_T28 x6 x8).f3)).bind fun bt159 => (if x3.length < 2513169434916 then (impl_valsIn.l0 k (x3 ++ [(⟨bt159.1, bt159.2.1, bt159.2.2.1, bt159.2.2.2⟩ : S59)]) x6 x7 (wrap64 (x8 + 1))) else (none))) else (none)) else (none)) else (some x3)
def impl_valsIn.f (k : Nat) (l0 : List (S28)) : Option ((List (S59))) := impl_valsIn.l0 k ([] : List (S59)) l0 (l0.length : Int) 0
theorem impl_valsIn.mono_l : ∀ k, (∀ y0 y1 y2 y3, LeO (impl_valsIn.l0 k y0 y1 y2 y3) (impl_valsIn.l0 (k + 1) y0 y1 y2 y3))
  | 0 => fun _ _ _ _ r h => by simp [impl_valsIn.l0] at h
  | k + 1 => by
    have ih0 := impl_valsIn.mono_l k
    · intro y0 y1 y2 y3
      unfold impl_valsIn.l0
      repeat' first
      | (with_reducible exact ih0 _ _ _ _)
      | (with_reducible exact impl_valIn.mono _ _ _ _ _)
      | (with_reducible exact LeO.refl _)
      | (with_reducible exact LeO.none _)
      | (with_reducible refine LeO.ite ?_ ?_)
      | (with_reducible refine LeO.bind ?_ (fun _ => ?_))
      | exact ih0 _ _ _ _
      | exact impl_valIn.mono _ _ _ _ _
      | exact LeO.none _
      | refine LeO.ite ?_ ?_
      | refine LeO.bind ?_ (fun _ => ?_)
theorem impl_valsIn.mono : ∀ a0 k, LeO (impl_valsIn.f k a0) (impl_valsIn.f (k + 1) a0) := by
  intro a0 k
  have ih0 := impl_valsIn.mono_l k
  unfold impl_valsIn.f
  repeat' first
      | (with_reducible exact ih0 _ _ _ _)
      | (with_reducible exact impl_valIn.mono _ _ _ _ _)
      | (with_reducible exact LeO.refl _)
      | (with_reducible exact LeO.none _)
      | (with_reducible refine LeO.ite ?_ ?_)
      | (with_reducible refine LeO.bind ?_ (fun _ => ?_))
      | exact ih0 _ _ _ _
      | exact impl_valIn.mono _ _ _ _ _
      | exact LeO.none _
      | refine LeO.ite ?_ ?_
      | refine LeO.bind ?_ (fun _ => ?_)
set_option maxHeartbeats 8000000 in
set_option maxRecDepth 100000 in
theorem impl_valsIn.calls (k : Nat) (A0 : Option Addr) (c0 : Nat) (l0 : List (S28)) (r : List (S59)) (w : World) (hr0 : Kd.C k28 w A0 l0.length l0) (hc0 : l0.length ≤ c0) (h : impl_valsIn.f k l0 = some r) :
    Calls Tryz.prog 10 #[.slice A0 l0.length c0] w fun e w' => ∃ v0_ : Value, e = .returned (v0_) ∧ Kd.R k59 59 w' w.heap.size (fun _ => True) v0_ r ∧ Below w.heap.size w w' := by
  have hu28 := Tryz.underlying28
  have HR0 := Aside0.mk hr0
  have HC0 := Aside0.mk hc0
  clear hr0 hc0
  have HB := Aside0.mk (Below.refl w.heap.size w)
  have H : (impl_valsIn.l0 k ([] : List (S59)) l0 (l0.length : Int) 0) = some r := h
  clear h
  have H' := Aside0.mk H
  clear H
  go_enter Tryz.func10, Tryz.ntmps10
  go_wp2
  go_loopg [3, 8] k (fun kq v3 v8 w' => ∃ (x3_1 : List (S59)) (x8_1 : Int), v8 = .int .i64 x8_1 ∧ Aside0 (impl_valsIn.l0 kq x3_1 l0 (l0.length : Int) x8_1 = some r) ∧ Aside0 (kq ≤ k) ∧ Aside0 (Kd.R k59 59 w' w.heap.size (fun _ => True) v3 x3_1) ∧ Aside0 (Below w.heap.size w w'))
  case atStart => exact ⟨(([] : List (S59))), (0), (by first | rfl | (simp; done) | (simp [*]; done)), H', ⟨Nat.le_refl _⟩, ⟨by first | exact Kd.R_nil _ _ _ _ _ | exact Kd.N_nil _ _ _ _ _ | exact Kd.V_nil _ _ _ _ _ | exact Kd.Q_nil _ _ _ _ _ | exact Kd.S_nil _ _ _ _ _⟩, ⟨by repeat (first | (with_reducible first | exact HB.out | apply below_alloc | apply pw_below_drewN | apply below_drew1) | exact HB.out)⟩⟩
  case round =>
    clear H'
    try clear c1
    obtain ⟨x3_1, x8_1, rfl, HA, HK1, HO_3, HB⟩ := hrel
    cases gk with
    | zero => exact absurd HA.out (by simp [impl_valsIn.l0])
    | succ k1 =>
      have H := HA.out
      clear HA
      simp only [impl_valsIn.l0] at H
      by_cases c2 : x8_1 < (l0.length : Int)
      · rw [if_pos c2] at H
        have c2b0 : decide (x8_1 < (l0.length : Int)) = true := decide_eq_true c2
        clear c2
        by_cases c3 : 0 ≤ x8_1
        · rw [if_pos c3] at H
          have c3b0 : decide (0 ≤ x8_1) = true := decide_eq_true c3
          clear c3
          by_cases c4 : x8_1 < (l0.length : Int)
          · rw [if_pos c4] at H
            have c4b0 : decide (x8_1 < (l0.length : Int)) = true := decide_eq_true c4
            clear c4
            replace H := Option.bind_eq_some_iff.mp H
            obtain ⟨⟨t159, t160, t161, t162⟩, A50, H⟩ := H
            replace H : (if x3_1.length < 2513169434916 then (impl_valsIn.l0 k1 (x3_1 ++ [(⟨t159, t160, t161, t162⟩ : S59)]) l0 (l0.length : Int) (wrap64 (x8_1 + 1))) else (none)) = some r := H
            have A5 := Aside0.mk A50
            clear A50
            by_cases c6 : x3_1.length < 2513169434916
            · rw [if_pos c6] at H
              have LMc6 := Aside0.mk c6
              clear c6
              obtain ⟨y165, hy165⟩ : ∃ y_ : List (S59), y_ = (x3_1 ++ [(⟨t159, t160, t161, t162⟩ : S59)]) := ⟨_, rfl⟩
              replace H : (impl_valsIn.l0 k1 y165 l0 (l0.length : Int) (wrap64 (x8_1 + 1))) = some r := by first | (rw [hy165]; with_reducible exact H) | (have H2_ := (Option.bind_some _ _).symm.trans H; rw [hy165]; with_reducible exact H2_) | (have H2_ := (Option.bind_some _ _).symm.trans H; with_reducible exact H2_) | with_reducible exact H | (rw [hy165]; exact H) | exact H
              have Ny165 := Aside0.mk hy165
              clear hy165
              have H' := Aside0.mk H
              clear H
              have p157 : 0 ≤ (x8_1 : Int) := of_decide_eq_true (by first | (with_reducible assumption) | assumption)
              have q157 : x8_1 < (l0.length : Int) := of_decide_eq_true (by first | (with_reducible assumption) | assumption)
              obtain ⟨ad157, A157_3, c157_3, e157, hx157_0, hx157_1, hx157_2, hx157_3, hl157_3, hi157_3⟩ := at_T28 HR0.out x8_1 p157 q157
              cases e157
              replace hx157_0 := (HB.out.cell (World.block_lt_of_cell? w _ hx157_0)).trans hx157_0
              replace hx157_1 := (HB.out.cell (World.block_lt_of_cell? w _ hx157_1)).trans hx157_1
              replace hx157_2 := (HB.out.cell (World.block_lt_of_cell? w _ hx157_2)).trans hx157_2
              replace hx157_3 := (HB.out.cell (World.block_lt_of_cell? w _ hx157_3)).trans hx157_3
              have HR157_3 := Aside0.mk hi157_3
              have HC157_3 := Aside0.mk hl157_3
              clear hi157_3 hl157_3
              replace p157 := eq_true p157
              replace q157 := eq_true q157
              go_wp2_with (first | ((with_reducible refine gate_dst (N := 5) rfl ?_); refine box_event ?hg (N := 5) ?hd (cs := #[.int .u8 0, .int .u64 0, .string (⟨#[]⟩ : ByteArray), .slice none 0 0]) (t := 28) ?hr ?_; (case hd => rfl); (case hg => rfl); (case hr => first | (go_simp; done) | (go_simp; rfl)); intro gb158 hg w7 hbox hb; have n0_ := Aside0.mk (Kd.R_below (by (with_reducible repeat (first | apply Kd.R_alloc | apply Kd.R_drewN | apply Kd.R_drew)); exact HO_3.out) hb); have n1_ := Aside0.mk (below_step (by repeat (first | (with_reducible first | exact HB.out | apply below_alloc | apply pw_below_drewN | apply below_drew1) | exact HB.out)) hb); have n2_ := Aside0.mk (hbox); have n3_ := Aside0.mk ((by rw [hg]; exact (below_size (by repeat (first | (with_reducible first | exact HB.out | apply below_alloc | apply pw_below_drewN | apply below_drew1) | exact HB.out))) : w.heap.size ≤ gb158)); have n4_ := Aside0.mk ((by rw [hg]; exact (below_size (by repeat (first | (with_reducible first | exact HB.out | apply below_alloc | apply pw_below_drewN | apply below_drew1) | exact HB.out))) : w.heap.size ≤ gb158)); clear HO_3; clear HB; have HO_3 := n0_; have HB := n1_; have BK158 := n2_; have GW158 := n3_; have GE158 := n4_; clear n0_ n1_ n2_ n3_ n4_; clear hb hbox hg; have hcz8_0 : w7.cell? ⟨gb158, 0, none⟩ = some (.int .u8 0) := (blk_cell BK158.out 0).trans rfl; have hcz8_1 : w7.cell? ⟨gb158, 1, none⟩ = some (.int .u64 0) := (blk_cell BK158.out 1).trans rfl; have hcz8_2 : w7.cell? ⟨gb158, 2, none⟩ = some (.string (⟨#[]⟩ : ByteArray)) := (blk_cell BK158.out 2).trans rfl; have hcz8_3 : w7.cell? ⟨gb158, 3, none⟩ = some (.slice none 0 0) := (blk_cell BK158.out 3).trans rfl; have hfz8_0 := blk_frozen BK158.out 0; have hfz8_1 := blk_frozen BK158.out 1; have hfz8_2 := blk_frozen BK158.out 2; have hfz8_3 := blk_frozen BK158.out 3) | ((with_reducible refine gate_callee (f := 17) rfl ?_); refine goesL_ (some 14) rfl rfl Tryz.func17 (by kernel_rfl) rfl #[.agg #[.int .u8 ((rd_T28 l0 x8_1).f0), .int .u64 ((rd_T28 l0 x8_1).f1), .string ((rd_T28 l0 x8_1).f2), .slice A157_3 ((rd_T28 l0 x8_1).f3).length c157_3]] rfl (by (try simp only [List.map_toArray, List.map_cons, List.map_nil]); first | done | rfl | (simp only [List.length_drop, List.length_take]; rfl)) ?_; (with_reducible refine (impl_valIn.calls k1 ((rd_T28 l0 x8_1).f0) ((rd_T28 l0 x8_1).f1) ((rd_T28 l0 x8_1).f2) _ _ ((rd_T28 l0 x8_1).f3) t159 t160 t161 t162 _ ?side1 ?side2 A5.out).mono ?_); (case side1 => exact Kd.C_below HR157_3.out (by repeat (first | (with_reducible first | exact HB.out | apply below_alloc | apply pw_below_drewN | apply below_drew1 | refine below_set ?_ GE158.out) | exact HB.out))); (case side2 => exact HC157_3.out); rintro e w9 ⟨v163, rfl, ho0, hb⟩; refine ⟨_, rfl, ?_⟩; have n0_ := Aside0.mk (Kd.R_elder' (by (with_reducible repeat (first | apply Kd.R_alloc | apply Kd.R_drewN | apply Kd.R_drew)); exact (Kd.R_mono (Kd.R_far (p := ⟨gb158, 3, none⟩) (Kd.R_far (p := ⟨gb158, 2, none⟩) (Kd.R_far (p := ⟨gb158, 1, none⟩) (Kd.R_far (p := ⟨gb158, 0, none⟩) (Kd.R_types HO_3.out BK158.out (by decide)) (fun _ hk => hk.2) (.int .u8 ((rd_T28 l0 x8_1).f0))) (fun _ hk => hk.2) (.int .u64 ((rd_T28 l0 x8_1).f1))) (fun _ hk => hk.2) (.string ((rd_T28 l0 x8_1).f2))) (fun _ hk => hk.2) (.slice A157_3 ((rd_T28 l0 x8_1).f3).length c157_3)) (fun _ h_ => h_.1))) (Kd.R_base ho0) hb); have n1_ := Aside0.mk (Kd.R_lower (Kd.R_new' ho0 (Kd.R_lt (by (with_reducible repeat (first | apply Kd.R_alloc | apply Kd.R_drewN | apply Kd.R_drew)); exact (Kd.R_mono (Kd.R_far (p := ⟨gb158, 3, none⟩) (Kd.R_far (p := ⟨gb158, 2, none⟩) (Kd.R_far (p := ⟨gb158, 1, none⟩) (Kd.R_far (p := ⟨gb158, 0, none⟩) (Kd.R_types HO_3.out BK158.out (by decide)) (fun _ hk => hk.2) (.int .u8 ((rd_T28 l0 x8_1).f0))) (fun _ hk => hk.2) (.int .u64 ((rd_T28 l0 x8_1).f1))) (fun _ hk => hk.2) (.string ((rd_T28 l0 x8_1).f2))) (fun _ hk => hk.2) (.slice A157_3 ((rd_T28 l0 x8_1).f3).length c157_3)) (fun _ h_ => h_.1))))) (below_size (by repeat (first | (with_reducible first | exact HB.out | apply below_alloc | apply pw_below_drewN | apply below_drew1 | refine below_set ?_ GE158.out) | exact HB.out)))); have n2_ := Aside0.mk (blk_below (g := gb158) (o := .cells #[.int .u8 ((rd_T28 l0 x8_1).f0), .int .u64 ((rd_T28 l0 x8_1).f1), .string ((rd_T28 l0 x8_1).f2), .slice A157_3 ((rd_T28 l0 x8_1).f3).length c157_3] 28 (0, 0)) (by (with_reducible repeat (first | refine blk_drewN ?_ _ | refine blk_drew ?_ | refine blk_alloc ?_ _)); refine blk_put (cs := #[.int .u8 ((rd_T28 l0 x8_1).f0), .int .u64 ((rd_T28 l0 x8_1).f1), .string ((rd_T28 l0 x8_1).f2), .slice none 0 0]) ?_ 3 _ rfl; (with_reducible repeat (first | refine blk_drewN ?_ _ | refine blk_drew ?_ | refine blk_alloc ?_ _)); refine blk_put (cs := #[.int .u8 ((rd_T28 l0 x8_1).f0), .int .u64 ((rd_T28 l0 x8_1).f1), .string (⟨#[]⟩ : ByteArray), .slice none 0 0]) ?_ 2 _ rfl; (with_reducible repeat (first | refine blk_drewN ?_ _ | refine blk_drew ?_ | refine blk_alloc ?_ _)); refine blk_put (cs := #[.int .u8 ((rd_T28 l0 x8_1).f0), .int .u64 0, .string (⟨#[]⟩ : ByteArray), .slice none 0 0]) ?_ 1 _ rfl; (with_reducible repeat (first | refine blk_drewN ?_ _ | refine blk_drew ?_ | refine blk_alloc ?_ _)); refine blk_put (cs := #[.int .u8 0, .int .u64 0, .string (⟨#[]⟩ : ByteArray), .slice none 0 0]) ?_ 0 _ rfl; (with_reducible repeat (first | refine blk_drewN ?_ _ | refine blk_drew ?_ | refine blk_alloc ?_ _)); exact BK158.out) hb); have n3_ := Aside0.mk (below_step (by repeat (first | (with_reducible first | exact HB.out | apply below_alloc | apply pw_below_drewN | apply below_drew1 | refine below_set ?_ GE158.out) | exact HB.out)) hb); clear HO_3; clear BK158; clear HB; have HO_3 := n0_; have HO164 := n1_; have BK158 := n2_; have HB := n3_; clear n0_ n1_ n2_ n3_; (try clear hb); (try clear hb2); (try clear hk); (try clear hi); (try clear ho0); obtain ⟨Ao11, co11, eo11⟩ := Kd.R_slice HO164.out; subst eo11) | ((with_reducible refine gate_builtin (b := .append) (xs := #[.tmp 12, .tmp 15]) rfl ?_); at_builtin; refine Kd.R_append k59 (w0 := w) w.heap.size rfl (.tmp 12) (.tmp 15) 41 59 (.agg #[(.int .u8 0), (.int .u64 0), (.string ⟨#[]⟩), (.slice none 0 0)]) 56 rfl Tryz.underlying41 info59 rfl (by decide) (by omega) u3 x3_1 (⟨t159, t160, t161, t162⟩ : S59) [.int .u8 t159, .int .u64 t160, .string t161, .slice Ao11 t162.length co11] (fun _ => True) (fun k_ => ((fun _ => True)) k_ ∧ some k_ ≠ (u3 : Value).ownBlock) rfl rfl ?aP (fun _ hk => hk) ?aF ?aO ?aB ?aS ?aL ?_; (case aP => exact k59_mkM _ _ _ (⟨t159, t160, t161, t162⟩ : S59) (Kd.R_mono (HO164.out) (fun k_ hk => ⟨trivial, hk.2⟩))); (case aB => exact (by repeat (first | (with_reducible first | exact HB.out | apply below_alloc | apply pw_below_drewN | apply below_drew1 | refine below_set ?_ GE158.out) | exact HB.out))); (case aF => exact (fun _ _ => trivial)); (case aO => exact (by (with_reducible repeat (first | apply Kd.R_alloc | apply Kd.R_drewN | apply Kd.R_drew)); exact Kd.R_mono HO_3.out (fun _ hk => trivial))); (case aS => exact (below_size (by repeat (first | (with_reducible first | exact HB.out | apply below_alloc | apply pw_below_drewN | apply below_drew1 | refine below_set ?_ GE158.out) | exact HB.out)))); (case aL => have := LMc6.out; omega); intro v166 w10 ho hb hg hat; rw [← Ny165.out] at ho; have n0_ := Aside0.mk (blk_grown (g := gb158) (o := .cells #[.int .u8 ((rd_T28 l0 x8_1).f0), .int .u64 ((rd_T28 l0 x8_1).f1), .string ((rd_T28 l0 x8_1).f2), .slice A157_3 ((rd_T28 l0 x8_1).f3).length c157_3] 28 (0, 0)) (by (with_reducible repeat (first | refine blk_drewN ?_ _ | refine blk_drew ?_ | refine blk_alloc ?_ _)); exact BK158.out) hg (Kd.R_ne HO_3.out BK158.out (by decide))); have n1_ := Aside0.mk (hb); have n2_ := Aside0.mk (ho); clear BK158; clear HB; clear HO_3; clear HO164; have BK158 := n0_; have HB := n1_; have HO167 := n2_; clear n0_ n1_ n2_; clear ho hb hg hat))
              go_roundg k1
              case measure => have := HK1.out; omega
              case rel => exact ⟨(y165), (wrap64 (x8_1 + 1)), (by first | rfl | (simp; done) | (simp [*]; done)), H', ⟨by have := HK1.out; omega⟩, ⟨by (with_reducible repeat (first | apply Kd.R_alloc | apply Kd.R_drewN | apply Kd.R_drew)); exact HO167.out⟩, ⟨by repeat (first | (with_reducible first | exact HB.out | apply below_alloc | apply pw_below_drewN | apply below_drew1 | refine below_set ?_ GE158.out) | exact HB.out)⟩⟩
            · rw [if_neg c6] at H
              exact absurd H (by simp)
          · rw [if_neg c4] at H
            exact absurd H (by simp)
        · rw [if_neg c3] at H
          exact absurd H (by simp)
      · rw [if_neg c2] at H
        have c2b0 : decide (x8_1 < (l0.length : Int)) = false := decide_eq_false c2
        clear c2
        obtain rfl := Option.some.inj H
        go_wp2
        go_ret
        exact ⟨_, by first | rfl | (simp [errW_none, errW_some] <;> rfl) | (simp [*, errW_none, errW_some] <;> rfl) | (simp (disch := omega) only [wrap64_id] <;> rfl), by (with_reducible repeat (first | apply Kd.R_alloc | apply Kd.R_drewN | apply Kd.R_drew)); exact HO_3.out, by repeat (first | (with_reducible first | exact HB.out | apply below_alloc | apply pw_below_drewN | apply below_drew1) | exact HB.out)⟩

end Go.Proofs.YtcnhpiodomknfaaGreatDoor.MFnWrTurned
