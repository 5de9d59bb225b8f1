-- Written by a program of this session (myprint.py, out of the translation). Not trusted: Lean checks it.
import Derived.Test.YtodphfcneiodhaaMFnWrSizex0
namespace Go.Proofs.Ytodphfcneiodhaa.MFnWrSize
open Go.RowKit Go.Proofs.YtodphfcneiodhaaW.PrintWords Go.Proofs.YtodphfcneiodhaaW.PrintLast Go.Proofs.YtodphfcneiodhaaW.PrintMore
attribute [local go_sem] max2_int min2_int max_two min_two max_three min_three max_four min_four   -- for this text's walks alone
set_option linter.unusedVariables false
set_option linter.unusedSimpArgs false

/-! ### dbus_sigByteSize: function 16 -/
mutual
def dbus_sigByteSize.l0 : Nat → ByteArray → Int → Int → Option (Int)
  | 0, _, _, _ => none
  | k + 1, x0, x3, x4 => if x4 < (x0.size : Int) then (if 0 ≤ x4 then (if (bt x0 x4) = 121 then (dbus_sigByteSize.l0 k x0 (wrap64 (x3 + 1)) (wrap64 (x4 + 1))) else (if (bt x0 x4) = 110 then (dbus_sigByteSize.j1 k x0 x3 x4 (bt x0 x4) ((bt x0 x4) == 110)) else (dbus_sigByteSize.j1 k x0 x3 x4 (bt x0 x4) ((bt x0 x4) == 113)))) else (none)) else (some x3)
def dbus_sigByteSize.j1 : Nat → ByteArray → Int → Int → Int → Bool → Option (Int)
  | 0, _, _, _, _, _ => none
  | k + 1, x0, x3, x4, x14, x21 => if x21 = true then (dbus_sigByteSize.l0 k x0 (wrap64 (x3 + 2)) (wrap64 (x4 + 1))) else (if x14 = 98 then (dbus_sigByteSize.j2 k x0 x3 x4 x14 (x14 == 98)) else (if x14 = 105 then (dbus_sigByteSize.j2 k x0 x3 x4 x14 (x14 == 105)) else (if x14 = 117 then (dbus_sigByteSize.j2 k x0 x3 x4 x14 (x14 == 117)) else (dbus_sigByteSize.j2 k x0 x3 x4 x14 (x14 == 104)))))
def dbus_sigByteSize.j2 : Nat → ByteArray → Int → Int → Int → Bool → Option (Int)
  | 0, _, _, _, _, _ => none
  | k + 1, x0, x3, x4, x14, x28 => if x28 = true then (dbus_sigByteSize.l0 k x0 (wrap64 (x3 + 4)) (wrap64 (x4 + 1))) else (if x14 = 120 then (dbus_sigByteSize.j3 k x0 x3 x4 x14 (x14 == 120)) else (if x14 = 116 then (dbus_sigByteSize.j3 k x0 x3 x4 x14 (x14 == 116)) else (dbus_sigByteSize.j3 k x0 x3 x4 x14 (x14 == 100))))
def dbus_sigByteSize.j3 : Nat → ByteArray → Int → Int → Int → Bool → Option (Int)
  | 0, _, _, _, _, _ => none
  | k + 1, x0, x3, x4, x14, x37 => if x37 = true then (dbus_sigByteSize.l0 k x0 (wrap64 (x3 + 8)) (wrap64 (x4 + 1))) else (if x14 = 40 then (dbus_sigByteSize.l1 k x0 x3 x4 1 1) else (some 0))
def dbus_sigByteSize.l1 : Nat → ByteArray → Int → Int → Int → Int → Option (Int)
  | 0, _, _, _, _, _ => none
  | k + 1, x0, x3, x4, x5, x6 => if 0 ≤ x4 then (if x4 ≤ (x0.size : Int) then (if x5 < ((x0.extract (x4 : Int).toNat x0.size).size : Int) then (dbus_sigByteSize.j5 k x0 x3 x4 x5 x6 (x6 != 0)) else (dbus_sigByteSize.j5 k x0 x3 x4 x5 x6 false)) else (none)) else (none)
def dbus_sigByteSize.j5 : Nat → ByteArray → Int → Int → Int → Int → Bool → Option (Int)
  | 0, _, _, _, _, _, _ => none
  | k + 1, x0, x3, x4, x5, x6, x56 => if x56 = true then (if 0 ≤ (wrap64 (x4 + x5)) then (if (wrap64 (x4 + x5)) < (x0.size : Int) then (if (bt x0 (wrap64 (x4 + x5))) = 40 then (dbus_sigByteSize.l1 k x0 x3 x4 (wrap64 (x5 + 1)) (wrap64 (x6 + 1))) else (if (bt x0 (wrap64 (x4 + x5))) = 41 then (dbus_sigByteSize.l1 k x0 x3 x4 (wrap64 (x5 + 1)) (wrap64 (x6 - 1))) else (dbus_sigByteSize.l1 k x0 x3 x4 (wrap64 (x5 + 1)) x6))) else (none)) else (none)) else (if 0 ≤ (wrap64 (x4 + 1)) then (if (wrap64 (x4 + 1)) ≤ (wrap64 ((wrap64 (x4 + x5)) - 1)) then (if (wrap64 ((wrap64 (x4 + x5)) - 1)) ≤ (x0.size : Int) then ((dbus_sigByteSize.f k (x0.extract ((wrap64 (x4 + 1)) : Int).toNat ((wrap64 ((wrap64 (x4 + x5)) - 1)) : Int).toNat)).bind fun t115 => (if t115 = 0 then (some 0) else (dbus_sigByteSize.l0 k x0 (wrap64 (x3 + t115)) (wrap64 (x4 + x5))))) else (none)) else (none)) else (none))
def dbus_sigByteSize.f : Nat → ByteArray → Option (Int)
  | 0, _ => none
  | k + 1, a0 => dbus_sigByteSize.l0 k a0 0 0
end
theorem dbus_sigByteSize.mono_l : ∀ k, (∀ y0, LeO (dbus_sigByteSize.f k y0) (dbus_sigByteSize.f (k + 1) y0)) ∧ (∀ y0 y1 y2, LeO (dbus_sigByteSize.l0 k y0 y1 y2) (dbus_sigByteSize.l0 (k + 1) y0 y1 y2)) ∧ (∀ y0 y1 y2 y3 y4, LeO (dbus_sigByteSize.j1 k y0 y1 y2 y3 y4) (dbus_sigByteSize.j1 (k + 1) y0 y1 y2 y3 y4)) ∧ (∀ y0 y1 y2 y3 y4, LeO (dbus_sigByteSize.j2 k y0 y1 y2 y3 y4) (dbus_sigByteSize.j2 (k + 1) y0 y1 y2 y3 y4)) ∧ (∀ y0 y1 y2 y3 y4, LeO (dbus_sigByteSize.j3 k y0 y1 y2 y3 y4) (dbus_sigByteSize.j3 (k + 1) y0 y1 y2 y3 y4)) ∧ (∀ y0 y1 y2 y3 y4, LeO (dbus_sigByteSize.l1 k y0 y1 y2 y3 y4) (dbus_sigByteSize.l1 (k + 1) y0 y1 y2 y3 y4)) ∧ (∀ y0 y1 y2 y3 y4 y5, LeO (dbus_sigByteSize.j5 k y0 y1 y2 y3 y4 y5) (dbus_sigByteSize.j5 (k + 1) y0 y1 y2 y3 y4 y5))
  | 0 => ⟨fun _ r h => by simp [dbus_sigByteSize.f] at h, fun _ _ _ r h => by simp [dbus_sigByteSize.l0] at h, fun _ _ _ _ _ r h => by simp [dbus_sigByteSize.j1] at h, fun _ _ _ _ _ r h => by simp [dbus_sigByteSize.j2] at h, fun _ _ _ _ _ r h => by simp [dbus_sigByteSize.j3] at h, fun _ _ _ _ _ r h => by simp [dbus_sigByteSize.l1] at h, fun _ _ _ _ _ _ r h => by simp [dbus_sigByteSize.j5] at h⟩
  | k + 1 => by
    obtain ⟨ih0, ih1, ih2, ih3, ih4, ih5, ih6⟩ := dbus_sigByteSize.mono_l k
    refine ⟨?_, ?_, ?_, ?_, ?_, ?_, ?_⟩
    · intro y0
      unfold dbus_sigByteSize.f
      repeat' first
      | (with_reducible exact ih0 _)
      | (with_reducible exact ih1 _ _ _)
      | (with_reducible exact ih2 _ _ _ _ _)
      | (with_reducible exact ih3 _ _ _ _ _)
      | (with_reducible exact ih4 _ _ _ _ _)
      | (with_reducible exact ih5 _ _ _ _ _)
      | (with_reducible exact ih6 _ _ _ _ _ _)
      | (with_reducible exact LeO.refl _)
      | (with_reducible exact LeO.none _)
      | (with_reducible refine LeO.ite ?_ ?_)
      | (with_reducible refine LeO.bind ?_ (fun _ => ?_))
      | exact ih0 _
      | exact ih1 _ _ _
      | exact ih2 _ _ _ _ _
      | exact ih3 _ _ _ _ _
      | exact ih4 _ _ _ _ _
      | exact ih5 _ _ _ _ _
      | exact ih6 _ _ _ _ _ _
      | exact LeO.none _
      | refine LeO.ite ?_ ?_
      | refine LeO.bind ?_ (fun _ => ?_)
    · intro y0 y1 y2
      unfold dbus_sigByteSize.l0
      repeat' first
      | (with_reducible exact ih0 _)
      | (with_reducible exact ih1 _ _ _)
      | (with_reducible exact ih2 _ _ _ _ _)
      | (with_reducible exact ih3 _ _ _ _ _)
      | (with_reducible exact ih4 _ _ _ _ _)
      | (with_reducible exact ih5 _ _ _ _ _)
      | (with_reducible exact ih6 _ _ _ _ _ _)
      | (with_reducible exact LeO.refl _)
      | (with_reducible exact LeO.none _)
      | (with_reducible refine LeO.ite ?_ ?_)
      | (with_reducible refine LeO.bind ?_ (fun _ => ?_))
      | exact ih0 _
      | exact ih1 _ _ _
      | exact ih2 _ _ _ _ _
      | exact ih3 _ _ _ _ _
      | exact ih4 _ _ _ _ _
      | exact ih5 _ _ _ _ _
      | exact ih6 _ _ _ _ _ _
      | exact LeO.none _
      | refine LeO.ite ?_ ?_
      | refine LeO.bind ?_ (fun _ => ?_)
    · intro y0 y1 y2 y3 y4
      unfold dbus_sigByteSize.j1
      repeat' first
      | (with_reducible exact ih0 _)
      | (with_reducible exact ih1 _ _ _)
      | (with_reducible exact ih2 _ _ _ _ _)
      | (with_reducible exact ih3 _ _ _ _ _)
      | (with_reducible exact ih4 _ _ _ _ _)
      | (with_reducible exact ih5 _ _ _ _ _)
      | (with_reducible exact ih6 _ _ _ _ _ _)
      | (with_reducible exact LeO.refl _)
      | (with_reducible exact LeO.none _)
      | (with_reducible refine LeO.ite ?_ ?_)
      | (with_reducible refine LeO.bind ?_ (fun _ => ?_))
      | exact ih0 _
      | exact ih1 _ _ _
      | exact ih2 _ _ _ _ _
      | exact ih3 _ _ _ _ _
      | exact ih4 _ _ _ _ _
      | exact ih5 _ _ _ _ _
      | exact ih6 _ _ _ _ _ _
      | exact LeO.none _
      | refine LeO.ite ?_ ?_
      | refine LeO.bind ?_ (fun _ => ?_)
    · intro y0 y1 y2 y3 y4
      unfold dbus_sigByteSize.j2
      repeat' first
      | (with_reducible exact ih0 _)
      | (with_reducible exact ih1 _ _ _)
      | (with_reducible exact ih2 _ _ _ _ _)
      | (with_reducible exact ih3 _ _ _ _ _)
      | (with_reducible exact ih4 _ _ _ _ _)
      | (with_reducible exact ih5 _ _ _ _ _)
      | (with_reducible exact ih6 _ _ _ _ _ _)
      | (with_reducible exact LeO.refl _)
      | (with_reducible exact LeO.none _)
      | (with_reducible refine LeO.ite ?_ ?_)
      | (with_reducible refine LeO.bind ?_ (fun _ => ?_))
      | exact ih0 _
      | exact ih1 _ _ _
      | exact ih2 _ _ _ _ _
      | exact ih3 _ _ _ _ _
      | exact ih4 _ _ _ _ _
      | exact ih5 _ _ _ _ _
      | exact ih6 _ _ _ _ _ _
      | exact LeO.none _
      | refine LeO.ite ?_ ?_
      | refine LeO.bind ?_ (fun _ => ?_)
    · intro y0 y1 y2 y3 y4
      unfold dbus_sigByteSize.j3
      repeat' first
      | (with_reducible exact ih0 _)
      | (with_reducible exact ih1 _ _ _)
      | (with_reducible exact ih2 _ _ _ _ _)
      | (with_reducible exact ih3 _ _ _ _ _)
      | (with_reducible exact ih4 _ _ _ _ _)
      | (with_reducible exact ih5 _ _ _ _ _)
      | (with_reducible exact ih6 _ _ _ _ _ _)
      | (with_reducible exact LeO.refl _)
      | (with_reducible exact LeO.none _)
      | (with_reducible refine LeO.ite ?_ ?_)
      | (with_reducible refine LeO.bind ?_ (fun _ => ?_))
      | exact ih0 _
      | exact ih1 _ _ _
      | exact ih2 _ _ _ _ _
      | exact ih3 _ _ _ _ _
      | exact ih4 _ _ _ _ _
      | exact ih5 _ _ _ _ _
      | exact ih6 _ _ _ _ _ _
      | exact LeO.none _
      | refine LeO.ite ?_ ?_
      | refine LeO.bind ?_ (fun _ => ?_)
    · intro y0 y1 y2 y3 y4
      unfold dbus_sigByteSize.l1
      repeat' first
      | (with_reducible exact ih0 _)
      | (with_reducible exact ih1 _ _ _)
      | (with_reducible exact ih2 _ _ _ _ _)
      | (with_reducible exact ih3 _ _ _ _ _)
      | (with_reducible exact ih4 _ _ _ _ _)
      | (with_reducible exact ih5 _ _ _ _ _)
      | (with_reducible exact ih6 _ _ _ _ _ _)
      | (with_reducible exact LeO.refl _)
      | (with_reducible exact LeO.none _)
      | (with_reducible refine LeO.ite ?_ ?_)
      | (with_reducible refine LeO.bind ?_ (fun _ => ?_))
      | exact ih0 _
      | exact ih1 _ _ _
      | exact ih2 _ _ _ _ _
      | exact ih3 _ _ _ _ _
      | exact ih4 _ _ _ _ _
      | exact ih5 _ _ _ _ _
      | exact ih6 _ _ _ _ _ _
      | exact LeO.none _
      | refine LeO.ite ?_ ?_
      | refine LeO.bind ?_ (fun _ => ?_)
    · intro y0 y1 y2 y3 y4 y5
      unfold dbus_sigByteSize.j5
      repeat' first
      | (with_reducible exact ih0 _)
      | (with_reducible exact ih1 _ _ _)
      | (with_reducible exact ih2 _ _ _ _ _)
      | (with_reducible exact ih3 _ _ _ _ _)
      | (with_reducible exact ih4 _ _ _ _ _)
      | (with_reducible exact ih5 _ _ _ _ _)
      | (with_reducible exact ih6 _ _ _ _ _ _)
      | (with_reducible exact LeO.refl _)
      | (with_reducible exact LeO.none _)
      | (with_reducible refine LeO.ite ?_ ?_)
      | (with_reducible refine LeO.bind ?_ (fun _ => ?_))
      | exact ih0 _
      | exact ih1 _ _ _
      | exact ih2 _ _ _ _ _
      | exact ih3 _ _ _ _ _
      | exact ih4 _ _ _ _ _
      | exact ih5 _ _ _ _ _
      | exact ih6 _ _ _ _ _ _
      | exact LeO.none _
      | refine LeO.ite ?_ ?_
      | refine LeO.bind ?_ (fun _ => ?_)
theorem dbus_sigByteSize.mono : ∀ a0 k, LeO (dbus_sigByteSize.f k a0) (dbus_sigByteSize.f (k + 1) a0) := by
  intro a0 k
  obtain ⟨ih0, ih1, ih2, ih3, ih4, ih5, ih6⟩ := dbus_sigByteSize.mono_l k
  exact ih0 a0
set_option maxHeartbeats 8000000 in
set_option maxRecDepth 100000 in
theorem dbus_sigByteSize.calls (k : Nat) : ∀ (a0 : ByteArray) (r : Int) (w : World) (h : dbus_sigByteSize.f k a0 = some r),
    Calls Try.prog 16 #[.string a0] w fun e w' => e = .returned (.int .i64 r) ∧ Drawn0 w w' := by
  induction k using Nat.strongRecOn with
  | _ k ih =>
  intro a0 r w h
  cases k with
  | zero => exact absurd h (by simp [dbus_sigByteSize.f])
  | succ k =>
  simp only [dbus_sigByteSize.f] at h
  have H : (dbus_sigByteSize.l0 k a0 0 0) = some r := h
  clear h
  have H' := Aside0.mk H
  clear H
  go_enter Try.func16, Try.ntmps16
  go_wp2
  go_loopg [3, 4] k (fun kq v3 v4 w' => ∃ (x3_1 : Int) (x4_1 : Int), v3 = .int .i64 x3_1 ∧ v4 = .int .i64 x4_1 ∧ Aside0 (dbus_sigByteSize.l0 kq a0 x3_1 x4_1 = some r) ∧ Aside0 (kq ≤ k) ∧ Drawn0 w w')
  case atStart => exact ⟨(0), (0), (by first | rfl | (simp; done) | (simp [*]; done)), (by first | rfl | (simp; done) | (simp [*]; done)), H', ⟨Nat.le_refl _⟩, by repeat (first | exact Drawn0.refl _ | apply Drawn0.step)⟩
  case round =>
    clear H'
    try clear c1
    obtain ⟨x3_1, x4_1, rfl, rfl, HA, HK1, ⟨m1, rfl⟩⟩ := hrel
    cases gk with
    | zero => exact absurd HA.out (by simp [dbus_sigByteSize.l0])
    | succ k1 =>
      have H := HA.out
      clear HA
      simp only [dbus_sigByteSize.l0] at H
      by_cases c2 : x4_1 < (a0.size : Int)
      · rw [if_pos c2] at H
        have c2b0 : decide (x4_1 < (a0.size : Int)) = true := decide_eq_true c2
        clear c2
        by_cases c3 : 0 ≤ x4_1
        · rw [if_pos c3] at H
          have c3b0 : decide (0 ≤ x4_1) = true := decide_eq_true c3
          clear c3
          by_cases c5 : (bt a0 x4_1) = 121
          · rw [if_pos c5] at H
            have c5b0 : ((bt a0 x4_1) == 121) = true := beq_iff_eq.mpr c5
            have c5b1 : ((bt a0 x4_1) != 121) = false := bne_eq_false_iff_eq.mpr c5
            clear c5
            have H' := Aside0.mk H
            clear H
            have p4 : 0 ≤ (x4_1 : Int) := of_decide_eq_true (by first | (with_reducible assumption) | assumption)
            have q4 : x4_1 < (a0.size : Int) := of_decide_eq_true (by first | (with_reducible assumption) | assumption)
            have hx4 := bt_at a0 x4_1
            replace p4 := eq_true p4
            replace q4 := eq_true q4
            go_wp2
            go_roundg k1
            case measure => have := HK1.out; omega
            case rel => exact ⟨(wrap64 (x3_1 + 1)), (wrap64 (x4_1 + 1)), (by first | rfl | (simp; done) | (simp [*]; done)), (by first | rfl | (simp; done) | (simp [*]; done)), H', ⟨by have := HK1.out; omega⟩, by repeat (first | exact Drawn0.refl _ | apply Drawn0.step)⟩
          · rw [if_neg c5] at H
            have c5b0 : ((bt a0 x4_1) == 121) = false := beq_eq_false_iff_ne.mpr c5
            have c5b1 : ((bt a0 x4_1) != 121) = true := bne_iff_ne.mpr c5
            have HC6 := Aside0.mk H
            clear H
            have p4 : 0 ≤ (x4_1 : Int) := of_decide_eq_true (by first | (with_reducible assumption) | assumption)
            have q4 : x4_1 < (a0.size : Int) := of_decide_eq_true (by first | (with_reducible assumption) | assumption)
            have hx4 := bt_at a0 x4_1
            replace p4 := eq_true p4
            replace q4 := eq_true q4
            go_upto_if 21 with (fail)
            go_cut [21] (fun v21 wc => ∃ (kq : Nat) (x21_5 : Bool), v21 = .bool x21_5 ∧ Aside0 (dbus_sigByteSize.j1 kq a0 x3_1 x4_1 (bt a0 x4_1) x21_5 = some r) ∧ Aside0 (kq ≤ k1) ∧ Drawn0 w wc)
            case first =>
              have H := HC6.out
              clear HC6
              by_cases c7 : (bt a0 x4_1) = 110
              · rw [if_pos c7] at H
                have c7b0 : ((bt a0 x4_1) == 110) = true := beq_iff_eq.mpr c7
                have c7b1 : ((bt a0 x4_1) != 110) = false := bne_eq_false_iff_eq.mpr c7
                clear c7
                (first | rw [c7b0] | (simp only [i64_w, i32_w]; rw [c7b0]) | skip)
                have H' := Aside0.mk H
                clear H
                go_wp2
                go_meet
                case rel => exact ⟨_, (((bt a0 x4_1) == 110)), (by first | rfl | (simp; done) | (simp [*]; done)), H', ⟨by have := HK1.out; first | omega | exact Nat.le_refl _⟩, by repeat (first | exact Drawn0.refl _ | apply Drawn0.step)⟩
              · rw [if_neg c7] at H
                have c7b0 : ((bt a0 x4_1) == 110) = false := beq_eq_false_iff_ne.mpr c7
                have c7b1 : ((bt a0 x4_1) != 110) = true := bne_iff_ne.mpr c7
                (first | rw [c7b0] | (simp only [i64_w, i32_w]; rw [c7b0]) | skip)
                have H' := Aside0.mk H
                clear H
                go_wp2
                go_meet
                case rel => exact ⟨_, (((bt a0 x4_1) == 113)), (by first | rfl | (simp; done) | (simp [*]; done)), H', ⟨by have := HK1.out; first | omega | exact Nat.le_refl _⟩, by repeat (first | exact Drawn0.refl _ | apply Drawn0.step)⟩
            case rest =>
              clear HC6
              try clear c1
              try clear c2
              try clear c2b0
              try clear p2
              try clear c3
              try clear c3b0
              try clear p4
              try clear q4
              try clear hx4
              try clear c5
              try clear c5b0
              try clear c5b1
              try clear p6
              try clear c7
              try clear c7b0
              try clear c7b1
              try clear p4
              try clear q4
              obtain ⟨kq, x21_5, rfl, HA, HJ5, ⟨mc5, rfl⟩⟩ := hcut
              cases kq with
              | zero => exact absurd HA.out (by simp [dbus_sigByteSize.j1])
              | succ kj5 =>
                have H := HA.out
                clear HA
                simp only [dbus_sigByteSize.j1] at H
                by_cases c8 : x21_5 = true
                · subst c8
                  have H1 : (dbus_sigByteSize.l0 kj5 a0 (wrap64 (x3_1 + 2)) (wrap64 (x4_1 + 1))) = some r := by rw [if_pos rfl] at H; exact H
                  clear H
                  have H := H1
                  clear H1
                  have H' := Aside0.mk H
                  clear H
                  go_wp2
                  go_roundg kj5
                  case measure => have := HK1.out; have := HJ5.out; omega
                  case rel => exact ⟨(wrap64 (x3_1 + 2)), (wrap64 (x4_1 + 1)), (by first | rfl | (simp; done) | (simp [*]; done)), (by first | rfl | (simp; done) | (simp [*]; done)), H', ⟨by have := HK1.out; have := HJ5.out; omega⟩, by repeat (first | exact Drawn0.refl _ | apply Drawn0.step)⟩
                · replace c8 := Bool.eq_false_iff.mpr c8
                  subst c8
                  have H1 : (if (bt a0 x4_1) = 98 then (dbus_sigByteSize.j2 kj5 a0 x3_1 x4_1 (bt a0 x4_1) ((bt a0 x4_1) == 98)) else (if (bt a0 x4_1) = 105 then (dbus_sigByteSize.j2 kj5 a0 x3_1 x4_1 (bt a0 x4_1) ((bt a0 x4_1) == 105)) else (if (bt a0 x4_1) = 117 then (dbus_sigByteSize.j2 kj5 a0 x3_1 x4_1 (bt a0 x4_1) ((bt a0 x4_1) == 117)) else (dbus_sigByteSize.j2 kj5 a0 x3_1 x4_1 (bt a0 x4_1) ((bt a0 x4_1) == 104))))) = some r := by rw [if_neg (show ¬ (false = true) by decide)] at H; exact H
                  clear H
                  have H := H1
                  clear H1
                  have HC9 := Aside0.mk H
                  clear H
                  go_upto_if 28 with (fail)
                  go_cut [28] (fun v28 wc => ∃ (kq : Nat) (x28_8 : Bool), v28 = .bool x28_8 ∧ Aside0 (dbus_sigByteSize.j2 kq a0 x3_1 x4_1 (bt a0 x4_1) x28_8 = some r) ∧ Aside0 (kq ≤ kj5) ∧ Drawn0 w wc)
                  case first =>
                    have H := HC9.out
                    clear HC9
                    by_cases c10 : (bt a0 x4_1) = 98
                    · rw [if_pos c10] at H
                      have c10b0 : ((bt a0 x4_1) == 98) = true := beq_iff_eq.mpr c10
                      have c10b1 : ((bt a0 x4_1) != 98) = false := bne_eq_false_iff_eq.mpr c10
                      clear c10
                      (first | rw [c10b0] | (simp only [i64_w, i32_w]; rw [c10b0]) | skip)
                      have H' := Aside0.mk H
                      clear H
                      go_wp2
                      go_meet
                      case rel => exact ⟨_, (((bt a0 x4_1) == 98)), (by first | rfl | (simp; done) | (simp [*]; done)), H', ⟨by have := HK1.out; have := HJ5.out; first | omega | exact Nat.le_refl _⟩, by repeat (first | exact Drawn0.refl _ | apply Drawn0.step)⟩
                    · rw [if_neg c10] at H
                      have c10b0 : ((bt a0 x4_1) == 98) = false := beq_eq_false_iff_ne.mpr c10
                      have c10b1 : ((bt a0 x4_1) != 98) = true := bne_iff_ne.mpr c10
                      (first | rw [c10b0] | (simp only [i64_w, i32_w]; rw [c10b0]) | skip)
                      by_cases c11 : (bt a0 x4_1) = 105
                      · rw [if_pos c11] at H
                        have c11b0 : ((bt a0 x4_1) == 105) = true := beq_iff_eq.mpr c11
                        have c11b1 : ((bt a0 x4_1) != 105) = false := bne_eq_false_iff_eq.mpr c11
                        clear c11
                        have H' := Aside0.mk H
                        clear H
                        go_wp2
                        go_meet
                        case rel => exact ⟨_, (((bt a0 x4_1) == 105)), (by first | rfl | (simp; done) | (simp [*]; done)), H', ⟨by have := HK1.out; have := HJ5.out; first | omega | exact Nat.le_refl _⟩, by repeat (first | exact Drawn0.refl _ | apply Drawn0.step)⟩
                      · rw [if_neg c11] at H
                        have c11b0 : ((bt a0 x4_1) == 105) = false := beq_eq_false_iff_ne.mpr c11
                        have c11b1 : ((bt a0 x4_1) != 105) = true := bne_iff_ne.mpr c11
                        by_cases c12 : (bt a0 x4_1) = 117
                        · rw [if_pos c12] at H
                          have c12b0 : ((bt a0 x4_1) == 117) = true := beq_iff_eq.mpr c12
                          have c12b1 : ((bt a0 x4_1) != 117) = false := bne_eq_false_iff_eq.mpr c12
                          clear c12
                          have H' := Aside0.mk H
                          clear H
                          go_wp2
                          go_meet
                          case rel => exact ⟨_, (((bt a0 x4_1) == 117)), (by first | rfl | (simp; done) | (simp [*]; done)), H', ⟨by have := HK1.out; have := HJ5.out; first | omega | exact Nat.le_refl _⟩, by repeat (first | exact Drawn0.refl _ | apply Drawn0.step)⟩
                        · rw [if_neg c12] at H
                          have c12b0 : ((bt a0 x4_1) == 117) = false := beq_eq_false_iff_ne.mpr c12
                          have c12b1 : ((bt a0 x4_1) != 117) = true := bne_iff_ne.mpr c12
                          have H' := Aside0.mk H
                          clear H
                          go_wp2
                          go_meet
                          case rel => exact ⟨_, (((bt a0 x4_1) == 104)), (by first | rfl | (simp; done) | (simp [*]; done)), H', ⟨by have := HK1.out; have := HJ5.out; first | omega | exact Nat.le_refl _⟩, by repeat (first | exact Drawn0.refl _ | apply Drawn0.step)⟩
                  case rest =>
                    clear HC9
                    try clear c1
                    try clear c2
                    try clear c2b0
                    try clear p2
                    try clear c3
                    try clear c3b0
                    try clear p4
                    try clear q4
                    try clear hx4
                    try clear c5
                    try clear c5b0
                    try clear c5b1
                    try clear p6
                    try clear c7
                    try clear c7b0
                    try clear c7b1
                    try clear c8
                    try clear c10
                    try clear c10b0
                    try clear c10b1
                    try clear c11
                    try clear c11b0
                    try clear c11b1
                    try clear c12
                    try clear c12b0
                    try clear c12b1
                    try clear p2
                    try clear p4
                    try clear p6
                    try clear q4
                    obtain ⟨kq, x28_8, rfl, HA, HJ8, ⟨mc8, rfl⟩⟩ := hcut
                    cases kq with
                    | zero => exact absurd HA.out (by simp [dbus_sigByteSize.j2])
                    | succ kj8 =>
                      have H := HA.out
                      clear HA
                      simp only [dbus_sigByteSize.j2] at H
                      by_cases c13 : x28_8 = true
                      · subst c13
                        have H1 : (dbus_sigByteSize.l0 kj8 a0 (wrap64 (x3_1 + 4)) (wrap64 (x4_1 + 1))) = some r := by rw [if_pos rfl] at H; exact H
                        clear H
                        have H := H1
                        clear H1
                        have H' := Aside0.mk H
                        clear H
                        go_wp2
                        go_roundg kj8
                        case measure => have := HK1.out; have := HJ5.out; have := HJ8.out; omega
                        case rel => exact ⟨(wrap64 (x3_1 + 4)), (wrap64 (x4_1 + 1)), (by first | rfl | (simp; done) | (simp [*]; done)), (by first | rfl | (simp; done) | (simp [*]; done)), H', ⟨by have := HK1.out; have := HJ5.out; have := HJ8.out; omega⟩, by repeat (first | exact Drawn0.refl _ | apply Drawn0.step)⟩
                      · replace c13 := Bool.eq_false_iff.mpr c13
                        subst c13
                        have H1 : (if (bt a0 x4_1) = 120 then (dbus_sigByteSize.j3 kj8 a0 x3_1 x4_1 (bt a0 x4_1) ((bt a0 x4_1) == 120)) else (if (bt a0 x4_1) = 116 then (dbus_sigByteSize.j3 kj8 a0 x3_1 x4_1 (bt a0 x4_1) ((bt a0 x4_1) == 116)) else (dbus_sigByteSize.j3 kj8 a0 x3_1 x4_1 (bt a0 x4_1) ((bt a0 x4_1) == 100)))) = some r := by rw [if_neg (show ¬ (false = true) by decide)] at H; exact H
                        clear H
                        have H := H1
                        clear H1
                        have HC14 := Aside0.mk H
                        clear H
                        go_upto_if 37 with (fail)
                        go_cut [37] (fun v37 wc => ∃ (kq : Nat) (x37_13 : Bool), v37 = .bool x37_13 ∧ Aside0 (dbus_sigByteSize.j3 kq a0 x3_1 x4_1 (bt a0 x4_1) x37_13 = some r) ∧ Aside0 (kq ≤ kj8) ∧ Drawn0 w wc)
                        case first =>
                          have H := HC14.out
                          clear HC14
                          by_cases c15 : (bt a0 x4_1) = 120
                          · rw [if_pos c15] at H
                            have c15b0 : ((bt a0 x4_1) == 120) = true := beq_iff_eq.mpr c15
                            have c15b1 : ((bt a0 x4_1) != 120) = false := bne_eq_false_iff_eq.mpr c15
                            clear c15
                            (first | rw [c15b0] | (simp only [i64_w, i32_w]; rw [c15b0]) | skip)
                            have H' := Aside0.mk H
                            clear H
                            go_wp2
                            go_meet
                            case rel => exact ⟨_, (((bt a0 x4_1) == 120)), (by first | rfl | (simp; done) | (simp [*]; done)), H', ⟨by have := HK1.out; have := HJ5.out; have := HJ8.out; first | omega | exact Nat.le_refl _⟩, by repeat (first | exact Drawn0.refl _ | apply Drawn0.step)⟩
                          · rw [if_neg c15] at H
                            have c15b0 : ((bt a0 x4_1) == 120) = false := beq_eq_false_iff_ne.mpr c15
                            have c15b1 : ((bt a0 x4_1) != 120) = true := bne_iff_ne.mpr c15
                            (first | rw [c15b0] | (simp only [i64_w, i32_w]; rw [c15b0]) | skip)
                            by_cases c16 : (bt a0 x4_1) = 116
                            · rw [if_pos c16] at H
                              have c16b0 : ((bt a0 x4_1) == 116) = true := beq_iff_eq.mpr c16
                              have c16b1 : ((bt a0 x4_1) != 116) = false := bne_eq_false_iff_eq.mpr c16
                              clear c16
                              have H' := Aside0.mk H
                              clear H
                              go_wp2
                              go_meet
                              case rel => exact ⟨_, (((bt a0 x4_1) == 116)), (by first | rfl | (simp; done) | (simp [*]; done)), H', ⟨by have := HK1.out; have := HJ5.out; have := HJ8.out; first | omega | exact Nat.le_refl _⟩, by repeat (first | exact Drawn0.refl _ | apply Drawn0.step)⟩
                            · rw [if_neg c16] at H
                              have c16b0 : ((bt a0 x4_1) == 116) = false := beq_eq_false_iff_ne.mpr c16
                              have c16b1 : ((bt a0 x4_1) != 116) = true := bne_iff_ne.mpr c16
                              have H' := Aside0.mk H
                              clear H
                              go_wp2
                              go_meet
                              case rel => exact ⟨_, (((bt a0 x4_1) == 100)), (by first | rfl | (simp; done) | (simp [*]; done)), H', ⟨by have := HK1.out; have := HJ5.out; have := HJ8.out; first | omega | exact Nat.le_refl _⟩, by repeat (first | exact Drawn0.refl _ | apply Drawn0.step)⟩
                        case rest =>
                          clear HC14
                          try clear c1
                          try clear c2
                          try clear c2b0
                          try clear p2
                          try clear c3
                          try clear c3b0
                          try clear p4
                          try clear q4
                          try clear hx4
                          try clear c5
                          try clear c5b0
                          try clear c5b1
                          try clear p6
                          try clear c7
                          try clear c7b0
                          try clear c7b1
                          try clear c8
                          try clear c10
                          try clear c10b0
                          try clear c10b1
                          try clear c11
                          try clear c11b0
                          try clear c11b1
                          try clear c12
                          try clear c12b0
                          try clear c12b1
                          try clear c13
                          try clear c15
                          try clear c15b0
                          try clear c15b1
                          try clear c16
                          try clear c16b0
                          try clear c16b1
                          try clear p2
                          try clear p4
                          try clear p6
                          try clear q4
                          obtain ⟨kq, x37_13, rfl, HA, HJ13, ⟨mc13, rfl⟩⟩ := hcut
                          cases kq with
                          | zero => exact absurd HA.out (by simp [dbus_sigByteSize.j3])
                          | succ kj13 =>
                            have H := HA.out
                            clear HA
                            simp only [dbus_sigByteSize.j3] at H
                            by_cases c17 : x37_13 = true
                            · subst c17
                              have H1 : (dbus_sigByteSize.l0 kj13 a0 (wrap64 (x3_1 + 8)) (wrap64 (x4_1 + 1))) = some r := by rw [if_pos rfl] at H; exact H
                              clear H
                              have H := H1
                              clear H1
                              have H' := Aside0.mk H
                              clear H
                              go_wp2
                              go_roundg kj13
                              case measure => have := HK1.out; have := HJ5.out; have := HJ8.out; have := HJ13.out; omega
                              case rel => exact ⟨(wrap64 (x3_1 + 8)), (wrap64 (x4_1 + 1)), (by first | rfl | (simp; done) | (simp [*]; done)), (by first | rfl | (simp; done) | (simp [*]; done)), H', ⟨by have := HK1.out; have := HJ5.out; have := HJ8.out; have := HJ13.out; omega⟩, by repeat (first | exact Drawn0.refl _ | apply Drawn0.step)⟩
                            · replace c17 := Bool.eq_false_iff.mpr c17
                              subst c17
                              have H1 : (if (bt a0 x4_1) = 40 then (dbus_sigByteSize.l1 kj13 a0 x3_1 x4_1 1 1) else (some 0)) = some r := by rw [if_neg (show ¬ (false = true) by decide)] at H; exact H
                              clear H
                              have H := H1
                              clear H1
                              by_cases c18 : (bt a0 x4_1) = 40
                              · rw [if_pos c18] at H
                                have c18b0 : ((bt a0 x4_1) == 40) = true := beq_iff_eq.mpr c18
                                have c18b1 : ((bt a0 x4_1) != 40) = false := bne_eq_false_iff_eq.mpr c18
                                clear c18
                                have H' := Aside0.mk H
                                clear H
                                go_wp2
                                go_loopg [5, 6] kj13 (fun kq v5 v6 w' => ∃ (x5_5 : Int) (x6_5 : Int), v5 = .int .i64 x5_5 ∧ v6 = .int .i64 x6_5 ∧ Aside0 (dbus_sigByteSize.l1 kq a0 x3_1 x4_1 x5_5 x6_5 = some r) ∧ Aside0 (kq ≤ kj13) ∧ Drawn0 w w')
                                case atStart => exact ⟨(1), (1), (by first | rfl | (simp; done) | (simp [*]; done)), (by first | rfl | (simp; done) | (simp [*]; done)), H', ⟨Nat.le_refl _⟩, by repeat (first | exact Drawn0.refl _ | apply Drawn0.step)⟩
                                case round =>
                                  clear H'
                                  try clear c1
                                  try clear c2
                                  try clear c2b0
                                  try clear p2
                                  try clear c3
                                  try clear c3b0
                                  try clear p4
                                  try clear q4
                                  try clear hx4
                                  try clear c5
                                  try clear c5b0
                                  try clear c5b1
                                  try clear p6
                                  try clear c7
                                  try clear c7b0
                                  try clear c7b1
                                  try clear c8
                                  try clear c10
                                  try clear c10b0
                                  try clear c10b1
                                  try clear c11
                                  try clear c11b0
                                  try clear c11b1
                                  try clear c12
                                  try clear c12b0
                                  try clear c12b1
                                  try clear c13
                                  try clear c15
                                  try clear c15b0
                                  try clear c15b1
                                  try clear c16
                                  try clear c16b0
                                  try clear c16b1
                                  try clear c17
                                  try clear c18
                                  try clear c18b0
                                  try clear c18b1
                                  try clear p2
                                  try clear p4
                                  try clear p6
                                  try clear q4
                                  obtain ⟨x5_5, x6_5, rfl, rfl, HA, HK5, ⟨m5, rfl⟩⟩ := hrel
                                  cases gk with
                                  | zero => exact absurd HA.out (by simp [dbus_sigByteSize.l1])
                                  | succ k5 =>
                                    have H := HA.out
                                    clear HA
                                    simp only [dbus_sigByteSize.l1] at H
                                    have HC19 := Aside0.mk H
                                    clear H
                                    go_upto_region 27 with (fail)
                                    go_cut [56] (fun v56 wc => ∃ (kq : Nat) (x56_18 : Bool), v56 = .bool x56_18 ∧ Aside0 (dbus_sigByteSize.j5 kq a0 x3_1 x4_1 x5_5 x6_5 x56_18 = some r) ∧ Aside0 (kq ≤ k5) ∧ Drawn0 w wc)
                                    case first =>
                                      have H := HC19.out
                                      clear HC19
                                      by_cases c20 : 0 ≤ x4_1
                                      · rw [if_pos c20] at H
                                        have c20b0 := eq_true c20
                                        have c20b1 : decide (0 ≤ x4_1) = true := decide_eq_true c20
                                        clear c20
                                        by_cases c21 : x4_1 ≤ (a0.size : Int)
                                        · rw [if_pos c21] at H
                                          have c21b0 := eq_true c21
                                          have c21b1 : decide (x4_1 ≤ (a0.size : Int)) = true := decide_eq_true c21
                                          clear c21
                                          by_cases c22 : x5_5 < ((a0.extract (x4_1 : Int).toNat a0.size).size : Int)
                                          · rw [if_pos c22] at H
                                            have c22b0 : decide (x5_5 < ((a0.extract (x4_1 : Int).toNat a0.size).size : Int)) = true := decide_eq_true c22
                                            have c22b1 : decide (x5_5 < ((a0.size - (x4_1 : Int).toNat : Nat) : Int)) = true := by have h_ := c22; rw [ByteArray.size_extract, Nat.min_self] at h_; first | exact decide_eq_true h_ | (apply decide_eq_true; omega)
                                            clear c22
                                            (first | rw [c22b0] | (simp only [i64_w, i32_w]; rw [c22b0]) | skip)
                                            have H' := Aside0.mk H
                                            clear H
                                            go_wp2
                                            go_meet
                                            case rel => exact ⟨_, ((x6_5 != 0)), (by first | rfl | (simp; done) | (simp [*]; done)), H', ⟨by have := HK1.out; have := HJ5.out; have := HJ8.out; have := HJ13.out; have := HK5.out; first | omega | exact Nat.le_refl _⟩, by repeat (first | exact Drawn0.refl _ | apply Drawn0.step)⟩
                                          · rw [if_neg c22] at H
                                            have c22b0 : decide (x5_5 < ((a0.extract (x4_1 : Int).toNat a0.size).size : Int)) = false := decide_eq_false c22
                                            have c22b1 : decide (x5_5 < ((a0.size - (x4_1 : Int).toNat : Nat) : Int)) = false := by have h_ := c22; rw [ByteArray.size_extract, Nat.min_self] at h_; first | exact decide_eq_false h_ | (apply decide_eq_false; omega)
                                            clear c22
                                            (first | rw [c22b0] | (simp only [i64_w, i32_w]; rw [c22b0]) | skip)
                                            have H' := Aside0.mk H
                                            clear H
                                            go_wp2
                                            go_meet
                                            case rel => exact ⟨_, (false), (by first | rfl | (simp; done) | (simp [*]; done)), H', ⟨by have := HK1.out; have := HJ5.out; have := HJ8.out; have := HJ13.out; have := HK5.out; first | omega | exact Nat.le_refl _⟩, by repeat (first | exact Drawn0.refl _ | apply Drawn0.step)⟩
                                        · rw [if_neg c21] at H
                                          exact absurd H (by simp)
                                      · rw [if_neg c20] at H
                                        exact absurd H (by simp)
                                    case rest =>
                                      clear HC19
                                      try clear c1
                                      try clear c2
                                      try clear c2b0
                                      try clear p2
                                      try clear c3
                                      try clear c3b0
                                      try clear p4
                                      try clear q4
                                      try clear hx4
                                      try clear c5
                                      try clear c5b0
                                      try clear c5b1
                                      try clear p6
                                      try clear c7
                                      try clear c7b0
                                      try clear c7b1
                                      try clear c8
                                      try clear c10
                                      try clear c10b0
                                      try clear c10b1
                                      try clear c11
                                      try clear c11b0
                                      try clear c11b1
                                      try clear c12
                                      try clear c12b0
                                      try clear c12b1
                                      try clear c13
                                      try clear c15
                                      try clear c15b0
                                      try clear c15b1
                                      try clear c16
                                      try clear c16b0
                                      try clear c16b1
                                      try clear c17
                                      try clear c18
                                      try clear c18b0
                                      try clear c18b1
                                      try clear c20
                                      try clear c20b0
                                      try clear c20b1
                                      try clear c21
                                      try clear c21b0
                                      try clear c21b1
                                      try clear c22
                                      try clear c22b0
                                      try clear c22b1
                                      try clear p2
                                      try clear p4
                                      try clear p6
                                      try clear q4
                                      obtain ⟨kq, x56_18, rfl, HA, HJ18, ⟨mc18, rfl⟩⟩ := hcut
                                      cases kq with
                                      | zero => exact absurd HA.out (by simp [dbus_sigByteSize.j5])
                                      | succ kj18 =>
                                        have H := HA.out
                                        clear HA
                                        simp only [dbus_sigByteSize.j5] at H
                                        by_cases c23 : x56_18 = true
                                        · subst c23
                                          have H1 : (if 0 ≤ (wrap64 (x4_1 + x5_5)) then (if (wrap64 (x4_1 + x5_5)) < (a0.size : Int) then (if (bt a0 (wrap64 (x4_1 + x5_5))) = 40 then (dbus_sigByteSize.l1 kj18 a0 x3_1 x4_1 (wrap64 (x5_5 + 1)) (wrap64 (x6_5 + 1))) else (if (bt a0 (wrap64 (x4_1 + x5_5))) = 41 then (dbus_sigByteSize.l1 kj18 a0 x3_1 x4_1 (wrap64 (x5_5 + 1)) (wrap64 (x6_5 - 1))) else (dbus_sigByteSize.l1 kj18 a0 x3_1 x4_1 (wrap64 (x5_5 + 1)) x6_5))) else (none)) else (none)) = some r := by rw [if_pos rfl] at H; exact H
                                          clear H
                                          have H := H1
                                          clear H1
                                          obtain ⟨ji24, hji24⟩ : ∃ j_ : Int, (wrap64 (x4_1 + x5_5)) = j_ := ⟨_, rfl⟩
                                          replace H : (if 0 ≤ (ji24) then (if (ji24) < (a0.size : Int) then (if (bt a0 (ji24)) = 40 then (dbus_sigByteSize.l1 kj18 a0 x3_1 x4_1 (wrap64 (x5_5 + 1)) (wrap64 (x6_5 + 1))) else (if (bt a0 (ji24)) = 41 then (dbus_sigByteSize.l1 kj18 a0 x3_1 x4_1 (wrap64 (x5_5 + 1)) (wrap64 (x6_5 - 1))) else (dbus_sigByteSize.l1 kj18 a0 x3_1 x4_1 (wrap64 (x5_5 + 1)) x6_5))) else (none)) else (none)) = some r := by first | (rw [hji24] at H; exact H) | (simp only [hji24] at H ⊢; exact H)
                                          have hji24w : (IntKind.i64.wrap (x4_1 + x5_5)) = ji24 := (i64_w _).trans hji24
                                          by_cases c25 : 0 ≤ (ji24)
                                          · rw [if_pos c25] at H
                                            have c25b0 : decide (0 ≤ (ji24)) = true := decide_eq_true c25
                                            clear c25
                                            by_cases c26 : (ji24) < (a0.size : Int)
                                            · rw [if_pos c26] at H
                                              have c26b0 : decide ((ji24) < (a0.size : Int)) = true := decide_eq_true c26
                                              clear c26
                                              by_cases c28 : (bt a0 (ji24)) = 40
                                              · rw [if_pos c28] at H
                                                have c28b0 : ((bt a0 (ji24)) == 40) = true := beq_iff_eq.mpr c28
                                                have c28b1 : ((bt a0 (ji24)) != 40) = false := bne_eq_false_iff_eq.mpr c28
                                                clear c28
                                                have H' := Aside0.mk H
                                                clear H
                                                have p27 : 0 ≤ ((ji24) : Int) := of_decide_eq_true (by first | (with_reducible assumption) | assumption)
                                                have q27 : (ji24) < (a0.size : Int) := of_decide_eq_true (by first | (with_reducible assumption) | assumption)
                                                have hx27 := bt_at a0 (ji24)
                                                replace p27 := eq_true p27
                                                replace q27 := eq_true q27
                                                go_wp2
                                                go_roundg kj18
                                                case measure => have := HK1.out; have := HJ5.out; have := HJ8.out; have := HJ13.out; have := HK5.out; have := HJ18.out; omega
                                                case rel => exact ⟨(wrap64 (x5_5 + 1)), (wrap64 (x6_5 + 1)), (by first | rfl | (simp; done) | (simp [*]; done)), (by first | rfl | (simp; done) | (simp [*]; done)), H', ⟨by have := HK1.out; have := HJ5.out; have := HJ8.out; have := HJ13.out; have := HK5.out; have := HJ18.out; omega⟩, by repeat (first | exact Drawn0.refl _ | apply Drawn0.step)⟩
                                              · rw [if_neg c28] at H
                                                have c28b0 : ((bt a0 (ji24)) == 40) = false := beq_eq_false_iff_ne.mpr c28
                                                have c28b1 : ((bt a0 (ji24)) != 40) = true := bne_iff_ne.mpr c28
                                                by_cases c29 : (bt a0 (ji24)) = 41
                                                · rw [if_pos c29] at H
                                                  have c29b0 : ((bt a0 (ji24)) == 41) = true := beq_iff_eq.mpr c29
                                                  have c29b1 : ((bt a0 (ji24)) != 41) = false := bne_eq_false_iff_eq.mpr c29
                                                  clear c29
                                                  have H' := Aside0.mk H
                                                  clear H
                                                  have p27 : 0 ≤ ((ji24) : Int) := of_decide_eq_true (by first | (with_reducible assumption) | assumption)
                                                  have q27 : (ji24) < (a0.size : Int) := of_decide_eq_true (by first | (with_reducible assumption) | assumption)
                                                  have hx27 := bt_at a0 (ji24)
                                                  replace p27 := eq_true p27
                                                  replace q27 := eq_true q27
                                                  go_wp2
                                                  go_roundg kj18
                                                  case measure => have := HK1.out; have := HJ5.out; have := HJ8.out; have := HJ13.out; have := HK5.out; have := HJ18.out; omega
                                                  case rel => exact ⟨(wrap64 (x5_5 + 1)), (wrap64 (x6_5 - 1)), (by first | rfl | (simp; done) | (simp [*]; done)), (by first | rfl | (simp; done) | (simp [*]; done)), H', ⟨by have := HK1.out; have := HJ5.out; have := HJ8.out; have := HJ13.out; have := HK5.out; have := HJ18.out; omega⟩, by repeat (first | exact Drawn0.refl _ | apply Drawn0.step)⟩
                                                · rw [if_neg c29] at H
                                                  have c29b0 : ((bt a0 (ji24)) == 41) = false := beq_eq_false_iff_ne.mpr c29
                                                  have c29b1 : ((bt a0 (ji24)) != 41) = true := bne_iff_ne.mpr c29
                                                  have H' := Aside0.mk H
                                                  clear H
                                                  have p27 : 0 ≤ ((ji24) : Int) := of_decide_eq_true (by first | (with_reducible assumption) | assumption)
                                                  have q27 : (ji24) < (a0.size : Int) := of_decide_eq_true (by first | (with_reducible assumption) | assumption)
                                                  have hx27 := bt_at a0 (ji24)
                                                  replace p27 := eq_true p27
                                                  replace q27 := eq_true q27
                                                  go_wp2
                                                  go_roundg kj18
                                                  case measure => have := HK1.out; have := HJ5.out; have := HJ8.out; have := HJ13.out; have := HK5.out; have := HJ18.out; omega
                                                  case rel => exact ⟨(wrap64 (x5_5 + 1)), (x6_5), (by first | rfl | (simp; done) | (simp [*]; done)), (by first | rfl | (simp; done) | (simp [*]; done)), H', ⟨by have := HK1.out; have := HJ5.out; have := HJ8.out; have := HJ13.out; have := HK5.out; have := HJ18.out; omega⟩, by repeat (first | exact Drawn0.refl _ | apply Drawn0.step)⟩
                                            · rw [if_neg c26] at H
                                              exact absurd H (by simp)
                                          · rw [if_neg c25] at H
                                            exact absurd H (by simp)
                                        · replace c23 := Bool.eq_false_iff.mpr c23
                                          subst c23
                                          have H1 : (if 0 ≤ (wrap64 (x4_1 + 1)) then (if (wrap64 (x4_1 + 1)) ≤ (wrap64 ((wrap64 (x4_1 + x5_5)) - 1)) then (if (wrap64 ((wrap64 (x4_1 + x5_5)) - 1)) ≤ (a0.size : Int) then ((dbus_sigByteSize.f kj18 (a0.extract ((wrap64 (x4_1 + 1)) : Int).toNat ((wrap64 ((wrap64 (x4_1 + x5_5)) - 1)) : Int).toNat)).bind fun t115 => (if t115 = 0 then (some 0) else (dbus_sigByteSize.l0 kj18 a0 (wrap64 (x3_1 + t115)) (wrap64 (x4_1 + x5_5))))) else (none)) else (none)) else (none)) = some r := by rw [if_neg (show ¬ (false = true) by decide)] at H; exact H
                                          clear H
                                          have H := H1
                                          clear H1
                                          obtain ⟨ji30, hji30⟩ : ∃ j_ : Int, (wrap64 (x4_1 + 1)) = j_ := ⟨_, rfl⟩
                                          replace H : (if 0 ≤ (ji30) then (if (ji30) ≤ (wrap64 ((wrap64 (x4_1 + x5_5)) - 1)) then (if (wrap64 ((wrap64 (x4_1 + x5_5)) - 1)) ≤ (a0.size : Int) then ((dbus_sigByteSize.f kj18 (a0.extract ((ji30) : Int).toNat ((wrap64 ((wrap64 (x4_1 + x5_5)) - 1)) : Int).toNat)).bind fun t115 => (if t115 = 0 then (some 0) else (dbus_sigByteSize.l0 kj18 a0 (wrap64 (x3_1 + t115)) (wrap64 (x4_1 + x5_5))))) else (none)) else (none)) else (none)) = some r := by first | (rw [hji30] at H; exact H) | (simp only [hji30] at H ⊢; exact H)
                                          have hji30w : (IntKind.i64.wrap (x4_1 + 1)) = ji30 := (i64_w _).trans hji30
                                          by_cases c31 : 0 ≤ (ji30)
                                          · rw [if_pos c31] at H
                                            have c31b0 := eq_true c31
                                            have c31b1 : decide (0 ≤ (ji30)) = true := decide_eq_true c31
                                            clear c31
                                            by_cases c32 : (ji30) ≤ (wrap64 ((wrap64 (x4_1 + x5_5)) - 1))
                                            · rw [if_pos c32] at H
                                              have c32b0 := eq_true c32
                                              have c32b1 : decide ((ji30) ≤ (wrap64 ((wrap64 (x4_1 + x5_5)) - 1))) = true := decide_eq_true c32
                                              by_cases c33 : (wrap64 ((wrap64 (x4_1 + x5_5)) - 1)) ≤ (a0.size : Int)
                                              · rw [if_pos c33] at H
                                                have c33b0 := eq_true c33
                                                have c33b1 : decide ((wrap64 ((wrap64 (x4_1 + x5_5)) - 1)) ≤ (a0.size : Int)) = true := decide_eq_true c33
                                                replace H := Option.bind_eq_some_iff.mp H
                                                obtain ⟨t115, A340, H⟩ := H
                                                replace H : (if t115 = 0 then (some 0) else (dbus_sigByteSize.l0 kj18 a0 (wrap64 (x3_1 + t115)) (wrap64 (x4_1 + x5_5)))) = some r := H
                                                have A34 := Aside0.mk A340
                                                clear A340
                                                by_cases c35 : t115 = 0
                                                · rw [if_pos c35] at H
                                                  have c35b0 : (t115 == 0) = true := beq_iff_eq.mpr c35
                                                  have c35b1 : (t115 != 0) = false := bne_eq_false_iff_eq.mpr c35
                                                  clear c35
                                                  obtain rfl := Option.some.inj H
                                                  go_wp2_with (first | ((with_reducible refine gate_callee (f := 16) rfl ?_); refine goesL_ (some 80) rfl rfl Try.func16 (by kernel_rfl) rfl #[.string (a0.extract ((ji30) : Int).toNat ((wrap64 ((wrap64 (x4_1 + x5_5)) - 1)) : Int).toNat)] rfl (by (try simp only [List.map_toArray, List.map_cons, List.map_nil]); first | done | (simp only [hji30]; rfl) | rfl | (simp only [List.length_drop, List.length_take]; rfl)) ?_; (with_reducible refine (ih kj18 (by have := HK1.out; have := HJ5.out; have := HJ8.out; have := HJ13.out; have := HK5.out; have := HJ18.out; omega) (a0.extract ((ji30) : Int).toNat ((wrap64 ((wrap64 (x4_1 + x5_5)) - 1)) : Int).toNat) t115 _ A34.out).mono ?_); rintro e w' ⟨rfl, ⟨nd, rfl⟩⟩; refine ⟨_, rfl, ?_⟩))
                                                  go_ret
                                                  exact ⟨by first | rfl | (simp; done) | (simp only [← hji30] <;> (first | rfl | simp)) | (simp [*]; done), by repeat (first | exact Drawn0.refl _ | apply Drawn0.step)⟩
                                                · rw [if_neg c35] at H
                                                  have c35b0 : (t115 == 0) = false := beq_eq_false_iff_ne.mpr c35
                                                  have c35b1 : (t115 != 0) = true := bne_iff_ne.mpr c35
                                                  have H' := Aside0.mk H
                                                  clear H
                                                  go_wp2_with (first | ((with_reducible refine gate_callee (f := 16) rfl ?_); refine goesL_ (some 80) rfl rfl Try.func16 (by kernel_rfl) rfl #[.string (a0.extract ((ji30) : Int).toNat ((wrap64 ((wrap64 (x4_1 + x5_5)) - 1)) : Int).toNat)] rfl (by (try simp only [List.map_toArray, List.map_cons, List.map_nil]); first | done | (simp only [hji30]; rfl) | rfl | (simp only [List.length_drop, List.length_take]; rfl)) ?_; (with_reducible refine (ih kj18 (by have := HK1.out; have := HJ5.out; have := HJ8.out; have := HJ13.out; have := HK5.out; have := HJ18.out; omega) (a0.extract ((ji30) : Int).toNat ((wrap64 ((wrap64 (x4_1 + x5_5)) - 1)) : Int).toNat) t115 _ A34.out).mono ?_); rintro e w' ⟨rfl, ⟨nd, rfl⟩⟩; refine ⟨_, rfl, ?_⟩))
                                                  go_roundg kj18
                                                  case measure => have := HK1.out; have := HJ5.out; have := HJ8.out; have := HJ13.out; have := HK5.out; have := HJ18.out; omega
                                                  case rel => exact ⟨(wrap64 (x3_1 + t115)), (wrap64 (x4_1 + x5_5)), (by first | rfl | (simp; done) | (simp [*]; done)), (by first | rfl | (simp; done) | (simp [*]; done)), H', ⟨by have := HK1.out; have := HJ5.out; have := HJ8.out; have := HJ13.out; have := HK5.out; have := HJ18.out; omega⟩, by repeat (first | exact Drawn0.refl _ | apply Drawn0.step)⟩
                                              · rw [if_neg c33] at H
                                                exact absurd H (by simp)
                                            · rw [if_neg c32] at H
                                              exact absurd H (by simp)
                                          · rw [if_neg c31] at H
                                            exact absurd H (by simp)
                              · rw [if_neg c18] at H
                                have c18b0 : ((bt a0 x4_1) == 40) = false := beq_eq_false_iff_ne.mpr c18
                                have c18b1 : ((bt a0 x4_1) != 40) = true := bne_iff_ne.mpr c18
                                obtain rfl := Option.some.inj H
                                go_wp2
                                go_ret
                                exact ⟨by first | rfl | (simp; done) | (simp [*]; done), by repeat (first | exact Drawn0.refl _ | apply Drawn0.step)⟩
        · rw [if_neg c3] at H
          exact absurd H (by simp)
      · rw [if_neg c2] at H
        have c2b0 : decide (x4_1 < (a0.size : Int)) = false := decide_eq_false c2
        clear c2
        obtain rfl := Option.some.inj H
        go_wp2
        go_ret
        exact ⟨by first | rfl | (simp; done) | (simp [*]; done), by repeat (first | exact Drawn0.refl _ | apply Drawn0.step)⟩

/-! ### dbus_DoorSize: function 12 -/
def dbus_DoorSize.f (k : Nat) (a0 : ByteArray) : Option (Int) := (dbus_sigByteSize.f k a0).bind fun t116 => (some t116)
theorem dbus_DoorSize.mono : ∀ a0 k, LeO (dbus_DoorSize.f k a0) (dbus_DoorSize.f (k + 1) a0) := by
  intro a0 k
  unfold dbus_DoorSize.f
  repeat' first
      | (with_reducible exact dbus_sigByteSize.mono _ _)
      | (with_reducible exact LeO.refl _)
      | (with_reducible exact LeO.none _)
      | (with_reducible refine LeO.ite ?_ ?_)
      | (with_reducible refine LeO.bind ?_ (fun _ => ?_))
      | exact dbus_sigByteSize.mono _ _
      | exact LeO.none _
      | refine LeO.ite ?_ ?_
      | refine LeO.bind ?_ (fun _ => ?_)
set_option maxHeartbeats 8000000 in
set_option maxRecDepth 100000 in
theorem dbus_DoorSize.calls (k : Nat) (a0 : ByteArray) (r : Int) (w : World) (h : dbus_DoorSize.f k a0 = some r) :
    Calls Try.prog 12 #[.string a0] w fun e w' => e = .returned (.int .i64 r) ∧ Drawn0 w w' := by
  have H : ((dbus_sigByteSize.f k a0).bind fun t116 => (some t116)) = some r := h
  clear h
  replace H := Option.bind_eq_some_iff.mp H
  obtain ⟨t116, A20, H⟩ := H
  replace H : (some t116) = some r := H
  have A2 := Aside0.mk A20
  clear A20
  obtain rfl := Option.some.inj H
  go_enter Try.func12, Try.ntmps12
  go_wp2_with (first | ((with_reducible refine gate_callee (f := 16) rfl ?_); refine goesL_ (some 4) rfl rfl Try.func16 (by kernel_rfl) rfl #[.string a0] rfl (by (try simp only [List.map_toArray, List.map_cons, List.map_nil]); first | done | rfl | (simp only [List.length_drop, List.length_take]; rfl)) ?_; (with_reducible refine (dbus_sigByteSize.calls k a0 t116 _ A2.out).mono ?_); rintro e w' ⟨rfl, ⟨nd, rfl⟩⟩; refine ⟨_, rfl, ?_⟩))
  go_ret
  exact ⟨by first | rfl | (simp; done) | (simp [*]; done), by repeat (first | exact Drawn0.refl _ | apply Drawn0.step)⟩

end Go.Proofs.Ytodphfcneiodhaa.MFnWrSize
