-- Written by a program of this session (myprint.py, out of the translation). Not trusted: Lean checks it.
import Derived.Test.YtngbhojjjkdofaaDoorMFnVtBytesx0
namespace Go.Proofs.YtngbhojjjkdofaaDoor.MFnVtBytes
open Go.RowKit Go.Proofs.YtngbhojjjkdofaaDoorW.PrintWords Go.Proofs.YtngbhojjjkdofaaDoorW.PrintLast Go.Proofs.YtngbhojjjkdofaaDoorW.PrintMore
attribute [local go_sem] max2_int min2_int max_two min_two max_three min_three max_four min_four   -- for this text's walks alone
set_option linter.unusedVariables false
set_option linter.unusedSimpArgs false

/-! ### laws_vtInside: function 5 -/
mutual
def laws_vtInside.j0 : Nat → ByteArray → ByteArray → Option (ByteArray × Bool)
  | 0, _, _ => none
  | k + 1, x0, x6 => if x6.size + x0.size ≤ 9223372036854775807 then (if (x6 ++ x0).size + x6.size ≤ 9223372036854775807 then (laws_vtInside.l0 k x6 ((x6 ++ x0) ++ x6) 1) else (none)) else (none)
def laws_vtInside.l0 : Nat → ByteArray → ByteArray → Int → Option (ByteArray × Bool)
  | 0, _, _, _ => none
  | k + 1, x6, x7, x8 => if x8 < (x7.size : Int) then (if 0 ≤ x8 then (if (bt x7 x8) = 92 then (laws_vtInside.l0 k x6 x7 (wrap64 ((wrap64 (x8 + 1)) + 1))) else (if 0 < (x6.size : Int) then (if (bt x7 x8) = (bt x6 0) then (some (x7, (x8 == (wrap64 ((x7.size : Int) - 1))))) else (laws_vtInside.l0 k x6 x7 (wrap64 (x8 + 1)))) else (none))) else (none)) else (some (x7, false))
end
def laws_vtInside.f (k : Nat) (a0 : ByteArray) (a1 : Bool) : Option (ByteArray × Bool) := if a1 = true then (laws_vtInside.j0 k a0 (⟨#[34]⟩ : ByteArray)) else (laws_vtInside.j0 k a0 (⟨#[39]⟩ : ByteArray))
theorem laws_vtInside.mono_l : ∀ k, (∀ y0 y1, LeO (laws_vtInside.j0 k y0 y1) (laws_vtInside.j0 (k + 1) y0 y1)) ∧ (∀ y0 y1 y2, LeO (laws_vtInside.l0 k y0 y1 y2) (laws_vtInside.l0 (k + 1) y0 y1 y2))
  | 0 => ⟨fun _ _ r h => by simp [laws_vtInside.j0] at h, fun _ _ _ r h => by simp [laws_vtInside.l0] at h⟩
  | k + 1 => by
    obtain ⟨ih0, ih1⟩ := laws_vtInside.mono_l k
    refine ⟨?_, ?_⟩
    · intro y0 y1
      unfold laws_vtInside.j0
      repeat' first
      | (with_reducible exact ih0 _ _)
      | (with_reducible exact ih1 _ _ _)
      | (with_reducible exact LeO.refl _)
      | (with_reducible exact LeO.none _)
      | (with_reducible refine LeO.ite ?_ ?_)
      | (with_reducible refine LeO.bind ?_ (fun _ => ?_))
      | exact ih0 _ _
      | exact ih1 _ _ _
      | exact LeO.none _
      | refine LeO.ite ?_ ?_
      | refine LeO.bind ?_ (fun _ => ?_)
    · intro y0 y1 y2
      unfold laws_vtInside.l0
      repeat' first
      | (with_reducible exact ih0 _ _)
      | (with_reducible exact ih1 _ _ _)
      | (with_reducible exact LeO.refl _)
      | (with_reducible exact LeO.none _)
      | (with_reducible refine LeO.ite ?_ ?_)
      | (with_reducible refine LeO.bind ?_ (fun _ => ?_))
      | exact ih0 _ _
      | exact ih1 _ _ _
      | exact LeO.none _
      | refine LeO.ite ?_ ?_
      | refine LeO.bind ?_ (fun _ => ?_)
theorem laws_vtInside.mono : ∀ a0 a1 k, LeO (laws_vtInside.f k a0 a1) (laws_vtInside.f (k + 1) a0 a1) := by
  intro a0 a1 k
  obtain ⟨ih0, ih1⟩ := laws_vtInside.mono_l k
  unfold laws_vtInside.f
  repeat' first
      | (with_reducible exact ih0 _ _)
      | (with_reducible exact ih1 _ _ _)
      | (with_reducible exact LeO.refl _)
      | (with_reducible exact LeO.none _)
      | (with_reducible refine LeO.ite ?_ ?_)
      | (with_reducible refine LeO.bind ?_ (fun _ => ?_))
      | exact ih0 _ _
      | exact ih1 _ _ _
      | exact LeO.none _
      | refine LeO.ite ?_ ?_
      | refine LeO.bind ?_ (fun _ => ?_)
set_option maxHeartbeats 8000000 in
set_option maxRecDepth 100000 in
theorem laws_vtInside.calls (k : Nat) (a0 : ByteArray) (a1 : Bool) (r1 : ByteArray) (r2 : Bool) (w : World) (h : laws_vtInside.f k a0 a1 = some (r1, r2)) :
    Calls Tryd.prog 5 #[.string a0, .bool a1] w fun e w' => e = .returned (.tuple #[.string r1, .bool r2]) ∧ Drawn0 w w' := by
  have H : (if a1 = true then (laws_vtInside.j0 k a0 (⟨#[34]⟩ : ByteArray)) else (laws_vtInside.j0 k a0 (⟨#[39]⟩ : ByteArray))) = some (r1, r2) := h
  clear h
  have HC3 := Aside0.mk H
  clear H
  go_enter Tryd.func5, Tryd.ntmps5
  go_upto_if 9 with (fail)
  repeat (go_quiet (fail); go_upto_if 9 with (fail))
  go_cut [6] (fun v6 wc => ∃ (kq : Nat) (x6_2 : ByteArray), v6 = .string x6_2 ∧ Aside0 (laws_vtInside.j0 kq a0 x6_2 = some (r1, r2)) ∧ Aside0 (kq ≤ k) ∧ Drawn0 w wc)
  case first =>
    have H := HC3.out
    clear HC3
    by_cases c4 : a1 = true
    · subst c4
      have H1 : (laws_vtInside.j0 k a0 (⟨#[34]⟩ : ByteArray)) = some (r1, r2) := by rw [if_pos rfl] at H; exact H
      clear H
      have H := H1
      clear H1
      have H' := Aside0.mk H
      clear H
      go_wp2
      repeat (go_quiet (fail); try go_wp2)
      go_meet
      case rel => exact ⟨_, ((⟨#[34]⟩ : ByteArray)), (by first | rfl | (simp; done) | (simp [*]; done) | (simp [*]; rw [wrap64_id (by omega) (by omega)])), H', ⟨by first | omega | exact Nat.le_refl _⟩, by repeat (first | exact Drawn0.refl _ | apply Drawn0.step)⟩
    · replace c4 := Bool.eq_false_iff.mpr c4
      subst c4
      have H1 : (laws_vtInside.j0 k a0 (⟨#[39]⟩ : ByteArray)) = some (r1, r2) := by rw [if_neg (show ¬ (false = true) by decide)] at H; exact H
      clear H
      have H := H1
      clear H1
      have H' := Aside0.mk H
      clear H
      go_wp2
      repeat (go_quiet (fail); try go_wp2)
      go_meet
      case rel => exact ⟨_, ((⟨#[39]⟩ : ByteArray)), (by first | rfl | (simp; done) | (simp [*]; done) | (simp [*]; rw [wrap64_id (by omega) (by omega)])), H', ⟨by first | omega | exact Nat.le_refl _⟩, by repeat (first | exact Drawn0.refl _ | apply Drawn0.step)⟩
  case rest =>
    clear HC3
    try clear p2
    try clear c4
    obtain ⟨kq, x6_2, rfl, HA, HJ2, ⟨mc2, rfl⟩⟩ := hcut
    cases kq with
    | zero => exact absurd HA.out (by simp [laws_vtInside.j0])
    | succ kj2 =>
      have H := HA.out
      clear HA
      simp only [laws_vtInside.j0] at H
      by_cases c5 : x6_2.size + a0.size ≤ 9223372036854775807
      · rw [if_pos c5] at H
        have c5b0 := eq_true c5
        have c5b1 : decide (x6_2.size + a0.size ≤ 9223372036854775807) = true := decide_eq_true c5
        try have c5b2 : (9223372036854775807 < x6_2.size + a0.size) = False := eq_false (Nat.not_lt.2 c5)
        by_cases c6 : (x6_2 ++ a0).size + x6_2.size ≤ 9223372036854775807
        · rw [if_pos c6] at H
          have c6b0 := eq_true c6
          have c6b1 : decide ((x6_2 ++ a0).size + x6_2.size ≤ 9223372036854775807) = true := decide_eq_true c6
          try have c6b2 : (9223372036854775807 < (x6_2 ++ a0).size + x6_2.size) = False := eq_false (Nat.not_lt.2 c6)
          (try have c6e : x6_2.size + a0.size + x6_2.size ≤ 9223372036854775807 := by (have h_ := c6; simp only [ByteArray.size_append] at h_; exact h_))
          (try have c6e0 := eq_true c6e)
          (try have c6e1 : decide (x6_2.size + a0.size + x6_2.size ≤ 9223372036854775807) = true := decide_eq_true c6e)
          (try have c6e2 : (9223372036854775807 < x6_2.size + a0.size + x6_2.size) = False := eq_false (Nat.not_lt.2 c6e))
          have H' := Aside0.mk H
          clear H
          go_wp2
          repeat (go_quiet (fail); try go_wp2)
          go_loopg [8] kj2 (fun kq v8 w' => ∃ (x8_2 : Int), v8 = .int .i64 x8_2 ∧ Aside0 (laws_vtInside.l0 kq x6_2 ((x6_2 ++ a0) ++ x6_2) x8_2 = some (r1, r2)) ∧ Aside0 (kq ≤ kj2) ∧ Drawn0 w w')
          case atStart => exact ⟨(1), (by first | rfl | (simp; done) | (simp [*]; done) | (simp [*]; rw [wrap64_id (by omega) (by omega)])), H', ⟨Nat.le_refl _⟩, by repeat (first | exact Drawn0.refl _ | apply Drawn0.step)⟩
          case round =>
            clear H'
            try clear c2
            try clear p2
            try clear c4
            try clear c5
            try clear c5b0
            try clear c5b1
            try clear c5b2
            try clear c6
            try clear c6b0
            try clear c6b1
            try clear c6b2
            try clear p2
            obtain ⟨x8_2, rfl, HA, HK2, ⟨m2, rfl⟩⟩ := hrel
            cases gk with
            | zero => exact absurd HA.out (by simp [laws_vtInside.l0])
            | succ k2 =>
              have H := HA.out
              clear HA
              simp only [laws_vtInside.l0] at H
              by_cases c7 : x8_2 < (((x6_2 ++ a0) ++ x6_2).size : Int)
              · rw [if_pos c7] at H
                have c7b0 : decide (x8_2 < (((x6_2 ++ a0) ++ x6_2).size : Int)) = true := decide_eq_true c7
                (try (have h_ := c7; simp only [ByteArray.size_append, Int.natCast_add] at h_; have c7p := h_; clear h_))
                clear c7
                by_cases c8 : 0 ≤ x8_2
                · rw [if_pos c8] at H
                  have c8b0 : decide (0 ≤ x8_2) = true := decide_eq_true c8
                  clear c8
                  by_cases c10 : (bt ((x6_2 ++ a0) ++ x6_2) x8_2) = 92
                  · rw [if_pos c10] at H
                    have c10b0 : ((bt ((x6_2 ++ a0) ++ x6_2) x8_2) == 92) = true := beq_iff_eq.mpr c10
                    have c10b1 : ((bt ((x6_2 ++ a0) ++ x6_2) x8_2) != 92) = false := bne_eq_false_iff_eq.mpr c10
                    clear c10
                    have H' := Aside0.mk H
                    clear H
                    have p9 : 0 ≤ (x8_2 : Int) := of_decide_eq_true (by first | (with_reducible assumption) | assumption)
                    have q9 : x8_2 < (((x6_2 ++ a0) ++ x6_2).size : Int) := of_decide_eq_true (by first | (with_reducible assumption) | assumption)
                    have hx9 := bt_at ((x6_2 ++ a0) ++ x6_2) x8_2
                    replace p9 := eq_true p9
                    replace q9 := eq_true q9
                    go_wp2
                    repeat (go_quiet (fail); try go_wp2)
                    go_roundg k2
                    case measure => have := HJ2.out; have := HK2.out; omega
                    case rel => exact ⟨(wrap64 ((wrap64 (x8_2 + 1)) + 1)), (by first | rfl | (simp; done) | (simp [*]; done) | (simp [*]; rw [wrap64_id (by omega) (by omega)])), H', ⟨by have := HJ2.out; have := HK2.out; omega⟩, by repeat (first | exact Drawn0.refl _ | apply Drawn0.step)⟩
                  · rw [if_neg c10] at H
                    have c10b0 : ((bt ((x6_2 ++ a0) ++ x6_2) x8_2) == 92) = false := beq_eq_false_iff_ne.mpr c10
                    have c10b1 : ((bt ((x6_2 ++ a0) ++ x6_2) x8_2) != 92) = true := bne_iff_ne.mpr c10
                    by_cases c12 : 0 < (x6_2.size : Int)
                    · rw [if_pos c12] at H
                      have c12b0 : decide (0 < (x6_2.size : Int)) = true := decide_eq_true c12
                      have c12b1 : decide (0 < x6_2.size) = true := decide_eq_true (by omega)
                      clear c12
                      by_cases c14 : (bt ((x6_2 ++ a0) ++ x6_2) x8_2) = (bt x6_2 0)
                      · rw [if_pos c14] at H
                        have c14b0 : ((bt ((x6_2 ++ a0) ++ x6_2) x8_2) == (bt x6_2 0)) = true := beq_iff_eq.mpr c14
                        have c14b1 : ((bt ((x6_2 ++ a0) ++ x6_2) x8_2) != (bt x6_2 0)) = false := bne_eq_false_iff_eq.mpr c14
                        clear c14
                        simp only [Option.some.injEq, Prod.mk.injEq] at H
                        obtain ⟨rfl, rfl⟩ := H
                        have p9 : 0 ≤ (x8_2 : Int) := of_decide_eq_true (by first | (with_reducible assumption) | assumption)
                        have q9 : x8_2 < (((x6_2 ++ a0) ++ x6_2).size : Int) := of_decide_eq_true (by first | (with_reducible assumption) | assumption)
                        have hx9 := bt_at ((x6_2 ++ a0) ++ x6_2) x8_2
                        replace p9 := eq_true p9
                        replace q9 := eq_true q9
                        have p11 : 0 ≤ (x8_2 : Int) := of_decide_eq_true (by first | (with_reducible assumption) | assumption)
                        have q11 : x8_2 < (((x6_2 ++ a0) ++ x6_2).size : Int) := of_decide_eq_true (by first | (with_reducible assumption) | assumption)
                        have hx11 := bt_at ((x6_2 ++ a0) ++ x6_2) x8_2
                        replace p11 := eq_true p11
                        replace q11 := eq_true q11
                        have p13 : 0 ≤ (0 : Int) := (by omega)
                        have q13 : 0 < x6_2.size := (by have : (0 : Int) < (x6_2.size : Int) := of_decide_eq_true (by first | (with_reducible assumption) | assumption); omega)
                        have hx13 : ∀ h : 0 < x6_2.size, ((x6_2[0]'h).toNat : Int) = bt x6_2 0 := bt_at x6_2 0
                        clear p13
                        have qi13 : (0 < (x6_2.size : Int)) = True := eq_true (of_decide_eq_true (by first | (with_reducible assumption) | assumption))
                        replace q13 := eq_true q13
                        go_wp2
                        repeat (go_quiet (fail); try go_wp2)
                        go_ret2
                        exact ⟨by first | rfl | (simp; done) | (simp [*]; done) | (simp [*]; rw [wrap64_id (by omega) (by omega)]), by repeat (first | exact Drawn0.refl _ | apply Drawn0.step)⟩
                      · rw [if_neg c14] at H
                        have c14b0 : ((bt ((x6_2 ++ a0) ++ x6_2) x8_2) == (bt x6_2 0)) = false := beq_eq_false_iff_ne.mpr c14
                        have c14b1 : ((bt ((x6_2 ++ a0) ++ x6_2) x8_2) != (bt x6_2 0)) = true := bne_iff_ne.mpr c14
                        have H' := Aside0.mk H
                        clear H
                        have p9 : 0 ≤ (x8_2 : Int) := of_decide_eq_true (by first | (with_reducible assumption) | assumption)
                        have q9 : x8_2 < (((x6_2 ++ a0) ++ x6_2).size : Int) := of_decide_eq_true (by first | (with_reducible assumption) | assumption)
                        have hx9 := bt_at ((x6_2 ++ a0) ++ x6_2) x8_2
                        replace p9 := eq_true p9
                        replace q9 := eq_true q9
                        have p11 : 0 ≤ (x8_2 : Int) := of_decide_eq_true (by first | (with_reducible assumption) | assumption)
                        have q11 : x8_2 < (((x6_2 ++ a0) ++ x6_2).size : Int) := of_decide_eq_true (by first | (with_reducible assumption) | assumption)
                        have hx11 := bt_at ((x6_2 ++ a0) ++ x6_2) x8_2
                        replace p11 := eq_true p11
                        replace q11 := eq_true q11
                        have p13 : 0 ≤ (0 : Int) := (by omega)
                        have q13 : 0 < x6_2.size := (by have : (0 : Int) < (x6_2.size : Int) := of_decide_eq_true (by first | (with_reducible assumption) | assumption); omega)
                        have hx13 : ∀ h : 0 < x6_2.size, ((x6_2[0]'h).toNat : Int) = bt x6_2 0 := bt_at x6_2 0
                        clear p13
                        have qi13 : (0 < (x6_2.size : Int)) = True := eq_true (of_decide_eq_true (by first | (with_reducible assumption) | assumption))
                        replace q13 := eq_true q13
                        go_wp2
                        repeat (go_quiet (fail); try go_wp2)
                        go_roundg k2
                        case measure => have := HJ2.out; have := HK2.out; omega
                        case rel => exact ⟨(wrap64 (x8_2 + 1)), (by first | rfl | (simp; done) | (simp [*]; done) | (simp [*]; rw [wrap64_id (by omega) (by omega)])), H', ⟨by have := HJ2.out; have := HK2.out; omega⟩, by repeat (first | exact Drawn0.refl _ | apply Drawn0.step)⟩
                    · rw [if_neg c12] at H
                      exact absurd H (by simp)
                · rw [if_neg c8] at H
                  exact absurd H (by simp)
              · rw [if_neg c7] at H
                have c7b0 : decide (x8_2 < (((x6_2 ++ a0) ++ x6_2).size : Int)) = false := decide_eq_false c7
                (try (have h_ := c7b0; simp only [ByteArray.size_append, Int.natCast_add] at h_; have c7b0s := h_; clear h_))
                clear c7
                simp only [Option.some.injEq, Prod.mk.injEq] at H
                obtain ⟨rfl, rfl⟩ := H
                go_wp2
                repeat (go_quiet (fail); try go_wp2)
                go_ret2
                exact ⟨by first | rfl | (simp; done) | (simp [*]; done) | (simp [*]; rw [wrap64_id (by omega) (by omega)]), by repeat (first | exact Drawn0.refl _ | apply Drawn0.step)⟩
        · rw [if_neg c6] at H
          exact absurd H (by simp)
      · rw [if_neg c5] at H
        exact absurd H (by simp)

/-! ### spec_hexDigit: function 11 -/
def spec_hexDigit.j0 : Nat → Int → Bool → Option (Int × Bool)
  | 0, _, _ => none
  | k + 1, x0, x4 => if x4 = true then (some ((x0 - 48) % 256, true)) else (if (Go.bits .or .u8 x0 32) ≥ 97 then (if (Go.bits .or .u8 x0 32) ≤ 102 then (some (((((Go.bits .or .u8 x0 32) - 97) % 256) + 10) % 256, true)) else (some (0, false))) else (some (0, false)))
def spec_hexDigit.f (k : Nat) (a0 : Int) : Option (Int × Bool) := if a0 ≥ 48 then (spec_hexDigit.j0 k a0 (decide (a0 ≤ 57))) else (spec_hexDigit.j0 k a0 false)
theorem spec_hexDigit.mono_l : ∀ k, (∀ y0 y1, LeO (spec_hexDigit.j0 k y0 y1) (spec_hexDigit.j0 (k + 1) y0 y1))
  | 0 => fun _ _ r h => by simp [spec_hexDigit.j0] at h
  | k + 1 => by
    have ih0 := spec_hexDigit.mono_l k
    · intro y0 y1
      unfold spec_hexDigit.j0
      repeat' first
      | (with_reducible exact ih0 _ _)
      | (with_reducible exact LeO.refl _)
      | (with_reducible exact LeO.none _)
      | (with_reducible refine LeO.ite ?_ ?_)
      | (with_reducible refine LeO.bind ?_ (fun _ => ?_))
      | exact ih0 _ _
      | exact LeO.none _
      | refine LeO.ite ?_ ?_
      | refine LeO.bind ?_ (fun _ => ?_)
theorem spec_hexDigit.mono : ∀ a0 k, LeO (spec_hexDigit.f k a0) (spec_hexDigit.f (k + 1) a0) := by
  intro a0 k
  have ih0 := spec_hexDigit.mono_l k
  unfold spec_hexDigit.f
  repeat' first
      | (with_reducible exact ih0 _ _)
      | (with_reducible exact LeO.refl _)
      | (with_reducible exact LeO.none _)
      | (with_reducible refine LeO.ite ?_ ?_)
      | (with_reducible refine LeO.bind ?_ (fun _ => ?_))
      | exact ih0 _ _
      | exact LeO.none _
      | refine LeO.ite ?_ ?_
      | refine LeO.bind ?_ (fun _ => ?_)
set_option maxHeartbeats 8000000 in
set_option maxRecDepth 100000 in
theorem spec_hexDigit.calls (k : Nat) (a0 : Int) (r1 : Int) (r2 : Bool) (w : World) (h : spec_hexDigit.f k a0 = some (r1, r2)) :
    Calls Tryd.prog 11 #[.int .u8 a0] w fun e w' => e = .returned (.tuple #[.int .u8 r1, .bool r2]) ∧ Drawn0 w w' := by
  have H : (if a0 ≥ 48 then (spec_hexDigit.j0 k a0 (decide (a0 ≤ 57))) else (spec_hexDigit.j0 k a0 false)) = some (r1, r2) := h
  clear h
  have HC2 := Aside0.mk H
  clear H
  go_enter Tryd.func11, Tryd.ntmps11
  go_upto_region 1 with (fail)
  go_cut [4] (fun v4 wc => ∃ (kq : Nat) (x4_1 : Bool), v4 = .bool x4_1 ∧ Aside0 (spec_hexDigit.j0 kq a0 x4_1 = some (r1, r2)) ∧ Aside0 (kq ≤ k) ∧ Drawn0 w wc)
  case first =>
    have H := HC2.out
    clear HC2
    by_cases c3 : a0 ≥ 48
    · rw [if_pos c3] at H
      have c3b0 : decide (48 ≤ a0) = true := decide_eq_true c3
      clear c3
      (first | rw [c3b0] | (simp only [i64_w, i32_w]; rw [c3b0]) | skip)
      have H' := Aside0.mk H
      clear H
      go_wp2
      go_meet
      case rel => exact ⟨_, (decide (a0 ≤ 57)), (by first | rfl | (simp; done) | (simp [*]; done) | (simp [*]; rw [wrap64_id (by omega) (by omega)])), H', ⟨by first | omega | exact Nat.le_refl _⟩, by repeat (first | exact Drawn0.refl _ | apply Drawn0.step)⟩
    · rw [if_neg c3] at H
      have c3b0 : decide (48 ≤ a0) = false := decide_eq_false c3
      clear c3
      (first | rw [c3b0] | (simp only [i64_w, i32_w]; rw [c3b0]) | skip)
      have H' := Aside0.mk H
      clear H
      go_wp2
      go_meet
      case rel => exact ⟨_, (false), (by first | rfl | (simp; done) | (simp [*]; done) | (simp [*]; rw [wrap64_id (by omega) (by omega)])), H', ⟨by first | omega | exact Nat.le_refl _⟩, by repeat (first | exact Drawn0.refl _ | apply Drawn0.step)⟩
  case rest =>
    clear HC2
    try clear c1
    try clear p2
    try clear c3
    try clear c3b0
    obtain ⟨kq, x4_1, rfl, HA, HJ1, ⟨mc1, rfl⟩⟩ := hcut
    cases kq with
    | zero => exact absurd HA.out (by simp [spec_hexDigit.j0])
    | succ kj1 =>
      have H := HA.out
      clear HA
      simp only [spec_hexDigit.j0] at H
      by_cases c4 : x4_1 = true
      · subst c4
        have H1 : (some ((a0 - 48) % 256, true)) = some (r1, r2) := by rw [if_pos rfl] at H; exact H
        clear H
        have H := H1
        clear H1
        simp only [Option.some.injEq, Prod.mk.injEq] at H
        obtain ⟨rfl, rfl⟩ := H
        go_wp2
        go_ret2
        exact ⟨by first | rfl | (simp; done) | (simp [*]; done) | (simp [*]; rw [wrap64_id (by omega) (by omega)]), by repeat (first | exact Drawn0.refl _ | apply Drawn0.step)⟩
      · replace c4 := Bool.eq_false_iff.mpr c4
        subst c4
        have H1 : (if (Go.bits .or .u8 a0 32) ≥ 97 then (if (Go.bits .or .u8 a0 32) ≤ 102 then (some (((((Go.bits .or .u8 a0 32) - 97) % 256) + 10) % 256, true)) else (some (0, false))) else (some (0, false))) = some (r1, r2) := by rw [if_neg (show ¬ (false = true) by decide)] at H; exact H
        clear H
        have H := H1
        clear H1
        by_cases c5 : (Go.bits .or .u8 a0 32) ≥ 97
        · rw [if_pos c5] at H
          have c5b0 : decide (97 ≤ (Go.bits .or .u8 a0 32)) = true := decide_eq_true c5
          clear c5
          by_cases c6 : (Go.bits .or .u8 a0 32) ≤ 102
          · rw [if_pos c6] at H
            have c6b0 : decide ((Go.bits .or .u8 a0 32) ≤ 102) = true := decide_eq_true c6
            clear c6
            simp only [Option.some.injEq, Prod.mk.injEq] at H
            obtain ⟨rfl, rfl⟩ := H
            go_wp2
            go_ret2
            exact ⟨by first | rfl | (simp; done) | (simp [*]; done) | (simp [*]; rw [wrap64_id (by omega) (by omega)]), by repeat (first | exact Drawn0.refl _ | apply Drawn0.step)⟩
          · rw [if_neg c6] at H
            have c6b0 : decide ((Go.bits .or .u8 a0 32) ≤ 102) = false := decide_eq_false c6
            clear c6
            simp only [Option.some.injEq, Prod.mk.injEq] at H
            obtain ⟨rfl, rfl⟩ := H
            go_wp2
            go_ret2
            exact ⟨by first | rfl | (simp; done) | (simp [*]; done) | (simp [*]; rw [wrap64_id (by omega) (by omega)]), by repeat (first | exact Drawn0.refl _ | apply Drawn0.step)⟩
        · rw [if_neg c5] at H
          have c5b0 : decide (97 ≤ (Go.bits .or .u8 a0 32)) = false := decide_eq_false c5
          clear c5
          simp only [Option.some.injEq, Prod.mk.injEq] at H
          obtain ⟨rfl, rfl⟩ := H
          go_wp2
          go_ret2
          exact ⟨by first | rfl | (simp; done) | (simp [*]; done) | (simp [*]; rw [wrap64_id (by omega) (by omega)]), by repeat (first | exact Drawn0.refl _ | apply Drawn0.step)⟩

/-! ### spec_escapedAs: function 12 -/
def spec_escapedAs.l0 : Nat → Int → Int → Option (Int)
  | 0, _, _ => none
  | k + 1, x0, x3 => if x3 < 6 then (if 0 ≤ x3 then (if x0 = (bt (⟨#[97, 98, 102, 110, 114, 116]⟩ : ByteArray) x3) then (some (bt (⟨#[7, 8, 12, 10, 13, 9]⟩ : ByteArray) x3)) else (spec_escapedAs.l0 k x0 (wrap64 (x3 + 1)))) else (none)) else (some x0)
def spec_escapedAs.f (k : Nat) (a0 : Int) : Option (Int) := spec_escapedAs.l0 k a0 0
theorem spec_escapedAs.mono_l : ∀ k, (∀ y0 y1, LeO (spec_escapedAs.l0 k y0 y1) (spec_escapedAs.l0 (k + 1) y0 y1))
  | 0 => fun _ _ r h => by simp [spec_escapedAs.l0] at h
  | k + 1 => by
    have ih0 := spec_escapedAs.mono_l k
    · intro y0 y1
      unfold spec_escapedAs.l0
      repeat' first
      | (with_reducible exact ih0 _ _)
      | (with_reducible exact LeO.refl _)
      | (with_reducible exact LeO.none _)
      | (with_reducible refine LeO.ite ?_ ?_)
      | (with_reducible refine LeO.bind ?_ (fun _ => ?_))
      | exact ih0 _ _
      | exact LeO.none _
      | refine LeO.ite ?_ ?_
      | refine LeO.bind ?_ (fun _ => ?_)
theorem spec_escapedAs.mono : ∀ a0 k, LeO (spec_escapedAs.f k a0) (spec_escapedAs.f (k + 1) a0) := by
  intro a0 k
  have ih0 := spec_escapedAs.mono_l k
  unfold spec_escapedAs.f
  repeat' first
      | (with_reducible exact ih0 _ _)
      | (with_reducible exact LeO.refl _)
      | (with_reducible exact LeO.none _)
      | (with_reducible refine LeO.ite ?_ ?_)
      | (with_reducible refine LeO.bind ?_ (fun _ => ?_))
      | exact ih0 _ _
      | exact LeO.none _
      | refine LeO.ite ?_ ?_
      | refine LeO.bind ?_ (fun _ => ?_)
set_option maxHeartbeats 8000000 in
set_option maxRecDepth 100000 in
theorem spec_escapedAs.calls (k : Nat) (a0 : Int) (r : Int) (w : World) (h : spec_escapedAs.f k a0 = some r) :
    Calls Tryd.prog 12 #[.int .u8 a0] w fun e w' => e = .returned (.int .u8 r) ∧ Drawn0 w w' := by
  have H : (spec_escapedAs.l0 k a0 0) = some r := h
  clear h
  have H' := Aside0.mk H
  clear H
  go_enter Tryd.func12, Tryd.ntmps12
  go_wp2
  go_loopg [3] k (fun kq v3 w' => ∃ (x3_1 : Int), v3 = .int .i64 x3_1 ∧ Aside0 (spec_escapedAs.l0 kq a0 x3_1 = some r) ∧ Aside0 (kq ≤ k) ∧ Drawn0 w w')
  case atStart => exact ⟨(0), (by first | rfl | (simp; done) | (simp [*]; done) | (simp [*]; rw [wrap64_id (by omega) (by omega)])), H', ⟨Nat.le_refl _⟩, by repeat (first | exact Drawn0.refl _ | apply Drawn0.step)⟩
  case round =>
    clear H'
    try clear c1
    obtain ⟨x3_1, rfl, HA, HK1, ⟨m1, rfl⟩⟩ := hrel
    cases gk with
    | zero => exact absurd HA.out (by simp [spec_escapedAs.l0])
    | succ k1 =>
      have H := HA.out
      clear HA
      simp only [spec_escapedAs.l0] at H
      by_cases c2 : x3_1 < 6
      · rw [if_pos c2] at H
        have c2b0 : decide (x3_1 < 6) = true := decide_eq_true c2
        clear c2
        by_cases c3 : 0 ≤ x3_1
        · rw [if_pos c3] at H
          have c3b0 : decide (0 ≤ x3_1) = true := decide_eq_true c3
          clear c3
          by_cases c5 : a0 = (bt (⟨#[97, 98, 102, 110, 114, 116]⟩ : ByteArray) x3_1)
          · rw [if_pos c5] at H
            have c5b0 : (a0 == (bt (⟨#[97, 98, 102, 110, 114, 116]⟩ : ByteArray) x3_1)) = true := beq_iff_eq.mpr c5
            have c5b1 : (a0 != (bt (⟨#[97, 98, 102, 110, 114, 116]⟩ : ByteArray) x3_1)) = false := bne_eq_false_iff_eq.mpr c5
            clear c5
            obtain rfl := Option.some.inj H
            have p4 : 0 ≤ (x3_1 : Int) := of_decide_eq_true (by first | (with_reducible assumption) | assumption)
            have q4 : x3_1 < (6 : Int) := of_decide_eq_true (by first | (with_reducible assumption) | assumption)
            have hx4 := bt_at (⟨#[97, 98, 102, 110, 114, 116]⟩ : ByteArray) x3_1
            replace p4 := eq_true p4
            replace q4 := eq_true q4
            have p6 : 0 ≤ (x3_1 : Int) := of_decide_eq_true (by first | (with_reducible assumption) | assumption)
            have q6 : x3_1 < (6 : Int) := of_decide_eq_true (by first | (with_reducible assumption) | assumption)
            have hx6 := bt_at (⟨#[7, 8, 12, 10, 13, 9]⟩ : ByteArray) x3_1
            replace p6 := eq_true p6
            replace q6 := eq_true q6
            go_wp2
            go_ret
            exact ⟨by first | rfl | (simp; done) | (simp [*]; done) | (simp [*]; rw [wrap64_id (by omega) (by omega)]), by repeat (first | exact Drawn0.refl _ | apply Drawn0.step)⟩
          · rw [if_neg c5] at H
            have c5b0 : (a0 == (bt (⟨#[97, 98, 102, 110, 114, 116]⟩ : ByteArray) x3_1)) = false := beq_eq_false_iff_ne.mpr c5
            have c5b1 : (a0 != (bt (⟨#[97, 98, 102, 110, 114, 116]⟩ : ByteArray) x3_1)) = true := bne_iff_ne.mpr c5
            have H' := Aside0.mk H
            clear H
            have p4 : 0 ≤ (x3_1 : Int) := of_decide_eq_true (by first | (with_reducible assumption) | assumption)
            have q4 : x3_1 < (6 : Int) := of_decide_eq_true (by first | (with_reducible assumption) | assumption)
            have hx4 := bt_at (⟨#[97, 98, 102, 110, 114, 116]⟩ : ByteArray) x3_1
            replace p4 := eq_true p4
            replace q4 := eq_true q4
            go_wp2
            go_roundg k1
            case measure => have := HK1.out; omega
            case rel => exact ⟨(wrap64 (x3_1 + 1)), (by first | rfl | (simp; done) | (simp [*]; done) | (simp [*]; rw [wrap64_id (by omega) (by omega)])), H', ⟨by have := HK1.out; omega⟩, by repeat (first | exact Drawn0.refl _ | apply Drawn0.step)⟩
        · rw [if_neg c3] at H
          exact absurd H (by simp)
      · rw [if_neg c2] at H
        have c2b0 : decide (x3_1 < 6) = false := decide_eq_false c2
        clear c2
        obtain rfl := Option.some.inj H
        go_wp2
        go_ret
        exact ⟨by first | rfl | (simp; done) | (simp [*]; done) | (simp [*]; rw [wrap64_id (by omega) (by omega)]), by repeat (first | exact Drawn0.refl _ | apply Drawn0.step)⟩

end Go.Proofs.YtngbhojjjkdofaaDoor.MFnVtBytes
