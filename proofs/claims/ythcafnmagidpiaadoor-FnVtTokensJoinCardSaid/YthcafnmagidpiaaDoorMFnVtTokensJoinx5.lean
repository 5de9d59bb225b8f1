-- Texts of this session, several in one.
import Derived.Test.YthcafnmagidpiaaDoorMFnVtTokensJoinx0
import Derived.Test.YthcafnmagidpiaaDoorMFnVtTokensJoinx1
namespace Go.Proofs.YthcafnmagidpiaaDoor.MFnVtTokensJoin
open Go.RowKit Go.Proofs.YthcafnmagidpiaaDoorW.PrintWords Go.Proofs.YthcafnmagidpiaaDoorW.PrintLast Go.Proofs.YthcafnmagidpiaaDoorW.PrintMore
attribute [local go_sem] max2_int min2_int max_two min_two max_three min_three max_four min_four   -- for this text's walks alone
set_option linter.unusedVariables false
set_option linter.unusedSimpArgs false

/-! ### spec_hexDigit: function 27 -/
def spec_hexDigit.j0 : Nat → Int → Bool → Option (Int × Bool)
  | 0, _, _ => none
  | k + 1, x0, x4 => if x4 = true then (some ((x0 - 48) % 256, true)) else (if (Go.bits .or .u8 x0 32) ≥ 97 then (if (Go.bits .or .u8 x0 32) ≤ 102 then (some (((((Go.bits .or .u8 x0 32) - 97) % 256) + 10) % 256, true)) else (some (0, false))) else (some (0, false)))
def spec_hexDigit.f (k : Nat) (a0 : Int) : Option (Int × Bool) := if a0 ≥ 48 then (spec_hexDigit.j0 k a0 (decide (a0 ≤ 57))) else (spec_hexDigit.j0 k a0 false)
theorem spec_hexDigit.mono_l : ∀ k, (∀ y0 y1, LeO (spec_hexDigit.j0 k y0 y1) (spec_hexDigit.j0 (k + 1) y0 y1))
  | 0 => fun _ _ r h => by simp [spec_hexDigit.j0] at h
  | k + 1 => by
    have ih0 := spec_hexDigit.mono_l k
    · intro y0 y1
      unfold spec_hexDigit.j0
      repeat' first
      | (with_reducible exact ih0 _ _)
      | (with_reducible exact LeO.refl _)
      | (with_reducible exact LeO.none _)
      | (with_reducible refine LeO.ite ?_ ?_)
      | (with_reducible refine LeO.bind ?_ (fun _ => ?_))
      | exact ih0 _ _
      | exact LeO.none _
      | refine LeO.ite ?_ ?_
      | refine LeO.bind ?_ (fun _ => ?_)
theorem spec_hexDigit.mono : ∀ a0 k, LeO (spec_hexDigit.f k a0) (spec_hexDigit.f (k + 1) a0) := by
  intro a0 k
  have ih0 := spec_hexDigit.mono_l k
  unfold spec_hexDigit.f
  repeat' first
      | (with_reducible exact ih0 _ _)
      | (with_reducible exact LeO.refl _)
      | (with_reducible exact LeO.none _)
      | (with_reducible refine LeO.ite ?_ ?_)
      | (with_reducible refine LeO.bind ?_ (fun _ => ?_))
      | exact ih0 _ _
      | exact LeO.none _
      | refine LeO.ite ?_ ?_
      | refine LeO.bind ?_ (fun _ => ?_)
set_option maxHeartbeats 8000000 in
set_option maxRecDepth 100000 in
theorem spec_hexDigit.calls (k : Nat) (a0 : Int) (r1 : Int) (r2 : Bool) (w : World) (h : spec_hexDigit.f k a0 = some (r1, r2)) :
    Calls Tryd.prog 27 #[.int .u8 a0] w fun e w' => e = .returned (.tuple #[.int .u8 r1, .bool r2]) ∧ Drawn0 w w' := by
  have H : (if a0 ≥ 48 then (spec_hexDigit.j0 k a0 (decide (a0 ≤ 57))) else (spec_hexDigit.j0 k a0 false)) = some (r1, r2) := h
  clear h
  have HC2 := Aside0.mk H
  clear H
  go_enter Tryd.func27, Tryd.ntmps27
  go_upto_region 1 with (fail)
  go_cut [4] (fun v4 wc => ∃ (kq : Nat) (x4_1 : Bool), v4 = .bool x4_1 ∧ Aside0 (spec_hexDigit.j0 kq a0 x4_1 = some (r1, r2)) ∧ Aside0 (kq ≤ k) ∧ Drawn0 w wc)
  case first =>
    have H := HC2.out
    clear HC2
    by_cases c3 : a0 ≥ 48
    · rw [if_pos c3] at H
      have c3b0 : decide (48 ≤ a0) = true := decide_eq_true c3
      clear c3
      (first | rw [c3b0] | (simp only [i64_w, i32_w]; rw [c3b0]) | skip)
      have H' := Aside0.mk H
      clear H
      go_wp2
      go_meet
      case rel => exact ⟨_, (decide (a0 ≤ 57)), (by first | rfl | (simp; done) | (simp [*]; done)), H', ⟨by first | omega | exact Nat.le_refl _⟩, by repeat (first | exact Drawn0.refl _ | apply Drawn0.step)⟩
    · rw [if_neg c3] at H
      have c3b0 : decide (48 ≤ a0) = false := decide_eq_false c3
      clear c3
      (first | rw [c3b0] | (simp only [i64_w, i32_w]; rw [c3b0]) | skip)
      have H' := Aside0.mk H
      clear H
      go_wp2
      go_meet
      case rel => exact ⟨_, (false), (by first | rfl | (simp; done) | (simp [*]; done)), H', ⟨by first | omega | exact Nat.le_refl _⟩, by repeat (first | exact Drawn0.refl _ | apply Drawn0.step)⟩
  case rest =>
    clear HC2
    try clear c2
    try clear p2
    try clear c3
    try clear c3b0
    obtain ⟨kq, x4_1, rfl, HA, HJ1, ⟨mc1, rfl⟩⟩ := hcut
    cases kq with
    | zero => exact absurd HA.out (by simp [spec_hexDigit.j0])
    | succ kj1 =>
      have H := HA.out
      clear HA
      simp only [spec_hexDigit.j0] at H
      by_cases c4 : x4_1 = true
      · subst c4
        have H1 : (some ((a0 - 48) % 256, true)) = some (r1, r2) := by rw [if_pos rfl] at H; exact H
        clear H
        have H := H1
        clear H1
        simp only [Option.some.injEq, Prod.mk.injEq] at H
        obtain ⟨rfl, rfl⟩ := H
        go_wp2
        go_ret2
        exact ⟨by first | rfl | (simp; done) | (simp [*]; done), by repeat (first | exact Drawn0.refl _ | apply Drawn0.step)⟩
      · replace c4 := Bool.eq_false_iff.mpr c4
        subst c4
        have H1 : (if (Go.bits .or .u8 a0 32) ≥ 97 then (if (Go.bits .or .u8 a0 32) ≤ 102 then (some (((((Go.bits .or .u8 a0 32) - 97) % 256) + 10) % 256, true)) else (some (0, false))) else (some (0, false))) = some (r1, r2) := by rw [if_neg (show ¬ (false = true) by decide)] at H; exact H
        clear H
        have H := H1
        clear H1
        by_cases c5 : (Go.bits .or .u8 a0 32) ≥ 97
        · rw [if_pos c5] at H
          have c5b0 : decide (97 ≤ (Go.bits .or .u8 a0 32)) = true := decide_eq_true c5
          clear c5
          by_cases c6 : (Go.bits .or .u8 a0 32) ≤ 102
          · rw [if_pos c6] at H
            have c6b0 : decide ((Go.bits .or .u8 a0 32) ≤ 102) = true := decide_eq_true c6
            clear c6
            simp only [Option.some.injEq, Prod.mk.injEq] at H
            obtain ⟨rfl, rfl⟩ := H
            go_wp2
            go_ret2
            exact ⟨by first | rfl | (simp; done) | (simp [*]; done), by repeat (first | exact Drawn0.refl _ | apply Drawn0.step)⟩
          · rw [if_neg c6] at H
            have c6b0 : decide ((Go.bits .or .u8 a0 32) ≤ 102) = false := decide_eq_false c6
            clear c6
            simp only [Option.some.injEq, Prod.mk.injEq] at H
            obtain ⟨rfl, rfl⟩ := H
            go_wp2
            go_ret2
            exact ⟨by first | rfl | (simp; done) | (simp [*]; done), by repeat (first | exact Drawn0.refl _ | apply Drawn0.step)⟩
        · rw [if_neg c5] at H
          have c5b0 : decide (97 ≤ (Go.bits .or .u8 a0 32)) = false := decide_eq_false c5
          clear c5
          simp only [Option.some.injEq, Prod.mk.injEq] at H
          obtain ⟨rfl, rfl⟩ := H
          go_wp2
          go_ret2
          exact ⟨by first | rfl | (simp; done) | (simp [*]; done), by repeat (first | exact Drawn0.refl _ | apply Drawn0.step)⟩

end Go.Proofs.YthcafnmagidpiaaDoor.MFnVtTokensJoin

namespace Go.Proofs.YthcafnmagidpiaaDoor.MFnVtTokensJoin
open Go.RowKit Go.Proofs.YthcafnmagidpiaaDoorW.PrintWords Go.Proofs.YthcafnmagidpiaaDoorW.PrintLast Go.Proofs.YthcafnmagidpiaaDoorW.PrintMore
attribute [local go_sem] max2_int min2_int max_two min_two max_three min_three max_four min_four   -- for this text's walks alone
set_option linter.unusedVariables false
set_option linter.unusedSimpArgs false

/-! ### spec_textLetter: function 16 -/
def spec_textLetter.f (a0 : Int) : Option (Bool) := if 97 ≤ a0 then (if a0 ≤ 122 then (some true) else (if 65 ≤ a0 then (some (decide (a0 ≤ 90))) else (some false))) else (if 65 ≤ a0 then (some (decide (a0 ≤ 90))) else (some false))
set_option maxHeartbeats 8000000 in
set_option maxRecDepth 100000 in
theorem spec_textLetter.calls (a0 : Int) (r : Bool) (w : World) (h : spec_textLetter.f a0 = some r) :
  Calls Tryd.prog 16 #[.int .u8 a0] w fun e w' => e = .returned (.bool r) ∧ Drawn0 w w' := by
 have H : (if 97 ≤ a0 then (if a0 ≤ 122 then (some true) else (if 65 ≤ a0 then (some (decide (a0 ≤ 90))) else (some false))) else (if 65 ≤ a0 then (some (decide (a0 ≤ 90))) else (some false))) = some r := h
 clear h
 by_cases c2 : 97 ≤ a0
 ·rw [if_pos c2] at H
  have c2b0 : decide (97 ≤ a0) = true := decide_eq_true c2
  clear c2
  by_cases c3 : a0 ≤ 122
  ·rw [if_pos c3] at H
   have c3b0 : decide (a0 ≤ 122) = true := decide_eq_true c3
   clear c3
   obtain rfl := Option.some.inj H
   go_enter Tryd.func16, Tryd.ntmps16
   go_wp2
   go_ret
   exact ⟨by first | rfl | (simp; done) | (simp [*]; done), by repeat (first | exact Drawn0.refl _ | apply Drawn0.step)⟩
  ·rw [if_neg c3] at H
   have c3b0 : decide (a0 ≤ 122) = false := decide_eq_false c3
   clear c3
   by_cases c4 : 65 ≤ a0
   ·rw [if_pos c4] at H
    have c4b0 : decide (65 ≤ a0) = true := decide_eq_true c4
    clear c4
    obtain rfl := Option.some.inj H
    go_enter Tryd.func16, Tryd.ntmps16
    go_wp2
    go_ret
    exact ⟨by first | rfl | (simp; done) | (simp [*]; done), by repeat (first | exact Drawn0.refl _ | apply Drawn0.step)⟩
   ·rw [if_neg c4] at H
    have c4b0 : decide (65 ≤ a0) = false := decide_eq_false c4
    clear c4
    obtain rfl := Option.some.inj H
    go_enter Tryd.func16, Tryd.ntmps16
    go_wp2
    go_ret
    exact ⟨by first | rfl | (simp; done) | (simp [*]; done), by repeat (first | exact Drawn0.refl _ | apply Drawn0.step)⟩
 ·rw [if_neg c2] at H
  have c2b0 : decide (97 ≤ a0) = false := decide_eq_false c2
  clear c2
  by_cases c5 : 65 ≤ a0
  ·rw [if_pos c5] at H
   have c5b0 : decide (65 ≤ a0) = true := decide_eq_true c5
   clear c5
   obtain rfl := Option.some.inj H
   go_enter Tryd.func16, Tryd.ntmps16
   go_wp2
   go_ret
   exact ⟨by first | rfl | (simp; done) | (simp [*]; done), by repeat (first | exact Drawn0.refl _ | apply Drawn0.step)⟩
  ·rw [if_neg c5] at H
   have c5b0 : decide (65 ≤ a0) = false := decide_eq_false c5
   clear c5
   obtain rfl := Option.some.inj H
   go_enter Tryd.func16, Tryd.ntmps16
   go_wp2
   go_ret
   exact ⟨by first | rfl | (simp; done) | (simp [*]; done), by repeat (first | exact Drawn0.refl _ | apply Drawn0.step)⟩

/-! ### spec_quoted: function 17 -/
def spec_quoted.l0 : Nat → ByteArray → Int → Int → Int → Option (Int × Int × Bool)
 | 0, _, _, _, _ => none
 | k + 1, x0, x1, x2, x9 => if x9 < (x0.size : Int) then (if 0 ≤ x9 then (if (bt x0 x9) = 92 then (spec_quoted.l0 k x0 x1 x2 (wrap64 ((wrap64 (x9 + 1)) + 1))) else (if 0 ≤ x1 then (if x1 < (x0.size : Int) then (if (bt x0 x9) = (bt x0 x1) then (some (wrap64 (x9 + 1), x2, true)) else (spec_quoted.l0 k x0 x1 x2 (wrap64 (x9 + 1)))) else (none)) else (none))) else (none)) else (some (0, 1, true))
def spec_quoted.f (k : Nat) (a0 : ByteArray) (a1 : Int) (a2 : Int) : Option (Int × Int × Bool) := spec_quoted.l0 k a0 a1 a2 (wrap64 (a1 + 1))
theorem spec_quoted.mono_l : ∀ k, (∀ y0 y1 y2 y3, LeO (spec_quoted.l0 k y0 y1 y2 y3) (spec_quoted.l0 (k + 1) y0 y1 y2 y3))
 | 0 => fun _ _ _ _ r h => by simp [spec_quoted.l0] at h
 | k + 1 => by
  have ih0 := spec_quoted.mono_l k
  ·intro y0 y1 y2 y3
   unfold spec_quoted.l0
   repeat' first
   | (with_reducible exact ih0 _ _ _ _)
   | (with_reducible exact LeO.refl _)
   | (with_reducible exact LeO.none _)
   | (with_reducible refine LeO.ite ?_ ?_)
   | (with_reducible refine LeO.bind ?_ (fun _ => ?_))
   | exact ih0 _ _ _ _
   | exact LeO.none _
   | refine LeO.ite ?_ ?_
   | refine LeO.bind ?_ (fun _ => ?_)
theorem spec_quoted.mono : ∀ a0 a1 a2 k, LeO (spec_quoted.f k a0 a1 a2) (spec_quoted.f (k + 1) a0 a1 a2) := by
 intro a0 a1 a2 k
 have ih0 := spec_quoted.mono_l k
 unfold spec_quoted.f
 repeat' first
   | (with_reducible exact ih0 _ _ _ _)
   | (with_reducible exact LeO.refl _)
   | (with_reducible exact LeO.none _)
   | (with_reducible refine LeO.ite ?_ ?_)
   | (with_reducible refine LeO.bind ?_ (fun _ => ?_))
   | exact ih0 _ _ _ _
   | exact LeO.none _
   | refine LeO.ite ?_ ?_
   | refine LeO.bind ?_ (fun _ => ?_)
set_option maxHeartbeats 8000000 in
set_option maxRecDepth 100000 in
theorem spec_quoted.calls (k : Nat) (a0 : ByteArray) (a1 : Int) (a2 : Int) (r1 : Int) (r2 : Int) (r3 : Bool) (w : World) (h : spec_quoted.f k a0 a1 a2 = some (r1, r2, r3)) :
  Calls Tryd.prog 17 #[.string a0, .int .i64 a1, .int .i64 a2] w fun e w' => e = .returned (.tuple #[.int .i64 r1, .int .i64 r2, .bool r3]) ∧ Drawn0 w w' := by
 have H : (spec_quoted.l0 k a0 a1 a2 (wrap64 (a1 + 1))) = some (r1, r2, r3) := h
 clear h
 have H' := Aside0.mk H
 clear H
 go_enter Tryd.func17, Tryd.ntmps17
 go_wp2
 go_loopg [9] k (fun kq v9 w' => ∃ (x9_1 : Int), v9 = .int .i64 x9_1 ∧ Aside0 (spec_quoted.l0 kq a0 a1 a2 x9_1 = some (r1, r2, r3)) ∧ Aside0 (kq ≤ k) ∧ Drawn0 w w')
 case atStart => exact ⟨(wrap64 (a1 + 1)), (by first | rfl | (simp; done) | (simp [*]; done)), H', ⟨Nat.le_refl _⟩, by repeat (first | exact Drawn0.refl _ | apply Drawn0.step)⟩
 case round =>
  clear H'
  try clear c1
  try clear p2
  obtain ⟨x9_1, rfl, HA, HK1, ⟨m1, rfl⟩⟩ := hrel
  cases gk with
  | zero => exact absurd HA.out (by simp [spec_quoted.l0])
  | succ k1 =>
   have H := HA.out
   clear HA
   simp only [spec_quoted.l0] at H
   by_cases c4 : x9_1 < (a0.size : Int)
   ·rw [if_pos c4] at H
    have c4b0 : decide (x9_1 < (a0.size : Int)) = true := decide_eq_true c4
    clear c4
    by_cases c5 : 0 ≤ x9_1
    ·rw [if_pos c5] at H
     have c5b0 : decide (0 ≤ x9_1) = true := decide_eq_true c5
     clear c5
     by_cases c7 : (bt a0 x9_1) = 92
     ·rw [if_pos c7] at H
      have c7b0 : ((bt a0 x9_1) == 92) = true := beq_iff_eq.mpr c7
      have c7b1 : ((bt a0 x9_1) != 92) = false := bne_eq_false_iff_eq.mpr c7
      clear c7
      have H' := Aside0.mk H
      clear H
      have p6 : 0 ≤ (x9_1 : Int) := of_decide_eq_true (by first | (with_reducible assumption) | assumption)
      have q6 : x9_1 < (a0.size : Int) := of_decide_eq_true (by first | (with_reducible assumption) | assumption)
      have hx6 := bt_at a0 x9_1
      replace p6 := eq_true p6
      replace q6 := eq_true q6
      go_wp2
      go_roundg k1
      case measure => have := HK1.out; omega
      case rel => exact ⟨(wrap64 ((wrap64 (x9_1 + 1)) + 1)), (by first | rfl | (simp; done) | (simp [*]; done)), H', ⟨by have := HK1.out; omega⟩, by repeat (first | exact Drawn0.refl _ | apply Drawn0.step)⟩
     ·rw [if_neg c7] at H
      have c7b0 : ((bt a0 x9_1) == 92) = false := beq_eq_false_iff_ne.mpr c7
      have c7b1 : ((bt a0 x9_1) != 92) = true := bne_iff_ne.mpr c7
      by_cases c8 : 0 ≤ a1
      ·rw [if_pos c8] at H
       have c8b0 : decide (0 ≤ a1) = true := decide_eq_true c8
       clear c8
       by_cases c9 : a1 < (a0.size : Int)
       ·rw [if_pos c9] at H
        have c9b0 : decide (a1 < (a0.size : Int)) = true := decide_eq_true c9
        clear c9
        by_cases c11 : (bt a0 x9_1) = (bt a0 a1)
        ·rw [if_pos c11] at H
         have c11b0 : ((bt a0 x9_1) == (bt a0 a1)) = true := beq_iff_eq.mpr c11
         have c11b1 : ((bt a0 x9_1) != (bt a0 a1)) = false := bne_eq_false_iff_eq.mpr c11
         clear c11
         simp only [Option.some.injEq, Prod.mk.injEq] at H
         obtain ⟨rfl, rfl, rfl⟩ := H
         have p6 : 0 ≤ (x9_1 : Int) := of_decide_eq_true (by first | (with_reducible assumption) | assumption)
         have q6 : x9_1 < (a0.size : Int) := of_decide_eq_true (by first | (with_reducible assumption) | assumption)
         have hx6 := bt_at a0 x9_1
         replace p6 := eq_true p6
         replace q6 := eq_true q6
         have p10 : 0 ≤ (a1 : Int) := of_decide_eq_true (by first | (with_reducible assumption) | assumption)
         have q10 : a1 < (a0.size : Int) := of_decide_eq_true (by first | (with_reducible assumption) | assumption)
         have hx10 := bt_at a0 a1
         replace p10 := eq_true p10
         replace q10 := eq_true q10
         go_wp2
         go_ret3
         exact ⟨by first | rfl | (simp; done) | (simp [*]; done), by repeat (first | exact Drawn0.refl _ | apply Drawn0.step)⟩
        ·rw [if_neg c11] at H
         have c11b0 : ((bt a0 x9_1) == (bt a0 a1)) = false := beq_eq_false_iff_ne.mpr c11
         have c11b1 : ((bt a0 x9_1) != (bt a0 a1)) = true := bne_iff_ne.mpr c11
         have H' := Aside0.mk H
         clear H
         have p6 : 0 ≤ (x9_1 : Int) := of_decide_eq_true (by first | (with_reducible assumption) | assumption)
         have q6 : x9_1 < (a0.size : Int) := of_decide_eq_true (by first | (with_reducible assumption) | assumption)
         have hx6 := bt_at a0 x9_1
         replace p6 := eq_true p6
         replace q6 := eq_true q6
         have p10 : 0 ≤ (a1 : Int) := of_decide_eq_true (by first | (with_reducible assumption) | assumption)
         have q10 : a1 < (a0.size : Int) := of_decide_eq_true (by first | (with_reducible assumption) | assumption)
         have hx10 := bt_at a0 a1
         replace p10 := eq_true p10
         replace q10 := eq_true q10
         go_wp2
         go_roundg k1
         case measure => have := HK1.out; omega
         case rel => exact ⟨(wrap64 (x9_1 + 1)), (by first | rfl | (simp; done) | (simp [*]; done)), H', ⟨by have := HK1.out; omega⟩, by repeat (first | exact Drawn0.refl _ | apply Drawn0.step)⟩
       ·rw [if_neg c9] at H
        exact absurd H (by simp)
      ·rw [if_neg c8] at H
       exact absurd H (by simp)
    ·rw [if_neg c5] at H
     exact absurd H (by simp)
   ·rw [if_neg c4] at H
    have c4b0 : decide (x9_1 < (a0.size : Int)) = false := decide_eq_false c4
    clear c4
    simp only [Option.some.injEq, Prod.mk.injEq] at H
    obtain ⟨rfl, rfl, rfl⟩ := H
    go_wp2
    go_ret3
    exact ⟨by first | rfl | (simp; done) | (simp [*]; done), by repeat (first | exact Drawn0.refl _ | apply Drawn0.step)⟩

end Go.Proofs.YthcafnmagidpiaaDoor.MFnVtTokensJoin

namespace Go.Proofs.YthcafnmagidpiaaDoor.MFnVtTokensJoin
open Go.RowKit Go.Proofs.YthcafnmagidpiaaDoorW.PrintWords Go.Proofs.YthcafnmagidpiaaDoorW.PrintLast Go.Proofs.YthcafnmagidpiaaDoorW.PrintMore
attribute [local go_sem] max2_int min2_int max_two min_two max_three min_three max_four min_four   -- for this text's walks alone
set_option linter.unusedVariables false
set_option linter.unusedSimpArgs false

/-! ### spec_truthToken: function 18 -/
-- GIVENTEXT
def ttS : List Int := [91, 93, 123, 125, 60, 62, 44, 58]
def ttC : Array Value := #[.int .u8 91, .int .u8 93, .int .u8 123, .int .u8 125, .int .u8 60, .int .u8 62, .int .u8 44, .int .u8 58]
def ttB (c : Int) : Bool := decide (c = 32 ∨ (9 ≤ c ∧ c ≤ 13))
def spec_truthToken.f (a0 : ByteArray) (a1 : Int) : Option (Int × Int × Bool) :=
  if a1 < 0 then none
  else if a1 < (a0.size : Int) then (if ttB (bt a0 a1) = true then some (a1, 4, true) else if ttS.any (fun x => x == bt a0 a1) = true then some (a1, 4, true) else some (0, 0, false))
  else some (a1, 4, true)
theorem tt_blank (c : Int) : spec_textBlank.f c = some (ttB c) := by
  unfold spec_textBlank.f ttB
  by_cases h : c = 32
  · rw [if_pos h, decide_eq_true (.inl h)]
  · rw [if_neg h]
    by_cases h2 : 9 ≤ c
    · rw [if_pos h2]
      by_cases h3 : c ≤ 13
      · rw [decide_eq_true h3, decide_eq_true (.inr ⟨h2, h3⟩)]
      · rw [decide_eq_false h3, decide_eq_false (by omega)]
    · rw [if_neg h2, decide_eq_false (by omega)]
theorem tt_cell {w : World} {b i : Nat} {m : Nat × Nat} (h : w.heap[b]? = some (.cells ttC 5 m)) (hi : i < 8) : w.cell? ⟨b, i, none⟩ = some (.int .u8 (ttS.getD i 0)) := by
  have h2 : w.cell? ⟨b, i, none⟩ = ttC[i]? := by simp [World.cell?, h]
  rw [h2]
  match i, hi with
  | 0, _ => rfl
  | 1, _ => rfl
  | 2, _ => rfl
  | 3, _ => rfl
  | 4, _ => rfl
  | 5, _ => rfl
  | 6, _ => rfl
  | 7, _ => rfl
theorem tt_take (f : Int → Bool) {i : Nat} (hi : i < 8) : ((ttS.take (i + 1)).any f) = ((ttS.take i).any f || f (ttS.getD i 0)) := by
  match i, hi with
  | 0, _ => simp [ttS]
  | 1, _ => simp [ttS]
  | 2, _ => simp [ttS, Bool.or_assoc]
  | 3, _ => simp [ttS, Bool.or_assoc]
  | 4, _ => simp [ttS, Bool.or_assoc]
  | 5, _ => simp [ttS, Bool.or_assoc]
  | 6, _ => simp [ttS, Bool.or_assoc]
  | 7, _ => simp [ttS, Bool.or_assoc]
set_option maxHeartbeats 4000000 in
set_option maxRecDepth 100000 in
theorem spec_truthToken.calls (a0 : ByteArray) (a1 : Int) (r1 r2 : Int) (r3 : Bool) (w : World) (h : spec_truthToken.f a0 a1 = some (r1, r2, r3)) :
    Calls Tryd.prog 18 #[.string a0, .int .i64 a1] w fun e w' => e = .returned (.tuple #[.int .i64 r1, .int .i64 r2, .bool r3]) ∧ Below w.heap.size w w' := by
  unfold spec_truthToken.f at h
  by_cases h0 : a1 < 0
  · rw [if_pos h0] at h
    cases h
  · rw [if_neg h0] at h
    by_cases h1 : a1 < (a0.size : Int)
    · rw [if_pos h1] at h
      have HH := Aside0.mk h
      have d1 : decide (a1 < (a0.size : Int)) = true := decide_eq_true h1
      have p0 : 0 ≤ a1 := by omega
      have hx := bt_at a0 a1
      obtain ⟨bB, hbB⟩ : ∃ b, ttB (bt a0 a1) = b := ⟨_, rfl⟩
      have htb := tt_blank (bt a0 a1)
      rw [hbB] at htb h
      have HTB := Aside0.mk htb
      clear htb hbB HH
      cases bB with
      | true =>
        rw [if_pos rfl] at h
        simp only [Option.some.injEq, Prod.mk.injEq] at h
        obtain ⟨rfl, rfl, rfl⟩ := h
        go_enter Tryd.func18, Tryd.ntmps18
        go_wp2_with (go_at_call 10; refine (spec_textBlank.calls (bt a0 a1) true _ HTB.out).mono ?_; rintro e w' ⟨rfl, ⟨nd, rfl⟩⟩)
        go_ret3
        exact ⟨rfl, pw_below_drewN (Below.refl _ _) _⟩
      | false =>
        rw [if_neg (by simp)] at h
        have HH := Aside0.mk h
        clear h
        have kc : ∀ (nd : Nat) (C : Array Value), (convert 53 53 (.slice (some ⟨w.heap.size, 0, none⟩) 8 8)).run Tryd.prog ((w.drewN nd).alloc (.cells C 5)) = .ok (.slice (some ⟨w.heap.size, 0, none⟩) 8 8) ((w.drewN nd).alloc (.cells C 5 (C.size, C.size + 1))) := fun nd C => Lib.run_convert_bytes_const (P := Tryd.prog) (w.drewN nd) 53 5 C 8 8 Tryd.underlying53 Tryd.underlying5
        go_enter Tryd.func18, Tryd.ntmps18
        go_wp2_with (go_at_call 10; refine (spec_textBlank.calls (bt a0 a1) false _ HTB.out).mono ?_; rintro e w' ⟨rfl, ⟨nd, rfl⟩⟩)
        go_loopg [7, 24] 8 (fun kq v7 v24 w' => ∃ i : Nat, i ≤ 8 ∧ v7 = .bool ((ttS.take i).any fun x => x == bt a0 a1) ∧ v24 = .int .i64 (i : Int) ∧ Aside0 (kq = 8 - i ∧ w'.heap[w.heap.size]? = some (.cells ttC 5 (8, 9)) ∧ Below w.heap.size w w'))
        case atStart => exact ⟨0, Nat.zero_le _, rfl, rfl, ⟨rfl, heap_alloc_new _ _, below_alloc (pw_below_drewN (Below.refl _ _) _) _⟩⟩
        case round =>
          obtain ⟨i, hi, rfl, rfl, HI⟩ := hrel
          by_cases hlt : i < 8
          · have hd1 : decide ((i : Int) < 8) = true := by simp; omega
            have hd2 : decide (i < 8) = true := by simp; omega
            have hj0 : (0 : Int) ≤ (i : Int) := by omega
            have hj1 : (i : Int) < 8 := by omega
            have hc := tt_cell HI.out.2.1 hlt
            have hwi : IntKind.i64.wrap ((i : Int) + 1) = ((i + 1 : Nat) : Int) := by rw [IntKind.wrap_i64]; omega
            have htk := Aside0.mk (tt_take (fun x => x == bt a0 a1) hlt)
            obtain ⟨ci, hci⟩ : ∃ ci, ttS.getD i 0 = ci := ⟨_, rfl⟩
            rw [hci] at hc htk
            obtain ⟨bT, hbT⟩ : ∃ b, ((ttS.take i).any fun x => x == bt a0 a1) = b := ⟨_, rfl⟩
            obtain ⟨bE, hbE⟩ : ∃ b, (ci == bt a0 a1) = b := ⟨_, rfl⟩
            rw [hbT, hbE] at htk
            rw [hbT]
            clear hbT
            cases bT <;> cases bE <;> (
              go_wp2
              go_roundg (8 - (i + 1))
              case measure => have := HI.out.1; omega
              case rel => exact ⟨i + 1, by omega, by rw [htk.out]; rfl, by first | rfl | simp, ⟨rfl, HI.out.2⟩⟩)
          · have hi8 : i = 8 := by omega
            subst hi8
            have hts : (ttS.take 8) = ttS := rfl
            rw [hts]
            obtain ⟨bT, hbT⟩ : ∃ b, (ttS.any fun x => x == bt a0 a1) = b := ⟨_, rfl⟩
            rw [hbT] at HH
            rw [hbT]
            cases bT with
            | true =>
              have h2 := HH.out
              rw [if_pos rfl] at h2
              simp only [Option.some.injEq, Prod.mk.injEq] at h2
              obtain ⟨rfl, rfl, rfl⟩ := h2
              go_wp2
              go_ret3
              exact ⟨rfl, HI.out.2.2⟩
            | false =>
              have h2 := HH.out
              rw [if_neg (by simp)] at h2
              simp only [Option.some.injEq, Prod.mk.injEq] at h2
              obtain ⟨rfl, rfl, rfl⟩ := h2
              go_wp2
              go_ret3
              exact ⟨rfl, HI.out.2.2⟩
    · rw [if_neg h1] at h
      simp only [Option.some.injEq, Prod.mk.injEq] at h
      obtain ⟨rfl, rfl, rfl⟩ := h
      have d1 : decide (a1 < (a0.size : Int)) = false := decide_eq_false h1
      go_enter Tryd.func18, Tryd.ntmps18
      go_wp2
      go_ret3
      exact ⟨rfl, Below.refl _ _⟩

end Go.Proofs.YthcafnmagidpiaaDoor.MFnVtTokensJoin
