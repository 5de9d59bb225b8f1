-- Written by a program of this session (myprint.py, out of the translation). Not trusted: Lean checks it.
import Derived.Test.YthcafnmagidpiaaDoorMFnVtTokensx0
import Derived.Test.YthcafnmagidpiaaDoorMFnVtTokensx1
import Derived.Test.YthcafnmagidpiaaDoorMFnVtTokensx3
import Derived.Test.YthcafnmagidpiaaDoorMFnVtTokensx5
import Derived.Test.YthcafnmagidpiaaDoorMFnVtTokensx6
import Derived.Test.YthcafnmagidpiaaDoorMFnVtTokensx8
import Derived.Test.YthcafnmagidpiaaDoorMFnVtTokensx9
namespace Go.Proofs.YthcafnmagidpiaaDoor.MFnVtTokens
open Go.RowKit Go.Proofs.YthcafnmagidpiaaDoorW.PrintWords Go.Proofs.YthcafnmagidpiaaDoorW.PrintLast Go.Proofs.YthcafnmagidpiaaDoorW.PrintMore
attribute [local go_sem] max2_int min2_int max_two min_two max_three min_three max_four min_four   -- for this text's walks alone
set_option linter.unusedVariables false
set_option linter.unusedSimpArgs false

/-! ### spec_token: function 11 -/
mutual
def spec_token.l0 : Nat → ByteArray → Int → Option (Int × Int × Bool)
 | 0, _, _ => none
 | k + 1, x0, x5 => if x5 < 8 then (if 0 < (x0.size : Int) then (if 0 ≤ x5 then (if (bt x0 0) = (bt (⟨#[91, 93, 123, 125, 60, 62, 44, 58]⟩ : ByteArray) x5) then (some (1, wrap64 (5 + x5), true)) else (spec_token.l0 k x0 (wrap64 (x5 + 1)))) else (none)) else (none)) else (if 0 < (x0.size : Int) then (if (bt x0 0) = 43 then (spec_token.j1 k x0 (bt x0 0) true) else (if (bt x0 0) = 45 then (spec_token.j1 k x0 (bt x0 0) true) else ((spec_textDigit.f (bt x0 0)).bind fun t126 => (spec_token.j1 k x0 (bt x0 0) t126)))) else (none))
def spec_token.j6 : Nat → ByteArray → Option (Int × Int × Bool)
 | 0, _ => none
 | k + 1, x0 => spec_token.l1 k x0 0
def spec_token.l1 : Nat → ByteArray → Int → Option (Int × Int × Bool)
 | 0, _, _ => none
 | k + 1, x0, x9 => if x9 < (x0.size : Int) then (if 0 ≤ x9 then ((spec_textBlank.f (bt x0 x9)).bind fun t143 => (spec_token.j8 k x0 x9 (!t143))) else (none)) else (spec_token.j8 k x0 x9 false)
def spec_token.j8 : Nat → ByteArray → Int → Bool → Option (Int × Int × Bool)
 | 0, _, _, _ => none
 | k + 1, x0, x9, x181 => if x181 = true then (if 0 ≤ x9 then (if x9 < (x0.size : Int) then (if (bt x0 x9) ≥ 128 then (some (0, 0, false)) else (spec_token.l1 k x0 (wrap64 (x9 + 1)))) else (none)) else (none)) else (if 0 < (x0.size : Int) then (if (bt x0 0) = 64 then (if 0 ≤ x9 then (if x9 ≤ (x0.size : Int) then ((spec_paired.f k (x0.extract 0 (x9 : Int).toNat)).bind fun t144 => (if t144 = true then (if 1 ≤ x9 then ((spec_Valid.f k (x0.extract 1 (x9 : Int).toNat)).bind fun t145 => (if t145 = true then ((spec_plainTypes.f k (x0.extract 1 (x9 : Int).toNat)).bind fun t146 => (spec_token.j9 k x0 x9 (!t146))) else (spec_token.j9 k x0 x9 (!false)))) else (none)) else (spec_token.j9 k x0 x9 false))) else (none)) else (none)) else (spec_token.j9 k x0 x9 false)) else (none))
def spec_token.j9 : Nat → ByteArray → Int → Bool → Option (Int × Int × Bool)
 | 0, _, _, _ => none
 | k + 1, x0, x9, x209 => if x209 = true then (some (0, 0, false)) else (if 0 ≤ x9 then (if x9 ≤ (x0.size : Int) then ((spec_typeNamed.f k (x0.extract 0 (x9 : Int).toNat)).bind fun bt147 => (if bt147.2 = true then (some (x9, 13, true)) else (if 0 < (x0.size : Int) then (if (bt x0 0) = 64 then (if 1 ≤ x9 then ((spec_Valid.f k (x0.extract 1 (x9 : Int).toNat)).bind fun t149 => (if t149 = true then (some (x9, 13, true)) else (if (x0.extract 0 (x9 : Int).toNat).toList = ([100, 111, 117, 98, 108, 101] : List UInt8) then (some (x9, 13, true)) else (some (0, 1, true))))) else (none)) else (if (x0.extract 0 (x9 : Int).toNat).toList = ([100, 111, 117, 98, 108, 101] : List UInt8) then (some (x9, 13, true)) else (some (0, 1, true)))) else (none)))) else (none)) else (none))
def spec_token.j1 : Nat → ByteArray → Int → Bool → Option (Int × Int × Bool)
 | 0, _, _, _ => none
 | k + 1, x0, x6, x25 => if x25 = true then ((spec_NumberText.f x0).bind fun bt127 => (if bt127.2 = true then (if bt127.1 < (x0.size : Int) then (if 0 ≤ bt127.1 then ((spec_textDigit.f (bt x0 bt127.1)).bind fun t129 => (if t129 = true then (spec_token.j2 k x0 bt127.1 true) else (if (bt x0 bt127.1) = 46 then (spec_token.j2 k x0 bt127.1 true) else (if (bt x0 bt127.1) = 43 then (spec_token.j2 k x0 bt127.1 true) else (if (bt x0 bt127.1) = 45 then (spec_token.j2 k x0 bt127.1 true) else (spec_token.j2 k x0 bt127.1 (decide ((bt x0 bt127.1) ≥ 128)))))))) else (none)) else (spec_token.j2 k x0 bt127.1 false)) else (spec_token.j2 k x0 bt127.1 true))) else (if x6 = 34 then (spec_token.j3 k x0 x6 true) else (spec_token.j3 k x0 x6 (x6 == 39)))
def spec_token.j2 : Nat → ByteArray → Int → Bool → Option (Int × Int × Bool)
 | 0, _, _, _ => none
 | k + 1, x0, x7, x78 => if x78 = true then (some (0, 0, false)) else (if x7 < (x0.size : Int) then (if 0 ≤ x7 then ((spec_textLetter.f (bt x0 x7)).bind fun t130 => (if t130 = true then (some (0, 1, ((bt x0 x7) != 95))) else (if (bt x0 x7) = 95 then (some (0, 1, ((bt x0 x7) != 95))) else (some (x7, 2, true))))) else (none)) else (some (x7, 2, true)))
def spec_token.j3 : Nat → ByteArray → Int → Bool → Option (Int × Int × Bool)
 | 0, _, _, _ => none
 | k + 1, x0, x6, x100 => if x100 = true then ((spec_quoted.f k x0 0 3).bind fun bt131 => (some (bt131.1, bt131.2.1, bt131.2.2))) else (if x6 = 98 then (if (x0.size : Int) > 1 then (if 1 < (x0.size : Int) then (if (bt x0 1) = 34 then (spec_token.j4 k x0 x6 true) else (spec_token.j4 k x0 x6 ((bt x0 1) == 39))) else (none)) else (spec_token.j4 k x0 x6 false)) else (spec_token.j4 k x0 x6 false))
def spec_token.j4 : Nat → ByteArray → Int → Bool → Option (Int × Int × Bool)
 | 0, _, _, _ => none
 | k + 1, x0, x6, x112 => if x112 = true then ((spec_quoted.f k x0 1 14).bind fun bt134 => (some (bt134.1, bt134.2.1, bt134.2.2))) else (if x6 = 116 then (if (x0.size : Int) ≥ 4 then (if 0 ≤ 4 then (if 4 ≤ (x0.size : Int) then (spec_token.j5 k x0 x6 ((x0.extract 0 4).toList == ([116, 114, 117, 101] : List UInt8))) else (none)) else (none)) else (spec_token.j5 k x0 x6 false)) else (spec_token.j5 k x0 x6 false))
def spec_token.j5 : Nat → ByteArray → Int → Bool → Option (Int × Int × Bool)
 | 0, _, _, _ => none
 | k + 1, x0, x6, x135 => if x135 = true then ((spec_truthToken.f x0 4).bind fun bt137 => (some (bt137.1, bt137.2.1, bt137.2.2))) else (if x6 = 102 then (if (x0.size : Int) ≥ 5 then (if 0 ≤ 5 then (if 5 ≤ (x0.size : Int) then (if (x0.extract 0 5).toList = ([102, 97, 108, 115, 101] : List UInt8) then ((spec_truthToken.f x0 5).bind fun bt140 => (some (bt140.1, bt140.2.1, bt140.2.2))) else (spec_token.j6 k x0)) else (none)) else (none)) else (spec_token.j6 k x0)) else (spec_token.j6 k x0))
end
def spec_token.f (k : Nat) (a0 : ByteArray) : Option (Int × Int × Bool) := spec_token.l0 k a0 0
theorem spec_token.mono_l : ∀ k, (∀ y0 y1, LeO (spec_token.l0 k y0 y1) (spec_token.l0 (k + 1) y0 y1)) ∧ (∀ y0, LeO (spec_token.j6 k y0) (spec_token.j6 (k + 1) y0)) ∧ (∀ y0 y1, LeO (spec_token.l1 k y0 y1) (spec_token.l1 (k + 1) y0 y1)) ∧ (∀ y0 y1 y2, LeO (spec_token.j8 k y0 y1 y2) (spec_token.j8 (k + 1) y0 y1 y2)) ∧ (∀ y0 y1 y2, LeO (spec_token.j9 k y0 y1 y2) (spec_token.j9 (k + 1) y0 y1 y2)) ∧ (∀ y0 y1 y2, LeO (spec_token.j1 k y0 y1 y2) (spec_token.j1 (k + 1) y0 y1 y2)) ∧ (∀ y0 y1 y2, LeO (spec_token.j2 k y0 y1 y2) (spec_token.j2 (k + 1) y0 y1 y2)) ∧ (∀ y0 y1 y2, LeO (spec_token.j3 k y0 y1 y2) (spec_token.j3 (k + 1) y0 y1 y2)) ∧ (∀ y0 y1 y2, LeO (spec_token.j4 k y0 y1 y2) (spec_token.j4 (k + 1) y0 y1 y2)) ∧ (∀ y0 y1 y2, LeO (spec_token.j5 k y0 y1 y2) (spec_token.j5 (k + 1) y0 y1 y2))
 | 0 => ⟨fun _ _ r h => by simp [spec_token.l0] at h, fun _ r h => by simp [spec_token.j6] at h, fun _ _ r h => by simp [spec_token.l1] at h, fun _ _ _ r h => by simp [spec_token.j8] at h, fun _ _ _ r h => by simp [spec_token.j9] at h, fun _ _ _ r h => by simp [spec_token.j1] at h, fun _ _ _ r h => by simp [spec_token.j2] at h, fun _ _ _ r h => by simp [spec_token.j3] at h, fun _ _ _ r h => by simp [spec_token.j4] at h, fun _ _ _ r h => by simp [spec_token.j5] at h⟩
 | k + 1 => by
  obtain ⟨ih0, ih1, ih2, ih3, ih4, ih5, ih6, ih7, ih8, ih9⟩ := spec_token.mono_l k
  refine ⟨?_, ?_, ?_, ?_, ?_, ?_, ?_, ?_, ?_, ?_⟩ <;> intros <;> (first | unfold spec_token.l0 | unfold spec_token.j6 | unfold spec_token.l1 | unfold spec_token.j8 | unfold spec_token.j9 | unfold spec_token.j1 | unfold spec_token.j2 | unfold spec_token.j3 | unfold spec_token.j4 | unfold spec_token.j5) <;> repeat' first
    | (with_reducible exact ih0 _ _)
    | (with_reducible exact ih1 _)
    | (with_reducible exact ih2 _ _)
    | (with_reducible exact ih3 _ _ _)
    | (with_reducible exact ih4 _ _ _)
    | (with_reducible exact ih5 _ _ _)
    | (with_reducible exact ih6 _ _ _)
    | (with_reducible exact ih7 _ _ _)
    | (with_reducible exact ih8 _ _ _)
    | (with_reducible exact ih9 _ _ _)
    | (with_reducible exact spec_Valid.mono _ _)
    | (with_reducible exact spec_paired.mono _ _)
    | (with_reducible exact spec_plainTypes.mono _ _)
    | (with_reducible exact spec_quoted.mono _ _ _ _)
    | (with_reducible exact spec_typeNamed.mono _ _)
    | (with_reducible exact LeO.refl _)
    | (with_reducible exact LeO.none _)
    | (with_reducible refine LeO.ite ?_ ?_)
    | (with_reducible refine LeO.bind ?_ (fun _ => ?_))
    | exact ih0 _ _
    | exact ih1 _
    | exact ih2 _ _
    | exact ih3 _ _ _
    | exact ih4 _ _ _
    | exact ih5 _ _ _
    | exact ih6 _ _ _
    | exact ih7 _ _ _
    | exact ih8 _ _ _
    | exact ih9 _ _ _
    | exact spec_Valid.mono _ _
    | exact spec_paired.mono _ _
    | exact spec_plainTypes.mono _ _
    | exact spec_quoted.mono _ _ _ _
    | exact spec_typeNamed.mono _ _
    | exact LeO.none _
    | refine LeO.ite ?_ ?_
    | refine LeO.bind ?_ (fun _ => ?_)
theorem spec_token.mono : ∀ a0 k, LeO (spec_token.f k a0) (spec_token.f (k + 1) a0) := by
 intro a0 k
 obtain ⟨ih0, ih1, ih2, ih3, ih4, ih5, ih6, ih7, ih8, ih9⟩ := spec_token.mono_l k
 unfold spec_token.f
 repeat' first
   | (with_reducible exact ih0 _ _)
   | (with_reducible exact ih1 _)
   | (with_reducible exact ih2 _ _)
   | (with_reducible exact ih3 _ _ _)
   | (with_reducible exact ih4 _ _ _)
   | (with_reducible exact ih5 _ _ _)
   | (with_reducible exact ih6 _ _ _)
   | (with_reducible exact ih7 _ _ _)
   | (with_reducible exact ih8 _ _ _)
   | (with_reducible exact ih9 _ _ _)
   | (with_reducible exact spec_Valid.mono _ _)
   | (with_reducible exact spec_paired.mono _ _)
   | (with_reducible exact spec_plainTypes.mono _ _)
   | (with_reducible exact spec_quoted.mono _ _ _ _)
   | (with_reducible exact spec_typeNamed.mono _ _)
   | (with_reducible exact LeO.refl _)
   | (with_reducible exact LeO.none _)
   | (with_reducible refine LeO.ite ?_ ?_)
   | (with_reducible refine LeO.bind ?_ (fun _ => ?_))
   | exact ih0 _ _
   | exact ih1 _
   | exact ih2 _ _
   | exact ih3 _ _ _
   | exact ih4 _ _ _
   | exact ih5 _ _ _
   | exact ih6 _ _ _
   | exact ih7 _ _ _
   | exact ih8 _ _ _
   | exact ih9 _ _ _
   | exact spec_Valid.mono _ _
   | exact spec_paired.mono _ _
   | exact spec_plainTypes.mono _ _
   | exact spec_quoted.mono _ _ _ _
   | exact spec_typeNamed.mono _ _
   | exact LeO.none _
   | refine LeO.ite ?_ ?_
   | refine LeO.bind ?_ (fun _ => ?_)
set_option maxHeartbeats 8000000 in
set_option maxRecDepth 100000 in
theorem spec_token.calls (k : Nat) (a0 : ByteArray) (r1 : Int) (r2 : Int) (r3 : Bool) (w : World) (h : spec_token.f k a0 = some (r1, r2, r3)) :
  Calls Tryd.prog 11 #[.string a0] w fun e w' => e = .returned (.tuple #[.int .i64 r1, .int .i64 r2, .bool r3]) ∧ Below w.heap.size w w' := by
 have HB := Aside0.mk (Below.refl w.heap.size w)
 have H : (spec_token.l0 k a0 0) = some (r1, r2, r3) := h
 clear h
 have H' := Aside0.mk H
 clear H
 go_enter Tryd.func11, Tryd.ntmps11
 go_wp2
 repeat (go_quiet (fail); try go_wp2)
 go_loopg [5] k (fun kq v5 w' => ∃ (x5_1 : Int), v5 = .int .i64 x5_1 ∧ Aside0 (spec_token.l0 kq a0 x5_1 = some (r1, r2, r3)) ∧ Aside0 (kq ≤ k) ∧ Aside0 (Below w.heap.size w w'))
 case atStart => exact ⟨(0), (by first | rfl | (simp; done) | (simp [*]; done)), H', ⟨Nat.le_refl _⟩, ⟨by repeat (first | (with_reducible first | exact HB.out | apply below_alloc | apply pw_below_drewN | apply below_drew1) | exact HB.out)⟩⟩
 case round => as_aux_lemma =>
  clear H'
  try clear c1
  obtain ⟨x5_1, rfl, HA, HK1, HB⟩ := hrel
  cases gk with
  | zero => exact absurd HA.out (by simp [spec_token.l0])
  | succ k1 =>
   have H := HA.out
   clear HA
   simp only [spec_token.l0] at H
   by_cases c2 : x5_1 < 8
   ·rw [if_pos c2] at H
    have c2b0 : decide (x5_1 < 8) = true := decide_eq_true c2
    clear c2
    by_cases c3 : 0 < (a0.size : Int)
    ·rw [if_pos c3] at H
     have c3b0 : decide (0 < (a0.size : Int)) = true := decide_eq_true c3
     have c3b1 : decide (0 < a0.size) = true := decide_eq_true (by omega)
     clear c3
     by_cases c5 : 0 ≤ x5_1
     ·rw [if_pos c5] at H
      have c5b0 : decide (0 ≤ x5_1) = true := decide_eq_true c5
      clear c5
      by_cases c7 : (bt a0 0) = (bt (⟨#[91, 93, 123, 125, 60, 62, 44, 58]⟩ : ByteArray) x5_1)
      ·rw [if_pos c7] at H
       have c7b0 : ((bt a0 0) == (bt (⟨#[91, 93, 123, 125, 60, 62, 44, 58]⟩ : ByteArray) x5_1)) = true := beq_iff_eq.mpr c7
       have c7b1 : ((bt a0 0) != (bt (⟨#[91, 93, 123, 125, 60, 62, 44, 58]⟩ : ByteArray) x5_1)) = false := bne_eq_false_iff_eq.mpr c7
       clear c7
       simp only [Option.some.injEq, Prod.mk.injEq] at H
       obtain ⟨rfl, rfl, rfl⟩ := H
       have p4 : 0 ≤ (0 : Int) := (by omega)
       have q4 : 0 < a0.size := (by have : (0 : Int) < (a0.size : Int) := of_decide_eq_true (by first | (with_reducible assumption) | assumption); omega)
       have hx4 : ∀ h : 0 < a0.size, ((a0[0]'h).toNat : Int) = bt a0 0 := bt_at a0 0
       clear p4
       have qi4 : (0 < (a0.size : Int)) = True := eq_true (of_decide_eq_true (by first | (with_reducible assumption) | assumption))
       replace q4 := eq_true q4
       have p6 : 0 ≤ (x5_1 : Int) := of_decide_eq_true (by first | (with_reducible assumption) | assumption)
       have q6 : x5_1 < (8 : Int) := of_decide_eq_true (by first | (with_reducible assumption) | assumption)
       have hx6 := bt_at (⟨#[91, 93, 123, 125, 60, 62, 44, 58]⟩ : ByteArray) x5_1
       replace p6 := eq_true p6
       replace q6 := eq_true q6
       go_wp2
       repeat (go_quiet (fail); try go_wp2)
       go_ret3
       exact ⟨by first | rfl | (simp [errW_none, errW_some] <;> rfl) | (simp [*, errW_none, errW_some] <;> rfl) | (simp (disch := omega) only [wrap64_id] <;> rfl), by repeat (first | (with_reducible first | exact HB.out | apply below_alloc | apply pw_below_drewN | apply below_drew1) | exact HB.out)⟩
      ·rw [if_neg c7] at H
       have c7b0 : ((bt a0 0) == (bt (⟨#[91, 93, 123, 125, 60, 62, 44, 58]⟩ : ByteArray) x5_1)) = false := beq_eq_false_iff_ne.mpr c7
       have c7b1 : ((bt a0 0) != (bt (⟨#[91, 93, 123, 125, 60, 62, 44, 58]⟩ : ByteArray) x5_1)) = true := bne_iff_ne.mpr c7
       have H' := Aside0.mk H
       clear H
       have p4 : 0 ≤ (0 : Int) := (by omega)
       have q4 : 0 < a0.size := (by have : (0 : Int) < (a0.size : Int) := of_decide_eq_true (by first | (with_reducible assumption) | assumption); omega)
       have hx4 : ∀ h : 0 < a0.size, ((a0[0]'h).toNat : Int) = bt a0 0 := bt_at a0 0
       clear p4
       have qi4 : (0 < (a0.size : Int)) = True := eq_true (of_decide_eq_true (by first | (with_reducible assumption) | assumption))
       replace q4 := eq_true q4
       have p6 : 0 ≤ (x5_1 : Int) := of_decide_eq_true (by first | (with_reducible assumption) | assumption)
       have q6 : x5_1 < (8 : Int) := of_decide_eq_true (by first | (with_reducible assumption) | assumption)
       have hx6 := bt_at (⟨#[91, 93, 123, 125, 60, 62, 44, 58]⟩ : ByteArray) x5_1
       replace p6 := eq_true p6
       replace q6 := eq_true q6
       go_wp2
       repeat (go_quiet (fail); try go_wp2)
       go_roundg k1
       case measure => have := HK1.out; omega
       case rel => exact ⟨(wrap64 (x5_1 + 1)), (by first | rfl | (simp; done) | (simp [*]; done)), H', ⟨by have := HK1.out; omega⟩, ⟨by repeat (first | (with_reducible first | exact HB.out | apply below_alloc | apply pw_below_drewN | apply below_drew1) | exact HB.out)⟩⟩
     ·rw [if_neg c5] at H
      exact absurd H (by simp)
    ·rw [if_neg c3] at H
     exact absurd H (by simp)
   ·rw [if_neg c2] at H
    have c2b0 : decide (x5_1 < 8) = false := decide_eq_false c2
    clear c2
    by_cases c8 : 0 < (a0.size : Int)
    ·rw [if_pos c8] at H
     have c8b0 : decide (0 < (a0.size : Int)) = true := decide_eq_true c8
     have c8b1 : decide (0 < a0.size) = true := decide_eq_true (by omega)
     clear c8
     have HC10 := Aside0.mk H
     clear H
     have p9 : 0 ≤ (0 : Int) := (by omega)
     have q9 : 0 < a0.size := (by have : (0 : Int) < (a0.size : Int) := of_decide_eq_true (by first | (with_reducible assumption) | assumption); omega)
     have hx9 : ∀ h : 0 < a0.size, ((a0[0]'h).toNat : Int) = bt a0 0 := bt_at a0 0
     clear p9
     have qi9 : (0 < (a0.size : Int)) = True := eq_true (of_decide_eq_true (by first | (with_reducible assumption) | assumption))
     replace q9 := eq_true q9
     go_upto_block 2 with (fail)
     repeat (go_quiet (fail); go_upto_block 2 with (fail))
     go_cut [] (fun wc => ∃ (kq : Nat), Aside0 (spec_token.j6 kq a0 = some (r1, r2, r3)) ∧ Aside0 (kq ≤ k1) ∧ Aside0 (Below w.heap.size w wc))
     case first => as_aux_lemma =>
      have H := HC10.out
      clear HC10
      have HC11 := Aside0.mk H
      clear H
      go_upto_region 7 with (fail)
      repeat (go_quiet (fail); go_upto_region 7 with (fail))
      go_cut [25] (fun v25 wc => ∃ (kq : Nat) (x25_10 : Bool), v25 = .bool x25_10 ∧ Aside0 (spec_token.j1 kq a0 (bt a0 0) x25_10 = some (r1, r2, r3)) ∧ Aside0 (kq ≤ k1) ∧ Aside0 (Below w.heap.size w wc))
      case first => as_aux_lemma =>
       have H := HC11.out
       clear HC11
       by_cases c12 : (bt a0 0) = 43
       ·rw [if_pos c12] at H
        have c12b0 : ((bt a0 0) == 43) = true := beq_iff_eq.mpr c12
        have c12b1 : ((bt a0 0) != 43) = false := bne_eq_false_iff_eq.mpr c12
        clear c12
        (first | rw [c12b0] | (simp only [i64_w, i32_w]; rw [c12b0]) | skip)
        have H' := Aside0.mk H
        clear H
        go_wp2
        repeat (go_quiet (fail); try go_wp2)
        go_meet
        case rel => exact ⟨_, (true), (by first | rfl | (simp; done) | (simp [*]; done)), H', ⟨by have := HK1.out; first | omega | exact Nat.le_refl _⟩, ⟨by repeat (first | (with_reducible first | exact HB.out | apply below_alloc | apply pw_below_drewN | apply below_drew1) | exact HB.out)⟩⟩
       ·rw [if_neg c12] at H
        have c12b0 : ((bt a0 0) == 43) = false := beq_eq_false_iff_ne.mpr c12
        have c12b1 : ((bt a0 0) != 43) = true := bne_iff_ne.mpr c12
        (first | rw [c12b0] | (simp only [i64_w, i32_w]; rw [c12b0]) | skip)
        by_cases c13 : (bt a0 0) = 45
        ·rw [if_pos c13] at H
         have c13b0 : ((bt a0 0) == 45) = true := beq_iff_eq.mpr c13
         have c13b1 : ((bt a0 0) != 45) = false := bne_eq_false_iff_eq.mpr c13
         clear c13
         have H' := Aside0.mk H
         clear H
         go_wp2
         repeat (go_quiet (fail); try go_wp2)
         go_meet
         case rel => exact ⟨_, (true), (by first | rfl | (simp; done) | (simp [*]; done)), H', ⟨by have := HK1.out; first | omega | exact Nat.le_refl _⟩, ⟨by repeat (first | (with_reducible first | exact HB.out | apply below_alloc | apply pw_below_drewN | apply below_drew1) | exact HB.out)⟩⟩
        ·rw [if_neg c13] at H
         have c13b0 : ((bt a0 0) == 45) = false := beq_eq_false_iff_ne.mpr c13
         have c13b1 : ((bt a0 0) != 45) = true := bne_iff_ne.mpr c13
         replace H := Option.bind_eq_some_iff.mp H
         obtain ⟨t126, A140, H⟩ := H
         replace H : (spec_token.j1 k1 a0 (bt a0 0) t126) = some (r1, r2, r3) := H
         have A14 := Aside0.mk A140
         clear A140
         have H' := Aside0.mk H
         clear H
         go_wp2_with (first | (go_at_call 14; (with_reducible refine (spec_textDigit.calls (bt a0 0) t126 _ A14.out).mono ?_); rintro e w' ⟨rfl, ⟨nd, rfl⟩⟩; (try first | exact ⟨rfl, _, World.drewN_drewN _ _ _⟩ | exact ⟨rfl, _, Eq.trans (World.drewN_drewN _ _ _) (congrArg (World.drewN _) (Nat.add_assoc _ _ _))⟩)))
         repeat (go_quiet (first | (go_at_call 14; (with_reducible refine (spec_textDigit.calls (bt a0 0) t126 _ A14.out).mono ?_); rintro e w' ⟨rfl, ⟨nd, rfl⟩⟩; (try first | exact ⟨rfl, _, World.drewN_drewN _ _ _⟩ | exact ⟨rfl, _, Eq.trans (World.drewN_drewN _ _ _) (congrArg (World.drewN _) (Nat.add_assoc _ _ _))⟩))); try go_wp2_with (first | (go_at_call 14; (with_reducible refine (spec_textDigit.calls (bt a0 0) t126 _ A14.out).mono ?_); rintro e w' ⟨rfl, ⟨nd, rfl⟩⟩; (try first | exact ⟨rfl, _, World.drewN_drewN _ _ _⟩ | exact ⟨rfl, _, Eq.trans (World.drewN_drewN _ _ _) (congrArg (World.drewN _) (Nat.add_assoc _ _ _))⟩))))
         go_meet
         case rel => exact ⟨_, (t126), (by first | rfl | (simp; done) | (simp [*]; done)), H', ⟨by have := HK1.out; first | omega | exact Nat.le_refl _⟩, ⟨by repeat (first | (with_reducible first | exact HB.out | apply below_alloc | apply pw_below_drewN | apply below_drew1) | exact HB.out)⟩⟩
      case rest => as_aux_lemma =>
       clear HC11
       try clear c1
       try clear c2
       try clear c2b0
       try clear p2
       try clear c3
       try clear c3b0
       try clear c3b1
       try clear p4
       try clear q4
       try clear hx4
       try clear qi4
       try clear c5
       try clear c5b0
       try clear p6
       try clear q6
       try clear hx6
       try clear c7
       try clear c7b0
       try clear c7b1
       try clear c8
       try clear c8b0
       try clear c8b1
       try clear p9
       try clear q9
       try clear hx9
       try clear qi9
       try clear c11
       try clear c12
       try clear c12b0
       try clear c12b1
       try clear c13
       try clear c13b0
       try clear c13b1
       try clear p4
       try clear p6
       try clear p9
       try clear q4
       try clear q6
       try clear q9
       obtain ⟨kq, x25_10, rfl, HA, HJ10, HB⟩ := hcut
       cases kq with
       | zero => exact absurd HA.out (by simp [spec_token.j1])
       | succ kj10 =>
        have H := HA.out
        clear HA
        simp only [spec_token.j1] at H
        by_cases c15 : x25_10 = true
        ·subst c15
         have H1 : ((spec_NumberText.f a0).bind fun bt127 => (if bt127.2 = true then (if bt127.1 < (a0.size : Int) then (if 0 ≤ bt127.1 then ((spec_textDigit.f (bt a0 bt127.1)).bind fun t129 => (if t129 = true then (spec_token.j2 kj10 a0 bt127.1 true) else (if (bt a0 bt127.1) = 46 then (spec_token.j2 kj10 a0 bt127.1 true) else (if (bt a0 bt127.1) = 43 then (spec_token.j2 kj10 a0 bt127.1 true) else (if (bt a0 bt127.1) = 45 then (spec_token.j2 kj10 a0 bt127.1 true) else (spec_token.j2 kj10 a0 bt127.1 (decide ((bt a0 bt127.1) ≥ 128)))))))) else (none)) else (spec_token.j2 kj10 a0 bt127.1 false)) else (spec_token.j2 kj10 a0 bt127.1 true))) = some (r1, r2, r3) := by rw [if_pos rfl] at H; exact H
         clear H
         have H := H1
         clear H1
         replace H := Option.bind_eq_some_iff.mp H
         obtain ⟨⟨t127, t128⟩, A160, H⟩ := H
         replace H : (if t128 = true then (if t127 < (a0.size : Int) then (if 0 ≤ t127 then ((spec_textDigit.f (bt a0 t127)).bind fun t129 => (if t129 = true then (spec_token.j2 kj10 a0 t127 true) else (if (bt a0 t127) = 46 then (spec_token.j2 kj10 a0 t127 true) else (if (bt a0 t127) = 43 then (spec_token.j2 kj10 a0 t127 true) else (if (bt a0 t127) = 45 then (spec_token.j2 kj10 a0 t127 true) else (spec_token.j2 kj10 a0 t127 (decide ((bt a0 t127) ≥ 128)))))))) else (none)) else (spec_token.j2 kj10 a0 t127 false)) else (spec_token.j2 kj10 a0 t127 true)) = some (r1, r2, r3) := H
         have A16 := Aside0.mk A160
         clear A160
         have HC17 := Aside0.mk H
         clear H
         go_upto_region 9 with (first | (go_at_call 15; (with_reducible refine (spec_NumberText.calls a0 t127 t128 _ A16.out).mono ?_); rintro e w18 ⟨rfl, hb⟩; have n0_ := Aside0.mk (below_step (by repeat (first | (with_reducible first | exact HB.out | apply below_alloc | apply pw_below_drewN | apply below_drew1) | exact HB.out)) hb); clear HB; have HB := n0_; clear n0_; (try clear hb); (try clear hb2); (try clear hk); (try clear hi)))
         repeat (go_quiet (first | (go_at_call 15; (with_reducible refine (spec_NumberText.calls a0 t127 t128 _ A16.out).mono ?_); rintro e w18 ⟨rfl, hb⟩; have n0_ := Aside0.mk (below_step (by repeat (first | (with_reducible first | exact HB.out | apply below_alloc | apply pw_below_drewN | apply below_drew1) | exact HB.out)) hb); clear HB; have HB := n0_; clear n0_; (try clear hb); (try clear hb2); (try clear hk); (try clear hi))); go_upto_region 9 with (first | (go_at_call 15; (with_reducible refine (spec_NumberText.calls a0 t127 t128 _ A16.out).mono ?_); rintro e w18 ⟨rfl, hb⟩; have n0_ := Aside0.mk (below_step (by repeat (first | (with_reducible first | exact HB.out | apply below_alloc | apply pw_below_drewN | apply below_drew1) | exact HB.out)) hb); clear HB; have HB := n0_; clear n0_; (try clear hb); (try clear hb2); (try clear hk); (try clear hi))))
         (try simp only [Act.put, List.setIfInBounds_toArray, List.set_cons_zero, List.set_cons_succ])
         go_cut [78] (fun v78 wc => ∃ (kq : Nat) (x78_16 : Bool), v78 = .bool x78_16 ∧ Aside0 (spec_token.j2 kq a0 t127 x78_16 = some (r1, r2, r3)) ∧ Aside0 (kq ≤ kj10) ∧ Aside0 (Below w.heap.size w wc))
         case first => as_aux_lemma =>
          have H := HC17.out
          clear HC17
          by_cases c19 : t128 = true
          ·subst c19
           have H1 : (if t127 < (a0.size : Int) then (if 0 ≤ t127 then ((spec_textDigit.f (bt a0 t127)).bind fun t129 => (if t129 = true then (spec_token.j2 kj10 a0 t127 true) else (if (bt a0 t127) = 46 then (spec_token.j2 kj10 a0 t127 true) else (if (bt a0 t127) = 43 then (spec_token.j2 kj10 a0 t127 true) else (if (bt a0 t127) = 45 then (spec_token.j2 kj10 a0 t127 true) else (spec_token.j2 kj10 a0 t127 (decide ((bt a0 t127) ≥ 128)))))))) else (none)) else (spec_token.j2 kj10 a0 t127 false)) = some (r1, r2, r3) := by rw [if_pos rfl] at H; exact H
           clear H
           have H := H1
           clear H1
           by_cases c20 : t127 < (a0.size : Int)
           ·rw [if_pos c20] at H
            have c20b0 : decide (t127 < (a0.size : Int)) = true := decide_eq_true c20
            clear c20
            (first | rw [c20b0] | (simp only [i64_w, i32_w]; rw [c20b0]) | skip)
            by_cases c21 : 0 ≤ t127
            ·rw [if_pos c21] at H
             have c21b0 : decide (0 ≤ t127) = true := decide_eq_true c21
             clear c21
             replace H := Option.bind_eq_some_iff.mp H
             obtain ⟨t129, A230, H⟩ := H
             replace H : (if t129 = true then (spec_token.j2 kj10 a0 t127 true) else (if (bt a0 t127) = 46 then (spec_token.j2 kj10 a0 t127 true) else (if (bt a0 t127) = 43 then (spec_token.j2 kj10 a0 t127 true) else (if (bt a0 t127) = 45 then (spec_token.j2 kj10 a0 t127 true) else (spec_token.j2 kj10 a0 t127 (decide ((bt a0 t127) ≥ 128))))))) = some (r1, r2, r3) := H
             have A23 := Aside0.mk A230
             clear A230
             by_cases c24 : t129 = true
             ·subst c24
              have H1 : (spec_token.j2 kj10 a0 t127 true) = some (r1, r2, r3) := by rw [if_pos rfl] at H; exact H
              clear H
              have H := H1
              clear H1
              have H' := Aside0.mk H
              clear H
              have p22 : 0 ≤ (t127 : Int) := of_decide_eq_true (by first | (with_reducible assumption) | assumption)
              have q22 : t127 < (a0.size : Int) := of_decide_eq_true (by first | (with_reducible assumption) | assumption)
              have hx22 := bt_at a0 t127
              replace p22 := eq_true p22
              replace q22 := eq_true q22
              go_wp2_with (first | (go_at_call 14; (with_reducible refine (spec_textDigit.calls (bt a0 t127) true _ A23.out).mono ?_); rintro e w' ⟨rfl, ⟨nd, rfl⟩⟩; (try first | exact ⟨rfl, _, World.drewN_drewN _ _ _⟩ | exact ⟨rfl, _, Eq.trans (World.drewN_drewN _ _ _) (congrArg (World.drewN _) (Nat.add_assoc _ _ _))⟩)))
              repeat (go_quiet (first | (go_at_call 14; (with_reducible refine (spec_textDigit.calls (bt a0 t127) true _ A23.out).mono ?_); rintro e w' ⟨rfl, ⟨nd, rfl⟩⟩; (try first | exact ⟨rfl, _, World.drewN_drewN _ _ _⟩ | exact ⟨rfl, _, Eq.trans (World.drewN_drewN _ _ _) (congrArg (World.drewN _) (Nat.add_assoc _ _ _))⟩))); try go_wp2_with (first | (go_at_call 14; (with_reducible refine (spec_textDigit.calls (bt a0 t127) true _ A23.out).mono ?_); rintro e w' ⟨rfl, ⟨nd, rfl⟩⟩; (try first | exact ⟨rfl, _, World.drewN_drewN _ _ _⟩ | exact ⟨rfl, _, Eq.trans (World.drewN_drewN _ _ _) (congrArg (World.drewN _) (Nat.add_assoc _ _ _))⟩))))
              go_meet
              case rel => exact ⟨_, (true), (by first | rfl | (simp; done) | (simp [*]; done)), H', ⟨by have := HK1.out; have := HJ10.out; first | omega | exact Nat.le_refl _⟩, ⟨by repeat (first | (with_reducible first | exact HB.out | apply below_alloc | apply pw_below_drewN | apply below_drew1) | exact HB.out)⟩⟩
             ·replace c24 := Bool.eq_false_iff.mpr c24
              subst c24
              have H1 : (if (bt a0 t127) = 46 then (spec_token.j2 kj10 a0 t127 true) else (if (bt a0 t127) = 43 then (spec_token.j2 kj10 a0 t127 true) else (if (bt a0 t127) = 45 then (spec_token.j2 kj10 a0 t127 true) else (spec_token.j2 kj10 a0 t127 (decide ((bt a0 t127) ≥ 128)))))) = some (r1, r2, r3) := by rw [if_neg (show ¬ (false = true) by decide)] at H; exact H
              clear H
              have H := H1
              clear H1
              by_cases c26 : (bt a0 t127) = 46
              ·rw [if_pos c26] at H
               have c26b0 : ((bt a0 t127) == 46) = true := beq_iff_eq.mpr c26
               have c26b1 : ((bt a0 t127) != 46) = false := bne_eq_false_iff_eq.mpr c26
               clear c26
               have H' := Aside0.mk H
               clear H
               have p22 : 0 ≤ (t127 : Int) := of_decide_eq_true (by first | (with_reducible assumption) | assumption)
               have q22 : t127 < (a0.size : Int) := of_decide_eq_true (by first | (with_reducible assumption) | assumption)
               have hx22 := bt_at a0 t127
               replace p22 := eq_true p22
               replace q22 := eq_true q22
               go_wp2_with (first | (go_at_call 14; (with_reducible refine (spec_textDigit.calls (bt a0 t127) false _ A23.out).mono ?_); rintro e w' ⟨rfl, ⟨nd, rfl⟩⟩; (try first | exact ⟨rfl, _, World.drewN_drewN _ _ _⟩ | exact ⟨rfl, _, Eq.trans (World.drewN_drewN _ _ _) (congrArg (World.drewN _) (Nat.add_assoc _ _ _))⟩); have p25 : 0 ≤ (t127 : Int) := of_decide_eq_true (by first | (with_reducible assumption) | assumption); have q25 : t127 < (a0.size : Int) := of_decide_eq_true (by first | (with_reducible assumption) | assumption); have hx25 := bt_at a0 t127; replace p25 := eq_true p25; replace q25 := eq_true q25))
               repeat (go_quiet (first | (go_at_call 14; (with_reducible refine (spec_textDigit.calls (bt a0 t127) false _ A23.out).mono ?_); rintro e w' ⟨rfl, ⟨nd, rfl⟩⟩; (try first | exact ⟨rfl, _, World.drewN_drewN _ _ _⟩ | exact ⟨rfl, _, Eq.trans (World.drewN_drewN _ _ _) (congrArg (World.drewN _) (Nat.add_assoc _ _ _))⟩); have p25 : 0 ≤ (t127 : Int) := of_decide_eq_true (by first | (with_reducible assumption) | assumption); have q25 : t127 < (a0.size : Int) := of_decide_eq_true (by first | (with_reducible assumption) | assumption); have hx25 := bt_at a0 t127; replace p25 := eq_true p25; replace q25 := eq_true q25)); try go_wp2_with (first | (go_at_call 14; (with_reducible refine (spec_textDigit.calls (bt a0 t127) false _ A23.out).mono ?_); rintro e w' ⟨rfl, ⟨nd, rfl⟩⟩; (try first | exact ⟨rfl, _, World.drewN_drewN _ _ _⟩ | exact ⟨rfl, _, Eq.trans (World.drewN_drewN _ _ _) (congrArg (World.drewN _) (Nat.add_assoc _ _ _))⟩); have p25 : 0 ≤ (t127 : Int) := of_decide_eq_true (by first | (with_reducible assumption) | assumption); have q25 : t127 < (a0.size : Int) := of_decide_eq_true (by first | (with_reducible assumption) | assumption); have hx25 := bt_at a0 t127; replace p25 := eq_true p25; replace q25 := eq_true q25)))
               go_meet
               case rel => exact ⟨_, (true), (by first | rfl | (simp; done) | (simp [*]; done)), H', ⟨by have := HK1.out; have := HJ10.out; first | omega | exact Nat.le_refl _⟩, ⟨by repeat (first | (with_reducible first | exact HB.out | apply below_alloc | apply pw_below_drewN | apply below_drew1) | exact HB.out)⟩⟩
              ·rw [if_neg c26] at H
               have c26b0 : ((bt a0 t127) == 46) = false := beq_eq_false_iff_ne.mpr c26
               have c26b1 : ((bt a0 t127) != 46) = true := bne_iff_ne.mpr c26
               by_cases c28 : (bt a0 t127) = 43
               ·rw [if_pos c28] at H
                have c28b0 : ((bt a0 t127) == 43) = true := beq_iff_eq.mpr c28
                have c28b1 : ((bt a0 t127) != 43) = false := bne_eq_false_iff_eq.mpr c28
                clear c28
                have H' := Aside0.mk H
                clear H
                have p22 : 0 ≤ (t127 : Int) := of_decide_eq_true (by first | (with_reducible assumption) | assumption)
                have q22 : t127 < (a0.size : Int) := of_decide_eq_true (by first | (with_reducible assumption) | assumption)
                have hx22 := bt_at a0 t127
                replace p22 := eq_true p22
                replace q22 := eq_true q22
                go_wp2_with (first | (go_at_call 14; (with_reducible refine (spec_textDigit.calls (bt a0 t127) false _ A23.out).mono ?_); rintro e w' ⟨rfl, ⟨nd, rfl⟩⟩; (try first | exact ⟨rfl, _, World.drewN_drewN _ _ _⟩ | exact ⟨rfl, _, Eq.trans (World.drewN_drewN _ _ _) (congrArg (World.drewN _) (Nat.add_assoc _ _ _))⟩); have p25 : 0 ≤ (t127 : Int) := of_decide_eq_true (by first | (with_reducible assumption) | assumption); have q25 : t127 < (a0.size : Int) := of_decide_eq_true (by first | (with_reducible assumption) | assumption); have hx25 := bt_at a0 t127; replace p25 := eq_true p25; replace q25 := eq_true q25; have p27 : 0 ≤ (t127 : Int) := of_decide_eq_true (by first | (with_reducible assumption) | assumption); have q27 : t127 < (a0.size : Int) := of_decide_eq_true (by first | (with_reducible assumption) | assumption); have hx27 := bt_at a0 t127; replace p27 := eq_true p27; replace q27 := eq_true q27))
                repeat (go_quiet (first | (go_at_call 14; (with_reducible refine (spec_textDigit.calls (bt a0 t127) false _ A23.out).mono ?_); rintro e w' ⟨rfl, ⟨nd, rfl⟩⟩; (try first | exact ⟨rfl, _, World.drewN_drewN _ _ _⟩ | exact ⟨rfl, _, Eq.trans (World.drewN_drewN _ _ _) (congrArg (World.drewN _) (Nat.add_assoc _ _ _))⟩); have p25 : 0 ≤ (t127 : Int) := of_decide_eq_true (by first | (with_reducible assumption) | assumption); have q25 : t127 < (a0.size : Int) := of_decide_eq_true (by first | (with_reducible assumption) | assumption); have hx25 := bt_at a0 t127; replace p25 := eq_true p25; replace q25 := eq_true q25; have p27 : 0 ≤ (t127 : Int) := of_decide_eq_true (by first | (with_reducible assumption) | assumption); have q27 : t127 < (a0.size : Int) := of_decide_eq_true (by first | (with_reducible assumption) | assumption); have hx27 := bt_at a0 t127; replace p27 := eq_true p27; replace q27 := eq_true q27)); try go_wp2_with (first | (go_at_call 14; (with_reducible refine (spec_textDigit.calls (bt a0 t127) false _ A23.out).mono ?_); rintro e w' ⟨rfl, ⟨nd, rfl⟩⟩; (try first | exact ⟨rfl, _, World.drewN_drewN _ _ _⟩ | exact ⟨rfl, _, Eq.trans (World.drewN_drewN _ _ _) (congrArg (World.drewN _) (Nat.add_assoc _ _ _))⟩); have p25 : 0 ≤ (t127 : Int) := of_decide_eq_true (by first | (with_reducible assumption) | assumption); have q25 : t127 < (a0.size : Int) := of_decide_eq_true (by first | (with_reducible assumption) | assumption); have hx25 := bt_at a0 t127; replace p25 := eq_true p25; replace q25 := eq_true q25; have p27 : 0 ≤ (t127 : Int) := of_decide_eq_true (by first | (with_reducible assumption) | assumption); have q27 : t127 < (a0.size : Int) := of_decide_eq_true (by first | (with_reducible assumption) | assumption); have hx27 := bt_at a0 t127; replace p27 := eq_true p27; replace q27 := eq_true q27)))
                go_meet
                case rel => exact ⟨_, (true), (by first | rfl | (simp; done) | (simp [*]; done)), H', ⟨by have := HK1.out; have := HJ10.out; first | omega | exact Nat.le_refl _⟩, ⟨by repeat (first | (with_reducible first | exact HB.out | apply below_alloc | apply pw_below_drewN | apply below_drew1) | exact HB.out)⟩⟩
               ·rw [if_neg c28] at H
                have c28b0 : ((bt a0 t127) == 43) = false := beq_eq_false_iff_ne.mpr c28
                have c28b1 : ((bt a0 t127) != 43) = true := bne_iff_ne.mpr c28
                by_cases c30 : (bt a0 t127) = 45
                ·rw [if_pos c30] at H
                 have c30b0 : ((bt a0 t127) == 45) = true := beq_iff_eq.mpr c30
                 have c30b1 : ((bt a0 t127) != 45) = false := bne_eq_false_iff_eq.mpr c30
                 clear c30
                 have H' := Aside0.mk H
                 clear H
                 have p22 : 0 ≤ (t127 : Int) := of_decide_eq_true (by first | (with_reducible assumption) | assumption)
                 have q22 : t127 < (a0.size : Int) := of_decide_eq_true (by first | (with_reducible assumption) | assumption)
                 have hx22 := bt_at a0 t127
                 replace p22 := eq_true p22
                 replace q22 := eq_true q22
                 go_wp2_with (first | (go_at_call 14; (with_reducible refine (spec_textDigit.calls (bt a0 t127) false _ A23.out).mono ?_); rintro e w' ⟨rfl, ⟨nd, rfl⟩⟩; (try first | exact ⟨rfl, _, World.drewN_drewN _ _ _⟩ | exact ⟨rfl, _, Eq.trans (World.drewN_drewN _ _ _) (congrArg (World.drewN _) (Nat.add_assoc _ _ _))⟩); have p25 : 0 ≤ (t127 : Int) := of_decide_eq_true (by first | (with_reducible assumption) | assumption); have q25 : t127 < (a0.size : Int) := of_decide_eq_true (by first | (with_reducible assumption) | assumption); have hx25 := bt_at a0 t127; replace p25 := eq_true p25; replace q25 := eq_true q25; have p27 : 0 ≤ (t127 : Int) := of_decide_eq_true (by first | (with_reducible assumption) | assumption); have q27 : t127 < (a0.size : Int) := of_decide_eq_true (by first | (with_reducible assumption) | assumption); have hx27 := bt_at a0 t127; replace p27 := eq_true p27; replace q27 := eq_true q27; have p29 : 0 ≤ (t127 : Int) := of_decide_eq_true (by first | (with_reducible assumption) | assumption); have q29 : t127 < (a0.size : Int) := of_decide_eq_true (by first | (with_reducible assumption) | assumption); have hx29 := bt_at a0 t127; replace p29 := eq_true p29; replace q29 := eq_true q29))
                 repeat (go_quiet (first | (go_at_call 14; (with_reducible refine (spec_textDigit.calls (bt a0 t127) false _ A23.out).mono ?_); rintro e w' ⟨rfl, ⟨nd, rfl⟩⟩; (try first | exact ⟨rfl, _, World.drewN_drewN _ _ _⟩ | exact ⟨rfl, _, Eq.trans (World.drewN_drewN _ _ _) (congrArg (World.drewN _) (Nat.add_assoc _ _ _))⟩); have p25 : 0 ≤ (t127 : Int) := of_decide_eq_true (by first | (with_reducible assumption) | assumption); have q25 : t127 < (a0.size : Int) := of_decide_eq_true (by first | (with_reducible assumption) | assumption); have hx25 := bt_at a0 t127; replace p25 := eq_true p25; replace q25 := eq_true q25; have p27 : 0 ≤ (t127 : Int) := of_decide_eq_true (by first | (with_reducible assumption) | assumption); have q27 : t127 < (a0.size : Int) := of_decide_eq_true (by first | (with_reducible assumption) | assumption); have hx27 := bt_at a0 t127; replace p27 := eq_true p27; replace q27 := eq_true q27; have p29 : 0 ≤ (t127 : Int) := of_decide_eq_true (by first | (with_reducible assumption) | assumption); have q29 : t127 < (a0.size : Int) := of_decide_eq_true (by first | (with_reducible assumption) | assumption); have hx29 := bt_at a0 t127; replace p29 := eq_true p29; replace q29 := eq_true q29)); try go_wp2_with (first | (go_at_call 14; (with_reducible refine (spec_textDigit.calls (bt a0 t127) false _ A23.out).mono ?_); rintro e w' ⟨rfl, ⟨nd, rfl⟩⟩; (try first | exact ⟨rfl, _, World.drewN_drewN _ _ _⟩ | exact ⟨rfl, _, Eq.trans (World.drewN_drewN _ _ _) (congrArg (World.drewN _) (Nat.add_assoc _ _ _))⟩); have p25 : 0 ≤ (t127 : Int) := of_decide_eq_true (by first | (with_reducible assumption) | assumption); have q25 : t127 < (a0.size : Int) := of_decide_eq_true (by first | (with_reducible assumption) | assumption); have hx25 := bt_at a0 t127; replace p25 := eq_true p25; replace q25 := eq_true q25; have p27 : 0 ≤ (t127 : Int) := of_decide_eq_true (by first | (with_reducible assumption) | assumption); have q27 : t127 < (a0.size : Int) := of_decide_eq_true (by first | (with_reducible assumption) | assumption); have hx27 := bt_at a0 t127; replace p27 := eq_true p27; replace q27 := eq_true q27; have p29 : 0 ≤ (t127 : Int) := of_decide_eq_true (by first | (with_reducible assumption) | assumption); have q29 : t127 < (a0.size : Int) := of_decide_eq_true (by first | (with_reducible assumption) | assumption); have hx29 := bt_at a0 t127; replace p29 := eq_true p29; replace q29 := eq_true q29)))
                 go_meet
                 case rel => exact ⟨_, (true), (by first | rfl | (simp; done) | (simp [*]; done)), H', ⟨by have := HK1.out; have := HJ10.out; first | omega | exact Nat.le_refl _⟩, ⟨by repeat (first | (with_reducible first | exact HB.out | apply below_alloc | apply pw_below_drewN | apply below_drew1) | exact HB.out)⟩⟩
                ·rw [if_neg c30] at H
                 have c30b0 : ((bt a0 t127) == 45) = false := beq_eq_false_iff_ne.mpr c30
                 have c30b1 : ((bt a0 t127) != 45) = true := bne_iff_ne.mpr c30
                 have H' := Aside0.mk H
                 clear H
                 have p22 : 0 ≤ (t127 : Int) := of_decide_eq_true (by first | (with_reducible assumption) | assumption)
                 have q22 : t127 < (a0.size : Int) := of_decide_eq_true (by first | (with_reducible assumption) | assumption)
                 have hx22 := bt_at a0 t127
                 replace p22 := eq_true p22
                 replace q22 := eq_true q22
                 go_wp2_with (first | (go_at_call 14; (with_reducible refine (spec_textDigit.calls (bt a0 t127) false _ A23.out).mono ?_); rintro e w' ⟨rfl, ⟨nd, rfl⟩⟩; (try first | exact ⟨rfl, _, World.drewN_drewN _ _ _⟩ | exact ⟨rfl, _, Eq.trans (World.drewN_drewN _ _ _) (congrArg (World.drewN _) (Nat.add_assoc _ _ _))⟩); have p25 : 0 ≤ (t127 : Int) := of_decide_eq_true (by first | (with_reducible assumption) | assumption); have q25 : t127 < (a0.size : Int) := of_decide_eq_true (by first | (with_reducible assumption) | assumption); have hx25 := bt_at a0 t127; replace p25 := eq_true p25; replace q25 := eq_true q25; have p27 : 0 ≤ (t127 : Int) := of_decide_eq_true (by first | (with_reducible assumption) | assumption); have q27 : t127 < (a0.size : Int) := of_decide_eq_true (by first | (with_reducible assumption) | assumption); have hx27 := bt_at a0 t127; replace p27 := eq_true p27; replace q27 := eq_true q27; have p29 : 0 ≤ (t127 : Int) := of_decide_eq_true (by first | (with_reducible assumption) | assumption); have q29 : t127 < (a0.size : Int) := of_decide_eq_true (by first | (with_reducible assumption) | assumption); have hx29 := bt_at a0 t127; replace p29 := eq_true p29; replace q29 := eq_true q29; have p31 : 0 ≤ (t127 : Int) := of_decide_eq_true (by first | (with_reducible assumption) | assumption); have q31 : t127 < (a0.size : Int) := of_decide_eq_true (by first | (with_reducible assumption) | assumption); have hx31 := bt_at a0 t127; replace p31 := eq_true p31; replace q31 := eq_true q31))
                 repeat (go_quiet (first | (go_at_call 14; (with_reducible refine (spec_textDigit.calls (bt a0 t127) false _ A23.out).mono ?_); rintro e w' ⟨rfl, ⟨nd, rfl⟩⟩; (try first | exact ⟨rfl, _, World.drewN_drewN _ _ _⟩ | exact ⟨rfl, _, Eq.trans (World.drewN_drewN _ _ _) (congrArg (World.drewN _) (Nat.add_assoc _ _ _))⟩); have p25 : 0 ≤ (t127 : Int) := of_decide_eq_true (by first | (with_reducible assumption) | assumption); have q25 : t127 < (a0.size : Int) := of_decide_eq_true (by first | (with_reducible assumption) | assumption); have hx25 := bt_at a0 t127; replace p25 := eq_true p25; replace q25 := eq_true q25; have p27 : 0 ≤ (t127 : Int) := of_decide_eq_true (by first | (with_reducible assumption) | assumption); have q27 : t127 < (a0.size : Int) := of_decide_eq_true (by first | (with_reducible assumption) | assumption); have hx27 := bt_at a0 t127; replace p27 := eq_true p27; replace q27 := eq_true q27; have p29 : 0 ≤ (t127 : Int) := of_decide_eq_true (by first | (with_reducible assumption) | assumption); have q29 : t127 < (a0.size : Int) := of_decide_eq_true (by first | (with_reducible assumption) | assumption); have hx29 := bt_at a0 t127; replace p29 := eq_true p29; replace q29 := eq_true q29; have p31 : 0 ≤ (t127 : Int) := of_decide_eq_true (by first | (with_reducible assumption) | assumption); have q31 : t127 < (a0.size : Int) := of_decide_eq_true (by first | (with_reducible assumption) | assumption); have hx31 := bt_at a0 t127; replace p31 := eq_true p31; replace q31 := eq_true q31)); try go_wp2_with (first | (go_at_call 14; (with_reducible refine (spec_textDigit.calls (bt a0 t127) false _ A23.out).mono ?_); rintro e w' ⟨rfl, ⟨nd, rfl⟩⟩; (try first | exact ⟨rfl, _, World.drewN_drewN _ _ _⟩ | exact ⟨rfl, _, Eq.trans (World.drewN_drewN _ _ _) (congrArg (World.drewN _) (Nat.add_assoc _ _ _))⟩); have p25 : 0 ≤ (t127 : Int) := of_decide_eq_true (by first | (with_reducible assumption) | assumption); have q25 : t127 < (a0.size : Int) := of_decide_eq_true (by first | (with_reducible assumption) | assumption); have hx25 := bt_at a0 t127; replace p25 := eq_true p25; replace q25 := eq_true q25; have p27 : 0 ≤ (t127 : Int) := of_decide_eq_true (by first | (with_reducible assumption) | assumption); have q27 : t127 < (a0.size : Int) := of_decide_eq_true (by first | (with_reducible assumption) | assumption); have hx27 := bt_at a0 t127; replace p27 := eq_true p27; replace q27 := eq_true q27; have p29 : 0 ≤ (t127 : Int) := of_decide_eq_true (by first | (with_reducible assumption) | assumption); have q29 : t127 < (a0.size : Int) := of_decide_eq_true (by first | (with_reducible assumption) | assumption); have hx29 := bt_at a0 t127; replace p29 := eq_true p29; replace q29 := eq_true q29; have p31 : 0 ≤ (t127 : Int) := of_decide_eq_true (by first | (with_reducible assumption) | assumption); have q31 : t127 < (a0.size : Int) := of_decide_eq_true (by first | (with_reducible assumption) | assumption); have hx31 := bt_at a0 t127; replace p31 := eq_true p31; replace q31 := eq_true q31)))
                 go_meet
                 case rel => exact ⟨_, (decide ((bt a0 t127) ≥ 128)), (by first | rfl | (simp; done) | (simp [*]; done)), H', ⟨by have := HK1.out; have := HJ10.out; first | omega | exact Nat.le_refl _⟩, ⟨by repeat (first | (with_reducible first | exact HB.out | apply below_alloc | apply pw_below_drewN | apply below_drew1) | exact HB.out)⟩⟩
            ·rw [if_neg c21] at H
             exact absurd H (by simp)
           ·rw [if_neg c20] at H
            have c20b0 : decide (t127 < (a0.size : Int)) = false := decide_eq_false c20
            clear c20
            (first | rw [c20b0] | (simp only [i64_w, i32_w]; rw [c20b0]) | skip)
            have H' := Aside0.mk H
            clear H
            go_wp2
            repeat (go_quiet (fail); try go_wp2)
            go_meet
            case rel => exact ⟨_, (false), (by first | rfl | (simp; done) | (simp [*]; done)), H', ⟨by have := HK1.out; have := HJ10.out; first | omega | exact Nat.le_refl _⟩, ⟨by repeat (first | (with_reducible first | exact HB.out | apply below_alloc | apply pw_below_drewN | apply below_drew1) | exact HB.out)⟩⟩
          ·replace c19 := Bool.eq_false_iff.mpr c19
           subst c19
           have H1 : (spec_token.j2 kj10 a0 t127 true) = some (r1, r2, r3) := by rw [if_neg (show ¬ (false = true) by decide)] at H; exact H
           clear H
           have H := H1
           clear H1
           have H' := Aside0.mk H
           clear H
           go_wp2
           repeat (go_quiet (fail); try go_wp2)
           go_meet
           case rel => exact ⟨_, (true), (by first | rfl | (simp; done) | (simp [*]; done)), H', ⟨by have := HK1.out; have := HJ10.out; first | omega | exact Nat.le_refl _⟩, ⟨by repeat (first | (with_reducible first | exact HB.out | apply below_alloc | apply pw_below_drewN | apply below_drew1) | exact HB.out)⟩⟩
         case rest => as_aux_lemma =>
          clear HC17
          try clear c1
          try clear c2
          try clear c2b0
          try clear p2
          try clear q2
          try clear hx2
          try clear c3
          try clear c3b0
          try clear c3b1
          try clear p3
          try clear q3
          try clear hx3
          try clear p4
          try clear q4
          try clear hx4
          try clear qi4
          try clear c5
          try clear c5b0
          try clear p6
          try clear q6
          try clear hx6
          try clear c7
          try clear c7b0
          try clear c7b1
          try clear c8
          try clear c8b0
          try clear c8b1
          try clear p9
          try clear q9
          try clear hx9
          try clear qi9
          try clear c11
          try clear c12
          try clear c12b0
          try clear c12b1
          try clear c13
          try clear c13b0
          try clear c13b1
          try clear c15
          try clear c19
          try clear c20
          try clear c20b0
          try clear c21
          try clear c21b0
          try clear p22
          try clear q22
          try clear hx22
          try clear c24
          try clear p25
          try clear q25
          try clear hx25
          try clear c26
          try clear c26b0
          try clear c26b1
          try clear p27
          try clear q27
          try clear hx27
          try clear c28
          try clear c28b0
          try clear c28b1
          try clear p29
          try clear q29
          try clear hx29
          try clear c30
          try clear c30b0
          try clear c30b1
          try clear p31
          try clear q31
          try clear hx31
          try clear p2
          try clear p22
          try clear p25
          try clear p27
          try clear p29
          try clear p31
          try clear p4
          try clear p6
          try clear p9
          try clear q22
          try clear q25
          try clear q27
          try clear q29
          try clear q31
          try clear q4
          try clear q6
          try clear q9
          obtain ⟨kq, x78_16, rfl, HA, HJ16, HB⟩ := hcut
          cases kq with
          | zero => exact absurd HA.out (by simp [spec_token.j2])
          | succ kj16 =>
           have H := HA.out
           clear HA
           simp only [spec_token.j2] at H
           by_cases c32 : x78_16 = true
           ·subst c32
            have H1 : (some (0, 0, false)) = some (r1, r2, r3) := by rw [if_pos rfl] at H; exact H
            clear H
            have H := H1
            clear H1
            simp only [Option.some.injEq, Prod.mk.injEq] at H
            obtain ⟨rfl, rfl, rfl⟩ := H
            go_wp2
            repeat (go_quiet (fail); try go_wp2)
            go_ret3
            exact ⟨by first | rfl | (simp [errW_none, errW_some] <;> rfl) | (simp [*, errW_none, errW_some] <;> rfl) | (simp (disch := omega) only [wrap64_id] <;> rfl), by repeat (first | (with_reducible first | exact HB.out | apply below_alloc | apply pw_below_drewN | apply below_drew1) | exact HB.out)⟩
           ·replace c32 := Bool.eq_false_iff.mpr c32
            subst c32
            have H1 : (if t127 < (a0.size : Int) then (if 0 ≤ t127 then ((spec_textLetter.f (bt a0 t127)).bind fun t130 => (if t130 = true then (some (0, 1, ((bt a0 t127) != 95))) else (if (bt a0 t127) = 95 then (some (0, 1, ((bt a0 t127) != 95))) else (some (t127, 2, true))))) else (none)) else (some (t127, 2, true))) = some (r1, r2, r3) := by rw [if_neg (show ¬ (false = true) by decide)] at H; exact H
            clear H
            have H := H1
            clear H1
            by_cases c33 : t127 < (a0.size : Int)
            ·rw [if_pos c33] at H
             have c33b0 : decide (t127 < (a0.size : Int)) = true := decide_eq_true c33
             clear c33
             by_cases c34 : 0 ≤ t127
             ·rw [if_pos c34] at H
              have c34b0 : decide (0 ≤ t127) = true := decide_eq_true c34
              clear c34
              replace H := Option.bind_eq_some_iff.mp H
              obtain ⟨t130, A360, H⟩ := H
              replace H : (if t130 = true then (some (0, 1, ((bt a0 t127) != 95))) else (if (bt a0 t127) = 95 then (some (0, 1, ((bt a0 t127) != 95))) else (some (t127, 2, true)))) = some (r1, r2, r3) := H
              have A36 := Aside0.mk A360
              clear A360
              by_cases c37 : t130 = true
              ·subst c37
               have H1 : (some (0, 1, ((bt a0 t127) != 95))) = some (r1, r2, r3) := by rw [if_pos rfl] at H; exact H
               clear H
               have H := H1
               clear H1
               simp only [Option.some.injEq, Prod.mk.injEq] at H
               obtain ⟨rfl, rfl, rfl⟩ := H
               have p35 : 0 ≤ (t127 : Int) := of_decide_eq_true (by first | (with_reducible assumption) | assumption)
               have q35 : t127 < (a0.size : Int) := of_decide_eq_true (by first | (with_reducible assumption) | assumption)
               have hx35 := bt_at a0 t127
               replace p35 := eq_true p35
               replace q35 := eq_true q35
               go_wp2_with (first | (go_at_call 16; (with_reducible refine (spec_textLetter.calls (bt a0 t127) true _ A36.out).mono ?_); rintro e w' ⟨rfl, ⟨nd, rfl⟩⟩; (try first | exact ⟨rfl, _, World.drewN_drewN _ _ _⟩ | exact ⟨rfl, _, Eq.trans (World.drewN_drewN _ _ _) (congrArg (World.drewN _) (Nat.add_assoc _ _ _))⟩); have p38 : 0 ≤ (t127 : Int) := of_decide_eq_true (by first | (with_reducible assumption) | assumption); have q38 : t127 < (a0.size : Int) := of_decide_eq_true (by first | (with_reducible assumption) | assumption); have hx38 := bt_at a0 t127; replace p38 := eq_true p38; replace q38 := eq_true q38))
               repeat (go_quiet (first | (go_at_call 16; (with_reducible refine (spec_textLetter.calls (bt a0 t127) true _ A36.out).mono ?_); rintro e w' ⟨rfl, ⟨nd, rfl⟩⟩; (try first | exact ⟨rfl, _, World.drewN_drewN _ _ _⟩ | exact ⟨rfl, _, Eq.trans (World.drewN_drewN _ _ _) (congrArg (World.drewN _) (Nat.add_assoc _ _ _))⟩); have p38 : 0 ≤ (t127 : Int) := of_decide_eq_true (by first | (with_reducible assumption) | assumption); have q38 : t127 < (a0.size : Int) := of_decide_eq_true (by first | (with_reducible assumption) | assumption); have hx38 := bt_at a0 t127; replace p38 := eq_true p38; replace q38 := eq_true q38)); try go_wp2_with (first | (go_at_call 16; (with_reducible refine (spec_textLetter.calls (bt a0 t127) true _ A36.out).mono ?_); rintro e w' ⟨rfl, ⟨nd, rfl⟩⟩; (try first | exact ⟨rfl, _, World.drewN_drewN _ _ _⟩ | exact ⟨rfl, _, Eq.trans (World.drewN_drewN _ _ _) (congrArg (World.drewN _) (Nat.add_assoc _ _ _))⟩); have p38 : 0 ≤ (t127 : Int) := of_decide_eq_true (by first | (with_reducible assumption) | assumption); have q38 : t127 < (a0.size : Int) := of_decide_eq_true (by first | (with_reducible assumption) | assumption); have hx38 := bt_at a0 t127; replace p38 := eq_true p38; replace q38 := eq_true q38)))
               go_ret3
               exact ⟨by first | rfl | (simp [errW_none, errW_some] <;> rfl) | (simp [*, errW_none, errW_some] <;> rfl) | (simp (disch := omega) only [wrap64_id] <;> rfl), by repeat (first | (with_reducible first | exact HB.out | apply below_alloc | apply pw_below_drewN | apply below_drew1) | exact HB.out)⟩
              ·replace c37 := Bool.eq_false_iff.mpr c37
               subst c37
               have H1 : (if (bt a0 t127) = 95 then (some (0, 1, ((bt a0 t127) != 95))) else (some (t127, 2, true))) = some (r1, r2, r3) := by rw [if_neg (show ¬ (false = true) by decide)] at H; exact H
               clear H
               have H := H1
               clear H1
               by_cases c40 : (bt a0 t127) = 95
               ·rw [if_pos c40] at H
                have c40b0 : ((bt a0 t127) == 95) = true := beq_iff_eq.mpr c40
                have c40b1 : ((bt a0 t127) != 95) = false := bne_eq_false_iff_eq.mpr c40
                clear c40
                simp only [Option.some.injEq, Prod.mk.injEq] at H
                obtain ⟨rfl, rfl, rfl⟩ := H
                have p35 : 0 ≤ (t127 : Int) := of_decide_eq_true (by first | (with_reducible assumption) | assumption)
                have q35 : t127 < (a0.size : Int) := of_decide_eq_true (by first | (with_reducible assumption) | assumption)
                have hx35 := bt_at a0 t127
                replace p35 := eq_true p35
                replace q35 := eq_true q35
                go_wp2_with (first | (go_at_call 16; (with_reducible refine (spec_textLetter.calls (bt a0 t127) false _ A36.out).mono ?_); rintro e w' ⟨rfl, ⟨nd, rfl⟩⟩; (try first | exact ⟨rfl, _, World.drewN_drewN _ _ _⟩ | exact ⟨rfl, _, Eq.trans (World.drewN_drewN _ _ _) (congrArg (World.drewN _) (Nat.add_assoc _ _ _))⟩); have p39 : 0 ≤ (t127 : Int) := of_decide_eq_true (by first | (with_reducible assumption) | assumption); have q39 : t127 < (a0.size : Int) := of_decide_eq_true (by first | (with_reducible assumption) | assumption); have hx39 := bt_at a0 t127; replace p39 := eq_true p39; replace q39 := eq_true q39; have p41 : 0 ≤ (t127 : Int) := of_decide_eq_true (by first | (with_reducible assumption) | assumption); have q41 : t127 < (a0.size : Int) := of_decide_eq_true (by first | (with_reducible assumption) | assumption); have hx41 := bt_at a0 t127; replace p41 := eq_true p41; replace q41 := eq_true q41))
                repeat (go_quiet (first | (go_at_call 16; (with_reducible refine (spec_textLetter.calls (bt a0 t127) false _ A36.out).mono ?_); rintro e w' ⟨rfl, ⟨nd, rfl⟩⟩; (try first | exact ⟨rfl, _, World.drewN_drewN _ _ _⟩ | exact ⟨rfl, _, Eq.trans (World.drewN_drewN _ _ _) (congrArg (World.drewN _) (Nat.add_assoc _ _ _))⟩); have p39 : 0 ≤ (t127 : Int) := of_decide_eq_true (by first | (with_reducible assumption) | assumption); have q39 : t127 < (a0.size : Int) := of_decide_eq_true (by first | (with_reducible assumption) | assumption); have hx39 := bt_at a0 t127; replace p39 := eq_true p39; replace q39 := eq_true q39; have p41 : 0 ≤ (t127 : Int) := of_decide_eq_true (by first | (with_reducible assumption) | assumption); have q41 : t127 < (a0.size : Int) := of_decide_eq_true (by first | (with_reducible assumption) | assumption); have hx41 := bt_at a0 t127; replace p41 := eq_true p41; replace q41 := eq_true q41)); try go_wp2_with (first | (go_at_call 16; (with_reducible refine (spec_textLetter.calls (bt a0 t127) false _ A36.out).mono ?_); rintro e w' ⟨rfl, ⟨nd, rfl⟩⟩; (try first | exact ⟨rfl, _, World.drewN_drewN _ _ _⟩ | exact ⟨rfl, _, Eq.trans (World.drewN_drewN _ _ _) (congrArg (World.drewN _) (Nat.add_assoc _ _ _))⟩); have p39 : 0 ≤ (t127 : Int) := of_decide_eq_true (by first | (with_reducible assumption) | assumption); have q39 : t127 < (a0.size : Int) := of_decide_eq_true (by first | (with_reducible assumption) | assumption); have hx39 := bt_at a0 t127; replace p39 := eq_true p39; replace q39 := eq_true q39; have p41 : 0 ≤ (t127 : Int) := of_decide_eq_true (by first | (with_reducible assumption) | assumption); have q41 : t127 < (a0.size : Int) := of_decide_eq_true (by first | (with_reducible assumption) | assumption); have hx41 := bt_at a0 t127; replace p41 := eq_true p41; replace q41 := eq_true q41)))
                go_ret3
                exact ⟨by first | rfl | (simp [errW_none, errW_some] <;> rfl) | (simp [*, errW_none, errW_some] <;> rfl) | (simp (disch := omega) only [wrap64_id] <;> rfl), by repeat (first | (with_reducible first | exact HB.out | apply below_alloc | apply pw_below_drewN | apply below_drew1) | exact HB.out)⟩
               ·rw [if_neg c40] at H
                have c40b0 : ((bt a0 t127) == 95) = false := beq_eq_false_iff_ne.mpr c40
                have c40b1 : ((bt a0 t127) != 95) = true := bne_iff_ne.mpr c40
                simp only [Option.some.injEq, Prod.mk.injEq] at H
                obtain ⟨rfl, rfl, rfl⟩ := H
                have p35 : 0 ≤ (t127 : Int) := of_decide_eq_true (by first | (with_reducible assumption) | assumption)
                have q35 : t127 < (a0.size : Int) := of_decide_eq_true (by first | (with_reducible assumption) | assumption)
                have hx35 := bt_at a0 t127
                replace p35 := eq_true p35
                replace q35 := eq_true q35
                go_wp2_with (first | (go_at_call 16; (with_reducible refine (spec_textLetter.calls (bt a0 t127) false _ A36.out).mono ?_); rintro e w' ⟨rfl, ⟨nd, rfl⟩⟩; (try first | exact ⟨rfl, _, World.drewN_drewN _ _ _⟩ | exact ⟨rfl, _, Eq.trans (World.drewN_drewN _ _ _) (congrArg (World.drewN _) (Nat.add_assoc _ _ _))⟩); have p39 : 0 ≤ (t127 : Int) := of_decide_eq_true (by first | (with_reducible assumption) | assumption); have q39 : t127 < (a0.size : Int) := of_decide_eq_true (by first | (with_reducible assumption) | assumption); have hx39 := bt_at a0 t127; replace p39 := eq_true p39; replace q39 := eq_true q39))
                repeat (go_quiet (first | (go_at_call 16; (with_reducible refine (spec_textLetter.calls (bt a0 t127) false _ A36.out).mono ?_); rintro e w' ⟨rfl, ⟨nd, rfl⟩⟩; (try first | exact ⟨rfl, _, World.drewN_drewN _ _ _⟩ | exact ⟨rfl, _, Eq.trans (World.drewN_drewN _ _ _) (congrArg (World.drewN _) (Nat.add_assoc _ _ _))⟩); have p39 : 0 ≤ (t127 : Int) := of_decide_eq_true (by first | (with_reducible assumption) | assumption); have q39 : t127 < (a0.size : Int) := of_decide_eq_true (by first | (with_reducible assumption) | assumption); have hx39 := bt_at a0 t127; replace p39 := eq_true p39; replace q39 := eq_true q39)); try go_wp2_with (first | (go_at_call 16; (with_reducible refine (spec_textLetter.calls (bt a0 t127) false _ A36.out).mono ?_); rintro e w' ⟨rfl, ⟨nd, rfl⟩⟩; (try first | exact ⟨rfl, _, World.drewN_drewN _ _ _⟩ | exact ⟨rfl, _, Eq.trans (World.drewN_drewN _ _ _) (congrArg (World.drewN _) (Nat.add_assoc _ _ _))⟩); have p39 : 0 ≤ (t127 : Int) := of_decide_eq_true (by first | (with_reducible assumption) | assumption); have q39 : t127 < (a0.size : Int) := of_decide_eq_true (by first | (with_reducible assumption) | assumption); have hx39 := bt_at a0 t127; replace p39 := eq_true p39; replace q39 := eq_true q39)))
                go_ret3
                exact ⟨by first | rfl | (simp [errW_none, errW_some] <;> rfl) | (simp [*, errW_none, errW_some] <;> rfl) | (simp (disch := omega) only [wrap64_id] <;> rfl), by repeat (first | (with_reducible first | exact HB.out | apply below_alloc | apply pw_below_drewN | apply below_drew1) | exact HB.out)⟩
             ·rw [if_neg c34] at H
              exact absurd H (by simp)
            ·rw [if_neg c33] at H
             have c33b0 : decide (t127 < (a0.size : Int)) = false := decide_eq_false c33
             clear c33
             simp only [Option.some.injEq, Prod.mk.injEq] at H
             obtain ⟨rfl, rfl, rfl⟩ := H
             go_wp2
             repeat (go_quiet (fail); try go_wp2)
             go_ret3
             exact ⟨by first | rfl | (simp [errW_none, errW_some] <;> rfl) | (simp [*, errW_none, errW_some] <;> rfl) | (simp (disch := omega) only [wrap64_id] <;> rfl), by repeat (first | (with_reducible first | exact HB.out | apply below_alloc | apply pw_below_drewN | apply below_drew1) | exact HB.out)⟩
        ·replace c15 := Bool.eq_false_iff.mpr c15
         subst c15
         have H1 : (if (bt a0 0) = 34 then (spec_token.j3 kj10 a0 (bt a0 0) true) else (spec_token.j3 kj10 a0 (bt a0 0) ((bt a0 0) == 39))) = some (r1, r2, r3) := by rw [if_neg (show ¬ (false = true) by decide)] at H; exact H
         clear H
         have H := H1
         clear H1
         have HC42 := Aside0.mk H
         clear H
         go_upto_region 14 with (fail)
         repeat (go_quiet (fail); go_upto_region 14 with (fail))
         go_cut [100] (fun v100 wc => ∃ (kq : Nat) (x100_41 : Bool), v100 = .bool x100_41 ∧ Aside0 (spec_token.j3 kq a0 (bt a0 0) x100_41 = some (r1, r2, r3)) ∧ Aside0 (kq ≤ kj10) ∧ Aside0 (Below w.heap.size w wc))
         case first => as_aux_lemma =>
          have H := HC42.out
          clear HC42
          by_cases c43 : (bt a0 0) = 34
          ·rw [if_pos c43] at H
           have c43b0 : ((bt a0 0) == 34) = true := beq_iff_eq.mpr c43
           have c43b1 : ((bt a0 0) != 34) = false := bne_eq_false_iff_eq.mpr c43
           clear c43
           (first | rw [c43b0] | (simp only [i64_w, i32_w]; rw [c43b0]) | skip)
           have H' := Aside0.mk H
           clear H
           go_wp2
           repeat (go_quiet (fail); try go_wp2)
           go_meet
           case rel => exact ⟨_, (true), (by first | rfl | (simp; done) | (simp [*]; done)), H', ⟨by have := HK1.out; have := HJ10.out; first | omega | exact Nat.le_refl _⟩, ⟨by repeat (first | (with_reducible first | exact HB.out | apply below_alloc | apply pw_below_drewN | apply below_drew1) | exact HB.out)⟩⟩
          ·rw [if_neg c43] at H
           have c43b0 : ((bt a0 0) == 34) = false := beq_eq_false_iff_ne.mpr c43
           have c43b1 : ((bt a0 0) != 34) = true := bne_iff_ne.mpr c43
           (first | rw [c43b0] | (simp only [i64_w, i32_w]; rw [c43b0]) | skip)
           have H' := Aside0.mk H
           clear H
           go_wp2
           repeat (go_quiet (fail); try go_wp2)
           go_meet
           case rel => exact ⟨_, (((bt a0 0) == 39)), (by first | rfl | (simp; done) | (simp [*]; done)), H', ⟨by have := HK1.out; have := HJ10.out; first | omega | exact Nat.le_refl _⟩, ⟨by repeat (first | (with_reducible first | exact HB.out | apply below_alloc | apply pw_below_drewN | apply below_drew1) | exact HB.out)⟩⟩
         case rest => as_aux_lemma =>
          clear HC42
          try clear c1
          try clear c2
          try clear c2b0
          try clear p2
          try clear q2
          try clear hx2
          try clear c3
          try clear c3b0
          try clear c3b1
          try clear p3
          try clear q3
          try clear hx3
          try clear c4
          try clear p4
          try clear q4
          try clear hx4
          try clear qi4
          try clear c5
          try clear c5b0
          try clear p6
          try clear q6
          try clear hx6
          try clear c7
          try clear c7b0
          try clear c7b1
          try clear c8
          try clear c8b0
          try clear c8b1
          try clear p9
          try clear q9
          try clear hx9
          try clear qi9
          try clear c11
          try clear c12
          try clear c12b0
          try clear c12b1
          try clear c13
          try clear c13b0
          try clear c13b1
          try clear c15
          try clear c19
          try clear c20
          try clear c20b0
          try clear c21
          try clear c21b0
          try clear p22
          try clear q22
          try clear hx22
          try clear c24
          try clear p25
          try clear q25
          try clear hx25
          try clear c26
          try clear c26b0
          try clear c26b1
          try clear p27
          try clear q27
          try clear hx27
          try clear c28
          try clear c28b0
          try clear c28b1
          try clear p29
          try clear q29
          try clear hx29
          try clear c30
          try clear c30b0
          try clear c30b1
          try clear p31
          try clear q31
          try clear hx31
          try clear c32
          try clear c33
          try clear c33b0
          try clear c34
          try clear c34b0
          try clear p35
          try clear q35
          try clear hx35
          try clear c37
          try clear p38
          try clear q38
          try clear hx38
          try clear p39
          try clear q39
          try clear hx39
          try clear c40
          try clear c40b0
          try clear c40b1
          try clear p41
          try clear q41
          try clear hx41
          try clear c43
          try clear c43b0
          try clear c43b1
          try clear p2
          try clear p22
          try clear p25
          try clear p27
          try clear p29
          try clear p3
          try clear p31
          try clear p35
          try clear p38
          try clear p39
          try clear p4
          try clear p41
          try clear p6
          try clear p9
          try clear q2
          try clear q22
          try clear q25
          try clear q27
          try clear q29
          try clear q3
          try clear q31
          try clear q35
          try clear q38
          try clear q39
          try clear q4
          try clear q41
          try clear q6
          try clear q9
          obtain ⟨kq, x100_41, rfl, HA, HJ41, HB⟩ := hcut
          cases kq with
          | zero => exact absurd HA.out (by simp [spec_token.j3])
          | succ kj41 =>
           have H := HA.out
           clear HA
           simp only [spec_token.j3] at H
           by_cases c44 : x100_41 = true
           ·subst c44
            have H1 : ((spec_quoted.f kj41 a0 0 3).bind fun bt131 => (some (bt131.1, bt131.2.1, bt131.2.2))) = some (r1, r2, r3) := by rw [if_pos rfl] at H; exact H
            clear H
            have H := H1
            clear H1
            replace H := Option.bind_eq_some_iff.mp H
            obtain ⟨⟨t131, t132, t133⟩, A450, H⟩ := H
            replace H : (some (t131, t132, t133)) = some (r1, r2, r3) := H
            have A45 := Aside0.mk A450
            clear A450
            simp only [Option.some.injEq, Prod.mk.injEq] at H
            obtain ⟨rfl, rfl, rfl⟩ := H
            go_wp2_with (first | (go_at_call 17; (with_reducible refine (spec_quoted.calls kj41 a0 0 3 t131 t132 t133 _ A45.out).mono ?_); rintro e w' ⟨rfl, ⟨nd, rfl⟩⟩; (try first | exact ⟨rfl, _, World.drewN_drewN _ _ _⟩ | exact ⟨rfl, _, Eq.trans (World.drewN_drewN _ _ _) (congrArg (World.drewN _) (Nat.add_assoc _ _ _))⟩)))
            repeat (go_quiet (first | (go_at_call 17; (with_reducible refine (spec_quoted.calls kj41 a0 0 3 t131 t132 t133 _ A45.out).mono ?_); rintro e w' ⟨rfl, ⟨nd, rfl⟩⟩; (try first | exact ⟨rfl, _, World.drewN_drewN _ _ _⟩ | exact ⟨rfl, _, Eq.trans (World.drewN_drewN _ _ _) (congrArg (World.drewN _) (Nat.add_assoc _ _ _))⟩))); try go_wp2_with (first | (go_at_call 17; (with_reducible refine (spec_quoted.calls kj41 a0 0 3 t131 t132 t133 _ A45.out).mono ?_); rintro e w' ⟨rfl, ⟨nd, rfl⟩⟩; (try first | exact ⟨rfl, _, World.drewN_drewN _ _ _⟩ | exact ⟨rfl, _, Eq.trans (World.drewN_drewN _ _ _) (congrArg (World.drewN _) (Nat.add_assoc _ _ _))⟩))))
            go_ret3
            exact ⟨by first | rfl | (simp [errW_none, errW_some] <;> rfl) | (simp [*, errW_none, errW_some] <;> rfl) | (simp (disch := omega) only [wrap64_id] <;> rfl), by repeat (first | (with_reducible first | exact HB.out | apply below_alloc | apply pw_below_drewN | apply below_drew1) | exact HB.out)⟩
           ·replace c44 := Bool.eq_false_iff.mpr c44
            subst c44
            have H1 : (if (bt a0 0) = 98 then (if (a0.size : Int) > 1 then (if 1 < (a0.size : Int) then (if (bt a0 1) = 34 then (spec_token.j4 kj41 a0 (bt a0 0) true) else (spec_token.j4 kj41 a0 (bt a0 0) ((bt a0 1) == 39))) else (none)) else (spec_token.j4 kj41 a0 (bt a0 0) false)) else (spec_token.j4 kj41 a0 (bt a0 0) false)) = some (r1, r2, r3) := by rw [if_neg (show ¬ (false = true) by decide)] at H; exact H
            clear H
            have H := H1
            clear H1
            have HC46 := Aside0.mk H
            clear H
            go_upto_region 16 with (fail)
            repeat (go_quiet (fail); go_upto_region 16 with (fail))
            go_cut [112] (fun v112 wc => ∃ (kq : Nat) (x112_45 : Bool), v112 = .bool x112_45 ∧ Aside0 (spec_token.j4 kq a0 (bt a0 0) x112_45 = some (r1, r2, r3)) ∧ Aside0 (kq ≤ kj41) ∧ Aside0 (Below w.heap.size w wc))
            case first => as_aux_lemma =>
             have H := HC46.out
             clear HC46
             by_cases c47 : (bt a0 0) = 98
             ·rw [if_pos c47] at H
              have c47b0 : ((bt a0 0) == 98) = true := beq_iff_eq.mpr c47
              have c47b1 : ((bt a0 0) != 98) = false := bne_eq_false_iff_eq.mpr c47
              clear c47
              (first | rw [c47b0] | (simp only [i64_w, i32_w]; rw [c47b0]) | skip)
              by_cases c48 : (a0.size : Int) > 1
              ·rw [if_pos c48] at H
               have c48b0 : decide (1 < (a0.size : Int)) = true := decide_eq_true c48
               have c48b1 : decide (1 < a0.size) = true := decide_eq_true (by omega)
               clear c48
               by_cases c49 : 1 < (a0.size : Int)
               ·rw [if_pos c49] at H
                have c49b0 : decide (1 < (a0.size : Int)) = true := decide_eq_true c49
                have c49b1 : decide (1 < a0.size) = true := decide_eq_true (by omega)
                clear c49
                by_cases c51 : (bt a0 1) = 34
                ·rw [if_pos c51] at H
                 have c51b0 : ((bt a0 1) == 34) = true := beq_iff_eq.mpr c51
                 have c51b1 : ((bt a0 1) != 34) = false := bne_eq_false_iff_eq.mpr c51
                 clear c51
                 have H' := Aside0.mk H
                 clear H
                 have p50 : 0 ≤ (1 : Int) := (by omega)
                 have q50 : 1 < a0.size := (by have : (1 : Int) < (a0.size : Int) := of_decide_eq_true (by first | (with_reducible assumption) | assumption); omega)
                 have hx50 : ∀ h : 1 < a0.size, ((a0[1]'h).toNat : Int) = bt a0 1 := bt_at a0 1
                 clear p50
                 have qi50 : (1 < (a0.size : Int)) = True := eq_true (of_decide_eq_true (by first | (with_reducible assumption) | assumption))
                 replace q50 := eq_true q50
                 go_wp2
                 repeat (go_quiet (fail); try go_wp2)
                 go_meet
                 case rel => exact ⟨_, (true), (by first | rfl | (simp; done) | (simp [*]; done)), H', ⟨by have := HK1.out; have := HJ10.out; have := HJ41.out; first | omega | exact Nat.le_refl _⟩, ⟨by repeat (first | (with_reducible first | exact HB.out | apply below_alloc | apply pw_below_drewN | apply below_drew1) | exact HB.out)⟩⟩
                ·rw [if_neg c51] at H
                 have c51b0 : ((bt a0 1) == 34) = false := beq_eq_false_iff_ne.mpr c51
                 have c51b1 : ((bt a0 1) != 34) = true := bne_iff_ne.mpr c51
                 have H' := Aside0.mk H
                 clear H
                 have p50 : 0 ≤ (1 : Int) := (by omega)
                 have q50 : 1 < a0.size := (by have : (1 : Int) < (a0.size : Int) := of_decide_eq_true (by first | (with_reducible assumption) | assumption); omega)
                 have hx50 : ∀ h : 1 < a0.size, ((a0[1]'h).toNat : Int) = bt a0 1 := bt_at a0 1
                 clear p50
                 have qi50 : (1 < (a0.size : Int)) = True := eq_true (of_decide_eq_true (by first | (with_reducible assumption) | assumption))
                 replace q50 := eq_true q50
                 have p52 : 0 ≤ (1 : Int) := (by omega)
                 have q52 : 1 < a0.size := (by have : (1 : Int) < (a0.size : Int) := of_decide_eq_true (by first | (with_reducible assumption) | assumption); omega)
                 have hx52 : ∀ h : 1 < a0.size, ((a0[1]'h).toNat : Int) = bt a0 1 := bt_at a0 1
                 clear p52
                 have qi52 : (1 < (a0.size : Int)) = True := eq_true (of_decide_eq_true (by first | (with_reducible assumption) | assumption))
                 replace q52 := eq_true q52
                 go_wp2
                 repeat (go_quiet (fail); try go_wp2)
                 go_meet
                 case rel => exact ⟨_, (((bt a0 1) == 39)), (by first | rfl | (simp; done) | (simp [*]; done)), H', ⟨by have := HK1.out; have := HJ10.out; have := HJ41.out; first | omega | exact Nat.le_refl _⟩, ⟨by repeat (first | (with_reducible first | exact HB.out | apply below_alloc | apply pw_below_drewN | apply below_drew1) | exact HB.out)⟩⟩
               ·rw [if_neg c49] at H
                exact absurd H (by simp)
              ·rw [if_neg c48] at H
               have c48b0 : decide (1 < (a0.size : Int)) = false := decide_eq_false c48
               have c48b1 : decide (1 < a0.size) = false := decide_eq_false (by omega)
               clear c48
               have H' := Aside0.mk H
               clear H
               go_wp2
               repeat (go_quiet (fail); try go_wp2)
               go_meet
               case rel => exact ⟨_, (false), (by first | rfl | (simp; done) | (simp [*]; done)), H', ⟨by have := HK1.out; have := HJ10.out; have := HJ41.out; first | omega | exact Nat.le_refl _⟩, ⟨by repeat (first | (with_reducible first | exact HB.out | apply below_alloc | apply pw_below_drewN | apply below_drew1) | exact HB.out)⟩⟩
             ·rw [if_neg c47] at H
              have c47b0 : ((bt a0 0) == 98) = false := beq_eq_false_iff_ne.mpr c47
              have c47b1 : ((bt a0 0) != 98) = true := bne_iff_ne.mpr c47
              (first | rw [c47b0] | (simp only [i64_w, i32_w]; rw [c47b0]) | skip)
              have H' := Aside0.mk H
              clear H
              go_wp2
              repeat (go_quiet (fail); try go_wp2)
              go_meet
              case rel => exact ⟨_, (false), (by first | rfl | (simp; done) | (simp [*]; done)), H', ⟨by have := HK1.out; have := HJ10.out; have := HJ41.out; first | omega | exact Nat.le_refl _⟩, ⟨by repeat (first | (with_reducible first | exact HB.out | apply below_alloc | apply pw_below_drewN | apply below_drew1) | exact HB.out)⟩⟩
            case rest => as_aux_lemma =>
             clear HC46
             try clear c1
             try clear c2
             try clear c2b0
             try clear p2
             try clear q2
             try clear hx2
             try clear c3
             try clear c3b0
             try clear c3b1
             try clear p3
             try clear q3
             try clear hx3
             try clear c4
             try clear p4
             try clear q4
             try clear hx4
             try clear qi4
             try clear c5
             try clear c5b0
             try clear p5
             try clear q5
             try clear hx5
             try clear qi5
             try clear p6
             try clear q6
             try clear hx6
             try clear c7
             try clear c7b0
             try clear c7b1
             try clear c8
             try clear c8b0
             try clear c8b1
             try clear p9
             try clear q9
             try clear hx9
             try clear qi9
             try clear c11
             try clear c12
             try clear c12b0
             try clear c12b1
             try clear c13
             try clear c13b0
             try clear c13b1
             try clear c15
             try clear c19
             try clear c20
             try clear c20b0
             try clear c21
             try clear c21b0
             try clear p22
             try clear q22
             try clear hx22
             try clear c24
             try clear p25
             try clear q25
             try clear hx25
             try clear c26
             try clear c26b0
             try clear c26b1
             try clear p27
             try clear q27
             try clear hx27
             try clear c28
             try clear c28b0
             try clear c28b1
             try clear p29
             try clear q29
             try clear hx29
             try clear c30
             try clear c30b0
             try clear c30b1
             try clear p31
             try clear q31
             try clear hx31
             try clear c32
             try clear c33
             try clear c33b0
             try clear c34
             try clear c34b0
             try clear p35
             try clear q35
             try clear hx35
             try clear c37
             try clear p38
             try clear q38
             try clear hx38
             try clear p39
             try clear q39
             try clear hx39
             try clear c40
             try clear c40b0
             try clear c40b1
             try clear p41
             try clear q41
             try clear hx41
             try clear c43
             try clear c43b0
             try clear c43b1
             try clear c44
             try clear c47
             try clear c47b0
             try clear c47b1
             try clear c48
             try clear c48b0
             try clear c48b1
             try clear c49
             try clear c49b0
             try clear c49b1
             try clear p50
             try clear q50
             try clear hx50
             try clear qi50
             try clear c51
             try clear c51b0
             try clear c51b1
             try clear p52
             try clear q52
             try clear hx52
             try clear qi52
             try clear p2
             try clear p22
             try clear p25
             try clear p27
             try clear p29
             try clear p3
             try clear p31
             try clear p35
             try clear p38
             try clear p39
             try clear p4
             try clear p41
             try clear p50
             try clear p52
             try clear p6
             try clear p9
             try clear q2
             try clear q22
             try clear q25
             try clear q27
             try clear q29
             try clear q3
             try clear q31
             try clear q35
             try clear q38
             try clear q39
             try clear q4
             try clear q41
             try clear q50
             try clear q52
             try clear q6
             try clear q9
             obtain ⟨kq, x112_45, rfl, HA, HJ45, HB⟩ := hcut
             cases kq with
             | zero => exact absurd HA.out (by simp [spec_token.j4])
             | succ kj45 =>
              have H := HA.out
              clear HA
              simp only [spec_token.j4] at H
              by_cases c53 : x112_45 = true
              ·subst c53
               have H1 : ((spec_quoted.f kj45 a0 1 14).bind fun bt134 => (some (bt134.1, bt134.2.1, bt134.2.2))) = some (r1, r2, r3) := by rw [if_pos rfl] at H; exact H
               clear H
               have H := H1
               clear H1
               replace H := Option.bind_eq_some_iff.mp H
               obtain ⟨⟨t134, t135, t136⟩, A540, H⟩ := H
               replace H : (some (t134, t135, t136)) = some (r1, r2, r3) := H
               have A54 := Aside0.mk A540
               clear A540
               simp only [Option.some.injEq, Prod.mk.injEq] at H
               obtain ⟨rfl, rfl, rfl⟩ := H
               go_wp2_with (first | (go_at_call 17; (with_reducible refine (spec_quoted.calls kj45 a0 1 14 t134 t135 t136 _ A54.out).mono ?_); rintro e w' ⟨rfl, ⟨nd, rfl⟩⟩; (try first | exact ⟨rfl, _, World.drewN_drewN _ _ _⟩ | exact ⟨rfl, _, Eq.trans (World.drewN_drewN _ _ _) (congrArg (World.drewN _) (Nat.add_assoc _ _ _))⟩)))
               repeat (go_quiet (first | (go_at_call 17; (with_reducible refine (spec_quoted.calls kj45 a0 1 14 t134 t135 t136 _ A54.out).mono ?_); rintro e w' ⟨rfl, ⟨nd, rfl⟩⟩; (try first | exact ⟨rfl, _, World.drewN_drewN _ _ _⟩ | exact ⟨rfl, _, Eq.trans (World.drewN_drewN _ _ _) (congrArg (World.drewN _) (Nat.add_assoc _ _ _))⟩))); try go_wp2_with (first | (go_at_call 17; (with_reducible refine (spec_quoted.calls kj45 a0 1 14 t134 t135 t136 _ A54.out).mono ?_); rintro e w' ⟨rfl, ⟨nd, rfl⟩⟩; (try first | exact ⟨rfl, _, World.drewN_drewN _ _ _⟩ | exact ⟨rfl, _, Eq.trans (World.drewN_drewN _ _ _) (congrArg (World.drewN _) (Nat.add_assoc _ _ _))⟩))))
               go_ret3
               exact ⟨by first | rfl | (simp [errW_none, errW_some] <;> rfl) | (simp [*, errW_none, errW_some] <;> rfl) | (simp (disch := omega) only [wrap64_id] <;> rfl), by repeat (first | (with_reducible first | exact HB.out | apply below_alloc | apply pw_below_drewN | apply below_drew1) | exact HB.out)⟩
              ·replace c53 := Bool.eq_false_iff.mpr c53
               subst c53
               have H1 : (if (bt a0 0) = 116 then (if (a0.size : Int) ≥ 4 then (if 0 ≤ 4 then (if 4 ≤ (a0.size : Int) then (spec_token.j5 kj45 a0 (bt a0 0) ((a0.extract 0 4).toList == ([116, 114, 117, 101] : List UInt8))) else (none)) else (none)) else (spec_token.j5 kj45 a0 (bt a0 0) false)) else (spec_token.j5 kj45 a0 (bt a0 0) false)) = some (r1, r2, r3) := by rw [if_neg (show ¬ (false = true) by decide)] at H; exact H
               clear H
               have H := H1
               clear H1
               have HC55 := Aside0.mk H
               clear H
               go_upto_region 18 with (fail)
               repeat (go_quiet (fail); go_upto_region 18 with (fail))
               go_cut [135] (fun v135 wc => ∃ (kq : Nat) (x135_54 : Bool), v135 = .bool x135_54 ∧ Aside0 (spec_token.j5 kq a0 (bt a0 0) x135_54 = some (r1, r2, r3)) ∧ Aside0 (kq ≤ kj45) ∧ Aside0 (Below w.heap.size w wc))
               case first => as_aux_lemma =>
                have H := HC55.out
                clear HC55
                by_cases c56 : (bt a0 0) = 116
                ·rw [if_pos c56] at H
                 have c56b0 : ((bt a0 0) == 116) = true := beq_iff_eq.mpr c56
                 have c56b1 : ((bt a0 0) != 116) = false := bne_eq_false_iff_eq.mpr c56
                 clear c56
                 (first | rw [c56b0] | (simp only [i64_w, i32_w]; rw [c56b0]) | skip)
                 by_cases c57 : (a0.size : Int) ≥ 4
                 ·rw [if_pos c57] at H
                  have c57b0 : decide (4 ≤ (a0.size : Int)) = true := decide_eq_true c57
                  have c57b1 : decide (4 ≤ a0.size) = true := decide_eq_true (by omega)
                  clear c57
                  by_cases c58 : 0 ≤ 4
                  ·rw [if_pos c58] at H
                   have c58b0 := eq_true c58
                   have c58b1 : decide (0 ≤ 4) = true := decide_eq_true c58
                   clear c58
                   by_cases c59 : 4 ≤ (a0.size : Int)
                   ·rw [if_pos c59] at H
                    have c59b0 := eq_true c59
                    have c59b1 : decide (4 ≤ (a0.size : Int)) = true := decide_eq_true c59
                    clear c59
                    have H' := Aside0.mk H
                    clear H
                    go_wp2
                    repeat (go_quiet (fail); try go_wp2)
                    go_meet
                    case rel => exact ⟨_, (((a0.extract 0 4).toList == ([116, 114, 117, 101] : List UInt8))), (by first | rfl | (simp; done) | (simp [*]; done)), H', ⟨by have := HK1.out; have := HJ10.out; have := HJ41.out; have := HJ45.out; first | omega | exact Nat.le_refl _⟩, ⟨by repeat (first | (with_reducible first | exact HB.out | apply below_alloc | apply pw_below_drewN | apply below_drew1) | exact HB.out)⟩⟩
                   ·rw [if_neg c59] at H
                    exact absurd H (by simp)
                  ·rw [if_neg c58] at H
                   exact absurd H (by simp)
                 ·rw [if_neg c57] at H
                  have c57b0 : decide (4 ≤ (a0.size : Int)) = false := decide_eq_false c57
                  have c57b1 : decide (4 ≤ a0.size) = false := decide_eq_false (by omega)
                  clear c57
                  have H' := Aside0.mk H
                  clear H
                  go_wp2
                  repeat (go_quiet (fail); try go_wp2)
                  go_meet
                  case rel => exact ⟨_, (false), (by first | rfl | (simp; done) | (simp [*]; done)), H', ⟨by have := HK1.out; have := HJ10.out; have := HJ41.out; have := HJ45.out; first | omega | exact Nat.le_refl _⟩, ⟨by repeat (first | (with_reducible first | exact HB.out | apply below_alloc | apply pw_below_drewN | apply below_drew1) | exact HB.out)⟩⟩
                ·rw [if_neg c56] at H
                 have c56b0 : ((bt a0 0) == 116) = false := beq_eq_false_iff_ne.mpr c56
                 have c56b1 : ((bt a0 0) != 116) = true := bne_iff_ne.mpr c56
                 (first | rw [c56b0] | (simp only [i64_w, i32_w]; rw [c56b0]) | skip)
                 have H' := Aside0.mk H
                 clear H
                 go_wp2
                 repeat (go_quiet (fail); try go_wp2)
                 go_meet
                 case rel => exact ⟨_, (false), (by first | rfl | (simp; done) | (simp [*]; done)), H', ⟨by have := HK1.out; have := HJ10.out; have := HJ41.out; have := HJ45.out; first | omega | exact Nat.le_refl _⟩, ⟨by repeat (first | (with_reducible first | exact HB.out | apply below_alloc | apply pw_below_drewN | apply below_drew1) | exact HB.out)⟩⟩
               case rest => as_aux_lemma =>
                clear HC55
                try clear c1
                try clear c2
                try clear c2b0
                try clear p2
                try clear q2
                try clear hx2
                try clear c3
                try clear c3b0
                try clear c3b1
                try clear p3
                try clear q3
                try clear hx3
                try clear c4
                try clear p4
                try clear q4
                try clear hx4
                try clear qi4
                try clear c5
                try clear c5b0
                try clear p5
                try clear q5
                try clear hx5
                try clear qi5
                try clear p6
                try clear q6
                try clear hx6
                try clear c7
                try clear c7b0
                try clear c7b1
                try clear c8
                try clear c8b0
                try clear c8b1
                try clear p9
                try clear q9
                try clear hx9
                try clear qi9
                try clear c11
                try clear c12
                try clear c12b0
                try clear c12b1
                try clear c13
                try clear c13b0
                try clear c13b1
                try clear c15
                try clear c19
                try clear c20
                try clear c20b0
                try clear c21
                try clear c21b0
                try clear p22
                try clear q22
                try clear hx22
                try clear c24
                try clear p25
                try clear q25
                try clear hx25
                try clear c26
                try clear c26b0
                try clear c26b1
                try clear p27
                try clear q27
                try clear hx27
                try clear c28
                try clear c28b0
                try clear c28b1
                try clear p29
                try clear q29
                try clear hx29
                try clear c30
                try clear c30b0
                try clear c30b1
                try clear p31
                try clear q31
                try clear hx31
                try clear c32
                try clear c33
                try clear c33b0
                try clear c34
                try clear c34b0
                try clear p35
                try clear q35
                try clear hx35
                try clear c37
                try clear p38
                try clear q38
                try clear hx38
                try clear p39
                try clear q39
                try clear hx39
                try clear c40
                try clear c40b0
                try clear c40b1
                try clear p41
                try clear q41
                try clear hx41
                try clear c43
                try clear c43b0
                try clear c43b1
                try clear c44
                try clear c47
                try clear c47b0
                try clear c47b1
                try clear c48
                try clear c48b0
                try clear c48b1
                try clear c49
                try clear c49b0
                try clear c49b1
                try clear p50
                try clear q50
                try clear hx50
                try clear qi50
                try clear c51
                try clear c51b0
                try clear c51b1
                try clear p52
                try clear q52
                try clear hx52
                try clear qi52
                try clear c53
                try clear c56
                try clear c56b0
                try clear c56b1
                try clear c57
                try clear c57b0
                try clear c57b1
                try clear c58
                try clear c58b0
                try clear c58b1
                try clear c59
                try clear c59b0
                try clear c59b1
                try clear p2
                try clear p22
                try clear p25
                try clear p27
                try clear p29
                try clear p3
                try clear p31
                try clear p35
                try clear p38
                try clear p39
                try clear p4
                try clear p41
                try clear p5
                try clear p50
                try clear p52
                try clear p6
                try clear p9
                try clear q2
                try clear q22
                try clear q25
                try clear q27
                try clear q29
                try clear q3
                try clear q31
                try clear q35
                try clear q38
                try clear q39
                try clear q4
                try clear q41
                try clear q5
                try clear q50
                try clear q52
                try clear q6
                try clear q9
                obtain ⟨kq, x135_54, rfl, HA, HJ54, HB⟩ := hcut
                cases kq with
                | zero => exact absurd HA.out (by simp [spec_token.j5])
                | succ kj54 =>
                 have H := HA.out
                 clear HA
                 simp only [spec_token.j5] at H
                 by_cases c60 : x135_54 = true
                 ·subst c60
                  have H1 : ((spec_truthToken.f a0 4).bind fun bt137 => (some (bt137.1, bt137.2.1, bt137.2.2))) = some (r1, r2, r3) := by rw [if_pos rfl] at H; exact H
                  clear H
                  have H := H1
                  clear H1
                  replace H := Option.bind_eq_some_iff.mp H
                  obtain ⟨⟨t137, t138, t139⟩, A610, H⟩ := H
                  replace H : (some (t137, t138, t139)) = some (r1, r2, r3) := H
                  have A61 := Aside0.mk A610
                  clear A610
                  simp only [Option.some.injEq, Prod.mk.injEq] at H
                  obtain ⟨rfl, rfl, rfl⟩ := H
                  go_wp2_with (first | (go_at_call 18; (with_reducible refine (spec_truthToken.calls a0 4 t137 t138 t139 _ A61.out).mono ?_); rintro e w62 ⟨rfl, hb⟩; have n0_ := Aside0.mk (below_step (by repeat (first | (with_reducible first | exact HB.out | apply below_alloc | apply pw_below_drewN | apply below_drew1) | exact HB.out)) hb); clear HB; have HB := n0_; clear n0_; (try clear hb); (try clear hb2); (try clear hk); (try clear hi)))
                  repeat (go_quiet (first | (go_at_call 18; (with_reducible refine (spec_truthToken.calls a0 4 t137 t138 t139 _ A61.out).mono ?_); rintro e w62 ⟨rfl, hb⟩; have n0_ := Aside0.mk (below_step (by repeat (first | (with_reducible first | exact HB.out | apply below_alloc | apply pw_below_drewN | apply below_drew1) | exact HB.out)) hb); clear HB; have HB := n0_; clear n0_; (try clear hb); (try clear hb2); (try clear hk); (try clear hi))); try go_wp2_with (first | (go_at_call 18; (with_reducible refine (spec_truthToken.calls a0 4 t137 t138 t139 _ A61.out).mono ?_); rintro e w62 ⟨rfl, hb⟩; have n0_ := Aside0.mk (below_step (by repeat (first | (with_reducible first | exact HB.out | apply below_alloc | apply pw_below_drewN | apply below_drew1) | exact HB.out)) hb); clear HB; have HB := n0_; clear n0_; (try clear hb); (try clear hb2); (try clear hk); (try clear hi))))
                  go_ret3
                  exact ⟨by first | rfl | (simp [errW_none, errW_some] <;> rfl) | (simp [*, errW_none, errW_some] <;> rfl) | (simp (disch := omega) only [wrap64_id] <;> rfl), by repeat (first | (with_reducible first | exact HB.out | apply below_alloc | apply pw_below_drewN | apply below_drew1) | exact HB.out)⟩
                 ·replace c60 := Bool.eq_false_iff.mpr c60
                  subst c60
                  have H1 : (if (bt a0 0) = 102 then (if (a0.size : Int) ≥ 5 then (if 0 ≤ 5 then (if 5 ≤ (a0.size : Int) then (if (a0.extract 0 5).toList = ([102, 97, 108, 115, 101] : List UInt8) then ((spec_truthToken.f a0 5).bind fun bt140 => (some (bt140.1, bt140.2.1, bt140.2.2))) else (spec_token.j6 kj54 a0)) else (none)) else (none)) else (spec_token.j6 kj54 a0)) else (spec_token.j6 kj54 a0)) = some (r1, r2, r3) := by rw [if_neg (show ¬ (false = true) by decide)] at H; exact H
                  clear H
                  have H := H1
                  clear H1
                  by_cases c63 : (bt a0 0) = 102
                  ·rw [if_pos c63] at H
                   have c63b0 : ((bt a0 0) == 102) = true := beq_iff_eq.mpr c63
                   have c63b1 : ((bt a0 0) != 102) = false := bne_eq_false_iff_eq.mpr c63
                   clear c63
                   by_cases c64 : (a0.size : Int) ≥ 5
                   ·rw [if_pos c64] at H
                    have c64b0 : decide (5 ≤ (a0.size : Int)) = true := decide_eq_true c64
                    have c64b1 : decide (5 ≤ a0.size) = true := decide_eq_true (by omega)
                    clear c64
                    by_cases c65 : 0 ≤ 5
                    ·rw [if_pos c65] at H
                     have c65b0 := eq_true c65
                     have c65b1 : decide (0 ≤ 5) = true := decide_eq_true c65
                     clear c65
                     by_cases c66 : 5 ≤ (a0.size : Int)
                     ·rw [if_pos c66] at H
                      have c66b0 := eq_true c66
                      have c66b1 : decide (5 ≤ (a0.size : Int)) = true := decide_eq_true c66
                      clear c66
                      by_cases c67 : (a0.extract 0 5).toList = ([102, 97, 108, 115, 101] : List UInt8)
                      ·rw [if_pos c67] at H
                       have c67b0 : ((a0.extract 0 5).toList == ([102, 97, 108, 115, 101] : List UInt8)) = true := beq_iff_eq.mpr c67
                       have c67b1 : ((a0.extract 0 5).toList != ([102, 97, 108, 115, 101] : List UInt8)) = false := bne_eq_false_iff_eq.mpr c67
                       clear c67
                       replace H := Option.bind_eq_some_iff.mp H
                       obtain ⟨⟨t140, t141, t142⟩, A680, H⟩ := H
                       replace H : (some (t140, t141, t142)) = some (r1, r2, r3) := H
                       have A68 := Aside0.mk A680
                       clear A680
                       simp only [Option.some.injEq, Prod.mk.injEq] at H
                       obtain ⟨rfl, rfl, rfl⟩ := H
                       go_wp2_with (first | (go_at_call 18; (with_reducible refine (spec_truthToken.calls a0 5 t140 t141 t142 _ A68.out).mono ?_); rintro e w69 ⟨rfl, hb⟩; have n0_ := Aside0.mk (below_step (by repeat (first | (with_reducible first | exact HB.out | apply below_alloc | apply pw_below_drewN | apply below_drew1) | exact HB.out)) hb); clear HB; have HB := n0_; clear n0_; (try clear hb); (try clear hb2); (try clear hk); (try clear hi)))
                       repeat (go_quiet (first | (go_at_call 18; (with_reducible refine (spec_truthToken.calls a0 5 t140 t141 t142 _ A68.out).mono ?_); rintro e w69 ⟨rfl, hb⟩; have n0_ := Aside0.mk (below_step (by repeat (first | (with_reducible first | exact HB.out | apply below_alloc | apply pw_below_drewN | apply below_drew1) | exact HB.out)) hb); clear HB; have HB := n0_; clear n0_; (try clear hb); (try clear hb2); (try clear hk); (try clear hi))); try go_wp2_with (first | (go_at_call 18; (with_reducible refine (spec_truthToken.calls a0 5 t140 t141 t142 _ A68.out).mono ?_); rintro e w69 ⟨rfl, hb⟩; have n0_ := Aside0.mk (below_step (by repeat (first | (with_reducible first | exact HB.out | apply below_alloc | apply pw_below_drewN | apply below_drew1) | exact HB.out)) hb); clear HB; have HB := n0_; clear n0_; (try clear hb); (try clear hb2); (try clear hk); (try clear hi))))
                       go_ret3
                       exact ⟨by first | rfl | (simp [errW_none, errW_some] <;> rfl) | (simp [*, errW_none, errW_some] <;> rfl) | (simp (disch := omega) only [wrap64_id] <;> rfl), by repeat (first | (with_reducible first | exact HB.out | apply below_alloc | apply pw_below_drewN | apply below_drew1) | exact HB.out)⟩
                      ·rw [if_neg c67] at H
                       have c67b0 : ((a0.extract 0 5).toList == ([102, 97, 108, 115, 101] : List UInt8)) = false := beq_eq_false_iff_ne.mpr c67
                       have c67b1 : ((a0.extract 0 5).toList != ([102, 97, 108, 115, 101] : List UInt8)) = true := bne_iff_ne.mpr c67
                       have H' := Aside0.mk H
                       clear H
                       go_wp2
                       repeat (go_quiet (fail); try go_wp2)
                       go_meet
                       case rel => exact ⟨_, H', ⟨by have := HK1.out; have := HJ10.out; have := HJ41.out; have := HJ45.out; have := HJ54.out; first | omega | exact Nat.le_refl _⟩, ⟨by repeat (first | (with_reducible first | exact HB.out | apply below_alloc | apply pw_below_drewN | apply below_drew1) | exact HB.out)⟩⟩
                     ·rw [if_neg c66] at H
                      exact absurd H (by simp)
                    ·rw [if_neg c65] at H
                     exact absurd H (by simp)
                   ·rw [if_neg c64] at H
                    have c64b0 : decide (5 ≤ (a0.size : Int)) = false := decide_eq_false c64
                    have c64b1 : decide (5 ≤ a0.size) = false := decide_eq_false (by omega)
                    clear c64
                    have H' := Aside0.mk H
                    clear H
                    go_wp2
                    repeat (go_quiet (fail); try go_wp2)
                    go_meet
                    case rel => exact ⟨_, H', ⟨by have := HK1.out; have := HJ10.out; have := HJ41.out; have := HJ45.out; have := HJ54.out; first | omega | exact Nat.le_refl _⟩, ⟨by repeat (first | (with_reducible first | exact HB.out | apply below_alloc | apply pw_below_drewN | apply below_drew1) | exact HB.out)⟩⟩
                  ·rw [if_neg c63] at H
                   have c63b0 : ((bt a0 0) == 102) = false := beq_eq_false_iff_ne.mpr c63
                   have c63b1 : ((bt a0 0) != 102) = true := bne_iff_ne.mpr c63
                   have H' := Aside0.mk H
                   clear H
                   go_wp2
                   repeat (go_quiet (fail); try go_wp2)
                   go_meet
                   case rel => exact ⟨_, H', ⟨by have := HK1.out; have := HJ10.out; have := HJ41.out; have := HJ45.out; have := HJ54.out; first | omega | exact Nat.le_refl _⟩, ⟨by repeat (first | (with_reducible first | exact HB.out | apply below_alloc | apply pw_below_drewN | apply below_drew1) | exact HB.out)⟩⟩
     case rest => as_aux_lemma =>
      clear HC10
      try clear c1
      try clear c2
      try clear c2b0
      try clear p2
      try clear q2
      try clear hx2
      try clear c3
      try clear c3b0
      try clear c3b1
      try clear p3
      try clear q3
      try clear hx3
      try clear c4
      try clear p4
      try clear q4
      try clear hx4
      try clear qi4
      try clear c5
      try clear c5b0
      try clear p5
      try clear q5
      try clear hx5
      try clear qi5
      try clear c6
      try clear p6
      try clear q6
      try clear hx6
      try clear c7
      try clear c7b0
      try clear c7b1
      try clear c8
      try clear c8b0
      try clear c8b1
      try clear p9
      try clear q9
      try clear hx9
      try clear qi9
      try clear c11
      try clear c12
      try clear c12b0
      try clear c12b1
      try clear c13
      try clear c13b0
      try clear c13b1
      try clear c15
      try clear c19
      try clear c20
      try clear c20b0
      try clear c21
      try clear c21b0
      try clear p22
      try clear q22
      try clear hx22
      try clear c24
      try clear p25
      try clear q25
      try clear hx25
      try clear c26
      try clear c26b0
      try clear c26b1
      try clear p27
      try clear q27
      try clear hx27
      try clear c28
      try clear c28b0
      try clear c28b1
      try clear p29
      try clear q29
      try clear hx29
      try clear c30
      try clear c30b0
      try clear c30b1
      try clear p31
      try clear q31
      try clear hx31
      try clear c32
      try clear c33
      try clear c33b0
      try clear c34
      try clear c34b0
      try clear p35
      try clear q35
      try clear hx35
      try clear c37
      try clear p38
      try clear q38
      try clear hx38
      try clear p39
      try clear q39
      try clear hx39
      try clear c40
      try clear c40b0
      try clear c40b1
      try clear p41
      try clear q41
      try clear hx41
      try clear c43
      try clear c43b0
      try clear c43b1
      try clear c44
      try clear c47
      try clear c47b0
      try clear c47b1
      try clear c48
      try clear c48b0
      try clear c48b1
      try clear c49
      try clear c49b0
      try clear c49b1
      try clear p50
      try clear q50
      try clear hx50
      try clear qi50
      try clear c51
      try clear c51b0
      try clear c51b1
      try clear p52
      try clear q52
      try clear hx52
      try clear qi52
      try clear c53
      try clear c56
      try clear c56b0
      try clear c56b1
      try clear c57
      try clear c57b0
      try clear c57b1
      try clear c58
      try clear c58b0
      try clear c58b1
      try clear c59
      try clear c59b0
      try clear c59b1
      try clear c60
      try clear c63
      try clear c63b0
      try clear c63b1
      try clear c64
      try clear c64b0
      try clear c64b1
      try clear p64
      try clear c65
      try clear c65b0
      try clear c65b1
      try clear c66
      try clear c66b0
      try clear c66b1
      try clear c67
      try clear c67b0
      try clear c67b1
      try clear p2
      try clear p22
      try clear p25
      try clear p27
      try clear p29
      try clear p3
      try clear p31
      try clear p35
      try clear p38
      try clear p39
      try clear p4
      try clear p41
      try clear p5
      try clear p50
      try clear p52
      try clear p6
      try clear p9
      try clear q2
      try clear q22
      try clear q25
      try clear q27
      try clear q29
      try clear q3
      try clear q31
      try clear q35
      try clear q38
      try clear q39
      try clear q4
      try clear q41
      try clear q5
      try clear q50
      try clear q52
      try clear q6
      try clear q9
      obtain ⟨kq, HA, HJ9, HB⟩ := hcut
      cases kq with
      | zero => exact absurd HA.out (by simp [spec_token.j6])
      | succ kj9 =>
       have H := HA.out
       clear HA
       simp only [spec_token.j6] at H
       have H' := Aside0.mk H
       clear H
       go_wp2
       repeat (go_quiet (fail); try go_wp2)
       go_loopg [9] kj9 (fun kq v9 w' => ∃ (x9_3 : Int), v9 = .int .i64 x9_3 ∧ Aside0 (spec_token.l1 kq a0 x9_3 = some (r1, r2, r3)) ∧ Aside0 (kq ≤ kj9) ∧ Aside0 (Below w.heap.size w w'))
       case atStart => exact ⟨(0), (by first | rfl | (simp; done) | (simp [*]; done)), H', ⟨Nat.le_refl _⟩, ⟨by repeat (first | (with_reducible first | exact HB.out | apply below_alloc | apply pw_below_drewN | apply below_drew1) | exact HB.out)⟩⟩
       case round => as_aux_lemma =>
        clear H'
        try clear c1
        try clear c2
        try clear c2b0
        try clear p2
        try clear q2
        try clear hx2
        try clear c3
        try clear c3b0
        try clear c3b1
        try clear p3
        try clear q3
        try clear hx3
        try clear c4
        try clear p4
        try clear q4
        try clear hx4
        try clear qi4
        try clear c5
        try clear c5b0
        try clear p5
        try clear q5
        try clear hx5
        try clear qi5
        try clear c6
        try clear p6
        try clear q6
        try clear hx6
        try clear c7
        try clear c7b0
        try clear c7b1
        try clear c8
        try clear c8b0
        try clear c8b1
        try clear p9
        try clear q9
        try clear hx9
        try clear qi9
        try clear c11
        try clear c12
        try clear c12b0
        try clear c12b1
        try clear c13
        try clear c13b0
        try clear c13b1
        try clear c15
        try clear c19
        try clear c20
        try clear c20b0
        try clear c21
        try clear c21b0
        try clear p22
        try clear q22
        try clear hx22
        try clear c24
        try clear p25
        try clear q25
        try clear hx25
        try clear c26
        try clear c26b0
        try clear c26b1
        try clear p27
        try clear q27
        try clear hx27
        try clear c28
        try clear c28b0
        try clear c28b1
        try clear p29
        try clear q29
        try clear hx29
        try clear c30
        try clear c30b0
        try clear c30b1
        try clear p31
        try clear q31
        try clear hx31
        try clear c32
        try clear c33
        try clear c33b0
        try clear c34
        try clear c34b0
        try clear p35
        try clear q35
        try clear hx35
        try clear c37
        try clear p38
        try clear q38
        try clear hx38
        try clear p39
        try clear q39
        try clear hx39
        try clear c40
        try clear c40b0
        try clear c40b1
        try clear p41
        try clear q41
        try clear hx41
        try clear c43
        try clear c43b0
        try clear c43b1
        try clear c44
        try clear c47
        try clear c47b0
        try clear c47b1
        try clear c48
        try clear c48b0
        try clear c48b1
        try clear c49
        try clear c49b0
        try clear c49b1
        try clear p50
        try clear q50
        try clear hx50
        try clear qi50
        try clear c51
        try clear c51b0
        try clear c51b1
        try clear p52
        try clear q52
        try clear hx52
        try clear qi52
        try clear c53
        try clear c56
        try clear c56b0
        try clear c56b1
        try clear c57
        try clear c57b0
        try clear c57b1
        try clear c58
        try clear c58b0
        try clear c58b1
        try clear c59
        try clear c59b0
        try clear c59b1
        try clear c60
        try clear c63
        try clear c63b0
        try clear c63b1
        try clear c64
        try clear c64b0
        try clear c64b1
        try clear p64
        try clear c65
        try clear c65b0
        try clear c65b1
        try clear c66
        try clear c66b0
        try clear c66b1
        try clear c67
        try clear c67b0
        try clear c67b1
        try clear p2
        try clear p22
        try clear p25
        try clear p27
        try clear p29
        try clear p3
        try clear p31
        try clear p35
        try clear p38
        try clear p39
        try clear p4
        try clear p41
        try clear p5
        try clear p50
        try clear p52
        try clear p6
        try clear p64
        try clear p9
        try clear q2
        try clear q22
        try clear q25
        try clear q27
        try clear q29
        try clear q3
        try clear q31
        try clear q35
        try clear q38
        try clear q39
        try clear q4
        try clear q41
        try clear q5
        try clear q50
        try clear q52
        try clear q6
        try clear q9
        obtain ⟨x9_3, rfl, HA, HK3, HB⟩ := hrel
        cases gk with
        | zero => exact absurd HA.out (by simp [spec_token.l1])
        | succ k3 =>
         have H := HA.out
         clear HA
         simp only [spec_token.l1] at H
         have HC70 := Aside0.mk H
         clear H
         go_upto_region 23 with (fail)
         repeat (go_quiet (fail); go_upto_region 23 with (fail))
         go_cut [181] (fun v181 wc => ∃ (kq : Nat) (x181_69 : Bool), v181 = .bool x181_69 ∧ Aside0 (spec_token.j8 kq a0 x9_3 x181_69 = some (r1, r2, r3)) ∧ Aside0 (kq ≤ k3) ∧ Aside0 (Below w.heap.size w wc))
         case first => as_aux_lemma =>
          have H := HC70.out
          clear HC70
          by_cases c71 : x9_3 < (a0.size : Int)
          ·rw [if_pos c71] at H
           have c71b0 : decide (x9_3 < (a0.size : Int)) = true := decide_eq_true c71
           clear c71
           (first | rw [c71b0] | (simp only [i64_w, i32_w]; rw [c71b0]) | skip)
           by_cases c72 : 0 ≤ x9_3
           ·rw [if_pos c72] at H
            have c72b0 : decide (0 ≤ x9_3) = true := decide_eq_true c72
            clear c72
            replace H := Option.bind_eq_some_iff.mp H
            obtain ⟨t143, A740, H⟩ := H
            replace H : (spec_token.j8 k3 a0 x9_3 (!t143)) = some (r1, r2, r3) := H
            have A74 := Aside0.mk A740
            clear A740
            have H' := Aside0.mk H
            clear H
            have p73 : 0 ≤ (x9_3 : Int) := of_decide_eq_true (by first | (with_reducible assumption) | assumption)
            have q73 : x9_3 < (a0.size : Int) := of_decide_eq_true (by first | (with_reducible assumption) | assumption)
            have hx73 := bt_at a0 x9_3
            replace p73 := eq_true p73
            replace q73 := eq_true q73
            go_wp2_with (first | (go_at_call 10; (with_reducible refine (spec_textBlank.calls (bt a0 x9_3) t143 _ A74.out).mono ?_); rintro e w' ⟨rfl, ⟨nd, rfl⟩⟩; (try first | exact ⟨rfl, _, World.drewN_drewN _ _ _⟩ | exact ⟨rfl, _, Eq.trans (World.drewN_drewN _ _ _) (congrArg (World.drewN _) (Nat.add_assoc _ _ _))⟩)))
            repeat (go_quiet (first | (go_at_call 10; (with_reducible refine (spec_textBlank.calls (bt a0 x9_3) t143 _ A74.out).mono ?_); rintro e w' ⟨rfl, ⟨nd, rfl⟩⟩; (try first | exact ⟨rfl, _, World.drewN_drewN _ _ _⟩ | exact ⟨rfl, _, Eq.trans (World.drewN_drewN _ _ _) (congrArg (World.drewN _) (Nat.add_assoc _ _ _))⟩))); try go_wp2_with (first | (go_at_call 10; (with_reducible refine (spec_textBlank.calls (bt a0 x9_3) t143 _ A74.out).mono ?_); rintro e w' ⟨rfl, ⟨nd, rfl⟩⟩; (try first | exact ⟨rfl, _, World.drewN_drewN _ _ _⟩ | exact ⟨rfl, _, Eq.trans (World.drewN_drewN _ _ _) (congrArg (World.drewN _) (Nat.add_assoc _ _ _))⟩))))
            go_meet
            case rel => exact ⟨_, (!t143), (by first | rfl | (simp; done) | (simp [*]; done)), H', ⟨by have := HK1.out; have := HJ9.out; have := HK3.out; first | omega | exact Nat.le_refl _⟩, ⟨by repeat (first | (with_reducible first | exact HB.out | apply below_alloc | apply pw_below_drewN | apply below_drew1) | exact HB.out)⟩⟩
           ·rw [if_neg c72] at H
            exact absurd H (by simp)
          ·rw [if_neg c71] at H
           have c71b0 : decide (x9_3 < (a0.size : Int)) = false := decide_eq_false c71
           clear c71
           (first | rw [c71b0] | (simp only [i64_w, i32_w]; rw [c71b0]) | skip)
           have H' := Aside0.mk H
           clear H
           go_wp2
           repeat (go_quiet (fail); try go_wp2)
           go_meet
           case rel => exact ⟨_, (false), (by first | rfl | (simp; done) | (simp [*]; done)), H', ⟨by have := HK1.out; have := HJ9.out; have := HK3.out; first | omega | exact Nat.le_refl _⟩, ⟨by repeat (first | (with_reducible first | exact HB.out | apply below_alloc | apply pw_below_drewN | apply below_drew1) | exact HB.out)⟩⟩
         case rest => as_aux_lemma =>
          clear HC70
          try clear c1
          try clear c2
          try clear c2b0
          try clear p2
          try clear q2
          try clear hx2
          try clear c3
          try clear c3b0
          try clear c3b1
          try clear p3
          try clear q3
          try clear hx3
          try clear c4
          try clear p4
          try clear q4
          try clear hx4
          try clear qi4
          try clear c5
          try clear c5b0
          try clear p5
          try clear q5
          try clear hx5
          try clear qi5
          try clear c6
          try clear p6
          try clear q6
          try clear hx6
          try clear c7
          try clear c7b0
          try clear c7b1
          try clear p7
          try clear q7
          try clear hx7
          try clear c8
          try clear c8b0
          try clear c8b1
          try clear p9
          try clear q9
          try clear hx9
          try clear qi9
          try clear c11
          try clear c12
          try clear c12b0
          try clear c12b1
          try clear c13
          try clear c13b0
          try clear c13b1
          try clear c15
          try clear c19
          try clear c20
          try clear c20b0
          try clear c21
          try clear c21b0
          try clear p22
          try clear q22
          try clear hx22
          try clear c24
          try clear p25
          try clear q25
          try clear hx25
          try clear c26
          try clear c26b0
          try clear c26b1
          try clear p27
          try clear q27
          try clear hx27
          try clear c28
          try clear c28b0
          try clear c28b1
          try clear p29
          try clear q29
          try clear hx29
          try clear c30
          try clear c30b0
          try clear c30b1
          try clear p31
          try clear q31
          try clear hx31
          try clear c32
          try clear c33
          try clear c33b0
          try clear c34
          try clear c34b0
          try clear p35
          try clear q35
          try clear hx35
          try clear c37
          try clear p38
          try clear q38
          try clear hx38
          try clear p39
          try clear q39
          try clear hx39
          try clear c40
          try clear c40b0
          try clear c40b1
          try clear p41
          try clear q41
          try clear hx41
          try clear c43
          try clear c43b0
          try clear c43b1
          try clear c44
          try clear c47
          try clear c47b0
          try clear c47b1
          try clear c48
          try clear c48b0
          try clear c48b1
          try clear c49
          try clear c49b0
          try clear c49b1
          try clear p50
          try clear q50
          try clear hx50
          try clear qi50
          try clear c51
          try clear c51b0
          try clear c51b1
          try clear p52
          try clear q52
          try clear hx52
          try clear qi52
          try clear c53
          try clear c56
          try clear c56b0
          try clear c56b1
          try clear c57
          try clear c57b0
          try clear c57b1
          try clear c58
          try clear c58b0
          try clear c58b1
          try clear c59
          try clear c59b0
          try clear c59b1
          try clear c60
          try clear c63
          try clear c63b0
          try clear c63b1
          try clear c64
          try clear c64b0
          try clear c64b1
          try clear p64
          try clear c65
          try clear c65b0
          try clear c65b1
          try clear c66
          try clear c66b0
          try clear c66b1
          try clear c67
          try clear c67b0
          try clear c67b1
          try clear c71
          try clear c71b0
          try clear c72
          try clear c72b0
          try clear p73
          try clear q73
          try clear hx73
          try clear p2
          try clear p22
          try clear p25
          try clear p27
          try clear p29
          try clear p3
          try clear p31
          try clear p35
          try clear p38
          try clear p39
          try clear p4
          try clear p41
          try clear p5
          try clear p50
          try clear p52
          try clear p6
          try clear p64
          try clear p73
          try clear p9
          try clear q2
          try clear q22
          try clear q25
          try clear q27
          try clear q29
          try clear q3
          try clear q31
          try clear q35
          try clear q38
          try clear q39
          try clear q4
          try clear q41
          try clear q5
          try clear q50
          try clear q52
          try clear q6
          try clear q73
          try clear q9
          obtain ⟨kq, x181_69, rfl, HA, HJ69, HB⟩ := hcut
          cases kq with
          | zero => exact absurd HA.out (by simp [spec_token.j8])
          | succ kj69 =>
           have H := HA.out
           clear HA
           simp only [spec_token.j8] at H
           by_cases c75 : x181_69 = true
           ·subst c75
            have H1 : (if 0 ≤ x9_3 then (if x9_3 < (a0.size : Int) then (if (bt a0 x9_3) ≥ 128 then (some (0, 0, false)) else (spec_token.l1 kj69 a0 (wrap64 (x9_3 + 1)))) else (none)) else (none)) = some (r1, r2, r3) := by rw [if_pos rfl] at H; exact H
            clear H
            have H := H1
            clear H1
            by_cases c76 : 0 ≤ x9_3
            ·rw [if_pos c76] at H
             have c76b0 : decide (0 ≤ x9_3) = true := decide_eq_true c76
             clear c76
             by_cases c77 : x9_3 < (a0.size : Int)
             ·rw [if_pos c77] at H
              have c77b0 : decide (x9_3 < (a0.size : Int)) = true := decide_eq_true c77
              clear c77
              by_cases c79 : (bt a0 x9_3) ≥ 128
              ·rw [if_pos c79] at H
               have c79b0 : decide (128 ≤ (bt a0 x9_3)) = true := decide_eq_true c79
               clear c79
               simp only [Option.some.injEq, Prod.mk.injEq] at H
               obtain ⟨rfl, rfl, rfl⟩ := H
               have p78 : 0 ≤ (x9_3 : Int) := of_decide_eq_true (by first | (with_reducible assumption) | assumption)
               have q78 : x9_3 < (a0.size : Int) := of_decide_eq_true (by first | (with_reducible assumption) | assumption)
               have hx78 := bt_at a0 x9_3
               replace p78 := eq_true p78
               replace q78 := eq_true q78
               go_wp2
               repeat (go_quiet (fail); try go_wp2)
               go_ret3
               exact ⟨by first | rfl | (simp [errW_none, errW_some] <;> rfl) | (simp [*, errW_none, errW_some] <;> rfl) | (simp (disch := omega) only [wrap64_id] <;> rfl), by repeat (first | (with_reducible first | exact HB.out | apply below_alloc | apply pw_below_drewN | apply below_drew1) | exact HB.out)⟩
              ·rw [if_neg c79] at H
               have c79b0 : decide (128 ≤ (bt a0 x9_3)) = false := decide_eq_false c79
               clear c79
               have H' := Aside0.mk H
               clear H
               have p78 : 0 ≤ (x9_3 : Int) := of_decide_eq_true (by first | (with_reducible assumption) | assumption)
               have q78 : x9_3 < (a0.size : Int) := of_decide_eq_true (by first | (with_reducible assumption) | assumption)
               have hx78 := bt_at a0 x9_3
               replace p78 := eq_true p78
               replace q78 := eq_true q78
               go_wp2
               repeat (go_quiet (fail); try go_wp2)
               go_roundg kj69
               case measure => have := HK1.out; have := HJ9.out; have := HK3.out; have := HJ69.out; omega
               case rel => exact ⟨(wrap64 (x9_3 + 1)), (by first | rfl | (simp; done) | (simp [*]; done)), H', ⟨by have := HK1.out; have := HJ9.out; have := HK3.out; have := HJ69.out; omega⟩, ⟨by repeat (first | (with_reducible first | exact HB.out | apply below_alloc | apply pw_below_drewN | apply below_drew1) | exact HB.out)⟩⟩
             ·rw [if_neg c77] at H
              exact absurd H (by simp)
            ·rw [if_neg c76] at H
             exact absurd H (by simp)
           ·replace c75 := Bool.eq_false_iff.mpr c75
            subst c75
            have H1 : (if 0 < (a0.size : Int) then (if (bt a0 0) = 64 then (if 0 ≤ x9_3 then (if x9_3 ≤ (a0.size : Int) then ((spec_paired.f kj69 (a0.extract 0 (x9_3 : Int).toNat)).bind fun t144 => (if t144 = true then (if 1 ≤ x9_3 then ((spec_Valid.f kj69 (a0.extract 1 (x9_3 : Int).toNat)).bind fun t145 => (if t145 = true then ((spec_plainTypes.f kj69 (a0.extract 1 (x9_3 : Int).toNat)).bind fun t146 => (spec_token.j9 kj69 a0 x9_3 (!t146))) else (spec_token.j9 kj69 a0 x9_3 (!false)))) else (none)) else (spec_token.j9 kj69 a0 x9_3 false))) else (none)) else (none)) else (spec_token.j9 kj69 a0 x9_3 false)) else (none)) = some (r1, r2, r3) := by rw [if_neg (show ¬ (false = true) by decide)] at H; exact H
            clear H
            have H := H1
            clear H1
            have HC80 := Aside0.mk H
            clear H
            go_upto_region 27 with (fail)
            repeat (go_quiet (fail); go_upto_region 27 with (fail))
            go_cut [209] (fun v209 wc => ∃ (kq : Nat) (x209_79 : Bool), v209 = .bool x209_79 ∧ Aside0 (spec_token.j9 kq a0 x9_3 x209_79 = some (r1, r2, r3)) ∧ Aside0 (kq ≤ kj69) ∧ Aside0 (Below w.heap.size w wc))
            case first => as_aux_lemma =>
             have H := HC80.out
             clear HC80
             by_cases c81 : 0 < (a0.size : Int)
             ·rw [if_pos c81] at H
              have c81b0 : decide (0 < (a0.size : Int)) = true := decide_eq_true c81
              have c81b1 : decide (0 < a0.size) = true := decide_eq_true (by omega)
              clear c81
              (first | rw [c81b0] | (simp only [i64_w, i32_w]; rw [c81b0]) | skip)
              by_cases c83 : (bt a0 0) = 64
              ·rw [if_pos c83] at H
               have c83b0 : ((bt a0 0) == 64) = true := beq_iff_eq.mpr c83
               have c83b1 : ((bt a0 0) != 64) = false := bne_eq_false_iff_eq.mpr c83
               clear c83
               by_cases c84 : 0 ≤ x9_3
               ·rw [if_pos c84] at H
                have c84b0 := eq_true c84
                have c84b1 : decide (0 ≤ x9_3) = true := decide_eq_true c84
                clear c84
                by_cases c85 : x9_3 ≤ (a0.size : Int)
                ·rw [if_pos c85] at H
                 have c85b0 := eq_true c85
                 have c85b1 : decide (x9_3 ≤ (a0.size : Int)) = true := decide_eq_true c85
                 clear c85
                 replace H := Option.bind_eq_some_iff.mp H
                 obtain ⟨t144, A860, H⟩ := H
                 replace H : (if t144 = true then (if 1 ≤ x9_3 then ((spec_Valid.f kj69 (a0.extract 1 (x9_3 : Int).toNat)).bind fun t145 => (if t145 = true then ((spec_plainTypes.f kj69 (a0.extract 1 (x9_3 : Int).toNat)).bind fun t146 => (spec_token.j9 kj69 a0 x9_3 (!t146))) else (spec_token.j9 kj69 a0 x9_3 (!false)))) else (none)) else (spec_token.j9 kj69 a0 x9_3 false)) = some (r1, r2, r3) := H
                 have A86 := Aside0.mk A860
                 clear A860
                 by_cases c87 : t144 = true
                 ·subst c87
                  have H1 : (if 1 ≤ x9_3 then ((spec_Valid.f kj69 (a0.extract 1 (x9_3 : Int).toNat)).bind fun t145 => (if t145 = true then ((spec_plainTypes.f kj69 (a0.extract 1 (x9_3 : Int).toNat)).bind fun t146 => (spec_token.j9 kj69 a0 x9_3 (!t146))) else (spec_token.j9 kj69 a0 x9_3 (!false)))) else (none)) = some (r1, r2, r3) := by rw [if_pos rfl] at H; exact H
                  clear H
                  have H := H1
                  clear H1
                  by_cases c88 : 1 ≤ x9_3
                  ·rw [if_pos c88] at H
                   have c88b0 := eq_true c88
                   have c88b1 : decide (1 ≤ x9_3) = true := decide_eq_true c88
                   clear c88
                   have c89b0 := eq_true (of_decide_eq_true (by first | (with_reducible assumption) | assumption) : x9_3 ≤ (a0.size : Int))
                   replace H := Option.bind_eq_some_iff.mp H
                   obtain ⟨t145, A900, H⟩ := H
                   replace H : (if t145 = true then ((spec_plainTypes.f kj69 (a0.extract 1 (x9_3 : Int).toNat)).bind fun t146 => (spec_token.j9 kj69 a0 x9_3 (!t146))) else (spec_token.j9 kj69 a0 x9_3 (!false))) = some (r1, r2, r3) := H
                   have A90 := Aside0.mk A900
                   clear A900
                   by_cases c91 : t145 = true
                   ·subst c91
                    have H1 : ((spec_plainTypes.f kj69 (a0.extract 1 (x9_3 : Int).toNat)).bind fun t146 => (spec_token.j9 kj69 a0 x9_3 (!t146))) = some (r1, r2, r3) := by rw [if_pos rfl] at H; exact H
                    clear H
                    have H := H1
                    clear H1
                    have c92b0 := eq_true (of_decide_eq_true (by first | (with_reducible assumption) | assumption) : 1 ≤ x9_3)
                    have c93b0 := eq_true (of_decide_eq_true (by first | (with_reducible assumption) | assumption) : x9_3 ≤ (a0.size : Int))
                    replace H := Option.bind_eq_some_iff.mp H
                    obtain ⟨t146, A940, H⟩ := H
                    replace H : (spec_token.j9 kj69 a0 x9_3 (!t146)) = some (r1, r2, r3) := H
                    have A94 := Aside0.mk A940
                    clear A940
                    have H' := Aside0.mk H
                    clear H
                    have p82 : 0 ≤ (0 : Int) := (by omega)
                    have q82 : 0 < a0.size := (by have : (0 : Int) < (a0.size : Int) := of_decide_eq_true (by first | (with_reducible assumption) | assumption); omega)
                    have hx82 : ∀ h : 0 < a0.size, ((a0[0]'h).toNat : Int) = bt a0 0 := bt_at a0 0
                    clear p82
                    have qi82 : (0 < (a0.size : Int)) = True := eq_true (of_decide_eq_true (by first | (with_reducible assumption) | assumption))
                    replace q82 := eq_true q82
                    go_wp2_with (first | (go_at_call 19; (with_reducible refine (spec_paired.calls kj69 (a0.extract 0 (x9_3 : Int).toNat) true _ A86.out).mono ?_); rintro e w' ⟨rfl, ⟨nd, rfl⟩⟩; (try first | exact ⟨rfl, _, World.drewN_drewN _ _ _⟩ | exact ⟨rfl, _, Eq.trans (World.drewN_drewN _ _ _) (congrArg (World.drewN _) (Nat.add_assoc _ _ _))⟩)) | (go_at_call 20; (with_reducible refine (spec_Valid.calls kj69 (a0.extract 1 (x9_3 : Int).toNat) true _ A90.out).mono ?_); rintro e w95 ⟨rfl, hb⟩; have n0_ := Aside0.mk (below_step (by repeat (first | (with_reducible first | exact HB.out | apply below_alloc | apply pw_below_drewN | apply below_drew1) | exact HB.out)) hb); clear HB; have HB := n0_; clear n0_; (try clear hb); (try clear hb2); (try clear hk); (try clear hi)) | (go_at_call 21; (with_reducible refine (spec_plainTypes.calls kj69 (a0.extract 1 (x9_3 : Int).toNat) t146 _ A94.out).mono ?_); rintro e w' ⟨rfl, ⟨nd, rfl⟩⟩; (try first | exact ⟨rfl, _, World.drewN_drewN _ _ _⟩ | exact ⟨rfl, _, Eq.trans (World.drewN_drewN _ _ _) (congrArg (World.drewN _) (Nat.add_assoc _ _ _))⟩)))
                    repeat (go_quiet (first | (go_at_call 19; (with_reducible refine (spec_paired.calls kj69 (a0.extract 0 (x9_3 : Int).toNat) true _ A86.out).mono ?_); rintro e w' ⟨rfl, ⟨nd, rfl⟩⟩; (try first | exact ⟨rfl, _, World.drewN_drewN _ _ _⟩ | exact ⟨rfl, _, Eq.trans (World.drewN_drewN _ _ _) (congrArg (World.drewN _) (Nat.add_assoc _ _ _))⟩)) | (go_at_call 20; (with_reducible refine (spec_Valid.calls kj69 (a0.extract 1 (x9_3 : Int).toNat) true _ A90.out).mono ?_); rintro e w95 ⟨rfl, hb⟩; have n0_ := Aside0.mk (below_step (by repeat (first | (with_reducible first | exact HB.out | apply below_alloc | apply pw_below_drewN | apply below_drew1) | exact HB.out)) hb); clear HB; have HB := n0_; clear n0_; (try clear hb); (try clear hb2); (try clear hk); (try clear hi)) | (go_at_call 21; (with_reducible refine (spec_plainTypes.calls kj69 (a0.extract 1 (x9_3 : Int).toNat) t146 _ A94.out).mono ?_); rintro e w' ⟨rfl, ⟨nd, rfl⟩⟩; (try first | exact ⟨rfl, _, World.drewN_drewN _ _ _⟩ | exact ⟨rfl, _, Eq.trans (World.drewN_drewN _ _ _) (congrArg (World.drewN _) (Nat.add_assoc _ _ _))⟩))); try go_wp2_with (first | (go_at_call 19; (with_reducible refine (spec_paired.calls kj69 (a0.extract 0 (x9_3 : Int).toNat) true _ A86.out).mono ?_); rintro e w' ⟨rfl, ⟨nd, rfl⟩⟩; (try first | exact ⟨rfl, _, World.drewN_drewN _ _ _⟩ | exact ⟨rfl, _, Eq.trans (World.drewN_drewN _ _ _) (congrArg (World.drewN _) (Nat.add_assoc _ _ _))⟩)) | (go_at_call 20; (with_reducible refine (spec_Valid.calls kj69 (a0.extract 1 (x9_3 : Int).toNat) true _ A90.out).mono ?_); rintro e w95 ⟨rfl, hb⟩; have n0_ := Aside0.mk (below_step (by repeat (first | (with_reducible first | exact HB.out | apply below_alloc | apply pw_below_drewN | apply below_drew1) | exact HB.out)) hb); clear HB; have HB := n0_; clear n0_; (try clear hb); (try clear hb2); (try clear hk); (try clear hi)) | (go_at_call 21; (with_reducible refine (spec_plainTypes.calls kj69 (a0.extract 1 (x9_3 : Int).toNat) t146 _ A94.out).mono ?_); rintro e w' ⟨rfl, ⟨nd, rfl⟩⟩; (try first | exact ⟨rfl, _, World.drewN_drewN _ _ _⟩ | exact ⟨rfl, _, Eq.trans (World.drewN_drewN _ _ _) (congrArg (World.drewN _) (Nat.add_assoc _ _ _))⟩))))
                    go_meet
                    case rel => exact ⟨_, (!t146), (by first | rfl | (simp; done) | (simp [*]; done)), H', ⟨by have := HK1.out; have := HJ9.out; have := HK3.out; have := HJ69.out; first | omega | exact Nat.le_refl _⟩, ⟨by repeat (first | (with_reducible first | exact HB.out | apply below_alloc | apply pw_below_drewN | apply below_drew1) | exact HB.out)⟩⟩
                   ·replace c91 := Bool.eq_false_iff.mpr c91
                    subst c91
                    have H1 : (spec_token.j9 kj69 a0 x9_3 (!false)) = some (r1, r2, r3) := by rw [if_neg (show ¬ (false = true) by decide)] at H; exact H
                    clear H
                    have H := H1
                    clear H1
                    have H' := Aside0.mk H
                    clear H
                    have p82 : 0 ≤ (0 : Int) := (by omega)
                    have q82 : 0 < a0.size := (by have : (0 : Int) < (a0.size : Int) := of_decide_eq_true (by first | (with_reducible assumption) | assumption); omega)
                    have hx82 : ∀ h : 0 < a0.size, ((a0[0]'h).toNat : Int) = bt a0 0 := bt_at a0 0
                    clear p82
                    have qi82 : (0 < (a0.size : Int)) = True := eq_true (of_decide_eq_true (by first | (with_reducible assumption) | assumption))
                    replace q82 := eq_true q82
                    go_wp2_with (first | (go_at_call 19; (with_reducible refine (spec_paired.calls kj69 (a0.extract 0 (x9_3 : Int).toNat) true _ A86.out).mono ?_); rintro e w' ⟨rfl, ⟨nd, rfl⟩⟩; (try first | exact ⟨rfl, _, World.drewN_drewN _ _ _⟩ | exact ⟨rfl, _, Eq.trans (World.drewN_drewN _ _ _) (congrArg (World.drewN _) (Nat.add_assoc _ _ _))⟩)) | (go_at_call 20; (with_reducible refine (spec_Valid.calls kj69 (a0.extract 1 (x9_3 : Int).toNat) false _ A90.out).mono ?_); rintro e w96 ⟨rfl, hb⟩; have n0_ := Aside0.mk (below_step (by repeat (first | (with_reducible first | exact HB.out | apply below_alloc | apply pw_below_drewN | apply below_drew1) | exact HB.out)) hb); clear HB; have HB := n0_; clear n0_; (try clear hb); (try clear hb2); (try clear hk); (try clear hi)))
                    repeat (go_quiet (first | (go_at_call 19; (with_reducible refine (spec_paired.calls kj69 (a0.extract 0 (x9_3 : Int).toNat) true _ A86.out).mono ?_); rintro e w' ⟨rfl, ⟨nd, rfl⟩⟩; (try first | exact ⟨rfl, _, World.drewN_drewN _ _ _⟩ | exact ⟨rfl, _, Eq.trans (World.drewN_drewN _ _ _) (congrArg (World.drewN _) (Nat.add_assoc _ _ _))⟩)) | (go_at_call 20; (with_reducible refine (spec_Valid.calls kj69 (a0.extract 1 (x9_3 : Int).toNat) false _ A90.out).mono ?_); rintro e w96 ⟨rfl, hb⟩; have n0_ := Aside0.mk (below_step (by repeat (first | (with_reducible first | exact HB.out | apply below_alloc | apply pw_below_drewN | apply below_drew1) | exact HB.out)) hb); clear HB; have HB := n0_; clear n0_; (try clear hb); (try clear hb2); (try clear hk); (try clear hi))); try go_wp2_with (first | (go_at_call 19; (with_reducible refine (spec_paired.calls kj69 (a0.extract 0 (x9_3 : Int).toNat) true _ A86.out).mono ?_); rintro e w' ⟨rfl, ⟨nd, rfl⟩⟩; (try first | exact ⟨rfl, _, World.drewN_drewN _ _ _⟩ | exact ⟨rfl, _, Eq.trans (World.drewN_drewN _ _ _) (congrArg (World.drewN _) (Nat.add_assoc _ _ _))⟩)) | (go_at_call 20; (with_reducible refine (spec_Valid.calls kj69 (a0.extract 1 (x9_3 : Int).toNat) false _ A90.out).mono ?_); rintro e w96 ⟨rfl, hb⟩; have n0_ := Aside0.mk (below_step (by repeat (first | (with_reducible first | exact HB.out | apply below_alloc | apply pw_below_drewN | apply below_drew1) | exact HB.out)) hb); clear HB; have HB := n0_; clear n0_; (try clear hb); (try clear hb2); (try clear hk); (try clear hi))))
                    go_meet
                    case rel => exact ⟨_, (!false), (by first | rfl | (simp; done) | (simp [*]; done)), H', ⟨by have := HK1.out; have := HJ9.out; have := HK3.out; have := HJ69.out; first | omega | exact Nat.le_refl _⟩, ⟨by repeat (first | (with_reducible first | exact HB.out | apply below_alloc | apply pw_below_drewN | apply below_drew1) | exact HB.out)⟩⟩
                  ·rw [if_neg c88] at H
                   exact absurd H (by simp)
                 ·replace c87 := Bool.eq_false_iff.mpr c87
                  subst c87
                  have H1 : (spec_token.j9 kj69 a0 x9_3 false) = some (r1, r2, r3) := by rw [if_neg (show ¬ (false = true) by decide)] at H; exact H
                  clear H
                  have H := H1
                  clear H1
                  have H' := Aside0.mk H
                  clear H
                  have p82 : 0 ≤ (0 : Int) := (by omega)
                  have q82 : 0 < a0.size := (by have : (0 : Int) < (a0.size : Int) := of_decide_eq_true (by first | (with_reducible assumption) | assumption); omega)
                  have hx82 : ∀ h : 0 < a0.size, ((a0[0]'h).toNat : Int) = bt a0 0 := bt_at a0 0
                  clear p82
                  have qi82 : (0 < (a0.size : Int)) = True := eq_true (of_decide_eq_true (by first | (with_reducible assumption) | assumption))
                  replace q82 := eq_true q82
                  go_wp2_with (first | (go_at_call 19; (with_reducible refine (spec_paired.calls kj69 (a0.extract 0 (x9_3 : Int).toNat) false _ A86.out).mono ?_); rintro e w' ⟨rfl, ⟨nd, rfl⟩⟩; (try first | exact ⟨rfl, _, World.drewN_drewN _ _ _⟩ | exact ⟨rfl, _, Eq.trans (World.drewN_drewN _ _ _) (congrArg (World.drewN _) (Nat.add_assoc _ _ _))⟩)))
                  repeat (go_quiet (first | (go_at_call 19; (with_reducible refine (spec_paired.calls kj69 (a0.extract 0 (x9_3 : Int).toNat) false _ A86.out).mono ?_); rintro e w' ⟨rfl, ⟨nd, rfl⟩⟩; (try first | exact ⟨rfl, _, World.drewN_drewN _ _ _⟩ | exact ⟨rfl, _, Eq.trans (World.drewN_drewN _ _ _) (congrArg (World.drewN _) (Nat.add_assoc _ _ _))⟩))); try go_wp2_with (first | (go_at_call 19; (with_reducible refine (spec_paired.calls kj69 (a0.extract 0 (x9_3 : Int).toNat) false _ A86.out).mono ?_); rintro e w' ⟨rfl, ⟨nd, rfl⟩⟩; (try first | exact ⟨rfl, _, World.drewN_drewN _ _ _⟩ | exact ⟨rfl, _, Eq.trans (World.drewN_drewN _ _ _) (congrArg (World.drewN _) (Nat.add_assoc _ _ _))⟩))))
                  go_meet
                  case rel => exact ⟨_, (false), (by first | rfl | (simp; done) | (simp [*]; done)), H', ⟨by have := HK1.out; have := HJ9.out; have := HK3.out; have := HJ69.out; first | omega | exact Nat.le_refl _⟩, ⟨by repeat (first | (with_reducible first | exact HB.out | apply below_alloc | apply pw_below_drewN | apply below_drew1) | exact HB.out)⟩⟩
                ·rw [if_neg c85] at H
                 exact absurd H (by simp)
               ·rw [if_neg c84] at H
                exact absurd H (by simp)
              ·rw [if_neg c83] at H
               have c83b0 : ((bt a0 0) == 64) = false := beq_eq_false_iff_ne.mpr c83
               have c83b1 : ((bt a0 0) != 64) = true := bne_iff_ne.mpr c83
               have H' := Aside0.mk H
               clear H
               have p82 : 0 ≤ (0 : Int) := (by omega)
               have q82 : 0 < a0.size := (by have : (0 : Int) < (a0.size : Int) := of_decide_eq_true (by first | (with_reducible assumption) | assumption); omega)
               have hx82 : ∀ h : 0 < a0.size, ((a0[0]'h).toNat : Int) = bt a0 0 := bt_at a0 0
               clear p82
               have qi82 : (0 < (a0.size : Int)) = True := eq_true (of_decide_eq_true (by first | (with_reducible assumption) | assumption))
               replace q82 := eq_true q82
               go_wp2
               repeat (go_quiet (fail); try go_wp2)
               go_meet
               case rel => exact ⟨_, (false), (by first | rfl | (simp; done) | (simp [*]; done)), H', ⟨by have := HK1.out; have := HJ9.out; have := HK3.out; have := HJ69.out; first | omega | exact Nat.le_refl _⟩, ⟨by repeat (first | (with_reducible first | exact HB.out | apply below_alloc | apply pw_below_drewN | apply below_drew1) | exact HB.out)⟩⟩
             ·rw [if_neg c81] at H
              exact absurd H (by simp)
            case rest => as_aux_lemma =>
             clear HC80
             try clear c1
             try clear c2
             try clear c2b0
             try clear p2
             try clear q2
             try clear hx2
             try clear c3
             try clear c3b0
             try clear c3b1
             try clear p3
             try clear q3
             try clear hx3
             try clear c4
             try clear p4
             try clear q4
             try clear hx4
             try clear qi4
             try clear c5
             try clear c5b0
             try clear p5
             try clear q5
             try clear hx5
             try clear qi5
             try clear c6
             try clear p6
             try clear q6
             try clear hx6
             try clear c7
             try clear c7b0
             try clear c7b1
             try clear p7
             try clear q7
             try clear hx7
             try clear c8
             try clear c8b0
             try clear c8b1
             try clear p8
             try clear q8
             try clear hx8
             try clear qi8
             try clear c9
             try clear p9
             try clear q9
             try clear hx9
             try clear qi9
             try clear c11
             try clear c12
             try clear c12b0
             try clear c12b1
             try clear c13
             try clear c13b0
             try clear c13b1
             try clear c15
             try clear c19
             try clear c20
             try clear c20b0
             try clear c21
             try clear c21b0
             try clear p22
             try clear q22
             try clear hx22
             try clear c24
             try clear p25
             try clear q25
             try clear hx25
             try clear c26
             try clear c26b0
             try clear c26b1
             try clear p27
             try clear q27
             try clear hx27
             try clear c28
             try clear c28b0
             try clear c28b1
             try clear p29
             try clear q29
             try clear hx29
             try clear c30
             try clear c30b0
             try clear c30b1
             try clear p31
             try clear q31
             try clear hx31
             try clear c32
             try clear c33
             try clear c33b0
             try clear c34
             try clear c34b0
             try clear p35
             try clear q35
             try clear hx35
             try clear c37
             try clear p38
             try clear q38
             try clear hx38
             try clear p39
             try clear q39
             try clear hx39
             try clear c40
             try clear c40b0
             try clear c40b1
             try clear p41
             try clear q41
             try clear hx41
             try clear c43
             try clear c43b0
             try clear c43b1
             try clear c44
             try clear c47
             try clear c47b0
             try clear c47b1
             try clear c48
             try clear c48b0
             try clear c48b1
             try clear c49
             try clear c49b0
             try clear c49b1
             try clear p50
             try clear q50
             try clear hx50
             try clear qi50
             try clear c51
             try clear c51b0
             try clear c51b1
             try clear p52
             try clear q52
             try clear hx52
             try clear qi52
             try clear c53
             try clear c56
             try clear c56b0
             try clear c56b1
             try clear c57
             try clear c57b0
             try clear c57b1
             try clear c58
             try clear c58b0
             try clear c58b1
             try clear c59
             try clear c59b0
             try clear c59b1
             try clear c60
             try clear c63
             try clear c63b0
             try clear c63b1
             try clear c64
             try clear c64b0
             try clear c64b1
             try clear p64
             try clear c65
             try clear c65b0
             try clear c65b1
             try clear c66
             try clear c66b0
             try clear c66b1
             try clear c67
             try clear c67b0
             try clear c67b1
             try clear c71
             try clear c71b0
             try clear c72
             try clear c72b0
             try clear p73
             try clear q73
             try clear hx73
             try clear c75
             try clear c76
             try clear c76b0
             try clear c77
             try clear c77b0
             try clear p78
             try clear q78
             try clear hx78
             try clear c79
             try clear c79b0
             try clear c81
             try clear c81b0
             try clear c81b1
             try clear p82
             try clear q82
             try clear hx82
             try clear qi82
             try clear c83
             try clear c83b0
             try clear c83b1
             try clear c84
             try clear c84b0
             try clear c84b1
             try clear c85
             try clear c85b0
             try clear c85b1
             try clear c87
             try clear c88
             try clear c88b0
             try clear c88b1
             try clear c89
             try clear c89b0
             try clear c91
             try clear c92
             try clear c92b0
             try clear c93
             try clear c93b0
             try clear p2
             try clear p22
             try clear p25
             try clear p27
             try clear p29
             try clear p3
             try clear p31
             try clear p35
             try clear p38
             try clear p39
             try clear p4
             try clear p41
             try clear p5
             try clear p50
             try clear p52
             try clear p6
             try clear p64
             try clear p7
             try clear p73
             try clear p78
             try clear p82
             try clear p9
             try clear q2
             try clear q22
             try clear q25
             try clear q27
             try clear q29
             try clear q3
             try clear q31
             try clear q35
             try clear q38
             try clear q39
             try clear q4
             try clear q41
             try clear q5
             try clear q50
             try clear q52
             try clear q6
             try clear q7
             try clear q73
             try clear q78
             try clear q82
             try clear q9
             obtain ⟨kq, x209_79, rfl, HA, HJ79, HB⟩ := hcut
             cases kq with
             | zero => exact absurd HA.out (by simp [spec_token.j9])
             | succ kj79 =>
              have H := HA.out
              clear HA
              simp only [spec_token.j9] at H
              by_cases c97 : x209_79 = true
              ·subst c97
               have H1 : (some (0, 0, false)) = some (r1, r2, r3) := by rw [if_pos rfl] at H; exact H
               clear H
               have H := H1
               clear H1
               simp only [Option.some.injEq, Prod.mk.injEq] at H
               obtain ⟨rfl, rfl, rfl⟩ := H
               go_wp2
               repeat (go_quiet (fail); try go_wp2)
               go_ret3
               exact ⟨by first | rfl | (simp [errW_none, errW_some] <;> rfl) | (simp [*, errW_none, errW_some] <;> rfl) | (simp (disch := omega) only [wrap64_id] <;> rfl), by repeat (first | (with_reducible first | exact HB.out | apply below_alloc | apply pw_below_drewN | apply below_drew1) | exact HB.out)⟩
              ·replace c97 := Bool.eq_false_iff.mpr c97
               subst c97
               have H1 : (if 0 ≤ x9_3 then (if x9_3 ≤ (a0.size : Int) then ((spec_typeNamed.f kj79 (a0.extract 0 (x9_3 : Int).toNat)).bind fun bt147 => (if bt147.2 = true then (some (x9_3, 13, true)) else (if 0 < (a0.size : Int) then (if (bt a0 0) = 64 then (if 1 ≤ x9_3 then ((spec_Valid.f kj79 (a0.extract 1 (x9_3 : Int).toNat)).bind fun t149 => (if t149 = true then (some (x9_3, 13, true)) else (if (a0.extract 0 (x9_3 : Int).toNat).toList = ([100, 111, 117, 98, 108, 101] : List UInt8) then (some (x9_3, 13, true)) else (some (0, 1, true))))) else (none)) else (if (a0.extract 0 (x9_3 : Int).toNat).toList = ([100, 111, 117, 98, 108, 101] : List UInt8) then (some (x9_3, 13, true)) else (some (0, 1, true)))) else (none)))) else (none)) else (none)) = some (r1, r2, r3) := by rw [if_neg (show ¬ (false = true) by decide)] at H; exact H
               clear H
               have H := H1
               clear H1
               by_cases c98 : 0 ≤ x9_3
               ·rw [if_pos c98] at H
                have c98b0 := eq_true c98
                have c98b1 : decide (0 ≤ x9_3) = true := decide_eq_true c98
                clear c98
                by_cases c99 : x9_3 ≤ (a0.size : Int)
                ·rw [if_pos c99] at H
                 have c99b0 := eq_true c99
                 have c99b1 : decide (x9_3 ≤ (a0.size : Int)) = true := decide_eq_true c99
                 clear c99
                 replace H := Option.bind_eq_some_iff.mp H
                 obtain ⟨⟨t147, t148⟩, A1000, H⟩ := H
                 replace H : (if t148 = true then (some (x9_3, 13, true)) else (if 0 < (a0.size : Int) then (if (bt a0 0) = 64 then (if 1 ≤ x9_3 then ((spec_Valid.f kj79 (a0.extract 1 (x9_3 : Int).toNat)).bind fun t149 => (if t149 = true then (some (x9_3, 13, true)) else (if (a0.extract 0 (x9_3 : Int).toNat).toList = ([100, 111, 117, 98, 108, 101] : List UInt8) then (some (x9_3, 13, true)) else (some (0, 1, true))))) else (none)) else (if (a0.extract 0 (x9_3 : Int).toNat).toList = ([100, 111, 117, 98, 108, 101] : List UInt8) then (some (x9_3, 13, true)) else (some (0, 1, true)))) else (none))) = some (r1, r2, r3) := H
                 have A100 := Aside0.mk A1000
                 clear A1000
                 by_cases c101 : t148 = true
                 ·subst c101
                  have H1 : (some (x9_3, 13, true)) = some (r1, r2, r3) := by rw [if_pos rfl] at H; exact H
                  clear H
                  have H := H1
                  clear H1
                  simp only [Option.some.injEq, Prod.mk.injEq] at H
                  obtain ⟨rfl, rfl, rfl⟩ := H
                  go_wp2_with (first | (go_at_call 22; (with_reducible refine (spec_typeNamed.calls kj79 (a0.extract 0 (x9_3 : Int).toNat) t147 true _ A100.out).mono ?_); rintro e w102 ⟨rfl, hb⟩; have n0_ := Aside0.mk (below_step (by repeat (first | (with_reducible first | exact HB.out | apply below_alloc | apply pw_below_drewN | apply below_drew1) | exact HB.out)) hb); clear HB; have HB := n0_; clear n0_; (try clear hb); (try clear hb2); (try clear hk); (try clear hi)))
                  repeat (go_quiet (first | (go_at_call 22; (with_reducible refine (spec_typeNamed.calls kj79 (a0.extract 0 (x9_3 : Int).toNat) t147 true _ A100.out).mono ?_); rintro e w102 ⟨rfl, hb⟩; have n0_ := Aside0.mk (below_step (by repeat (first | (with_reducible first | exact HB.out | apply below_alloc | apply pw_below_drewN | apply below_drew1) | exact HB.out)) hb); clear HB; have HB := n0_; clear n0_; (try clear hb); (try clear hb2); (try clear hk); (try clear hi))); try go_wp2_with (first | (go_at_call 22; (with_reducible refine (spec_typeNamed.calls kj79 (a0.extract 0 (x9_3 : Int).toNat) t147 true _ A100.out).mono ?_); rintro e w102 ⟨rfl, hb⟩; have n0_ := Aside0.mk (below_step (by repeat (first | (with_reducible first | exact HB.out | apply below_alloc | apply pw_below_drewN | apply below_drew1) | exact HB.out)) hb); clear HB; have HB := n0_; clear n0_; (try clear hb); (try clear hb2); (try clear hk); (try clear hi))))
                  go_ret3
                  exact ⟨by first | rfl | (simp [errW_none, errW_some] <;> rfl) | (simp [*, errW_none, errW_some] <;> rfl) | (simp (disch := omega) only [wrap64_id] <;> rfl), by repeat (first | (with_reducible first | exact HB.out | apply below_alloc | apply pw_below_drewN | apply below_drew1) | exact HB.out)⟩
                 ·replace c101 := Bool.eq_false_iff.mpr c101
                  subst c101
                  have H1 : (if 0 < (a0.size : Int) then (if (bt a0 0) = 64 then (if 1 ≤ x9_3 then ((spec_Valid.f kj79 (a0.extract 1 (x9_3 : Int).toNat)).bind fun t149 => (if t149 = true then (some (x9_3, 13, true)) else (if (a0.extract 0 (x9_3 : Int).toNat).toList = ([100, 111, 117, 98, 108, 101] : List UInt8) then (some (x9_3, 13, true)) else (some (0, 1, true))))) else (none)) else (if (a0.extract 0 (x9_3 : Int).toNat).toList = ([100, 111, 117, 98, 108, 101] : List UInt8) then (some (x9_3, 13, true)) else (some (0, 1, true)))) else (none)) = some (r1, r2, r3) := by rw [if_neg (show ¬ (false = true) by decide)] at H; exact H
                  clear H
                  have H := H1
                  clear H1
                  by_cases c103 : 0 < (a0.size : Int)
                  ·rw [if_pos c103] at H
                   have c103b0 : decide (0 < (a0.size : Int)) = true := decide_eq_true c103
                   have c103b1 : decide (0 < a0.size) = true := decide_eq_true (by omega)
                   clear c103
                   by_cases c105 : (bt a0 0) = 64
                   ·rw [if_pos c105] at H
                    have c105b0 : ((bt a0 0) == 64) = true := beq_iff_eq.mpr c105
                    have c105b1 : ((bt a0 0) != 64) = false := bne_eq_false_iff_eq.mpr c105
                    clear c105
                    by_cases c106 : 1 ≤ x9_3
                    ·rw [if_pos c106] at H
                     have c106b0 := eq_true c106
                     have c106b1 : decide (1 ≤ x9_3) = true := decide_eq_true c106
                     clear c106
                     have c107b0 := eq_true (of_decide_eq_true (by first | (with_reducible assumption) | assumption) : x9_3 ≤ (a0.size : Int))
                     replace H := Option.bind_eq_some_iff.mp H
                     obtain ⟨t149, A1080, H⟩ := H
                     replace H : (if t149 = true then (some (x9_3, 13, true)) else (if (a0.extract 0 (x9_3 : Int).toNat).toList = ([100, 111, 117, 98, 108, 101] : List UInt8) then (some (x9_3, 13, true)) else (some (0, 1, true)))) = some (r1, r2, r3) := H
                     have A108 := Aside0.mk A1080
                     clear A1080
                     by_cases c109 : t149 = true
                     ·subst c109
                      have H1 : (some (x9_3, 13, true)) = some (r1, r2, r3) := by rw [if_pos rfl] at H; exact H
                      clear H
                      have H := H1
                      clear H1
                      simp only [Option.some.injEq, Prod.mk.injEq] at H
                      obtain ⟨rfl, rfl, rfl⟩ := H
                      go_wp2_with (first | (go_at_call 22; (with_reducible refine (spec_typeNamed.calls kj79 (a0.extract 0 (x9_3 : Int).toNat) t147 false _ A100.out).mono ?_); rintro e w110 ⟨rfl, hb⟩; have n0_ := Aside0.mk (below_step (by repeat (first | (with_reducible first | exact HB.out | apply below_alloc | apply pw_below_drewN | apply below_drew1) | exact HB.out)) hb); clear HB; have HB := n0_; clear n0_; (try clear hb); (try clear hb2); (try clear hk); (try clear hi); have p104 : 0 ≤ (0 : Int) := (by omega); have q104 : 0 < a0.size := (by have : (0 : Int) < (a0.size : Int) := of_decide_eq_true (by first | (with_reducible assumption) | assumption); omega); have hx104 : ∀ h : 0 < a0.size, ((a0[0]'h).toNat : Int) = bt a0 0 := bt_at a0 0; clear p104; have qi104 : (0 < (a0.size : Int)) = True := eq_true (of_decide_eq_true (by first | (with_reducible assumption) | assumption)); replace q104 := eq_true q104) | (go_at_call 20; (with_reducible refine (spec_Valid.calls kj79 (a0.extract 1 (x9_3 : Int).toNat) true _ A108.out).mono ?_); rintro e w111 ⟨rfl, hb⟩; have n0_ := Aside0.mk (below_step (by repeat (first | (with_reducible first | exact HB.out | apply below_alloc | apply pw_below_drewN | apply below_drew1) | exact HB.out)) hb); clear HB; have HB := n0_; clear n0_; (try clear hb); (try clear hb2); (try clear hk); (try clear hi)))
                      repeat (go_quiet (first | (go_at_call 22; (with_reducible refine (spec_typeNamed.calls kj79 (a0.extract 0 (x9_3 : Int).toNat) t147 false _ A100.out).mono ?_); rintro e w110 ⟨rfl, hb⟩; have n0_ := Aside0.mk (below_step (by repeat (first | (with_reducible first | exact HB.out | apply below_alloc | apply pw_below_drewN | apply below_drew1) | exact HB.out)) hb); clear HB; have HB := n0_; clear n0_; (try clear hb); (try clear hb2); (try clear hk); (try clear hi); have p104 : 0 ≤ (0 : Int) := (by omega); have q104 : 0 < a0.size := (by have : (0 : Int) < (a0.size : Int) := of_decide_eq_true (by first | (with_reducible assumption) | assumption); omega); have hx104 : ∀ h : 0 < a0.size, ((a0[0]'h).toNat : Int) = bt a0 0 := bt_at a0 0; clear p104; have qi104 : (0 < (a0.size : Int)) = True := eq_true (of_decide_eq_true (by first | (with_reducible assumption) | assumption)); replace q104 := eq_true q104) | (go_at_call 20; (with_reducible refine (spec_Valid.calls kj79 (a0.extract 1 (x9_3 : Int).toNat) true _ A108.out).mono ?_); rintro e w111 ⟨rfl, hb⟩; have n0_ := Aside0.mk (below_step (by repeat (first | (with_reducible first | exact HB.out | apply below_alloc | apply pw_below_drewN | apply below_drew1) | exact HB.out)) hb); clear HB; have HB := n0_; clear n0_; (try clear hb); (try clear hb2); (try clear hk); (try clear hi))); try go_wp2_with (first | (go_at_call 22; (with_reducible refine (spec_typeNamed.calls kj79 (a0.extract 0 (x9_3 : Int).toNat) t147 false _ A100.out).mono ?_); rintro e w110 ⟨rfl, hb⟩; have n0_ := Aside0.mk (below_step (by repeat (first | (with_reducible first | exact HB.out | apply below_alloc | apply pw_below_drewN | apply below_drew1) | exact HB.out)) hb); clear HB; have HB := n0_; clear n0_; (try clear hb); (try clear hb2); (try clear hk); (try clear hi); have p104 : 0 ≤ (0 : Int) := (by omega); have q104 : 0 < a0.size := (by have : (0 : Int) < (a0.size : Int) := of_decide_eq_true (by first | (with_reducible assumption) | assumption); omega); have hx104 : ∀ h : 0 < a0.size, ((a0[0]'h).toNat : Int) = bt a0 0 := bt_at a0 0; clear p104; have qi104 : (0 < (a0.size : Int)) = True := eq_true (of_decide_eq_true (by first | (with_reducible assumption) | assumption)); replace q104 := eq_true q104) | (go_at_call 20; (with_reducible refine (spec_Valid.calls kj79 (a0.extract 1 (x9_3 : Int).toNat) true _ A108.out).mono ?_); rintro e w111 ⟨rfl, hb⟩; have n0_ := Aside0.mk (below_step (by repeat (first | (with_reducible first | exact HB.out | apply below_alloc | apply pw_below_drewN | apply below_drew1) | exact HB.out)) hb); clear HB; have HB := n0_; clear n0_; (try clear hb); (try clear hb2); (try clear hk); (try clear hi))))
                      go_ret3
                      exact ⟨by first | rfl | (simp [errW_none, errW_some] <;> rfl) | (simp [*, errW_none, errW_some] <;> rfl) | (simp (disch := omega) only [wrap64_id] <;> rfl), by repeat (first | (with_reducible first | exact HB.out | apply below_alloc | apply pw_below_drewN | apply below_drew1) | exact HB.out)⟩
                     ·replace c109 := Bool.eq_false_iff.mpr c109
                      subst c109
                      have H1 : (if (a0.extract 0 (x9_3 : Int).toNat).toList = ([100, 111, 117, 98, 108, 101] : List UInt8) then (some (x9_3, 13, true)) else (some (0, 1, true))) = some (r1, r2, r3) := by rw [if_neg (show ¬ (false = true) by decide)] at H; exact H
                      clear H
                      have H := H1
                      clear H1
                      have c112b0 := eq_true (of_decide_eq_true (by first | (with_reducible assumption) | assumption) : 0 ≤ x9_3)
                      have c113b0 := eq_true (of_decide_eq_true (by first | (with_reducible assumption) | assumption) : x9_3 ≤ (a0.size : Int))
                      by_cases c114 : (a0.extract 0 (x9_3 : Int).toNat).toList = ([100, 111, 117, 98, 108, 101] : List UInt8)
                      ·rw [if_pos c114] at H
                       have c114b0 : ((a0.extract 0 (x9_3 : Int).toNat).toList == ([100, 111, 117, 98, 108, 101] : List UInt8)) = true := beq_iff_eq.mpr c114
                       have c114b1 : ((a0.extract 0 (x9_3 : Int).toNat).toList != ([100, 111, 117, 98, 108, 101] : List UInt8)) = false := bne_eq_false_iff_eq.mpr c114
                       clear c114
                       simp only [Option.some.injEq, Prod.mk.injEq] at H
                       obtain ⟨rfl, rfl, rfl⟩ := H
                       go_wp2_with (first | (go_at_call 22; (with_reducible refine (spec_typeNamed.calls kj79 (a0.extract 0 (x9_3 : Int).toNat) t147 false _ A100.out).mono ?_); rintro e w115 ⟨rfl, hb⟩; have n0_ := Aside0.mk (below_step (by repeat (first | (with_reducible first | exact HB.out | apply below_alloc | apply pw_below_drewN | apply below_drew1) | exact HB.out)) hb); clear HB; have HB := n0_; clear n0_; (try clear hb); (try clear hb2); (try clear hk); (try clear hi); have p104 : 0 ≤ (0 : Int) := (by omega); have q104 : 0 < a0.size := (by have : (0 : Int) < (a0.size : Int) := of_decide_eq_true (by first | (with_reducible assumption) | assumption); omega); have hx104 : ∀ h : 0 < a0.size, ((a0[0]'h).toNat : Int) = bt a0 0 := bt_at a0 0; clear p104; have qi104 : (0 < (a0.size : Int)) = True := eq_true (of_decide_eq_true (by first | (with_reducible assumption) | assumption)); replace q104 := eq_true q104) | (go_at_call 20; (with_reducible refine (spec_Valid.calls kj79 (a0.extract 1 (x9_3 : Int).toNat) false _ A108.out).mono ?_); rintro e w116 ⟨rfl, hb⟩; have n0_ := Aside0.mk (below_step (by repeat (first | (with_reducible first | exact HB.out | apply below_alloc | apply pw_below_drewN | apply below_drew1) | exact HB.out)) hb); clear HB; have HB := n0_; clear n0_; (try clear hb); (try clear hb2); (try clear hk); (try clear hi)))
                       repeat (go_quiet (first | (go_at_call 22; (with_reducible refine (spec_typeNamed.calls kj79 (a0.extract 0 (x9_3 : Int).toNat) t147 false _ A100.out).mono ?_); rintro e w115 ⟨rfl, hb⟩; have n0_ := Aside0.mk (below_step (by repeat (first | (with_reducible first | exact HB.out | apply below_alloc | apply pw_below_drewN | apply below_drew1) | exact HB.out)) hb); clear HB; have HB := n0_; clear n0_; (try clear hb); (try clear hb2); (try clear hk); (try clear hi); have p104 : 0 ≤ (0 : Int) := (by omega); have q104 : 0 < a0.size := (by have : (0 : Int) < (a0.size : Int) := of_decide_eq_true (by first | (with_reducible assumption) | assumption); omega); have hx104 : ∀ h : 0 < a0.size, ((a0[0]'h).toNat : Int) = bt a0 0 := bt_at a0 0; clear p104; have qi104 : (0 < (a0.size : Int)) = True := eq_true (of_decide_eq_true (by first | (with_reducible assumption) | assumption)); replace q104 := eq_true q104) | (go_at_call 20; (with_reducible refine (spec_Valid.calls kj79 (a0.extract 1 (x9_3 : Int).toNat) false _ A108.out).mono ?_); rintro e w116 ⟨rfl, hb⟩; have n0_ := Aside0.mk (below_step (by repeat (first | (with_reducible first | exact HB.out | apply below_alloc | apply pw_below_drewN | apply below_drew1) | exact HB.out)) hb); clear HB; have HB := n0_; clear n0_; (try clear hb); (try clear hb2); (try clear hk); (try clear hi))); try go_wp2_with (first | (go_at_call 22; (with_reducible refine (spec_typeNamed.calls kj79 (a0.extract 0 (x9_3 : Int).toNat) t147 false _ A100.out).mono ?_); rintro e w115 ⟨rfl, hb⟩; have n0_ := Aside0.mk (below_step (by repeat (first | (with_reducible first | exact HB.out | apply below_alloc | apply pw_below_drewN | apply below_drew1) | exact HB.out)) hb); clear HB; have HB := n0_; clear n0_; (try clear hb); (try clear hb2); (try clear hk); (try clear hi); have p104 : 0 ≤ (0 : Int) := (by omega); have q104 : 0 < a0.size := (by have : (0 : Int) < (a0.size : Int) := of_decide_eq_true (by first | (with_reducible assumption) | assumption); omega); have hx104 : ∀ h : 0 < a0.size, ((a0[0]'h).toNat : Int) = bt a0 0 := bt_at a0 0; clear p104; have qi104 : (0 < (a0.size : Int)) = True := eq_true (of_decide_eq_true (by first | (with_reducible assumption) | assumption)); replace q104 := eq_true q104) | (go_at_call 20; (with_reducible refine (spec_Valid.calls kj79 (a0.extract 1 (x9_3 : Int).toNat) false _ A108.out).mono ?_); rintro e w116 ⟨rfl, hb⟩; have n0_ := Aside0.mk (below_step (by repeat (first | (with_reducible first | exact HB.out | apply below_alloc | apply pw_below_drewN | apply below_drew1) | exact HB.out)) hb); clear HB; have HB := n0_; clear n0_; (try clear hb); (try clear hb2); (try clear hk); (try clear hi))))
                       go_ret3
                       exact ⟨by first | rfl | (simp [errW_none, errW_some] <;> rfl) | (simp [*, errW_none, errW_some] <;> rfl) | (simp (disch := omega) only [wrap64_id] <;> rfl), by repeat (first | (with_reducible first | exact HB.out | apply below_alloc | apply pw_below_drewN | apply below_drew1) | exact HB.out)⟩
                      ·rw [if_neg c114] at H
                       have c114b0 : ((a0.extract 0 (x9_3 : Int).toNat).toList == ([100, 111, 117, 98, 108, 101] : List UInt8)) = false := beq_eq_false_iff_ne.mpr c114
                       have c114b1 : ((a0.extract 0 (x9_3 : Int).toNat).toList != ([100, 111, 117, 98, 108, 101] : List UInt8)) = true := bne_iff_ne.mpr c114
                       simp only [Option.some.injEq, Prod.mk.injEq] at H
                       obtain ⟨rfl, rfl, rfl⟩ := H
                       go_wp2_with (first | (go_at_call 22; (with_reducible refine (spec_typeNamed.calls kj79 (a0.extract 0 (x9_3 : Int).toNat) t147 false _ A100.out).mono ?_); rintro e w117 ⟨rfl, hb⟩; have n0_ := Aside0.mk (below_step (by repeat (first | (with_reducible first | exact HB.out | apply below_alloc | apply pw_below_drewN | apply below_drew1) | exact HB.out)) hb); clear HB; have HB := n0_; clear n0_; (try clear hb); (try clear hb2); (try clear hk); (try clear hi); have p104 : 0 ≤ (0 : Int) := (by omega); have q104 : 0 < a0.size := (by have : (0 : Int) < (a0.size : Int) := of_decide_eq_true (by first | (with_reducible assumption) | assumption); omega); have hx104 : ∀ h : 0 < a0.size, ((a0[0]'h).toNat : Int) = bt a0 0 := bt_at a0 0; clear p104; have qi104 : (0 < (a0.size : Int)) = True := eq_true (of_decide_eq_true (by first | (with_reducible assumption) | assumption)); replace q104 := eq_true q104) | (go_at_call 20; (with_reducible refine (spec_Valid.calls kj79 (a0.extract 1 (x9_3 : Int).toNat) false _ A108.out).mono ?_); rintro e w118 ⟨rfl, hb⟩; have n0_ := Aside0.mk (below_step (by repeat (first | (with_reducible first | exact HB.out | apply below_alloc | apply pw_below_drewN | apply below_drew1) | exact HB.out)) hb); clear HB; have HB := n0_; clear n0_; (try clear hb); (try clear hb2); (try clear hk); (try clear hi)))
                       repeat (go_quiet (first | (go_at_call 22; (with_reducible refine (spec_typeNamed.calls kj79 (a0.extract 0 (x9_3 : Int).toNat) t147 false _ A100.out).mono ?_); rintro e w117 ⟨rfl, hb⟩; have n0_ := Aside0.mk (below_step (by repeat (first | (with_reducible first | exact HB.out | apply below_alloc | apply pw_below_drewN | apply below_drew1) | exact HB.out)) hb); clear HB; have HB := n0_; clear n0_; (try clear hb); (try clear hb2); (try clear hk); (try clear hi); have p104 : 0 ≤ (0 : Int) := (by omega); have q104 : 0 < a0.size := (by have : (0 : Int) < (a0.size : Int) := of_decide_eq_true (by first | (with_reducible assumption) | assumption); omega); have hx104 : ∀ h : 0 < a0.size, ((a0[0]'h).toNat : Int) = bt a0 0 := bt_at a0 0; clear p104; have qi104 : (0 < (a0.size : Int)) = True := eq_true (of_decide_eq_true (by first | (with_reducible assumption) | assumption)); replace q104 := eq_true q104) | (go_at_call 20; (with_reducible refine (spec_Valid.calls kj79 (a0.extract 1 (x9_3 : Int).toNat) false _ A108.out).mono ?_); rintro e w118 ⟨rfl, hb⟩; have n0_ := Aside0.mk (below_step (by repeat (first | (with_reducible first | exact HB.out | apply below_alloc | apply pw_below_drewN | apply below_drew1) | exact HB.out)) hb); clear HB; have HB := n0_; clear n0_; (try clear hb); (try clear hb2); (try clear hk); (try clear hi))); try go_wp2_with (first | (go_at_call 22; (with_reducible refine (spec_typeNamed.calls kj79 (a0.extract 0 (x9_3 : Int).toNat) t147 false _ A100.out).mono ?_); rintro e w117 ⟨rfl, hb⟩; have n0_ := Aside0.mk (below_step (by repeat (first | (with_reducible first | exact HB.out | apply below_alloc | apply pw_below_drewN | apply below_drew1) | exact HB.out)) hb); clear HB; have HB := n0_; clear n0_; (try clear hb); (try clear hb2); (try clear hk); (try clear hi); have p104 : 0 ≤ (0 : Int) := (by omega); have q104 : 0 < a0.size := (by have : (0 : Int) < (a0.size : Int) := of_decide_eq_true (by first | (with_reducible assumption) | assumption); omega); have hx104 : ∀ h : 0 < a0.size, ((a0[0]'h).toNat : Int) = bt a0 0 := bt_at a0 0; clear p104; have qi104 : (0 < (a0.size : Int)) = True := eq_true (of_decide_eq_true (by first | (with_reducible assumption) | assumption)); replace q104 := eq_true q104) | (go_at_call 20; (with_reducible refine (spec_Valid.calls kj79 (a0.extract 1 (x9_3 : Int).toNat) false _ A108.out).mono ?_); rintro e w118 ⟨rfl, hb⟩; have n0_ := Aside0.mk (below_step (by repeat (first | (with_reducible first | exact HB.out | apply below_alloc | apply pw_below_drewN | apply below_drew1) | exact HB.out)) hb); clear HB; have HB := n0_; clear n0_; (try clear hb); (try clear hb2); (try clear hk); (try clear hi))))
                       go_ret3
                       exact ⟨by first | rfl | (simp [errW_none, errW_some] <;> rfl) | (simp [*, errW_none, errW_some] <;> rfl) | (simp (disch := omega) only [wrap64_id] <;> rfl), by repeat (first | (with_reducible first | exact HB.out | apply below_alloc | apply pw_below_drewN | apply below_drew1) | exact HB.out)⟩
                    ·rw [if_neg c106] at H
                     exact absurd H (by simp)
                   ·rw [if_neg c105] at H
                    have c105b0 : ((bt a0 0) == 64) = false := beq_eq_false_iff_ne.mpr c105
                    have c105b1 : ((bt a0 0) != 64) = true := bne_iff_ne.mpr c105
                    have c119b0 := eq_true (of_decide_eq_true (by first | (with_reducible assumption) | assumption) : 0 ≤ x9_3)
                    have c120b0 := eq_true (of_decide_eq_true (by first | (with_reducible assumption) | assumption) : x9_3 ≤ (a0.size : Int))
                    by_cases c121 : (a0.extract 0 (x9_3 : Int).toNat).toList = ([100, 111, 117, 98, 108, 101] : List UInt8)
                    ·rw [if_pos c121] at H
                     have c121b0 : ((a0.extract 0 (x9_3 : Int).toNat).toList == ([100, 111, 117, 98, 108, 101] : List UInt8)) = true := beq_iff_eq.mpr c121
                     have c121b1 : ((a0.extract 0 (x9_3 : Int).toNat).toList != ([100, 111, 117, 98, 108, 101] : List UInt8)) = false := bne_eq_false_iff_eq.mpr c121
                     clear c121
                     simp only [Option.some.injEq, Prod.mk.injEq] at H
                     obtain ⟨rfl, rfl, rfl⟩ := H
                     go_wp2_with (first | (go_at_call 22; (with_reducible refine (spec_typeNamed.calls kj79 (a0.extract 0 (x9_3 : Int).toNat) t147 false _ A100.out).mono ?_); rintro e w122 ⟨rfl, hb⟩; have n0_ := Aside0.mk (below_step (by repeat (first | (with_reducible first | exact HB.out | apply below_alloc | apply pw_below_drewN | apply below_drew1) | exact HB.out)) hb); clear HB; have HB := n0_; clear n0_; (try clear hb); (try clear hb2); (try clear hk); (try clear hi); have p104 : 0 ≤ (0 : Int) := (by omega); have q104 : 0 < a0.size := (by have : (0 : Int) < (a0.size : Int) := of_decide_eq_true (by first | (with_reducible assumption) | assumption); omega); have hx104 : ∀ h : 0 < a0.size, ((a0[0]'h).toNat : Int) = bt a0 0 := bt_at a0 0; clear p104; have qi104 : (0 < (a0.size : Int)) = True := eq_true (of_decide_eq_true (by first | (with_reducible assumption) | assumption)); replace q104 := eq_true q104))
                     repeat (go_quiet (first | (go_at_call 22; (with_reducible refine (spec_typeNamed.calls kj79 (a0.extract 0 (x9_3 : Int).toNat) t147 false _ A100.out).mono ?_); rintro e w122 ⟨rfl, hb⟩; have n0_ := Aside0.mk (below_step (by repeat (first | (with_reducible first | exact HB.out | apply below_alloc | apply pw_below_drewN | apply below_drew1) | exact HB.out)) hb); clear HB; have HB := n0_; clear n0_; (try clear hb); (try clear hb2); (try clear hk); (try clear hi); have p104 : 0 ≤ (0 : Int) := (by omega); have q104 : 0 < a0.size := (by have : (0 : Int) < (a0.size : Int) := of_decide_eq_true (by first | (with_reducible assumption) | assumption); omega); have hx104 : ∀ h : 0 < a0.size, ((a0[0]'h).toNat : Int) = bt a0 0 := bt_at a0 0; clear p104; have qi104 : (0 < (a0.size : Int)) = True := eq_true (of_decide_eq_true (by first | (with_reducible assumption) | assumption)); replace q104 := eq_true q104)); try go_wp2_with (first | (go_at_call 22; (with_reducible refine (spec_typeNamed.calls kj79 (a0.extract 0 (x9_3 : Int).toNat) t147 false _ A100.out).mono ?_); rintro e w122 ⟨rfl, hb⟩; have n0_ := Aside0.mk (below_step (by repeat (first | (with_reducible first | exact HB.out | apply below_alloc | apply pw_below_drewN | apply below_drew1) | exact HB.out)) hb); clear HB; have HB := n0_; clear n0_; (try clear hb); (try clear hb2); (try clear hk); (try clear hi); have p104 : 0 ≤ (0 : Int) := (by omega); have q104 : 0 < a0.size := (by have : (0 : Int) < (a0.size : Int) := of_decide_eq_true (by first | (with_reducible assumption) | assumption); omega); have hx104 : ∀ h : 0 < a0.size, ((a0[0]'h).toNat : Int) = bt a0 0 := bt_at a0 0; clear p104; have qi104 : (0 < (a0.size : Int)) = True := eq_true (of_decide_eq_true (by first | (with_reducible assumption) | assumption)); replace q104 := eq_true q104)))
                     go_ret3
                     exact ⟨by first | rfl | (simp [errW_none, errW_some] <;> rfl) | (simp [*, errW_none, errW_some] <;> rfl) | (simp (disch := omega) only [wrap64_id] <;> rfl), by repeat (first | (with_reducible first | exact HB.out | apply below_alloc | apply pw_below_drewN | apply below_drew1) | exact HB.out)⟩
                    ·rw [if_neg c121] at H
                     have c121b0 : ((a0.extract 0 (x9_3 : Int).toNat).toList == ([100, 111, 117, 98, 108, 101] : List UInt8)) = false := beq_eq_false_iff_ne.mpr c121
                     have c121b1 : ((a0.extract 0 (x9_3 : Int).toNat).toList != ([100, 111, 117, 98, 108, 101] : List UInt8)) = true := bne_iff_ne.mpr c121
                     simp only [Option.some.injEq, Prod.mk.injEq] at H
                     obtain ⟨rfl, rfl, rfl⟩ := H
                     go_wp2_with (first | (go_at_call 22; (with_reducible refine (spec_typeNamed.calls kj79 (a0.extract 0 (x9_3 : Int).toNat) t147 false _ A100.out).mono ?_); rintro e w123 ⟨rfl, hb⟩; have n0_ := Aside0.mk (below_step (by repeat (first | (with_reducible first | exact HB.out | apply below_alloc | apply pw_below_drewN | apply below_drew1) | exact HB.out)) hb); clear HB; have HB := n0_; clear n0_; (try clear hb); (try clear hb2); (try clear hk); (try clear hi); have p104 : 0 ≤ (0 : Int) := (by omega); have q104 : 0 < a0.size := (by have : (0 : Int) < (a0.size : Int) := of_decide_eq_true (by first | (with_reducible assumption) | assumption); omega); have hx104 : ∀ h : 0 < a0.size, ((a0[0]'h).toNat : Int) = bt a0 0 := bt_at a0 0; clear p104; have qi104 : (0 < (a0.size : Int)) = True := eq_true (of_decide_eq_true (by first | (with_reducible assumption) | assumption)); replace q104 := eq_true q104))
                     repeat (go_quiet (first | (go_at_call 22; (with_reducible refine (spec_typeNamed.calls kj79 (a0.extract 0 (x9_3 : Int).toNat) t147 false _ A100.out).mono ?_); rintro e w123 ⟨rfl, hb⟩; have n0_ := Aside0.mk (below_step (by repeat (first | (with_reducible first | exact HB.out | apply below_alloc | apply pw_below_drewN | apply below_drew1) | exact HB.out)) hb); clear HB; have HB := n0_; clear n0_; (try clear hb); (try clear hb2); (try clear hk); (try clear hi); have p104 : 0 ≤ (0 : Int) := (by omega); have q104 : 0 < a0.size := (by have : (0 : Int) < (a0.size : Int) := of_decide_eq_true (by first | (with_reducible assumption) | assumption); omega); have hx104 : ∀ h : 0 < a0.size, ((a0[0]'h).toNat : Int) = bt a0 0 := bt_at a0 0; clear p104; have qi104 : (0 < (a0.size : Int)) = True := eq_true (of_decide_eq_true (by first | (with_reducible assumption) | assumption)); replace q104 := eq_true q104)); try go_wp2_with (first | (go_at_call 22; (with_reducible refine (spec_typeNamed.calls kj79 (a0.extract 0 (x9_3 : Int).toNat) t147 false _ A100.out).mono ?_); rintro e w123 ⟨rfl, hb⟩; have n0_ := Aside0.mk (below_step (by repeat (first | (with_reducible first | exact HB.out | apply below_alloc | apply pw_below_drewN | apply below_drew1) | exact HB.out)) hb); clear HB; have HB := n0_; clear n0_; (try clear hb); (try clear hb2); (try clear hk); (try clear hi); have p104 : 0 ≤ (0 : Int) := (by omega); have q104 : 0 < a0.size := (by have : (0 : Int) < (a0.size : Int) := of_decide_eq_true (by first | (with_reducible assumption) | assumption); omega); have hx104 : ∀ h : 0 < a0.size, ((a0[0]'h).toNat : Int) = bt a0 0 := bt_at a0 0; clear p104; have qi104 : (0 < (a0.size : Int)) = True := eq_true (of_decide_eq_true (by first | (with_reducible assumption) | assumption)); replace q104 := eq_true q104)))
                     go_ret3
                     exact ⟨by first | rfl | (simp [errW_none, errW_some] <;> rfl) | (simp [*, errW_none, errW_some] <;> rfl) | (simp (disch := omega) only [wrap64_id] <;> rfl), by repeat (first | (with_reducible first | exact HB.out | apply below_alloc | apply pw_below_drewN | apply below_drew1) | exact HB.out)⟩
                  ·rw [if_neg c103] at H
                   exact absurd H (by simp)
                ·rw [if_neg c99] at H
                 exact absurd H (by simp)
               ·rw [if_neg c98] at H
                exact absurd H (by simp)
    ·rw [if_neg c8] at H
     exact absurd H (by simp)

end Go.Proofs.YthcafnmagidpiaaDoor.MFnVtTokens
