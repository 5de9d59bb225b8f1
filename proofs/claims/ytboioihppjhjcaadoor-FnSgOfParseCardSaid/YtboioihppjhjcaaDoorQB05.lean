-- Texts of this session, several in one.
import Derived.Test.YtboioihppjhjcaaDoorQB01
import Derived.Test.YtboioihppjhjcaaDoorQB04
import Derived.Test.YtboioihppjhjcaaDoorQB02
namespace Go.Proofs.YtboioihppjhjcaaDoor.MFnSgOf
open Go.RowKit Go.Proofs.YtboioihppjhjcaaDoorW.PrintWords Go.Proofs.YtboioihppjhjcaaDoorW.PrintLast Go.Proofs.YtboioihppjhjcaaDoorW.PrintMore
attribute [local go_sem] max2_int min2_int max_two min_two max_three min_three max_four min_four   -- for this text's walks alone
set_option linter.unusedVariables false
set_option linter.unusedSimpArgs false

/-! ### spec_ValidString: function 31 -/
def spec_ValidString.l0 : Nat → ByteArray → Int → Option (Bool)
 | 0, _, _ => none
 | k + 1, x0, x3 => if x3 < (x0.size : Int) then (if 0 ≤ x3 then (if (bt x0 x3) = 0 then (some false) else (spec_ValidString.l0 k x0 (wrap64 (x3 + 1)))) else (none)) else ((utf8_ValidString.f x0).bind fun t125 => (some t125))
def spec_ValidString.f (k : Nat) (a0 : ByteArray) : Option (Bool) := spec_ValidString.l0 k a0 0
set_option maxHeartbeats 8000000 in
set_option maxRecDepth 100000 in
theorem spec_ValidString.calls (k : Nat) (a0 : ByteArray) (r : Bool) (w : World) (hT : Lib.Utf8Tabs 1 2 w) (h : spec_ValidString.f k a0 = some r) :
  Calls Tryd.prog 31 #[.string a0] w fun e w' => e = .returned (.bool r) ∧ Below w.heap.size w w' := by
 have HB := Aside0.mk (Below.refl w.heap.size w)
 have H : (spec_ValidString.l0 k a0 0) = some r := h
 clear h
 have H' := Aside0.mk H
 clear H
 go_enter Tryd.func31, Tryd.ntmps31
 go_wp2
 go_loopg [3] k (fun kq v3 w' => ∃ (x3_1 : Int), v3 = .int .i64 x3_1 ∧ Aside0 (spec_ValidString.l0 kq a0 x3_1 = some r) ∧ Aside0 (kq ≤ k) ∧ Aside0 (Below w.heap.size w w'))
 case atStart => exact ⟨(0), (by first | rfl | (simp; done) | (simp [*]; done)), H', ⟨Nat.le_refl _⟩, ⟨by repeat (first | (with_reducible first | exact HB.out | apply below_alloc | apply pw_below_drewN | apply below_drew1) | exact HB.out)⟩⟩
 case round =>
  clear H'
  obtain ⟨x3_1, rfl, HA, HK1, HB⟩ := hrel
  cases gk with
  | zero => exact absurd HA.out (by simp [spec_ValidString.l0])
  | succ k1 =>
   have H := HA.out
   clear HA
   simp only [spec_ValidString.l0] at H
   by_cases c2 : x3_1 < (a0.size : Int)
   ·rw [if_pos c2] at H
    have c2b0 : decide (x3_1 < (a0.size : Int)) = true := decide_eq_true c2
    clear c2
    by_cases c3 : 0 ≤ x3_1
    ·rw [if_pos c3] at H
     have c3b0 : decide (0 ≤ x3_1) = true := decide_eq_true c3
     clear c3
     by_cases c5 : (bt a0 x3_1) = 0
     ·rw [if_pos c5] at H
      have c5b0 : ((bt a0 x3_1) == 0) = true := beq_iff_eq.mpr c5
      have c5b1 : ((bt a0 x3_1) != 0) = false := bne_eq_false_iff_eq.mpr c5
      clear c5
      obtain rfl := Option.some.inj H
      have p4 : 0 ≤ (x3_1 : Int) := of_decide_eq_true (by first | (with_reducible assumption) | assumption)
      have q4 : x3_1 < (a0.size : Int) := of_decide_eq_true (by first | (with_reducible assumption) | assumption)
      have hx4 := bt_at a0 x3_1
      replace p4 := eq_true p4
      replace q4 := eq_true q4
      go_wp2
      go_ret
      exact ⟨by first | rfl | (simp [errW_none, errW_some] <;> rfl) | (simp [*, errW_none, errW_some] <;> rfl) | (simp (disch := omega) only [wrap64_id] <;> rfl), by repeat (first | (with_reducible first | exact HB.out | apply below_alloc | apply pw_below_drewN | apply below_drew1) | exact HB.out)⟩
     ·rw [if_neg c5] at H
      have c5b0 : ((bt a0 x3_1) == 0) = false := beq_eq_false_iff_ne.mpr c5
      have c5b1 : ((bt a0 x3_1) != 0) = true := bne_iff_ne.mpr c5
      have H' := Aside0.mk H
      clear H
      have p4 : 0 ≤ (x3_1 : Int) := of_decide_eq_true (by first | (with_reducible assumption) | assumption)
      have q4 : x3_1 < (a0.size : Int) := of_decide_eq_true (by first | (with_reducible assumption) | assumption)
      have hx4 := bt_at a0 x3_1
      replace p4 := eq_true p4
      replace q4 := eq_true q4
      go_wp2
      go_roundg k1
      case measure => have := HK1.out; omega
      case rel => exact ⟨(wrap64 (x3_1 + 1)), (by first | rfl | (simp; done) | (simp [*]; done)), H', ⟨by have := HK1.out; omega⟩, ⟨by repeat (first | (with_reducible first | exact HB.out | apply below_alloc | apply pw_below_drewN | apply below_drew1) | exact HB.out)⟩⟩
    ·rw [if_neg c3] at H
     exact absurd H (by simp)
   ·rw [if_neg c2] at H
    have c2b0 : decide (x3_1 < (a0.size : Int)) = false := decide_eq_false c2
    clear c2
    replace H := Option.bind_eq_some_iff.mp H
    obtain ⟨t125, A60, H⟩ := H
    replace H : (some t125) = some r := H
    have A6 := Aside0.mk A60
    clear A60
    obtain rfl := Option.some.inj H
    go_wp2_with (first | ((with_reducible refine gate_callee (f := 44) rfl ?_); refine goesL_ (some 15) rfl rfl Tryd.func44 (by kernel_rfl) rfl #[.string a0] rfl (by (try simp only [List.map_toArray, List.map_cons, List.map_nil]); first | done | rfl | (simp only [List.length_drop, List.length_take]; rfl)) ?_; (with_reducible refine (utf8_ValidString.calls a0 t125 _ (Utf8Tabs_below hT HB.out) A6.out).mono ?_); rintro e w7 ⟨rfl, hb⟩; refine ⟨_, rfl, ?_⟩; have n0_ := Aside0.mk (below_step (by repeat (first | (with_reducible first | exact HB.out | apply below_alloc | apply pw_below_drewN | apply below_drew1) | exact HB.out)) hb); clear HB; have HB := n0_; clear n0_; (try clear hb); (try clear hb2); (try clear hk); (try clear hi)))
    go_ret
    exact ⟨by first | rfl | (simp [errW_none, errW_some] <;> rfl) | (simp [*, errW_none, errW_some] <;> rfl) | (simp (disch := omega) only [wrap64_id] <;> rfl), by repeat (first | (with_reducible first | exact HB.out | apply below_alloc | apply pw_below_drewN | apply below_drew1) | exact HB.out)⟩

/-! ### spec_word: function 45 -/
def spec_word.f (a0 : Int) : Option (Bool) := if (Go.bits .or .u8 a0 32) ≥ 97 then (if (Go.bits .or .u8 a0 32) ≤ 122 then (some true) else (if a0 ≥ 48 then (if a0 ≤ 57 then (some true) else (some (a0 == 95))) else (some (a0 == 95)))) else (if a0 ≥ 48 then (if a0 ≤ 57 then (some true) else (some (a0 == 95))) else (some (a0 == 95)))
set_option maxHeartbeats 8000000 in
set_option maxRecDepth 100000 in
theorem spec_word.calls (a0 : Int) (r : Bool) (w : World) (h : spec_word.f a0 = some r) :
  Calls Tryd.prog 45 #[.int .u8 a0] w fun e w' => e = .returned (.bool r) ∧ Drawn0 w w' := by
 have H : (if (Go.bits .or .u8 a0 32) ≥ 97 then (if (Go.bits .or .u8 a0 32) ≤ 122 then (some true) else (if a0 ≥ 48 then (if a0 ≤ 57 then (some true) else (some (a0 == 95))) else (some (a0 == 95)))) else (if a0 ≥ 48 then (if a0 ≤ 57 then (some true) else (some (a0 == 95))) else (some (a0 == 95)))) = some r := h
 clear h
 by_cases c2 : (Go.bits .or .u8 a0 32) ≥ 97
 ·rw [if_pos c2] at H
  have c2b0 : decide (97 ≤ (Go.bits .or .u8 a0 32)) = true := decide_eq_true c2
  clear c2
  by_cases c3 : (Go.bits .or .u8 a0 32) ≤ 122
  ·rw [if_pos c3] at H
   have c3b0 : decide ((Go.bits .or .u8 a0 32) ≤ 122) = true := decide_eq_true c3
   clear c3
   obtain rfl := Option.some.inj H
   go_enter Tryd.func45, Tryd.ntmps45
   go_wp2
   go_ret
   exact ⟨by first | rfl | (simp; done) | (simp [*]; done), by repeat (first | exact Drawn0.refl _ | apply Drawn0.step)⟩
  ·rw [if_neg c3] at H
   have c3b0 : decide ((Go.bits .or .u8 a0 32) ≤ 122) = false := decide_eq_false c3
   clear c3
   by_cases c4 : a0 ≥ 48
   ·rw [if_pos c4] at H
    have c4b0 : decide (48 ≤ a0) = true := decide_eq_true c4
    clear c4
    by_cases c5 : a0 ≤ 57
    ·rw [if_pos c5] at H
     have c5b0 : decide (a0 ≤ 57) = true := decide_eq_true c5
     clear c5
     obtain rfl := Option.some.inj H
     go_enter Tryd.func45, Tryd.ntmps45
     go_wp2
     go_ret
     exact ⟨by first | rfl | (simp; done) | (simp [*]; done), by repeat (first | exact Drawn0.refl _ | apply Drawn0.step)⟩
    ·rw [if_neg c5] at H
     have c5b0 : decide (a0 ≤ 57) = false := decide_eq_false c5
     clear c5
     obtain rfl := Option.some.inj H
     go_enter Tryd.func45, Tryd.ntmps45
     go_wp2
     go_ret
     exact ⟨by first | rfl | (simp; done) | (simp [*]; done), by repeat (first | exact Drawn0.refl _ | apply Drawn0.step)⟩
   ·rw [if_neg c4] at H
    have c4b0 : decide (48 ≤ a0) = false := decide_eq_false c4
    clear c4
    obtain rfl := Option.some.inj H
    go_enter Tryd.func45, Tryd.ntmps45
    go_wp2
    go_ret
    exact ⟨by first | rfl | (simp; done) | (simp [*]; done), by repeat (first | exact Drawn0.refl _ | apply Drawn0.step)⟩
 ·rw [if_neg c2] at H
  have c2b0 : decide (97 ≤ (Go.bits .or .u8 a0 32)) = false := decide_eq_false c2
  clear c2
  by_cases c6 : a0 ≥ 48
  ·rw [if_pos c6] at H
   have c6b0 : decide (48 ≤ a0) = true := decide_eq_true c6
   clear c6
   by_cases c7 : a0 ≤ 57
   ·rw [if_pos c7] at H
    have c7b0 : decide (a0 ≤ 57) = true := decide_eq_true c7
    clear c7
    obtain rfl := Option.some.inj H
    go_enter Tryd.func45, Tryd.ntmps45
    go_wp2
    go_ret
    exact ⟨by first | rfl | (simp; done) | (simp [*]; done), by repeat (first | exact Drawn0.refl _ | apply Drawn0.step)⟩
   ·rw [if_neg c7] at H
    have c7b0 : decide (a0 ≤ 57) = false := decide_eq_false c7
    clear c7
    obtain rfl := Option.some.inj H
    go_enter Tryd.func45, Tryd.ntmps45
    go_wp2
    go_ret
    exact ⟨by first | rfl | (simp; done) | (simp [*]; done), by repeat (first | exact Drawn0.refl _ | apply Drawn0.step)⟩
  ·rw [if_neg c6] at H
   have c6b0 : decide (48 ≤ a0) = false := decide_eq_false c6
   clear c6
   obtain rfl := Option.some.inj H
   go_enter Tryd.func45, Tryd.ntmps45
   go_wp2
   go_ret
   exact ⟨by first | rfl | (simp; done) | (simp [*]; done), by repeat (first | exact Drawn0.refl _ | apply Drawn0.step)⟩

/-! ### spec_ValidPath: function 32 -/
mutual
def spec_ValidPath.j0 : Nat → ByteArray → Bool → Option (Bool)
 | 0, _, _ => none
 | k + 1, x0, x20 => if x20 = true then (some false) else (spec_ValidPath.l0 k x0 1)
def spec_ValidPath.l0 : Nat → ByteArray → Int → Option (Bool)
 | 0, _, _ => none
 | k + 1, x0, x3 => if x3 < (x0.size : Int) then (if 0 ≤ x3 then (if (bt x0 x3) = 47 then (if 0 ≤ (wrap64 (x3 - 1)) then (if (wrap64 (x3 - 1)) < (x0.size : Int) then (if (bt x0 (wrap64 (x3 - 1))) = 47 then (some false) else (spec_ValidPath.l0 k x0 (wrap64 (x3 + 1)))) else (none)) else (none)) else ((spec_word.f (bt x0 x3)).bind fun t126 => (if t126 = true then (spec_ValidPath.l0 k x0 (wrap64 (x3 + 1))) else (some false)))) else (none)) else (some true)
end
def spec_ValidPath.f (k : Nat) (a0 : ByteArray) : Option (Bool) := if a0.toList = ([47] : List UInt8) then (some true) else (if a0.toList = ([] : List UInt8) then (spec_ValidPath.j0 k a0 true) else (if 0 < (a0.size : Int) then (if (bt a0 0) = 47 then (if 0 ≤ (wrap64 ((a0.size : Int) - 1)) then (if (wrap64 ((a0.size : Int) - 1)) < (a0.size : Int) then (spec_ValidPath.j0 k a0 ((bt a0 (wrap64 ((a0.size : Int) - 1))) == 47)) else (none)) else (none)) else (spec_ValidPath.j0 k a0 true)) else (none)))
set_option maxHeartbeats 8000000 in
set_option maxRecDepth 100000 in
theorem spec_ValidPath.calls (k : Nat) (a0 : ByteArray) (r : Bool) (w : World) (h : spec_ValidPath.f k a0 = some r) :
  Calls Tryd.prog 32 #[.string a0] w fun e w' => e = .returned (.bool r) ∧ Drawn0 w w' := by
 have H : (if a0.toList = ([47] : List UInt8) then (some true) else (if a0.toList = ([] : List UInt8) then (spec_ValidPath.j0 k a0 true) else (if 0 < (a0.size : Int) then (if (bt a0 0) = 47 then (if 0 ≤ (wrap64 ((a0.size : Int) - 1)) then (if (wrap64 ((a0.size : Int) - 1)) < (a0.size : Int) then (spec_ValidPath.j0 k a0 ((bt a0 (wrap64 ((a0.size : Int) - 1))) == 47)) else (none)) else (none)) else (spec_ValidPath.j0 k a0 true)) else (none)))) = some r := h
 clear h
 by_cases c2 : a0.toList = ([47] : List UInt8)
 ·rw [if_pos c2] at H
  have c2b0 : (a0.toList == ([47] : List UInt8)) = true := beq_iff_eq.mpr c2
  have c2b1 : (a0.toList != ([47] : List UInt8)) = false := bne_eq_false_iff_eq.mpr c2
  clear c2
  obtain rfl := Option.some.inj H
  go_enter Tryd.func32, Tryd.ntmps32
  go_wp2
  go_ret
  exact ⟨by first | rfl | (simp; done) | (simp [*]; done), by repeat (first | exact Drawn0.refl _ | apply Drawn0.step)⟩
 ·rw [if_neg c2] at H
  have c2b0 : (a0.toList == ([47] : List UInt8)) = false := beq_eq_false_iff_ne.mpr c2
  have c2b1 : (a0.toList != ([47] : List UInt8)) = true := bne_iff_ne.mpr c2
  have HC3 := Aside0.mk H
  clear H
  go_enter Tryd.func32, Tryd.ntmps32
  go_upto_region 3 with (fail)
  go_cut [20] (fun v20 wc => ∃ (kq : Nat) (x20_2 : Bool), v20 = .bool x20_2 ∧ Aside0 (spec_ValidPath.j0 kq a0 x20_2 = some r) ∧ Aside0 (kq ≤ k) ∧ Drawn0 w wc)
  case first =>
   have H := HC3.out
   clear HC3
   by_cases c4 : a0.toList = ([] : List UInt8)
   ·rw [if_pos c4] at H
    have c4b0 : (a0.toList == ([] : List UInt8)) = true := beq_iff_eq.mpr c4
    have c4b1 : (a0.toList != ([] : List UInt8)) = false := bne_eq_false_iff_eq.mpr c4
    clear c4
    (first | rw [c4b0] | (simp only [i64_w, i32_w]; rw [c4b0]) | skip)
    have H' := Aside0.mk H
    clear H
    go_wp2
    go_meet
    case rel => exact ⟨_, (true), (by first | rfl | (simp; done) | (simp [*]; done)), H', ⟨by first | omega | exact Nat.le_refl _⟩, by repeat (first | exact Drawn0.refl _ | apply Drawn0.step)⟩
   ·rw [if_neg c4] at H
    have c4b0 : (a0.toList == ([] : List UInt8)) = false := beq_eq_false_iff_ne.mpr c4
    have c4b1 : (a0.toList != ([] : List UInt8)) = true := bne_iff_ne.mpr c4
    (first | rw [c4b0] | (simp only [i64_w, i32_w]; rw [c4b0]) | skip)
    by_cases c5 : 0 < (a0.size : Int)
    ·rw [if_pos c5] at H
     have c5b0 : decide (0 < (a0.size : Int)) = true := decide_eq_true c5
     have c5b1 : decide (0 < a0.size) = true := decide_eq_true (by omega)
     clear c5
     by_cases c7 : (bt a0 0) = 47
     ·rw [if_pos c7] at H
      have c7b0 : ((bt a0 0) == 47) = true := beq_iff_eq.mpr c7
      have c7b1 : ((bt a0 0) != 47) = false := bne_eq_false_iff_eq.mpr c7
      clear c7
      obtain ⟨ji8, hji8⟩ : ∃ j_ : Int, (wrap64 ((a0.size : Int) - 1)) = j_ := ⟨_, rfl⟩
      replace H : (if 0 ≤ (ji8) then (if (ji8) < (a0.size : Int) then (spec_ValidPath.j0 k a0 ((bt a0 (ji8)) == 47)) else (none)) else (none)) = some r := by first | (rw [hji8] at H; exact H) | (simp only [hji8] at H ⊢; exact H)
      have hji8w : (IntKind.i64.wrap ((a0.size : Int) - 1)) = ji8 := (i64_w _).trans hji8
      by_cases c9 : 0 ≤ (ji8)
      ·rw [if_pos c9] at H
       have c9b0 : decide (0 ≤ (ji8)) = true := decide_eq_true c9
       clear c9
       by_cases c10 : (ji8) < (a0.size : Int)
       ·rw [if_pos c10] at H
        have c10b0 : decide ((ji8) < (a0.size : Int)) = true := decide_eq_true c10
        clear c10
        have H' := Aside0.mk H
        clear H
        have p6 : 0 ≤ (0 : Int) := (by omega)
        have q6 : 0 < a0.size := (by have : (0 : Int) < (a0.size : Int) := of_decide_eq_true (by first | (with_reducible assumption) | assumption); omega)
        have hx6 : ∀ h : 0 < a0.size, ((a0[0]'h).toNat : Int) = bt a0 0 := bt_at a0 0
        clear p6
        have qi6 : (0 < (a0.size : Int)) = True := eq_true (of_decide_eq_true (by first | (with_reducible assumption) | assumption))
        replace q6 := eq_true q6
        have p11 : 0 ≤ ((ji8) : Int) := of_decide_eq_true (by first | (with_reducible assumption) | assumption)
        have q11 : (ji8) < (a0.size : Int) := of_decide_eq_true (by first | (with_reducible assumption) | assumption)
        have hx11 := bt_at a0 (ji8)
        replace p11 := eq_true p11
        replace q11 := eq_true q11
        go_wp2
        go_meet
        case rel => exact ⟨_, (((bt a0 (ji8)) == 47)), (by first | rfl | (simp; done) | (simp only [← hji8] <;> (first | rfl | simp)) | (simp [*]; done)), H', ⟨by first | omega | exact Nat.le_refl _⟩, by repeat (first | exact Drawn0.refl _ | apply Drawn0.step)⟩
       ·rw [if_neg c10] at H
        exact absurd H (by simp)
      ·rw [if_neg c9] at H
       exact absurd H (by simp)
     ·rw [if_neg c7] at H
      have c7b0 : ((bt a0 0) == 47) = false := beq_eq_false_iff_ne.mpr c7
      have c7b1 : ((bt a0 0) != 47) = true := bne_iff_ne.mpr c7
      have H' := Aside0.mk H
      clear H
      have p6 : 0 ≤ (0 : Int) := (by omega)
      have q6 : 0 < a0.size := (by have : (0 : Int) < (a0.size : Int) := of_decide_eq_true (by first | (with_reducible assumption) | assumption); omega)
      have hx6 : ∀ h : 0 < a0.size, ((a0[0]'h).toNat : Int) = bt a0 0 := bt_at a0 0
      clear p6
      have qi6 : (0 < (a0.size : Int)) = True := eq_true (of_decide_eq_true (by first | (with_reducible assumption) | assumption))
      replace q6 := eq_true q6
      go_wp2
      go_meet
      case rel => exact ⟨_, (true), (by first | rfl | (simp; done) | (simp [*]; done)), H', ⟨by first | omega | exact Nat.le_refl _⟩, by repeat (first | exact Drawn0.refl _ | apply Drawn0.step)⟩
    ·rw [if_neg c5] at H
     exact absurd H (by simp)
  case rest =>
   clear HC3
   try clear c1
   try clear p1
   try clear q1
   try clear hx1
   try clear c2
   try clear c2b0
   try clear c2b1
   try clear p2
   try clear c3
   try clear c4
   try clear c4b0
   try clear c4b1
   try clear c5
   try clear c5b0
   try clear c5b1
   try clear p6
   try clear q6
   try clear hx6
   try clear qi6
   try clear c7
   try clear c7b0
   try clear c7b1
   try clear c9
   try clear c9b0
   try clear c10
   try clear c10b0
   try clear p11
   try clear q11
   try clear hx11
   try clear p11
   try clear p6
   try clear q11
   try clear q6
   obtain ⟨kq, x20_2, rfl, HA, HJ2, ⟨mc2, rfl⟩⟩ := hcut
   cases kq with
   | zero => exact absurd HA.out (by simp [spec_ValidPath.j0])
   | succ kj2 =>
    have H := HA.out
    clear HA
    simp only [spec_ValidPath.j0] at H
    by_cases c12 : x20_2 = true
    ·subst c12
     have H1 : (some false) = some r := by rw [if_pos rfl] at H; exact H
     clear H
     have H := H1
     clear H1
     obtain rfl := Option.some.inj H
     go_wp2
     go_ret
     exact ⟨by first | rfl | (simp; done) | (simp [*]; done), by repeat (first | exact Drawn0.refl _ | apply Drawn0.step)⟩
    ·replace c12 := Bool.eq_false_iff.mpr c12
     subst c12
     have H1 : (spec_ValidPath.l0 kj2 a0 1) = some r := by rw [if_neg (show ¬ (false = true) by decide)] at H; exact H
     clear H
     have H := H1
     clear H1
     have H' := Aside0.mk H
     clear H
     go_wp2
     go_loopg [3] kj2 (fun kq v3 w' => ∃ (x3_2 : Int), v3 = .int .i64 x3_2 ∧ Aside0 (spec_ValidPath.l0 kq a0 x3_2 = some r) ∧ Aside0 (kq ≤ kj2) ∧ Drawn0 w w')
     case atStart => exact ⟨(1), (by first | rfl | (simp; done) | (simp [*]; done)), H', ⟨Nat.le_refl _⟩, by repeat (first | exact Drawn0.refl _ | apply Drawn0.step)⟩
     case round =>
      clear H'
      try clear c1
      try clear p1
      try clear q1
      try clear hx1
      try clear c2
      try clear c2b0
      try clear c2b1
      try clear p2
      try clear c3
      try clear c4
      try clear c4b0
      try clear c4b1
      try clear c5
      try clear c5b0
      try clear c5b1
      try clear p6
      try clear q6
      try clear hx6
      try clear qi6
      try clear c7
      try clear c7b0
      try clear c7b1
      try clear c9
      try clear c9b0
      try clear c10
      try clear c10b0
      try clear p11
      try clear q11
      try clear hx11
      try clear c12
      try clear p1
      try clear p11
      try clear p2
      try clear p6
      try clear q1
      try clear q11
      try clear q6
      obtain ⟨x3_2, rfl, HA, HK2, ⟨m2, rfl⟩⟩ := hrel
      cases gk with
      | zero => exact absurd HA.out (by simp [spec_ValidPath.l0])
      | succ k2 =>
       have H := HA.out
       clear HA
       simp only [spec_ValidPath.l0] at H
       by_cases c13 : x3_2 < (a0.size : Int)
       ·rw [if_pos c13] at H
        have c13b0 : decide (x3_2 < (a0.size : Int)) = true := decide_eq_true c13
        clear c13
        by_cases c14 : 0 ≤ x3_2
        ·rw [if_pos c14] at H
         have c14b0 : decide (0 ≤ x3_2) = true := decide_eq_true c14
         clear c14
         by_cases c16 : (bt a0 x3_2) = 47
         ·rw [if_pos c16] at H
          have c16b0 : ((bt a0 x3_2) == 47) = true := beq_iff_eq.mpr c16
          have c16b1 : ((bt a0 x3_2) != 47) = false := bne_eq_false_iff_eq.mpr c16
          clear c16
          obtain ⟨ji18, hji18⟩ : ∃ j_ : Int, (wrap64 (x3_2 - 1)) = j_ := ⟨_, rfl⟩
          replace H : (if 0 ≤ (ji18) then (if (ji18) < (a0.size : Int) then (if (bt a0 (ji18)) = 47 then (some false) else (spec_ValidPath.l0 k2 a0 (wrap64 (x3_2 + 1)))) else (none)) else (none)) = some r := by first | (rw [hji18] at H; exact H) | (simp only [hji18] at H ⊢; exact H)
          have hji18w : (IntKind.i64.wrap (x3_2 - 1)) = ji18 := (i64_w _).trans hji18
          by_cases c19 : 0 ≤ (ji18)
          ·rw [if_pos c19] at H
           have c19b0 : decide (0 ≤ (ji18)) = true := decide_eq_true c19
           clear c19
           by_cases c20 : (ji18) < (a0.size : Int)
           ·rw [if_pos c20] at H
            have c20b0 : decide ((ji18) < (a0.size : Int)) = true := decide_eq_true c20
            clear c20
            by_cases c22 : (bt a0 (ji18)) = 47
            ·rw [if_pos c22] at H
             have c22b0 : ((bt a0 (ji18)) == 47) = true := beq_iff_eq.mpr c22
             have c22b1 : ((bt a0 (ji18)) != 47) = false := bne_eq_false_iff_eq.mpr c22
             clear c22
             obtain rfl := Option.some.inj H
             have p15 : 0 ≤ (x3_2 : Int) := of_decide_eq_true (by first | (with_reducible assumption) | assumption)
             have q15 : x3_2 < (a0.size : Int) := of_decide_eq_true (by first | (with_reducible assumption) | assumption)
             have hx15 := bt_at a0 x3_2
             replace p15 := eq_true p15
             replace q15 := eq_true q15
             have p17 : 0 ≤ (x3_2 : Int) := of_decide_eq_true (by first | (with_reducible assumption) | assumption)
             have q17 : x3_2 < (a0.size : Int) := of_decide_eq_true (by first | (with_reducible assumption) | assumption)
             have hx17 := bt_at a0 x3_2
             replace p17 := eq_true p17
             replace q17 := eq_true q17
             have p21 : 0 ≤ ((ji18) : Int) := of_decide_eq_true (by first | (with_reducible assumption) | assumption)
             have q21 : (ji18) < (a0.size : Int) := of_decide_eq_true (by first | (with_reducible assumption) | assumption)
             have hx21 := bt_at a0 (ji18)
             replace p21 := eq_true p21
             replace q21 := eq_true q21
             go_wp2
             go_ret
             exact ⟨by first | rfl | (simp; done) | (simp only [← hji18] <;> (first | rfl | simp)) | (simp [*]; done), by repeat (first | exact Drawn0.refl _ | apply Drawn0.step)⟩
            ·rw [if_neg c22] at H
             have c22b0 : ((bt a0 (ji18)) == 47) = false := beq_eq_false_iff_ne.mpr c22
             have c22b1 : ((bt a0 (ji18)) != 47) = true := bne_iff_ne.mpr c22
             have H' := Aside0.mk H
             clear H
             have p15 : 0 ≤ (x3_2 : Int) := of_decide_eq_true (by first | (with_reducible assumption) | assumption)
             have q15 : x3_2 < (a0.size : Int) := of_decide_eq_true (by first | (with_reducible assumption) | assumption)
             have hx15 := bt_at a0 x3_2
             replace p15 := eq_true p15
             replace q15 := eq_true q15
             have p17 : 0 ≤ (x3_2 : Int) := of_decide_eq_true (by first | (with_reducible assumption) | assumption)
             have q17 : x3_2 < (a0.size : Int) := of_decide_eq_true (by first | (with_reducible assumption) | assumption)
             have hx17 := bt_at a0 x3_2
             replace p17 := eq_true p17
             replace q17 := eq_true q17
             have p21 : 0 ≤ ((ji18) : Int) := of_decide_eq_true (by first | (with_reducible assumption) | assumption)
             have q21 : (ji18) < (a0.size : Int) := of_decide_eq_true (by first | (with_reducible assumption) | assumption)
             have hx21 := bt_at a0 (ji18)
             replace p21 := eq_true p21
             replace q21 := eq_true q21
             go_wp2
             go_roundg k2
             case measure => have := HJ2.out; have := HK2.out; omega
             case rel => exact ⟨(wrap64 (x3_2 + 1)), (by first | rfl | (simp; done) | (simp [*]; done)), H', ⟨by have := HJ2.out; have := HK2.out; omega⟩, by repeat (first | exact Drawn0.refl _ | apply Drawn0.step)⟩
           ·rw [if_neg c20] at H
            exact absurd H (by simp)
          ·rw [if_neg c19] at H
           exact absurd H (by simp)
         ·rw [if_neg c16] at H
          have c16b0 : ((bt a0 x3_2) == 47) = false := beq_eq_false_iff_ne.mpr c16
          have c16b1 : ((bt a0 x3_2) != 47) = true := bne_iff_ne.mpr c16
          replace H := Option.bind_eq_some_iff.mp H
          obtain ⟨t126, A240, H⟩ := H
          replace H : (if t126 = true then (spec_ValidPath.l0 k2 a0 (wrap64 (x3_2 + 1))) else (some false)) = some r := H
          have A24 := Aside0.mk A240
          clear A240
          by_cases c25 : t126 = true
          ·subst c25
           have H1 : (spec_ValidPath.l0 k2 a0 (wrap64 (x3_2 + 1))) = some r := by rw [if_pos rfl] at H; exact H
           clear H
           have H := H1
           clear H1
           have H' := Aside0.mk H
           clear H
           have p15 : 0 ≤ (x3_2 : Int) := of_decide_eq_true (by first | (with_reducible assumption) | assumption)
           have q15 : x3_2 < (a0.size : Int) := of_decide_eq_true (by first | (with_reducible assumption) | assumption)
           have hx15 := bt_at a0 x3_2
           replace p15 := eq_true p15
           replace q15 := eq_true q15
           have p23 : 0 ≤ (x3_2 : Int) := of_decide_eq_true (by first | (with_reducible assumption) | assumption)
           have q23 : x3_2 < (a0.size : Int) := of_decide_eq_true (by first | (with_reducible assumption) | assumption)
           have hx23 := bt_at a0 x3_2
           replace p23 := eq_true p23
           replace q23 := eq_true q23
           go_wp2_with (first | (go_at_call 45; (with_reducible refine (spec_word.calls (bt a0 x3_2) true _ A24.out).mono ?_); rintro e w' ⟨rfl, ⟨nd, rfl⟩⟩; have p26 : 0 ≤ (x3_2 : Int) := of_decide_eq_true (by first | (with_reducible assumption) | assumption); have q26 : x3_2 < (a0.size : Int) := of_decide_eq_true (by first | (with_reducible assumption) | assumption); have hx26 := bt_at a0 x3_2; replace p26 := eq_true p26; replace q26 := eq_true q26))
           go_roundg k2
           case measure => have := HJ2.out; have := HK2.out; omega
           case rel => exact ⟨(wrap64 (x3_2 + 1)), (by first | rfl | (simp; done) | (simp [*]; done)), H', ⟨by have := HJ2.out; have := HK2.out; omega⟩, by repeat (first | exact Drawn0.refl _ | apply Drawn0.step)⟩
          ·replace c25 := Bool.eq_false_iff.mpr c25
           subst c25
           have H1 : (some false) = some r := by rw [if_neg (show ¬ (false = true) by decide)] at H; exact H
           clear H
           have H := H1
           clear H1
           obtain rfl := Option.some.inj H
           have p15 : 0 ≤ (x3_2 : Int) := of_decide_eq_true (by first | (with_reducible assumption) | assumption)
           have q15 : x3_2 < (a0.size : Int) := of_decide_eq_true (by first | (with_reducible assumption) | assumption)
           have hx15 := bt_at a0 x3_2
           replace p15 := eq_true p15
           replace q15 := eq_true q15
           have p23 : 0 ≤ (x3_2 : Int) := of_decide_eq_true (by first | (with_reducible assumption) | assumption)
           have q23 : x3_2 < (a0.size : Int) := of_decide_eq_true (by first | (with_reducible assumption) | assumption)
           have hx23 := bt_at a0 x3_2
           replace p23 := eq_true p23
           replace q23 := eq_true q23
           go_wp2_with (first | (go_at_call 45; (with_reducible refine (spec_word.calls (bt a0 x3_2) false _ A24.out).mono ?_); rintro e w' ⟨rfl, ⟨nd, rfl⟩⟩))
           go_ret
           exact ⟨by first | rfl | (simp; done) | (simp [*]; done), by repeat (first | exact Drawn0.refl _ | apply Drawn0.step)⟩
        ·rw [if_neg c14] at H
         exact absurd H (by simp)
       ·rw [if_neg c13] at H
        have c13b0 : decide (x3_2 < (a0.size : Int)) = false := decide_eq_false c13
        clear c13
        obtain rfl := Option.some.inj H
        go_wp2
        go_ret
        exact ⟨by first | rfl | (simp; done) | (simp [*]; done), by repeat (first | exact Drawn0.refl _ | apply Drawn0.step)⟩

/-! ### spec_First: function 33 -/
def spec_First.j0 : Nat → ByteArray → Bool → Option (ByteArray × ByteArray × Bool)
 | 0, _, _ => none
 | k + 1, x0, x13 => if x13 = true then (if 1 + x0.size ≤ 9223372036854775807 then ((spec_complete.f k ((⟨#[97]⟩ : ByteArray) ++ x0)).bind fun t127 => (if (wrap64 (t127 - 1)) ≤ 0 then (some ((⟨#[]⟩ : ByteArray), (⟨#[]⟩ : ByteArray), false)) else (if 0 ≤ (wrap64 (t127 - 1)) then (if (wrap64 (t127 - 1)) ≤ (x0.size : Int) then (some (x0.extract 0 ((wrap64 (t127 - 1)) : Int).toNat, x0.extract ((wrap64 (t127 - 1)) : Int).toNat x0.size, true)) else (none)) else (none)))) else (none)) else ((spec_complete.f k x0).bind fun t128 => (if t128 ≤ 0 then (some ((⟨#[]⟩ : ByteArray), (⟨#[]⟩ : ByteArray), false)) else (if 0 ≤ t128 then (if t128 ≤ (x0.size : Int) then (some (x0.extract 0 (t128 : Int).toNat, x0.extract (t128 : Int).toNat x0.size, true)) else (none)) else (none))))
def spec_First.f (k : Nat) (a0 : ByteArray) : Option (ByteArray × ByteArray × Bool) := if (a0.size : Int) > 1 then (if 0 < (a0.size : Int) then (spec_First.j0 k a0 ((bt a0 0) == 123)) else (none)) else (spec_First.j0 k a0 false)
set_option maxHeartbeats 8000000 in
set_option maxRecDepth 100000 in
theorem spec_First.calls (k : Nat) (a0 : ByteArray) (r1 : ByteArray) (r2 : ByteArray) (r3 : Bool) (w : World) (h : spec_First.f k a0 = some (r1, r2, r3)) :
  Calls Tryd.prog 33 #[.string a0] w fun e w' => e = .returned (.tuple #[.string r1, .string r2, .bool r3]) ∧ Drawn0 w w' := by
 have H : (if (a0.size : Int) > 1 then (if 0 < (a0.size : Int) then (spec_First.j0 k a0 ((bt a0 0) == 123)) else (none)) else (spec_First.j0 k a0 false)) = some (r1, r2, r3) := h
 clear h
 have HC2 := Aside0.mk H
 clear H
 go_enter Tryd.func33, Tryd.ntmps33
 go_upto_region 2 with (fail)
 repeat (go_quiet (fail); go_upto_region 2 with (fail))
 go_cut [13] (fun v13 wc => ∃ (kq : Nat) (x13_1 : Bool), v13 = .bool x13_1 ∧ Aside0 (spec_First.j0 kq a0 x13_1 = some (r1, r2, r3)) ∧ Aside0 (kq ≤ k) ∧ Drawn0 w wc)
 case first =>
  have H := HC2.out
  clear HC2
  by_cases c3 : (a0.size : Int) > 1
  ·rw [if_pos c3] at H
   have c3b0 : decide (1 < (a0.size : Int)) = true := decide_eq_true c3
   have c3b1 : decide (1 < a0.size) = true := decide_eq_true (by omega)
   clear c3
   (first | rw [c3b0] | (simp only [i64_w, i32_w]; rw [c3b0]) | skip)
   by_cases c4 : 0 < (a0.size : Int)
   ·rw [if_pos c4] at H
    have c4b0 : decide (0 < (a0.size : Int)) = true := decide_eq_true c4
    have c4b1 : decide (0 < a0.size) = true := decide_eq_true (by omega)
    clear c4
    have H' := Aside0.mk H
    clear H
    have p5 : 0 ≤ (0 : Int) := (by omega)
    have q5 : 0 < a0.size := (by have : (0 : Int) < (a0.size : Int) := of_decide_eq_true (by first | (with_reducible assumption) | assumption); omega)
    have hx5 : ∀ h : 0 < a0.size, ((a0[0]'h).toNat : Int) = bt a0 0 := bt_at a0 0
    clear p5
    have qi5 : (0 < (a0.size : Int)) = True := eq_true (of_decide_eq_true (by first | (with_reducible assumption) | assumption))
    replace q5 := eq_true q5
    go_wp2
    repeat (go_quiet (fail); try go_wp2)
    go_meet
    case rel => exact ⟨_, (((bt a0 0) == 123)), (by first | rfl | (simp; done) | (simp [*]; done)), H', ⟨by first | omega | exact Nat.le_refl _⟩, by repeat (first | exact Drawn0.refl _ | apply Drawn0.step)⟩
   ·rw [if_neg c4] at H
    exact absurd H (by simp)
  ·rw [if_neg c3] at H
   have c3b0 : decide (1 < (a0.size : Int)) = false := decide_eq_false c3
   have c3b1 : decide (1 < a0.size) = false := decide_eq_false (by omega)
   clear c3
   (first | rw [c3b0] | (simp only [i64_w, i32_w]; rw [c3b0]) | skip)
   have H' := Aside0.mk H
   clear H
   go_wp2
   repeat (go_quiet (fail); try go_wp2)
   go_meet
   case rel => exact ⟨_, (false), (by first | rfl | (simp; done) | (simp [*]; done)), H', ⟨by first | omega | exact Nat.le_refl _⟩, by repeat (first | exact Drawn0.refl _ | apply Drawn0.step)⟩
 case rest =>
  clear HC2
  try clear p2
  try clear c3
  try clear c3b0
  try clear c3b1
  try clear c4
  try clear c4b0
  try clear c4b1
  try clear p5
  try clear q5
  try clear hx5
  try clear qi5
  try clear p5
  try clear q5
  obtain ⟨kq, x13_1, rfl, HA, HJ1, ⟨mc1, rfl⟩⟩ := hcut
  cases kq with
  | zero => exact absurd HA.out (by simp [spec_First.j0])
  | succ kj1 =>
   have H := HA.out
   clear HA
   simp only [spec_First.j0] at H
   by_cases c6 : x13_1 = true
   ·subst c6
    have H1 : (if 1 + a0.size ≤ 9223372036854775807 then ((spec_complete.f kj1 ((⟨#[97]⟩ : ByteArray) ++ a0)).bind fun t127 => (if (wrap64 (t127 - 1)) ≤ 0 then (some ((⟨#[]⟩ : ByteArray), (⟨#[]⟩ : ByteArray), false)) else (if 0 ≤ (wrap64 (t127 - 1)) then (if (wrap64 (t127 - 1)) ≤ (a0.size : Int) then (some (a0.extract 0 ((wrap64 (t127 - 1)) : Int).toNat, a0.extract ((wrap64 (t127 - 1)) : Int).toNat a0.size, true)) else (none)) else (none)))) else (none)) = some (r1, r2, r3) := by rw [if_pos rfl] at H; exact H
    clear H
    have H := H1
    clear H1
    by_cases c7 : 1 + a0.size ≤ 9223372036854775807
    ·rw [if_pos c7] at H
     have c7b0 := eq_true c7
     have c7b1 : decide (1 + a0.size ≤ 9223372036854775807) = true := decide_eq_true c7
     try have c7b2 : (9223372036854775807 < 1 + a0.size) = False := eq_false (Nat.not_lt.2 c7)
     replace H := Option.bind_eq_some_iff.mp H
     obtain ⟨t127, A80, H⟩ := H
     replace H : (if (wrap64 (t127 - 1)) ≤ 0 then (some ((⟨#[]⟩ : ByteArray), (⟨#[]⟩ : ByteArray), false)) else (if 0 ≤ (wrap64 (t127 - 1)) then (if (wrap64 (t127 - 1)) ≤ (a0.size : Int) then (some (a0.extract 0 ((wrap64 (t127 - 1)) : Int).toNat, a0.extract ((wrap64 (t127 - 1)) : Int).toNat a0.size, true)) else (none)) else (none))) = some (r1, r2, r3) := H
     have A8 := Aside0.mk A80
     clear A80
     by_cases c9 : (wrap64 (t127 - 1)) ≤ 0
     ·rw [if_pos c9] at H
      have c9b0 : decide ((wrap64 (t127 - 1)) ≤ 0) = true := decide_eq_true c9
      clear c9
      simp only [Option.some.injEq, Prod.mk.injEq] at H
      obtain ⟨rfl, rfl, rfl⟩ := H
      go_wp2_with (first | (go_at_call 43; (with_reducible refine (spec_complete.calls kj1 ((⟨#[97]⟩ : ByteArray) ++ a0) t127 _ A8.out).mono ?_); rintro e w' ⟨rfl, ⟨nd, rfl⟩⟩; (try first | exact ⟨rfl, _, World.drewN_drewN _ _ _⟩ | exact ⟨rfl, _, Eq.trans (World.drewN_drewN _ _ _) (congrArg (World.drewN _) (Nat.add_assoc _ _ _))⟩)))
      repeat (go_quiet (first | (go_at_call 43; (with_reducible refine (spec_complete.calls kj1 ((⟨#[97]⟩ : ByteArray) ++ a0) t127 _ A8.out).mono ?_); rintro e w' ⟨rfl, ⟨nd, rfl⟩⟩; (try first | exact ⟨rfl, _, World.drewN_drewN _ _ _⟩ | exact ⟨rfl, _, Eq.trans (World.drewN_drewN _ _ _) (congrArg (World.drewN _) (Nat.add_assoc _ _ _))⟩))); try go_wp2_with (first | (go_at_call 43; (with_reducible refine (spec_complete.calls kj1 ((⟨#[97]⟩ : ByteArray) ++ a0) t127 _ A8.out).mono ?_); rintro e w' ⟨rfl, ⟨nd, rfl⟩⟩; (try first | exact ⟨rfl, _, World.drewN_drewN _ _ _⟩ | exact ⟨rfl, _, Eq.trans (World.drewN_drewN _ _ _) (congrArg (World.drewN _) (Nat.add_assoc _ _ _))⟩))))
      go_ret3
      exact ⟨by first | rfl | (simp; done) | (simp [*]; done), by repeat (first | exact Drawn0.refl _ | apply Drawn0.step)⟩
     ·rw [if_neg c9] at H
      have c9b0 : decide ((wrap64 (t127 - 1)) ≤ 0) = false := decide_eq_false c9
      clear c9
      obtain ⟨ji10, hji10⟩ : ∃ j_ : Int, (wrap64 (t127 - 1)) = j_ := ⟨_, rfl⟩
      replace H : (if 0 ≤ (ji10) then (if (ji10) ≤ (a0.size : Int) then (some (a0.extract 0 ((ji10) : Int).toNat, a0.extract ((ji10) : Int).toNat a0.size, true)) else (none)) else (none)) = some (r1, r2, r3) := by first | (rw [hji10] at H; exact H) | (simp only [hji10] at H ⊢; exact H)
      (try rw [hji10] at c9b0)
      (try rw [hji10] at A8)
      have hji10w : (IntKind.i64.wrap (t127 - 1)) = ji10 := (i64_w _).trans hji10
      by_cases c11 : 0 ≤ (ji10)
      ·rw [if_pos c11] at H
       have c11b0 := eq_true c11
       have c11b1 : decide (0 ≤ (ji10)) = true := decide_eq_true c11
       clear c11
       by_cases c12 : (ji10) ≤ (a0.size : Int)
       ·rw [if_pos c12] at H
        have c12b0 := eq_true c12
        have c12b1 : decide ((ji10) ≤ (a0.size : Int)) = true := decide_eq_true c12
        clear c12
        have c13b0 := eq_true (of_decide_eq_true (by first | (with_reducible assumption) | assumption) : 0 ≤ (ji10))
        have c14b0 := eq_true (of_decide_eq_true (by first | (with_reducible assumption) | assumption) : (ji10) ≤ (a0.size : Int))
        simp only [Option.some.injEq, Prod.mk.injEq] at H
        obtain ⟨rfl, rfl, rfl⟩ := H
        go_wp2_with (first | (go_at_call 43; (with_reducible refine (spec_complete.calls kj1 ((⟨#[97]⟩ : ByteArray) ++ a0) t127 _ A8.out).mono ?_); rintro e w' ⟨rfl, ⟨nd, rfl⟩⟩; (try first | exact ⟨rfl, _, World.drewN_drewN _ _ _⟩ | exact ⟨rfl, _, Eq.trans (World.drewN_drewN _ _ _) (congrArg (World.drewN _) (Nat.add_assoc _ _ _))⟩)))
        repeat (go_quiet (first | (go_at_call 43; (with_reducible refine (spec_complete.calls kj1 ((⟨#[97]⟩ : ByteArray) ++ a0) t127 _ A8.out).mono ?_); rintro e w' ⟨rfl, ⟨nd, rfl⟩⟩; (try first | exact ⟨rfl, _, World.drewN_drewN _ _ _⟩ | exact ⟨rfl, _, Eq.trans (World.drewN_drewN _ _ _) (congrArg (World.drewN _) (Nat.add_assoc _ _ _))⟩))); try go_wp2_with (first | (go_at_call 43; (with_reducible refine (spec_complete.calls kj1 ((⟨#[97]⟩ : ByteArray) ++ a0) t127 _ A8.out).mono ?_); rintro e w' ⟨rfl, ⟨nd, rfl⟩⟩; (try first | exact ⟨rfl, _, World.drewN_drewN _ _ _⟩ | exact ⟨rfl, _, Eq.trans (World.drewN_drewN _ _ _) (congrArg (World.drewN _) (Nat.add_assoc _ _ _))⟩))))
        go_ret3
        exact ⟨by first | rfl | (simp; done) | (simp only [← hji10] <;> (first | rfl | simp)) | (simp [*]; done), by repeat (first | exact Drawn0.refl _ | apply Drawn0.step)⟩
       ·rw [if_neg c12] at H
        exact absurd H (by simp)
      ·rw [if_neg c11] at H
       exact absurd H (by simp)
    ·rw [if_neg c7] at H
     exact absurd H (by simp)
   ·replace c6 := Bool.eq_false_iff.mpr c6
    subst c6
    have H1 : ((spec_complete.f kj1 a0).bind fun t128 => (if t128 ≤ 0 then (some ((⟨#[]⟩ : ByteArray), (⟨#[]⟩ : ByteArray), false)) else (if 0 ≤ t128 then (if t128 ≤ (a0.size : Int) then (some (a0.extract 0 (t128 : Int).toNat, a0.extract (t128 : Int).toNat a0.size, true)) else (none)) else (none)))) = some (r1, r2, r3) := by rw [if_neg (show ¬ (false = true) by decide)] at H; exact H
    clear H
    have H := H1
    clear H1
    replace H := Option.bind_eq_some_iff.mp H
    obtain ⟨t128, A150, H⟩ := H
    replace H : (if t128 ≤ 0 then (some ((⟨#[]⟩ : ByteArray), (⟨#[]⟩ : ByteArray), false)) else (if 0 ≤ t128 then (if t128 ≤ (a0.size : Int) then (some (a0.extract 0 (t128 : Int).toNat, a0.extract (t128 : Int).toNat a0.size, true)) else (none)) else (none))) = some (r1, r2, r3) := H
    have A15 := Aside0.mk A150
    clear A150
    by_cases c16 : t128 ≤ 0
    ·rw [if_pos c16] at H
     have c16b0 : decide (t128 ≤ 0) = true := decide_eq_true c16
     clear c16
     simp only [Option.some.injEq, Prod.mk.injEq] at H
     obtain ⟨rfl, rfl, rfl⟩ := H
     go_wp2_with (first | (go_at_call 43; (with_reducible refine (spec_complete.calls kj1 a0 t128 _ A15.out).mono ?_); rintro e w' ⟨rfl, ⟨nd, rfl⟩⟩; (try first | exact ⟨rfl, _, World.drewN_drewN _ _ _⟩ | exact ⟨rfl, _, Eq.trans (World.drewN_drewN _ _ _) (congrArg (World.drewN _) (Nat.add_assoc _ _ _))⟩)))
     repeat (go_quiet (first | (go_at_call 43; (with_reducible refine (spec_complete.calls kj1 a0 t128 _ A15.out).mono ?_); rintro e w' ⟨rfl, ⟨nd, rfl⟩⟩; (try first | exact ⟨rfl, _, World.drewN_drewN _ _ _⟩ | exact ⟨rfl, _, Eq.trans (World.drewN_drewN _ _ _) (congrArg (World.drewN _) (Nat.add_assoc _ _ _))⟩))); try go_wp2_with (first | (go_at_call 43; (with_reducible refine (spec_complete.calls kj1 a0 t128 _ A15.out).mono ?_); rintro e w' ⟨rfl, ⟨nd, rfl⟩⟩; (try first | exact ⟨rfl, _, World.drewN_drewN _ _ _⟩ | exact ⟨rfl, _, Eq.trans (World.drewN_drewN _ _ _) (congrArg (World.drewN _) (Nat.add_assoc _ _ _))⟩))))
     go_ret3
     exact ⟨by first | rfl | (simp; done) | (simp [*]; done), by repeat (first | exact Drawn0.refl _ | apply Drawn0.step)⟩
    ·rw [if_neg c16] at H
     have c16b0 : decide (t128 ≤ 0) = false := decide_eq_false c16
     clear c16
     by_cases c17 : 0 ≤ t128
     ·rw [if_pos c17] at H
      have c17b0 := eq_true c17
      have c17b1 : decide (0 ≤ t128) = true := decide_eq_true c17
      clear c17
      by_cases c18 : t128 ≤ (a0.size : Int)
      ·rw [if_pos c18] at H
       have c18b0 := eq_true c18
       have c18b1 : decide (t128 ≤ (a0.size : Int)) = true := decide_eq_true c18
       clear c18
       have c19b0 := eq_true (of_decide_eq_true (by first | (with_reducible assumption) | assumption) : 0 ≤ t128)
       have c20b0 := eq_true (of_decide_eq_true (by first | (with_reducible assumption) | assumption) : t128 ≤ (a0.size : Int))
       simp only [Option.some.injEq, Prod.mk.injEq] at H
       obtain ⟨rfl, rfl, rfl⟩ := H
       go_wp2_with (first | (go_at_call 43; (with_reducible refine (spec_complete.calls kj1 a0 t128 _ A15.out).mono ?_); rintro e w' ⟨rfl, ⟨nd, rfl⟩⟩; (try first | exact ⟨rfl, _, World.drewN_drewN _ _ _⟩ | exact ⟨rfl, _, Eq.trans (World.drewN_drewN _ _ _) (congrArg (World.drewN _) (Nat.add_assoc _ _ _))⟩)))
       repeat (go_quiet (first | (go_at_call 43; (with_reducible refine (spec_complete.calls kj1 a0 t128 _ A15.out).mono ?_); rintro e w' ⟨rfl, ⟨nd, rfl⟩⟩; (try first | exact ⟨rfl, _, World.drewN_drewN _ _ _⟩ | exact ⟨rfl, _, Eq.trans (World.drewN_drewN _ _ _) (congrArg (World.drewN _) (Nat.add_assoc _ _ _))⟩))); try go_wp2_with (first | (go_at_call 43; (with_reducible refine (spec_complete.calls kj1 a0 t128 _ A15.out).mono ?_); rintro e w' ⟨rfl, ⟨nd, rfl⟩⟩; (try first | exact ⟨rfl, _, World.drewN_drewN _ _ _⟩ | exact ⟨rfl, _, Eq.trans (World.drewN_drewN _ _ _) (congrArg (World.drewN _) (Nat.add_assoc _ _ _))⟩))))
       go_ret3
       exact ⟨by first | rfl | (simp; done) | (simp [*]; done), by repeat (first | exact Drawn0.refl _ | apply Drawn0.step)⟩
      ·rw [if_neg c18] at H
       exact absurd H (by simp)
     ·rw [if_neg c17] at H
      exact absurd H (by simp)

-- NOT PRINTED: function 23 (spec_tidy)

-- NOT PRINTED: function 12 (spec_Tidy)

end Go.Proofs.YtboioihppjhjcaaDoor.MFnSgOf

namespace Go.Proofs.YtboioihppjhjcaaDoor.MFnSgOf
open Go.RowKit Go.Proofs.YtboioihppjhjcaaDoorW.PrintWords Go.Proofs.YtboioihppjhjcaaDoorW.PrintLast Go.Proofs.YtboioihppjhjcaaDoorW.PrintMore
attribute [local go_sem] max2_int min2_int max_two min_two max_three min_three max_four min_four
set_option linter.unusedVariables false
set_option linter.unusedSimpArgs false

open Go.Proofs.YtboioihppjhjcaaDoor.Hlp Go.Proofs.YtboioihppjhjcaaDoor.SgT Go.Proofs.YtboioihppjhjcaaDoor.SgZ
mutual
/-- A value's signature. -/
def sig : S31 → ByteArray
  | ⟨a, _, s, l⟩ => if a = 97 then (⟨#[97]⟩ : ByteArray) ++ s else if a = 40 then strOfNums [a] ++ sigL l ++ (⟨#[41]⟩ : ByteArray) else if a = 123 then strOfNums [a] ++ sigL l ++ (⟨#[125]⟩ : ByteArray) else strOfNums [a]
def sigL : List S31 → ByteArray
  | [] => ⟨#[]⟩
  | x :: r => sig x ++ sigL r
end
theorem son_size (l : List Int) : (strOfNums l).size = l.length := by simp [strOfNums, ByteArray.size]
/-- A tree's texts are short. -/
def Sh (L : List S31) : Prop := ∀ y ∈ nodesL L, y.f2.size ≤ 65536
theorem Sh.cons {x : S31} {L : List S31} (h : Sh (x :: L)) : x.f2.size ≤ 65536 ∧ Sh x.f3 ∧ Sh L := by
  unfold Sh at h
  rw [nodesL, nodes_eq] at h
  exact ⟨h x (by simp), fun y hy => h y (by simp [hy]), fun y hy => h y (by simp [hy])⟩
theorem sz_app (a b : ByteArray) : (a ++ b).size = a.size + b.size := ByteArray.size_append
theorem nodesL_cons (x : S31) (L : List S31) : (nodesL (x :: L)).length = 1 + (nodesL x.f3).length + (nodesL L).length := by
  rw [nodesL, nodes_eq]; simp; omega
theorem sigL_size : ∀ n (L : List S31), (nodesL L).length ≤ n → Sh L → (sigL L).size ≤ 65540 * (nodesL L).length := by
  intro n
  induction n with
  | zero =>
    intro L h _
    cases L with
    | nil => rw [sigL]; exact Nat.zero_le _
    | cons x r => rw [nodesL_cons] at h; omega
  | succ n ih =>
    intro L h hs
    cases L with
    | nil => rw [sigL]; exact Nat.zero_le _
    | cons x r =>
      obtain ⟨h1, h2, h3⟩ := hs.cons
      rw [nodesL_cons] at h ⊢
      have i1 := ih x.f3 (by omega) h2
      have i2 := ih r (by omega) h3
      obtain ⟨a, b, s, l⟩ := x
      simp only at h1 i1 i2 ⊢
      rw [sigL, sz_app]
      have : (sig ⟨a, b, s, l⟩).size ≤ 65540 + 65540 * (nodesL l).length := by
        rw [sig]
        split
        · rw [sz_app]; have : (⟨#[97]⟩ : ByteArray).size = 1 := rfl; omega
        · split
          · rw [sz_app, sz_app, son_size]; have : (⟨#[41]⟩ : ByteArray).size = 1 := rfl; simp only [List.length_cons, List.length_nil]; omega
          · split
            · rw [sz_app, sz_app, son_size]; have : (⟨#[125]⟩ : ByteArray).size = 1 := rfl; simp only [List.length_cons, List.length_nil]; omega
            · rw [son_size]; simp only [List.length_cons, List.length_nil]; omega
      omega
theorem sig_size {x : S31} (h : Sh [x]) : (sig x).size ≤ 65540 * (nodes x).length := by
  have := sigL_size _ [x] (Nat.le_refl _) h
  rw [sigL, sz_app] at this
  rw [nodesL] at this
  simp only [sigL, nodesL, List.append_nil] at this
  omega
/-- The reference's signature of a value is its signature. -/
theorem ev_sigL (x3 : ByteArray) (L0 : List S31) (hx : ∀ x ∈ L0, Ev (fun k => spec_SigOf.f k x.f0 x.f1 x.f2 x.f3) (sig x)) (hz : L0.length ≤ 1000) : ∀ (d i : Nat) (x4 : ByteArray), L0.length - i = d → i ≤ L0.length →
    x4.size + (sigL (L0.drop i)).size + x3.size ≤ 1000000000000 → Ev (fun k => spec_SigOf.l0 k x3 x4 L0 (L0.length : Int) (i : Int)) (x4 ++ sigL (L0.drop i) ++ x3) := by
  intro d
  induction d with
  | zero =>
    intro i x4 hd hi hs
    have e : L0.drop i = [] := List.drop_eq_nil_of_le (by omega)
    rw [e] at hs ⊢
    rw [sigL] at hs ⊢
    have e2 : x4 ++ (⟨#[]⟩ : ByteArray) = x4 := bl_ext (by rw [bl_append]; simp [bl])
    rw [e2]
    refine Ev.step (f := fun _ => some (x4 ++ x3)) (fun k => ?_) (Ev.now _)
    simp only [spec_SigOf.l0]
    rw [if_neg (by omega), if_pos (by omega)]
  | succ d ih =>
    intro i x4 hd hi hs
    have hlt : i < L0.length := by omega
    have e : L0.drop i = L0[i] :: L0.drop (i + 1) := List.drop_eq_getElem_cons hlt
    have er : rd_T31 L0 (i : Int) = L0[i] := by unfold rd_T31; rw [Int.toNat_natCast, List.getD_eq_getElem?_getD, List.getElem?_eq_getElem hlt]; rfl
    rw [e] at hs ⊢
    rw [sigL] at hs ⊢
    rw [sz_app] at hs
    have h1 := hx _ (List.getElem_mem hlt)
    have h2 := ih (i + 1) (x4 ++ sig L0[i]) (by omega) (by omega) (by rw [sz_app]; omega)
    have e2 : x4 ++ (sig L0[i] ++ sigL (L0.drop (i + 1))) ++ x3 = x4 ++ sig L0[i] ++ sigL (L0.drop (i + 1)) ++ x3 := bl_ext (by simp [bl_append])
    rw [e2]
    have ew : wrap64 ((i : Int) + 1) = ((i + 1 : Nat) : Int) := w64 (by omega) (by omega)
    have st : ∀ k, spec_SigOf.l0 (k + 1) x3 x4 L0 (L0.length : Int) (i : Int) = (spec_SigOf.f k L0[i].f0 L0[i].f1 L0[i].f2 L0[i].f3).bind fun t => (if x4.size + t.size ≤ 9223372036854775807 then (spec_SigOf.l0 k x3 (x4 ++ t) L0 (L0.length : Int) ((i + 1 : Nat) : Int)) else none) := by
      intro k
      simp only [spec_SigOf.l0, er, ew]
      rw [if_pos (by omega), if_pos (by omega), if_pos (by omega)]
    exact Ev.step st (Ev.bind h1 (ev_ite_pos (by omega) (fun _ => rfl) h2))
theorem ev_sig : ∀ n (x : S31), (nodes x).length ≤ n → (nodes x).length ≤ 1000 → Sh [x] → Ev (fun k => spec_SigOf.f k x.f0 x.f1 x.f2 x.f3) (sig x) := by
  intro n
  induction n with
  | zero => intro x h; rw [nodes_eq] at h; simp at h
  | succ n ih =>
    intro x h hm hs
    obtain ⟨h1, h2, _⟩ := hs.cons
    have hsz := sig_size hs
    obtain ⟨a, b, s, l⟩ := x
    rw [nodes_eq] at h hm hsz
    simp only [List.length_cons] at h hm hsz
    simp only at h1 h2 h hm hsz ⊢
    have hl := nodesL_len l
    have kids : ∀ x ∈ l, Ev (fun k => spec_SigOf.f k x.f0 x.f1 x.f2 x.f3) (sig x) := by
      clear hsz
      intro x hx
      obtain ⟨p, q, rfl⟩ := List.append_of_mem hx
      rw [nodesL_app, nodesL] at h hm
      simp only [List.length_append] at h hm
      refine ih x (by omega) (by omega) ?_
      intro y hy
      rw [nodesL, nodesL, List.append_nil] at hy
      exact h2 y (by rw [nodesL_app, nodesL]; simp [hy])
    have run := fun x3 (h3 : x3.size = 1) (ha : a = 40 ∨ a = 123) => ev_sigL x3 l kids (by omega) _ 0 (strOfNums [a]) rfl (Nat.zero_le _) (by
      have := sigL_size _ l (Nat.le_refl _) h2
      rw [List.drop_zero, son_size, h3]; simp only [List.length_cons, List.length_nil]; omega)
    rw [sig] at hsz ⊢
    split
    case isTrue h97 =>
      refine Ev.step (f := fun _ => some ((⟨#[97]⟩ : ByteArray) ++ s)) (fun k => ?_) (Ev.now _)
      simp only [spec_SigOf.f]
      rw [if_pos h97, if_pos (by omega)]
    case isFalse h97 =>
    have j1 : ∀ x3 k, spec_SigOf.j1 (k + 1) x3 a b s l = spec_SigOf.l0 k x3 (strOfNums [a]) l (l.length : Int) ((0 : Nat) : Int) := fun x3 k => by simp only [spec_SigOf.j1]; rfl
    split
    case isTrue h40 =>
      have h123 : ¬ a = 123 := by omega
      have := run ⟨#[41]⟩ rfl (.inl h40)
      rw [List.drop_zero] at this
      refine Ev.step (f := fun k => spec_SigOf.j0 k true a b s l) (fun k => ?_) (Ev.step (f := fun k => spec_SigOf.j1 k ⟨#[41]⟩ a b s l) (fun k => ?_) (Ev.step (j1 _) this))
      · simp only [spec_SigOf.f]; rw [if_neg h97, if_pos h40, beq_iff_eq.mpr h40]
      · simp only [spec_SigOf.j0]; rw [if_pos trivial, if_neg h123]
    case isFalse h40 =>
    split
    case isTrue h123 =>
      have := run ⟨#[125]⟩ rfl (.inr h123)
      rw [List.drop_zero] at this
      refine Ev.step (f := fun k => spec_SigOf.j0 k true a b s l) (fun k => ?_) (Ev.step (f := fun k => spec_SigOf.j1 k ⟨#[125]⟩ a b s l) (fun k => ?_) (Ev.step (j1 _) this))
      · simp only [spec_SigOf.f]; rw [if_neg h97, if_neg h40, beq_iff_eq.mpr h123]
      · simp only [spec_SigOf.j0]; rw [if_pos trivial, if_pos h123]
    case isFalse h123 =>
      refine Ev.step (f := fun k => spec_SigOf.j0 k false a b s l) (fun k => ?_) (Ev.step (f := fun _ => some (strOfNums [a])) (fun k => ?_) (Ev.now _))
      · simp only [spec_SigOf.f]; rw [if_neg h97, if_neg h40, beq_eq_false_iff_ne.mpr h123]
      · simp only [spec_SigOf.j0]; rw [if_neg (by simp)]

end Go.Proofs.YtboioihppjhjcaaDoor.MFnSgOf

/- The reference's reader of complete types says what the plain notion says: how long the first complete type of a text is, 0 if there is none. -/
namespace Go.Proofs.YtboioihppjhjcaaDoor.MFnSgOfs
open Go Go.RowKit Go.Proofs.YtboioihppjhjcaaDoor.MFnSgOf Go.Proofs.YtboioihppjhjcaaDoorW.PrintWords Go.Proofs.YtboioihppjhjcaaDoorW.PrintLast Go.Proofs.YtboioihppjhjcaaDoor.Hlp Go.Proofs.YtboioihppjhjcaaDoor.SgT
set_option linter.unusedVariables false

theorem bl_drop (s : ByteArray) (p : Nat) : bl (s.extract p s.size) = (bl s).drop p := by
  rw [bl_extract]; exact List.take_of_length_le (by rw [List.length_drop, bl_len]; omega)
theorem size_drop (s : ByteArray) (p : Nat) : (s.extract p s.size).size = s.size - p := by
  rw [← bl_len, bl_drop, List.length_drop, bl_len]
theorem basic_fin : ∀ n : Fin 256, spec_Basic.f (n.val : Int) = some (basicC (UInt8.ofNat n.val)) := by decide +kernel
theorem basic_f (c : UInt8) : spec_Basic.f (c.toNat : Int) = some (basicC c) := by
  have := basic_fin ⟨c.toNat, c.toNat_lt⟩
  simpa using this
theorem bt_cons {s : ByteArray} {c : UInt8} {r : List UInt8} (h : bl s = c :: r) : bt s 0 = (c.toNat : Int) := by
  have := bt_getD s 0
  rw [h] at this
  exact this
theorem bt_drop {s : ByteArray} {p : Nat} {c : UInt8} {r : List UInt8} (h : (bl s).drop p = c :: r) : bt s (p : Int) = (c.toNat : Int) := by
  rw [bt_getD]
  have e : (bl s).getD p 0 = ((bl s).drop p).getD 0 0 := by simp [List.getD_eq_getElem?_getD]
  rw [e, h]; rfl
theorem wp3 (t : Nat) (h : t ≤ 1000000000) : wrap64 ((t : Int) + 3) = ((t + 3 : Nat) : Int) := w64 (by omega) (by omega)
theorem wp4 (t : Nat) (h : t ≤ 1000000000) : wrap64 ((t : Int) + 4) = ((t + 4 : Nat) : Int) := w64 (by omega) (by omega)
theorem num_eq {c : UInt8} (d : UInt8) : (c.toNat : Int) = (d.toNat : Int) ↔ c = d := by
  constructor
  · intro h; exact UInt8.toNat_inj.mp (by exact_mod_cast h)
  · intro h; rw [h]

section
theorem f_step (k : Nat) (s : ByteArray) (A B E : Int) : spec_Complete.f (k + 1) s A B E = spec_Complete.j0 k s A B E (decide (s.size = 0 ∨ A < 0 ∨ B < 0 ∨ E < 0)) := by
  simp only [spec_Complete.f]
  by_cases h0 : s.size = 0
  · rw [if_pos ((emp_iff s).mpr h0), decide_eq_true (.inl h0)]
  rw [if_neg (fun q => h0 ((emp_iff s).mp q))]
  by_cases hA : A < 0
  · rw [if_pos hA, decide_eq_true (.inr (.inl hA))]
  rw [if_neg hA]
  by_cases hB : B < 0
  · rw [if_pos hB, decide_eq_true (.inr (.inr (.inl hB)))]
  rw [if_neg hB]
  congr 1
  exact decide_eq_decide.mpr ⟨fun h => .inr (.inr (.inr h)), fun h => by rcases h with h | h | h | h <;> first | exact absurd h h0 | exact absurd h hA | exact absurd h hB | exact h⟩
theorem j0_bad (k : Nat) (s : ByteArray) (A B E : Int) : spec_Complete.j0 (k + 1) s A B E true = some 0 := by
  simp only [spec_Complete.j0]; exact if_pos trivial
theorem j0_step (k : Nat) {s : ByteArray} {c : UInt8} {r : List UInt8} (h : bl s = c :: r) (A B E : Int) : spec_Complete.j0 (k + 1) s A B E false = spec_Complete.j1 k s A B E (oneC c) := by
  simp only [spec_Complete.j0]
  have hz : 0 < s.size := by rw [← bl_len, h]; simp
  rw [if_neg (by decide), if_pos (by omega), bt_cons h, basic_f]
  show (if basicC c = true then _ else _) = _
  by_cases hb : basicC c = true
  · rw [if_pos hb]; simp [oneC, hb]
  · rw [if_neg hb]
    congr 1
    simp only [oneC, Bool.eq_false_iff.mpr hb, Bool.false_or]
    rw [Bool.eq_iff_iff, beq_iff_eq, beq_iff_eq]
    exact num_eq 118
theorem j1_one (k : Nat) (s : ByteArray) (A B E : Int) : spec_Complete.j1 (k + 1) s A B E true = some 1 := by
  simp only [spec_Complete.j1]; exact if_pos trivial
theorem j1_dict (k : Nat) {s : ByteArray} {r : List UInt8} (h : bl s = 97 :: 123 :: r) (A B E : Int) : spec_Complete.j1 (k + 1) s A B E false = spec_Complete.j2 k s A B E true := by
  simp only [spec_Complete.j1]
  have hz : s.size = r.length + 2 := by rw [← bl_len, h]; simp
  have h1 : bt s 1 = 123 := bt_drop (s := s) (p := 1) (c := 123) (r := r) (by rw [h]; rfl)
  rw [if_neg (by decide), if_pos (by omega), bt_cons h, if_pos (by rfl), if_pos (by omega), if_pos (by omega), h1]; rfl
theorem j1_other (k : Nat) {s : ByteArray} {c : UInt8} {r : List UInt8} (h : bl s = c :: r) (hn : ¬ (c = 97 ∧ ∃ q, r = 123 :: q)) (A B E : Int) : spec_Complete.j1 (k + 1) s A B E false = spec_Complete.j2 k s A B E false := by
  simp only [spec_Complete.j1]
  have hz : s.size = r.length + 1 := by rw [← bl_len, h]; simp
  rw [if_neg (by decide), if_pos (by omega), bt_cons h]
  by_cases hc : c = 97
  · rw [if_pos (show (c.toNat : Int) = 97 from (num_eq 97).mpr hc)]
    cases r with
    | nil => rw [if_neg (by simp at hz; omega)]
    | cons d q =>
      simp only [List.length_cons] at hz
      have h1 : bt s 1 = (d.toNat : Int) := bt_drop (s := s) (p := 1) (c := d) (r := q) (by rw [h]; rfl)
      rw [if_pos (by omega), if_pos (by omega), h1]
      congr 1
      rw [beq_eq_false_iff_ne]
      intro e
      exact hn ⟨hc, q, by rw [(num_eq 123).mp e]⟩
  · rw [if_neg (show ¬ (c.toNat : Int) = 97 from fun q => hc ((num_eq 97).mp q))]
theorem j3_bad (k : Nat) (s : ByteArray) (A B E : Int) : spec_Complete.j3 (k + 1) s A B E true = some 0 := by
  simp only [spec_Complete.j3]; exact if_pos trivial
theorem j2_short (k : Nat) {s : ByteArray} (h : s.size < 4) (A B E : Int) : spec_Complete.j2 (k + 1) s A B E true = spec_Complete.j3 k s A B E true := by
  simp only [spec_Complete.j2]
  rw [if_pos trivial, if_pos (by omega)]
theorem j2_long (k : Nat) {s : ByteArray} {c : UInt8} {r : List UInt8} (h : ¬ s.size < 4) (hc : (bl s).drop 2 = c :: r) (A B E : Int) : spec_Complete.j2 (k + 1) s A B E true = spec_Complete.j3 k s A B E (!basicC c) := by
  simp only [spec_Complete.j2]
  have h1 : bt s 2 = (c.toNat : Int) := bt_drop (s := s) (p := 2) hc
  rw [if_pos trivial, if_neg (by omega), if_pos (by omega), h1, basic_f]; rfl
end

/-- How long the first complete type is. -/
def Tells (s : ByteArray) (A B E : Int) (n : Nat) : Prop :=
  (∀ x rest, T A B E x → bl s = x ++ rest → n = x.length) ∧ (0 < n → n ≤ s.size ∧ T A B E ((bl s).take n))

theorem tells_none {s : ByteArray} {A B E : Int} (h : ∀ x rest, T A B E x → ¬ bl s = x ++ rest) : Tells s A B E 0 :=
  ⟨fun x rest t e => absurd e (h x rest t), fun q => absurd q (by omega)⟩

section
variable (M : Nat) (hM : M ≤ 1000000000)
def Claim (n : Nat) : Prop := ∀ s : ByteArray, s.size ≤ n → s.size ≤ 1000000000 → ∀ A B E : Int, -5 ≤ A → A ≤ 1000 → -5 ≤ B → B ≤ 1000 → -5 ≤ E → E ≤ 1000 → ∃ n : Nat, Ev (fun k => spec_Complete.f k s A B E) (n : Int) ∧ Tells s A B E n

/-- The fields of a struct, from a place on. -/
theorem loop (N : Nat) (ih : Claim N) (s : ByteArray) (hN : s.size ≤ N + 1) (hs : s.size ≤ 1000000000) (A B E : Int) (hA : 0 ≤ A) (hA2 : A ≤ 1000) (hB : 0 ≤ B) (hB2 : B ≤ 1000) (hE : 0 ≤ E) (hE2 : E ≤ 1000) (d : Nat) :
    ∀ (pos : Nat) (xs : List (List UInt8)) (tail : List UInt8), s.size - pos = d → 1 ≤ pos → bl s = 40 :: (xs.flatten ++ tail) → pos = 1 + xs.flatten.length → (∀ x ∈ xs, T A (B - 1) E x) →
    ∃ n : Nat, Ev (fun k => spec_Complete.l0 k s A B E (pos : Int)) (n : Int) ∧
      (∀ ys rest, (∀ y ∈ ys, T A (B - 1) E y) → xs ++ ys ≠ [] → tail = ys.flatten ++ 41 :: rest → n = pos + ys.flatten.length + 1) ∧ (0 < n → n ≤ s.size ∧ T A B E ((bl s).take n)) := by
  induction d using Nat.strongRecOn with
  | _ d ihd =>
  intro pos xs tail hd hp hb hpos hxs
  have htail : (bl s).drop pos = tail := by
    rw [hb, hpos, Nat.add_comm, List.drop_succ_cons]; simp
  have hlen : s.size = pos + tail.length := by rw [← bl_len, hb, hpos]; simp; omega
  have hnil : xs = [] ↔ pos = 1 := by
    constructor
    · intro h; rw [h] at hpos; simpa using hpos
    · intro h
      cases xs with
      | nil => rfl
      | cons x r =>
        have := (hxs x List.mem_cons_self).len
        simp at hpos; omega
  cases tail with
  | nil =>
    simp only [List.length_nil] at hlen
    refine ⟨0, Ev.step (f := fun k => spec_Complete.j5 k s A B E (pos : Int) false) (fun k => ?_) (Ev.step (f := fun _ => some 0) (fun k => ?_) (Ev.now _)), ?_, fun q => absurd q (by omega)⟩
    · simp only [spec_Complete.l0]; rw [if_neg (by omega)]
    · simp only [spec_Complete.j5]
      rw [if_neg (by decide)]
      by_cases h1 : (pos : Int) > 1
      · rw [if_pos h1, if_neg (by omega)]
      · rw [if_neg h1]
    · intro ys rest _ _ e
      have := congrArg List.length e
      simp at this
  | cons c r =>
    simp only [List.length_cons] at hlen
    have hc : bt s (pos : Int) = (c.toNat : Int) := bt_drop htail
    have l0e : ∀ k, spec_Complete.l0 (k + 1) s A B E (pos : Int) = spec_Complete.j5 k s A B E (pos : Int) ((c.toNat : Int) != 41) := by
      intro k; simp only [spec_Complete.l0]; rw [if_pos (by omega), if_pos (by omega), hc]
    by_cases h41 : c = 41
    · subst h41
      by_cases h1 : pos = 1
      · refine ⟨0, Ev.step l0e (Ev.step (f := fun _ => some 0) (fun k => ?_) (Ev.now _)), ?_, fun q => absurd q (by omega)⟩
        · simp only [spec_Complete.j5]
          rw [if_neg (by decide), if_neg (by omega)]
        · intro ys rest hys hne e
          rw [hnil.mpr h1, List.nil_append] at hne
          cases ys with
          | nil => exact absurd rfl hne
          | cons y ys =>
            obtain ⟨c', r', rfl, _, h, _⟩ := (hys y List.mem_cons_self).head
            simp at e
            exact absurd e.1.symm h
      · refine ⟨pos + 1, Ev.step l0e (Ev.step (f := fun _ => some ((pos + 1 : Nat) : Int)) (fun k => ?_) (Ev.now _)), ?_, ?_⟩
        · simp only [spec_Complete.j5]
          rw [if_neg (by decide), if_pos (by omega), if_pos (by omega), w64 (by omega) (by omega)]; rfl
        · intro ys rest hys hne e
          cases ys with
          | nil => simp
          | cons y ys =>
            obtain ⟨c', r', rfl, _, h, _⟩ := (hys y List.mem_cons_self).head
            simp at e
            exact absurd e.1.symm h
        · intro _
          refine ⟨by omega, ?_⟩
          have e : (bl s).take (pos + 1) = 40 :: (xs.flatten ++ [41]) := by
            rw [hb, hpos, List.take_succ_cons, Nat.add_comm 1, List.take_append]
            simp [List.take_of_length_le]
          rw [e]
          exact T.str hA hB hE (fun q => h1 (hnil.mp q)) hxs
    · have hb41 : ((c.toNat : Int) != 41) = true := by
        rw [bne_iff_ne]; intro q; exact h41 ((num_eq 41).mp q)
      obtain ⟨t, ht, ht1, ht2⟩ := ih (s.extract pos s.size) (by rw [size_drop]; omega) (by rw [size_drop]; omega) A (B - 1) E (by omega) hA2 (by omega) (by omega) (by omega) hE2
      rw [bl_drop, htail] at ht1 ht2
      rw [size_drop] at ht2
      have wB : wrap64 (B - 1) = B - 1 := w64 (by omega) (by omega)
      have j5e : ∀ k, spec_Complete.j5 (k + 1) s A B E (pos : Int) ((c.toNat : Int) != 41) = (spec_Complete.f k (s.extract pos s.size) A (B - 1) E).bind fun t112 => (if t112 = 0 then (some 0) else (spec_Complete.l0 k s A B E (wrap64 ((pos : Int) + t112)))) := by
        intro k
        simp only [spec_Complete.j5]
        rw [if_pos hb41, if_pos (by omega), if_pos (by omega), wB, Int.toNat_natCast]
      by_cases hz : t = 0
      · subst hz
        refine ⟨0, Ev.step l0e (Ev.step j5e (Ev.bind ht (ev_ite_pos rfl (fun _ => rfl) (Ev.now _)))), ?_, fun q => absurd q (by omega)⟩
        intro ys rest hys hne e
        cases ys with
        | nil => simp at e; exact absurd e.1 h41
        | cons y ys =>
          have hy := hys y List.mem_cons_self
          have := ht1 y (ys.flatten ++ 41 :: rest) hy (by rw [e]; simp)
          have := hy.len
          omega
      · obtain ⟨ht3, ht4⟩ := ht2 (by omega)
        have hsz : t ≤ r.length + 1 := by omega
        have hx : (c :: r) = (c :: r).take t ++ (c :: r).drop t := (List.take_append_drop t _).symm
        obtain ⟨n, hn, hn1, hn2⟩ := ihd (s.size - (pos + t)) (by omega) (pos + t) (xs ++ [(c :: r).take t]) ((c :: r).drop t) rfl (by omega)
          (by rw [hb]; simp only [List.flatten_append, List.flatten_cons, List.flatten_nil, List.append_nil, List.append_assoc]; rw [← hx])
          (by simp only [List.flatten_append, List.flatten_cons, List.flatten_nil, List.append_nil, List.length_append, List.length_take, List.length_cons]; omega)
          (by intro x hx; rcases List.mem_append.mp hx with h | h
              · exact hxs x h
              · rw [List.mem_singleton.mp h]; exact ht4)
        have e2 : wrap64 ((pos : Int) + (t : Int)) = ((pos + t : Nat) : Int) := w64 (by omega) (by omega)
        refine ⟨n, Ev.step l0e (Ev.step j5e (Ev.bind ht (ev_ite_neg (by omega) (fun _ => rfl) ?_))), ?_, hn2⟩
        · rw [e2]; exact hn
        · intro ys rest hys hne e
          cases ys with
          | nil => simp at e; exact absurd e.1 h41
          | cons y ys =>
            have hy := hys y List.mem_cons_self
            have ey := ht1 y (ys.flatten ++ 41 :: rest) hy (by rw [e]; simp)
            have e3 : (c :: r).drop t = ys.flatten ++ 41 :: rest := by
              rw [e, ey]; simp
            have := hn1 ys rest (fun z hz => hys z (List.mem_cons_of_mem _ hz)) (by simp) e3
            rw [this]; simp; omega
end

/-- A fact that arithmetic does not see. -/
structure Hid (p : Prop) : Prop where
  mk' ::
  out' : p
set_option maxHeartbeats 1000000 in
theorem complete (N : Nat) : Claim N := by
  induction N with
  | zero =>
    intro s h0 hs A B E a1 a2 b1 b2 e1 e2
    have hz : s.size = 0 := by omega
    refine ⟨0, Ev.step (fun k => f_step k s A B E) ?_, tells_none ?_⟩
    · rw [decide_eq_true (.inl hz)]
      exact Ev.step (f := fun _ => some 0) (fun k => j0_bad k s A B E) (Ev.now _)
    · intro x rest t e
      have := t.len
      have h2 := congrArg List.length e
      rw [bl_len, List.length_append] at h2
      omega
  | succ N ih =>
    intro s h0 hs A B E a1 a2 b1 b2 e1 e2
    by_cases bad : s.size = 0 ∨ A < 0 ∨ B < 0 ∨ E < 0
    · refine ⟨0, Ev.step (fun k => f_step k s A B E) ?_, tells_none ?_⟩
      · rw [decide_eq_true bad]
        exact Ev.step (f := fun _ => some 0) (fun k => j0_bad k s A B E) (Ev.now _)
      · intro x rest t e
        have h1 := t.len
        have h2 := congrArg List.length e
        have h3 := t.pos
        rw [bl_len, List.length_append] at h2
        omega
    have hA : 0 ≤ A := by omega
    have hB : 0 ≤ B := by omega
    have hE : 0 ≤ E := by omega
    obtain ⟨c, r, hb⟩ : ∃ c r, bl s = c :: r := by
      cases h : bl s with
      | nil => have : s.size = 0 := by rw [← bl_len, h]; rfl
               omega
      | cons c r => exact ⟨c, r, rfl⟩
    have hlen : s.size = r.length + 1 := by rw [← bl_len, hb]; simp
    have up : ∀ n, Ev (fun k => spec_Complete.j1 k s A B E (oneC c)) n → Ev (fun k => spec_Complete.f k s A B E) n := by
      intro n h
      refine Ev.step (fun k => f_step k s A B E) ?_
      rw [decide_eq_false bad]
      exact Ev.step (fun k => j0_step k hb A B E) h
    have wA : Hid (wrap64 (A - 1) = A - 1) := Hid.mk' (w64 (by omega) (by omega))
    have wE : Hid (wrap64 (E - 1) = E - 1) := Hid.mk' (w64 (by omega) (by omega))
    cases ho : oneC c with
    | true =>
      rw [ho] at up
      obtain ⟨_, n97, n40, _, _, _⟩ := one_ascii c ho
      refine ⟨1, up _ (Ev.step (f := fun _ => some 1) (fun k => j1_one k s A B E) (Ev.now _)), ?_, ?_⟩
      · intro x rest t e
        rw [hb] at e
        obtain ⟨_, _, _, h⟩ := t.cases
        rcases h with ⟨c', hc, rfl⟩ | ⟨x, hx, rfl⟩ | ⟨c', x, hc, hx, rfl⟩ | ⟨xs, hn, hx, rfl⟩
        · rfl
        · simp at e; exact absurd e.1 n97
        · simp at e; exact absurd e.1 n97
        · simp at e; exact absurd e.1 n40
      · intro _
        refine ⟨by omega, ?_⟩
        rw [hb]
        exact T.one hA hB hE ho
    | false =>
      rw [ho] at up
      by_cases hd : c = 97 ∧ ∃ q, r = 123 :: q
      · obtain ⟨rfl, q, rfl⟩ := hd
        simp only [List.length_cons] at hlen
        have up2 : ∀ n, Ev (fun k => spec_Complete.j2 k s A B E true) n → Ev (fun k => spec_Complete.f k s A B E) n :=
          fun n h => up n (Ev.step (fun k => j1_dict k hb A B E) h)
        have only : ∀ x rest, T A B E x → bl s = x ++ rest → ∃ c' y, basicC c' = true ∧ T (A - 1) B (E - 1) y ∧ x = 97 :: 123 :: c' :: (y ++ [125]) ∧ q = c' :: (y ++ 125 :: rest) := by
          intro x rest t e
          rw [hb] at e
          obtain ⟨_, _, _, h⟩ := t.cases
          rcases h with ⟨c', hc, rfl⟩ | ⟨y, hy, rfl⟩ | ⟨c', y, hc, hy, rfl⟩ | ⟨xs, hn, hx, rfl⟩
          · simp at e; rw [← e.1] at hc; exact absurd hc (by decide)
          · obtain ⟨c2, r2, rfl, h123, _⟩ := hy.head
            simp at e; exact absurd e.1.symm h123
          · exact ⟨c', y, hc, hy, rfl, by simpa using e⟩
          · simp at e
        by_cases h4 : s.size < 4
        · refine ⟨0, up2 _ (Ev.step (fun k => j2_short k h4 A B E) (Ev.step (f := fun _ => some 0) (fun k => j3_bad k s A B E) (Ev.now _))), tells_none ?_⟩
          intro x rest t e
          obtain ⟨c', y, _, hy, _, rfl⟩ := only x rest t e
          have := hy.len
          simp at hlen; omega
        cases q with
        | nil => simp at hlen; omega
        | cons c2 q2 =>
          simp only [List.length_cons] at hlen
          have hdr : (bl s).drop 2 = c2 :: q2 := by rw [hb]; rfl
          have hdr3 : (bl s).drop 3 = q2 := by rw [hb]; rfl
          cases hbc : basicC c2 with
          | false =>
            refine ⟨0, up2 _ (Ev.step (fun k => j2_long k h4 hdr A B E) ?_), tells_none ?_⟩
            · rw [hbc]; exact Ev.step (f := fun _ => some 0) (fun k => j3_bad k s A B E) (Ev.now _)
            · intro x rest t e
              obtain ⟨c', y, hc', _, _, e2⟩ := only x rest t e
              injection e2 with e3 _
              rw [e3, hc'] at hbc; exact absurd hbc (by decide)
          | true =>
            obtain ⟨t, ht, ht1, ht2⟩ := ih (s.extract 3 s.size) (by rw [size_drop]; omega) (by rw [size_drop]; omega) (A - 1) B (E - 1) (by omega) (by omega) (by omega) b2 (by omega) (by omega)
            rw [bl_drop, hdr3] at ht1 ht2
            rw [size_drop] at ht2
            have up3 : ∀ n, Ev (fun k => (spec_Complete.f k (s.extract 3 s.size) (A - 1) B (E - 1)).bind fun t110 => (if t110 = 0 then (some 0) else (if (s.size : Int) < (wrap64 (t110 + 4)) then (some 0) else (if 0 ≤ (wrap64 (t110 + 3)) then (if (wrap64 (t110 + 3)) < (s.size : Int) then (if (bt s (wrap64 (t110 + 3))) = 125 then (some (wrap64 (t110 + 4))) else (some 0)) else (none)) else (none))))) n → Ev (fun k => spec_Complete.f k s A B E) n := by
              intro n h
              refine up2 n (Ev.step (fun k => j2_long k h4 hdr A B E) ?_)
              rw [hbc]
              refine Ev.step (fun k => ?_) h
              simp only [spec_Complete.j3]
              rw [Bool.not_true, if_neg (by decide), if_pos (by omega), wA.out', wE.out']
            by_cases hz : t = 0
            · subst hz
              refine ⟨0, up3 _ (Ev.bind ht (ev_ite_pos rfl (fun _ => rfl) (Ev.now _))), tells_none ?_⟩
              intro x rest t e
              obtain ⟨c', y, _, hy, _, e2⟩ := only x rest t e
              injection e2 with e3 e4
              have := ht1 y (125 :: rest) hy (by rw [e4])
              have := hy.len
              omega
            · obtain ⟨ht3, ht4⟩ := ht2 (by omega)
              have htb : t ≤ 1000000000 := by omega
              by_cases hsh : s.size < t + 4
              · refine ⟨0, up3 _ (Ev.bind ht (ev_ite_neg (by omega) (fun _ => rfl) (ev_ite_pos (by rw [wp4 t htb]; omega) (fun _ => rfl) (Ev.now _)))), tells_none ?_⟩
                intro x rest tt e
                obtain ⟨c', y, _, hy, _, e2⟩ := only x rest tt e
                injection e2 with e3 e4
                have h5 := ht1 y (125 :: rest) hy (by rw [e4])
                have h6 := congrArg List.length e4
                simp at h6; omega
              · obtain ⟨c5, r5, h5⟩ : ∃ c5 r5, q2.drop t = c5 :: r5 := by
                  cases h : q2.drop t with
                  | nil => have := congrArg List.length h; rw [List.length_drop] at this; simp at this; omega
                  | cons c5 r5 => exact ⟨c5, r5, rfl⟩
                have hdt : (bl s).drop (t + 3) = c5 :: r5 := by rw [hb]; simpa using h5
                have hbt : bt s (wrap64 ((t : Int) + 3)) = (c5.toNat : Int) := by rw [wp3 t htb]; exact bt_drop hdt
                by_cases h125 : c5 = 125
                · refine ⟨t + 4, up3 _ (Ev.bind ht (ev_ite_neg (by omega) (fun _ => rfl) (ev_ite_neg (by rw [wp4 t htb]; omega) (fun _ => rfl) (ev_ite_pos (by rw [wp3 t htb]; omega) (fun _ => rfl) (ev_ite_pos (by rw [wp3 t htb]; omega) (fun _ => rfl) (ev_ite_pos (by rw [hbt, h125]; rfl) (fun _ => rfl) (by rw [wp4 t htb]; exact Ev.now _))))))), ?_, ?_⟩
                  · intro x rest tt e
                    obtain ⟨c', y, _, hy, rfl, e2⟩ := only x rest tt e
                    injection e2 with e3 e4
                    have h6 := ht1 y (125 :: rest) hy (by rw [e4])
                    simp; omega
                  · intro _
                    refine ⟨by omega, ?_⟩
                    have e : (bl s).take (t + 4) = 97 :: 123 :: c2 :: (q2.take t ++ [125]) := by
                      rw [hb]
                      simp only [List.take_succ_cons]
                      have h7 : q2.take (t + 1) = q2.take t ++ [125] := by
                        rw [List.take_add, h5, h125]; rfl
                      rw [h7]
                    rw [e]
                    exact T.dict hA hB hE hbc ht4
                · refine ⟨0, up3 _ (Ev.bind ht (ev_ite_neg (by omega) (fun _ => rfl) (ev_ite_neg (by rw [wp4 t htb]; omega) (fun _ => rfl) (ev_ite_pos (by rw [wp3 t htb]; omega) (fun _ => rfl) (ev_ite_pos (by rw [wp3 t htb]; omega) (fun _ => rfl) (ev_ite_neg (by rw [hbt]; exact fun z => h125 ((num_eq 125).mp z)) (fun _ => rfl) (Ev.now _))))))), tells_none ?_⟩
                  intro x rest tt e
                  obtain ⟨c', y, _, hy, _, e2⟩ := only x rest tt e
                  injection e2 with e3 e4
                  have h6 := ht1 y (125 :: rest) hy (by rw [e4])
                  rw [e4, h6] at h5
                  simp at h5
                  exact h125 h5.1.symm
      · have up2 : ∀ n, Ev (fun k => spec_Complete.j2 k s A B E false) n → Ev (fun k => spec_Complete.f k s A B E) n :=
          fun n h => up n (Ev.step (fun k => j1_other k hb hd A B E) h)
        by_cases h97 : c = 97
        · subst h97
          have hdr1 : (bl s).drop 1 = r := by rw [hb]; rfl
          obtain ⟨t, ht, ht1, ht2⟩ := ih (s.extract 1 s.size) (by rw [size_drop]; omega) (by rw [size_drop]; omega) (A - 1) B E (by omega) (by omega) (by omega) b2 (by omega) e2
          rw [bl_drop, hdr1] at ht1 ht2
          rw [size_drop] at ht2
          have up3 : ∀ n, Ev (fun k => (spec_Complete.f k (s.extract 1 s.size) (A - 1) B E).bind fun t111 => (if t111 > 0 then (some (wrap64 (t111 + 1))) else (some 0))) n → Ev (fun k => spec_Complete.f k s A B E) n := by
            intro n h
            refine up2 n (Ev.step (fun k => ?_) h)
            simp only [spec_Complete.j2]
            rw [if_neg (by decide), if_pos (by omega), bt_cons hb, if_pos (by rfl), if_pos (by omega), wA.out']
          have only : ∀ x rest, T A B E x → bl s = x ++ rest → ∃ y, T (A - 1) B E y ∧ x = 97 :: y ∧ r = y ++ rest := by
            intro x rest t e
            rw [hb] at e
            obtain ⟨_, _, _, h⟩ := t.cases
            rcases h with ⟨c', hc, rfl⟩ | ⟨y, hy, rfl⟩ | ⟨c', y, hc, hy, rfl⟩ | ⟨xs, hn, hx, rfl⟩
            · simp at e; rw [← e.1] at hc; exact absurd hc (by decide)
            · exact ⟨y, hy, rfl, by simpa using e⟩
            · exact absurd ⟨rfl, _, (List.cons.inj e).2⟩ hd
            · simp at e
          by_cases hz : 0 < t
          · obtain ⟨ht3, ht4⟩ := ht2 hz
            refine ⟨t + 1, up3 _ (Ev.bind ht (ev_ite_pos (by omega) (fun _ => rfl) (by rw [w64 (by omega) (by omega)]; exact Ev.now _))), ?_, ?_⟩
            · intro x rest tt e
              obtain ⟨y, hy, rfl, e2⟩ := only x rest tt e
              have := ht1 y rest hy e2
              simp; omega
            · intro _
              refine ⟨by omega, ?_⟩
              rw [hb, List.take_succ_cons]
              exact T.arr hA hB hE ht4
          · refine ⟨0, up3 _ (Ev.bind ht (ev_ite_neg (by omega) (fun _ => rfl) (Ev.now _))), tells_none ?_⟩
            intro x rest tt e
            obtain ⟨y, hy, rfl, e2⟩ := only x rest tt e
            have := ht1 y rest hy e2
            have := hy.len
            omega
        · by_cases h40 : c = 40
          · subst h40
            obtain ⟨n, hn, hn1, hn2⟩ := loop N ih s h0 hs A B E hA a2 hB b2 hE e2 (s.size - 1) 1 [] r rfl (by omega) (by rw [hb]; rfl) rfl (fun x hx => by cases hx)
            refine ⟨n, up2 _ (Ev.step (fun k => ?_) hn), ?_, hn2⟩
            · simp only [spec_Complete.j2]
              rw [if_neg (by decide), if_pos (by omega), bt_cons hb, if_neg (by decide), if_pos (by rfl)]; rfl
            · intro x rest t e
              rw [hb] at e
              obtain ⟨_, _, _, h⟩ := t.cases
              rcases h with ⟨c', hc, rfl⟩ | ⟨y, hy, rfl⟩ | ⟨c', y, hc, hy, rfl⟩ | ⟨xs, hne, hx, rfl⟩
              · simp at e; rw [← e.1] at hc; exact absurd hc (by decide)
              · simp at e
              · simp at e
              · have := hn1 xs rest hx (by simpa using hne) (by simpa using e)
                rw [this]; simp; omega
          · refine ⟨0, up2 _ (Ev.step (f := fun _ => some 0) (fun k => ?_) (Ev.now _)), tells_none ?_⟩
            · simp only [spec_Complete.j2]
              rw [if_neg (by decide), if_pos (by omega), bt_cons hb, if_neg (show ¬ (c.toNat : Int) = 97 from fun z => h97 ((num_eq 97).mp z)), if_neg (show ¬ (c.toNat : Int) = 40 from fun z => h40 ((num_eq 40).mp z))]
            · intro x rest t e
              rw [hb] at e
              obtain ⟨_, _, _, h⟩ := t.cases
              rcases h with ⟨c', hc, rfl⟩ | ⟨y, hy, rfl⟩ | ⟨c', y, hc, hy, rfl⟩ | ⟨xs, hne, hx, rfl⟩
              · simp at e; rw [← e.1, ho] at hc; exact absurd hc (by decide)
              · simp at e; exact h97 e.1
              · simp at e; exact h97 e.1
              · simp at e; exact h40 e.1

end Go.Proofs.YtboioihppjhjcaaDoor.MFnSgOfs

/- The reference's split of a signature: into its complete types, if it is of such and of at most 255 bytes. -/
namespace Go.Proofs.YtboioihppjhjcaaDoor.MFnSgOfy
open Go Go.RowKit Go.Proofs.YtboioihppjhjcaaDoor.MFnSgOf Go.Proofs.YtboioihppjhjcaaDoorW.PrintWords Go.Proofs.YtboioihppjhjcaaDoorW.PrintLast Go.Proofs.YtboioihppjhjcaaDoor.Hlp Go.Proofs.YtboioihppjhjcaaDoor.SgT Go.Proofs.YtboioihppjhjcaaDoor.MFnSgOfs
set_option linter.unusedVariables false

theorem good_cons {A B E : Int} {x : List UInt8} {xs : List (List UInt8)} (hx : T A B E x) (h : ∀ y ∈ xs, T A B E y) : ∀ y ∈ x :: xs, T A B E y := by
  intro y hy
  rcases List.mem_cons.mp hy with rfl | hy
  · exact hx
  · exact h y hy
theorem types_l (m : Nat) : ∀ (s : ByteArray) (acc : List ByteArray), s.size = m → m ≤ 1000 → acc.length + m ≤ 5000 → ∃ L b, Ev (fun k => spec_Types.l0 k s acc) (L, b) ∧
    ((b = true ∧ ∃ zs : List ByteArray, L = acc ++ zs ∧ (∀ x ∈ zs.map bl, T 32 32 32 x) ∧ bl s = (zs.map bl).flatten) ∨ (b = false ∧ L = [] ∧ ∀ ys : List (List UInt8), (∀ x ∈ ys, T 32 32 32 x) → bl s ≠ ys.flatten)) := by
  induction m using Nat.strongRecOn with
  | _ m ih =>
  intro s acc hm hm2 hacc
  by_cases h0 : s.size = 0
  · refine ⟨acc, true, Ev.step (f := fun _ => some (acc, true)) (fun k => ?_) (Ev.now _), .inl ⟨rfl, [], by simp, fun x h => by (cases h), ?_⟩⟩
    · simp only [spec_Types.l0]; rw [if_pos ((emp_iff s).mpr h0)]
    · exact List.eq_nil_of_length_eq_zero h0
  · obtain ⟨n, hn, h1, h2⟩ := complete s.size s (Nat.le_refl _) (by omega) 32 32 32 (by omega) (by omega) (by omega) (by omega) (by omega) (by omega)
    have hc : Ev (fun k => spec_complete.f k s) (n : Int) := Ev.bind hn (Ev.now _)
    have st : ∀ k, spec_Types.l0 (k + 1) s acc = (spec_complete.f k s).bind fun t107 => (if t107 = 0 then (some (([] : List ByteArray), false)) else (if 0 ≤ t107 then (if t107 ≤ (s.size : Int) then (if acc.length < 8796093022208 then (spec_Types.l0 k (s.extract (t107 : Int).toNat s.size) (acc ++ [s.extract 0 (t107 : Int).toNat])) else (none)) else (none)) else (none))) := by
      intro k; simp only [spec_Types.l0]; rw [if_neg (fun q => h0 ((emp_iff s).mp q))]
    by_cases hz : n = 0
    · subst hz
      refine ⟨[], false, Ev.step st (Ev.bind hc (ev_ite_pos rfl (fun _ => rfl) (Ev.now _))), .inr ⟨rfl, rfl, fun ys hys e => ?_⟩⟩
      cases ys with
      | nil => exact h0 (by rw [← bl_len, e]; rfl)
      | cons y ys =>
        have := h1 y ys.flatten (hys y List.mem_cons_self) e
        have := (hys y List.mem_cons_self).len
        omega
    · obtain ⟨h3, h4⟩ := h2 (by omega)
      obtain ⟨L, b, hL, hr⟩ := ih (s.size - n) (by omega) (s.extract n s.size) (acc ++ [s.extract 0 n]) (size_drop s n) (by omega) (by simp; omega)
      refine ⟨L, b, Ev.step st (Ev.bind hc (ev_ite_neg (by omega) (fun _ => rfl) (ev_ite_pos (by omega) (fun _ => rfl) (ev_ite_pos (by omega) (fun _ => rfl) (ev_ite_pos (by omega) (fun _ => rfl) (by rw [Int.toNat_natCast]; exact hL)))))), ?_⟩
      have et : bl (s.extract 0 n) = (bl s).take n := by rw [bl_extract]; rfl
      have es : bl s = (bl s).take n ++ (bl s).drop n := (List.take_append_drop n _).symm
      rcases hr with ⟨hb, zs, e1, e2, e3⟩ | ⟨hb, hL0, e2⟩
      · refine .inl ⟨hb, s.extract 0 n :: zs, by rw [e1]; simp, ?_, ?_⟩
        · rw [List.map_cons, et]; exact good_cons h4 e2
        · rw [List.map_cons, List.flatten_cons, ← e3, bl_drop, et]; exact es
      · refine .inr ⟨hb, hL0, fun ys hys e => ?_⟩
        cases ys with
        | nil => exact h0 (by rw [← bl_len, e]; rfl)
        | cons y ys =>
          have e4 := h1 y ys.flatten (hys y List.mem_cons_self) e
          refine e2 ys (fun x hx => hys x (List.mem_cons_of_mem _ hx)) ?_
          rw [bl_drop, e, e4]; simp
/-- Of a text that is short enough. -/
theorem types (s : ByteArray) (hs : s.size ≤ 1000000000) : ∃ L b, Ev (fun k => spec_Types.f k s) (L, b) ∧
    ((b = true ∧ s.size ≤ 255 ∧ (∀ x ∈ L.map bl, T 32 32 32 x) ∧ bl s = (L.map bl).flatten) ∨ (b = false ∧ L = [] ∧ (255 < s.size ∨ ∀ ys : List (List UInt8), (∀ x ∈ ys, T 32 32 32 x) → bl s ≠ ys.flatten))) := by
  by_cases h : (s.size : Int) > 255
  · exact ⟨[], false, ev_ite_pos h (fun _ => rfl) (Ev.now _), .inr ⟨rfl, rfl, .inl (by omega)⟩⟩
  · obtain ⟨L, b, hL, hr⟩ := types_l s.size s [] rfl (by omega) (by simp; omega)
    refine ⟨L, b, ev_ite_neg h (fun _ => rfl) hL, ?_⟩
    rcases hr with ⟨hb, zs, e1, e2, e3⟩ | ⟨hb, hL0, e2⟩
    · rw [List.nil_append] at e1; subst e1
      exact .inl ⟨hb, by omega, e2, e3⟩
    · exact .inr ⟨hb, hL0, .inr e2⟩
end Go.Proofs.YtboioihppjhjcaaDoor.MFnSgOfy

namespace Go.Proofs.YtboioihppjhjcaaDoor.MFnSgOf
open Go.RowKit Go.Proofs.YtboioihppjhjcaaDoorW.PrintWords Go.Proofs.YtboioihppjhjcaaDoorW.PrintLast Go.Proofs.YtboioihppjhjcaaDoorW.PrintMore
attribute [local go_sem] max2_int min2_int max_two min_two max_three min_three max_four min_four
set_option linter.unusedVariables false
set_option linter.unusedSimpArgs false

open Go.Proofs.YtboioihppjhjcaaDoor.Hlp Go.Proofs.YtboioihppjhjcaaDoor.SgT Go.Proofs.YtboioihppjhjcaaDoor.SgZ Go.Proofs.YtboioihppjhjcaaDoor.MFnSgOfs Go.Proofs.YtboioihppjhjcaaDoor.MFnSgOfy
theorem ex_ite {α : Type} {c : Prop} [Decidable c] {x y : Option α} (h1 : ∃ b, x = some b) (h2 : ∃ b, y = some b) : ∃ b, (if c then x else y) = some b := by split <;> assumption
theorem word_tot (a : Int) : ∃ b, spec_word.f a = some b := by unfold spec_word.f; repeat' first | exact ⟨_, rfl⟩ | refine ex_ite ?_ ?_
theorem inRange_tot (a n : Int) : ∃ b, spec_inRange.f a n = some b := by unfold spec_inRange.f; repeat' first | exact ⟨_, rfl⟩ | refine ex_ite ?_ ?_
/-- The four guards on texts give a bool. -/
theorem vp_l (s : ByteArray) (hs : s.size ≤ 100000) : ∀ d i : Nat, s.size - i = d → 1 ≤ i → ∃ r, Ev (fun k => spec_ValidPath.l0 k s (i : Int)) r := by
  intro d
  induction d with
  | zero =>
    intro i hd hi
    refine ⟨true, Ev.step (f := fun _ => some true) (fun k => ?_) (Ev.now _)⟩
    simp only [spec_ValidPath.l0]; rw [if_neg (by omega)]
  | succ d ih =>
    intro i hd hi
    obtain ⟨r, hr⟩ := ih (i + 1) (by omega) (by omega)
    have ew : wrap64 ((i : Int) + 1) = ((i + 1 : Nat) : Int) := w64 (by omega) (by omega)
    have em : wrap64 ((i : Int) - 1) = ((i - 1 : Nat) : Int) := (w64 (by omega) (by omega)).trans (by omega)
    obtain ⟨b, hb⟩ := word_tot (bt s (i : Int))
    by_cases h : bt s (i : Int) = 47
    · by_cases h2 : bt s ((i - 1 : Nat) : Int) = 47
      · refine ⟨false, Ev.step (f := fun _ => some false) (fun k => ?_) (Ev.now _)⟩
        simp only [spec_ValidPath.l0, em]; rw [if_pos (by omega), if_pos (by omega), if_pos h, if_pos (by omega), if_pos (by omega), if_pos h2]
      · refine ⟨r, Ev.step (fun k => ?_) hr⟩
        simp only [spec_ValidPath.l0, em, ew]; rw [if_pos (by omega), if_pos (by omega), if_pos h, if_pos (by omega), if_pos (by omega), if_neg h2]
    · cases b with
      | true =>
        refine ⟨r, Ev.step (fun k => ?_) hr⟩
        simp only [spec_ValidPath.l0, ew, hb, Option.bind_some]; rw [if_pos (by omega), if_pos (by omega), if_neg h, if_pos trivial]
      | false =>
        refine ⟨false, Ev.step (f := fun _ => some false) (fun k => ?_) (Ev.now _)⟩
        simp only [spec_ValidPath.l0, hb, Option.bind_some]; rw [if_pos (by omega), if_pos (by omega), if_neg h, if_neg (by simp)]
theorem vp_tot (s : ByteArray) (hs : s.size ≤ 100000) : ∃ r, Ev (fun k => spec_ValidPath.f k s) r := by
  obtain ⟨r, hr⟩ := vp_l s hs _ 1 rfl (Nat.le_refl _)
  have jt : ∀ k, spec_ValidPath.j0 (k + 1) s true = some false := fun k => by simp only [spec_ValidPath.j0]; rw [if_pos trivial]
  have jf : ∀ k, spec_ValidPath.j0 (k + 1) s false = spec_ValidPath.l0 k s ((1 : Nat) : Int) := fun k => by simp only [spec_ValidPath.j0]; rw [if_neg (by simp)]; rfl
  have jt' : Ev (fun k => spec_ValidPath.j0 k s true) false := Ev.step (f := fun _ => some false) jt (Ev.now _)
  have jf' : Ev (fun k => spec_ValidPath.j0 k s false) r := Ev.step jf hr
  unfold spec_ValidPath.f
  by_cases h1 : s.toList = ([47] : List UInt8)
  · exact ⟨true, ev_ite_pos h1 (fun _ => rfl) (Ev.now _)⟩
  · by_cases h2 : s.toList = ([] : List UInt8)
    · exact ⟨false, ev_ite_neg h1 (fun _ => rfl) (ev_ite_pos h2 (fun _ => rfl) jt')⟩
    · have hz : s.size ≠ 0 := fun q => h2 (by rw [toList_bl]; exact List.eq_nil_of_length_eq_zero q)
      have em : wrap64 ((s.size : Int) - 1) = ((s.size - 1 : Nat) : Int) := (w64 (by omega) (by omega)).trans (by omega)
      by_cases h3 : bt s 0 = 47
      · cases hc : (bt s (wrap64 ((s.size : Int) - 1)) == 47) with
        | true => exact ⟨false, ev_ite_neg h1 (fun _ => rfl) (ev_ite_neg h2 (fun _ => rfl) (ev_ite_pos (by omega) (fun _ => rfl) (ev_ite_pos h3 (fun _ => rfl) (ev_ite_pos (by rw [em]; omega) (fun _ => rfl) (ev_ite_pos (by rw [em]; omega) (fun _ => rfl) jt')))))⟩
        | false => exact ⟨r, ev_ite_neg h1 (fun _ => rfl) (ev_ite_neg h2 (fun _ => rfl) (ev_ite_pos (by omega) (fun _ => rfl) (ev_ite_pos h3 (fun _ => rfl) (ev_ite_pos (by rw [em]; omega) (fun _ => rfl) (ev_ite_pos (by rw [em]; omega) (fun _ => rfl) jf')))))⟩
      · exact ⟨false, ev_ite_neg h1 (fun _ => rfl) (ev_ite_neg h2 (fun _ => rfl) (ev_ite_pos (by omega) (fun _ => rfl) (ev_ite_neg h3 (fun _ => rfl) jt')))⟩
theorem vs_l (s : ByteArray) (hs : s.size ≤ 100000) : ∀ d i : Nat, s.size - i = d → ∃ r, Ev (fun k => spec_ValidString.l0 k s (i : Int)) r := by
  intro d
  induction d with
  | zero =>
    intro i hd
    refine ⟨Lib.validD s.data.toList, Ev.step (f := fun _ => some (Lib.validD s.data.toList)) (fun k => ?_) (Ev.now _)⟩
    simp only [spec_ValidString.l0, utf8_ValidString.f]; rw [if_neg (by omega), if_pos (by omega)]; rfl
  | succ d ih =>
    intro i hd
    obtain ⟨r, hr⟩ := ih (i + 1) (by omega)
    have ew : wrap64 ((i : Int) + 1) = ((i + 1 : Nat) : Int) := w64 (by omega) (by omega)
    by_cases h : bt s (i : Int) = 0
    · refine ⟨false, Ev.step (f := fun _ => some false) (fun k => ?_) (Ev.now _)⟩
      simp only [spec_ValidString.l0]; rw [if_pos (by omega), if_pos (by omega), if_pos h]
    · refine ⟨r, Ev.step (fun k => ?_) hr⟩
      simp only [spec_ValidString.l0, ew]; rw [if_pos (by omega), if_pos (by omega), if_neg h]
end Go.Proofs.YtboioihppjhjcaaDoor.MFnSgOf

namespace Go.Proofs.YtboioihppjhjcaaDoor.MFnSgOf
open Go.RowKit Go.Proofs.YtboioihppjhjcaaDoorW.PrintWords Go.Proofs.YtboioihppjhjcaaDoorW.PrintLast Go.Proofs.YtboioihppjhjcaaDoorW.PrintMore
attribute [local go_sem] max2_int min2_int max_two min_two max_three min_three max_four min_four
set_option linter.unusedVariables false
set_option linter.unusedSimpArgs false

open Go.Proofs.YtboioihppjhjcaaDoor.Hlp Go.Proofs.YtboioihppjhjcaaDoor.SgT Go.Proofs.YtboioihppjhjcaaDoor.SgZ Go.Proofs.YtboioihppjhjcaaDoor.MFnSgOfs Go.Proofs.YtboioihppjhjcaaDoor.MFnSgOfy
theorem comp_ev (s : ByteArray) (hs : s.size ≤ 1000000000) : ∃ n : Nat, Ev (fun k => spec_complete.f k s) (n : Int) ∧ Tells s 32 32 32 n := by
  obtain ⟨n, hn, h⟩ := complete s.size s (Nat.le_refl _) hs 32 32 32 (by omega) (by omega) (by omega) (by omega) (by omega) (by omega)
  exact ⟨n, Ev.bind hn (Ev.now _), h⟩
theorem bl_97 (s : ByteArray) : bl ((⟨#[97]⟩ : ByteArray) ++ s) = 97 :: bl s := by rw [bl_append]; rfl
/-- The split behind the first type: a text that is one whole, an entry of a dict or not, is an array's elements' type. -/
theorem fi_ev (s : ByteArray) (hs : s.size ≤ 100000) : ∃ (r1 r2 : ByteArray) (r3 : Bool), Ev (fun k => spec_First.f k s) (r1, r2, r3) ∧ (r3 = true → r2.size = 0 → T 33 32 33 (97 :: bl s)) := by
  have jt : ∃ (r1 r2 : ByteArray) (r3 : Bool), Ev (fun k => spec_First.j0 k s true) (r1, r2, r3) ∧ (r3 = true → r2.size = 0 → T 33 32 33 (97 :: bl s)) := by
    have z1 : ((⟨#[97]⟩ : ByteArray) ++ s).size = 1 + s.size := by rw [sz_app]; rfl
    obtain ⟨n, hn, h1, h2⟩ := comp_ev ((⟨#[97]⟩ : ByteArray) ++ s) (by omega)
    have nle : n ≤ 1 + s.size := by
      by_cases h : 0 < n
      · exact z1 ▸ (h2 h).1
      · omega
    have ew : wrap64 ((n : Int) - 1) = (n : Int) - 1 := w64 (by omega) (by omega)
    have st : ∀ k, spec_First.j0 (k + 1) s true = (spec_complete.f k ((⟨#[97]⟩ : ByteArray) ++ s)).bind fun t127 => (if (wrap64 (t127 - 1)) ≤ 0 then (some ((⟨#[]⟩ : ByteArray), (⟨#[]⟩ : ByteArray), false)) else (if 0 ≤ (wrap64 (t127 - 1)) then (if (wrap64 (t127 - 1)) ≤ (s.size : Int) then (some (s.extract 0 ((wrap64 (t127 - 1)) : Int).toNat, s.extract ((wrap64 (t127 - 1)) : Int).toNat s.size, true)) else (none)) else (none))) := by
      intro k; simp only [spec_First.j0]; rw [if_pos trivial, if_pos (by omega)]
    by_cases h0 : (n : Int) - 1 ≤ 0
    · exact ⟨_, _, _, Ev.step st (Ev.bind hn (ev_ite_pos (by rw [ew]; exact h0) (fun _ => rfl) (Ev.now _))), fun h => by cases h⟩
    · refine ⟨_, _, _, Ev.step st (Ev.bind hn (ev_ite_neg (by rw [ew]; exact h0) (fun _ => rfl) (ev_ite_pos (by rw [ew]; omega) (fun _ => rfl) (ev_ite_pos (by rw [ew]; omega) (fun _ => rfl) (Ev.now _))))), fun _ h => ?_⟩
      rw [ew, MFnSgOfs.size_drop] at h
      have t := (h2 (by omega)).2
      rw [bl_97, List.take_of_length_le (by rw [List.length_cons, bl_len]; omega)] at t
      exact t.more (by omega) (by omega) (by omega)
  have jf : ∃ (r1 r2 : ByteArray) (r3 : Bool), Ev (fun k => spec_First.j0 k s false) (r1, r2, r3) ∧ (r3 = true → r2.size = 0 → T 33 32 33 (97 :: bl s)) := by
    obtain ⟨n, hn, h1, h2⟩ := comp_ev s (by omega)
    have nle : n ≤ s.size := by
      by_cases h : 0 < n
      · exact (h2 h).1
      · omega
    have st : ∀ k, spec_First.j0 (k + 1) s false = (spec_complete.f k s).bind fun t128 => (if t128 ≤ 0 then (some ((⟨#[]⟩ : ByteArray), (⟨#[]⟩ : ByteArray), false)) else (if 0 ≤ t128 then (if t128 ≤ (s.size : Int) then (some (s.extract 0 (t128 : Int).toNat, s.extract (t128 : Int).toNat s.size, true)) else (none)) else (none))) := by
      intro k; simp only [spec_First.j0]; rw [if_neg (by simp)]
    by_cases h0 : (n : Int) ≤ 0
    · exact ⟨_, _, _, Ev.step st (Ev.bind hn (ev_ite_pos h0 (fun _ => rfl) (Ev.now _))), fun h => by cases h⟩
    · refine ⟨_, _, _, Ev.step st (Ev.bind hn (ev_ite_neg h0 (fun _ => rfl) (ev_ite_pos (by omega) (fun _ => rfl) (ev_ite_pos (by omega) (fun _ => rfl) (Ev.now _))))), fun _ h => ?_⟩
      rw [MFnSgOfs.size_drop] at h
      have t := (h2 (by omega)).2
      rw [List.take_of_length_le (by rw [bl_len]; omega)] at t
      exact T.arr (by omega) (by omega) (by omega) (t.more (by omega) (by omega) (by omega))
  by_cases h1 : (s.size : Int) > 1
  · cases hb : (bt s 0 == 123) with
    | true =>
      obtain ⟨r1, r2, r3, h, h'⟩ := jt
      exact ⟨r1, r2, r3, ev_ite_pos h1 (fun _ => rfl) (ev_ite_pos (by omega) (fun _ => rfl) (by rw [hb]; exact h)), h'⟩
    | false =>
      obtain ⟨r1, r2, r3, h, h'⟩ := jf
      exact ⟨r1, r2, r3, ev_ite_pos h1 (fun _ => rfl) (ev_ite_pos (by omega) (fun _ => rfl) (by rw [hb]; exact h)), h'⟩
  · obtain ⟨r1, r2, r3, h, h'⟩ := jf
    exact ⟨r1, r2, r3, ev_ite_neg h1 (fun _ => rfl) h, h'⟩
end Go.Proofs.YtboioihppjhjcaaDoor.MFnSgOf

namespace Go.Proofs.YtboioihppjhjcaaDoor.MFnSgOf
open Go.RowKit Go.Proofs.YtboioihppjhjcaaDoorW.PrintWords Go.Proofs.YtboioihppjhjcaaDoorW.PrintLast Go.Proofs.YtboioihppjhjcaaDoorW.PrintMore
attribute [local go_sem] max2_int min2_int max_two min_two max_three min_three max_four min_four   -- for this text's walks alone
set_option linter.unusedVariables false
set_option linter.unusedSimpArgs false

/-! ### spec_tidy: function 23; spec_Tidy: function 12: what they compute -/
mutual
def spec_tidy.j0 : Nat → Bool → Int → Int → ByteArray → List (S31) → Option (Bool)
 | 0, _, _, _, _, _ => none
 | k + 1, x40, x130000, x130001, x130002, x130003 => if x40 = true then (some false) else (if x130000 = 115 then ((spec_ValidString.f k x130002).bind fun t131 => (if t131 = true then (some ((x130003.length : Int) == 0)) else (some false))) else (if x130000 = 111 then ((spec_ValidPath.f k x130002).bind fun t132 => (if t132 = true then (some ((x130003.length : Int) == 0)) else (some false))) else (if x130000 = 103 then ((spec_Valid.f k x130002).bind fun t133 => (if t133 = true then (some ((x130003.length : Int) == 0)) else (some false))) else (if x130000 = 97 then ((spec_First.f k x130002).bind fun bt134 => (if bt134.2.2 = true then (if bt134.2.1.toList = ([] : List UInt8) then (spec_tidy.j1 k (bt134.1.toList != x130002.toList) x130000 x130001 x130002 x130003) else (spec_tidy.j1 k true x130000 x130001 x130002 x130003)) else (spec_tidy.j1 k true x130000 x130001 x130002 x130003))) else (if x130000 = 40 then (spec_tidy.j3 k x130000 (x130000 == 40) x130000 x130001 x130002 x130003) else (spec_tidy.j3 k x130000 (x130000 == 123) x130000 x130001 x130002 x130003))))))
def spec_tidy.j1 : Nat → Bool → Int → Int → ByteArray → List (S31) → Option (Bool)
 | 0, _, _, _, _, _ => none
 | k + 1, x96, x130000, x130001, x130002, x130003 => if x96 = true then (some false) else (spec_tidy.l0 k x130003 (x130003.length : Int) 0 x130000 x130001 x130002 x130003)
def spec_tidy.l0 : Nat → List (S31) → Int → Int → Int → Int → ByteArray → List (S31) → Option (Bool)
 | 0, _, _, _, _, _, _, _ => none
 | k + 1, x98, x99, x100, x130000, x130001, x130002, x130003 => if x100 < x99 then (if 0 ≤ x100 then (if x100 < (x98.length : Int) then ((spec_SigOf.f k ((rd_T31 x98 x100).f0) ((rd_T31 x98 x100).f1) ((rd_T31 x98 x100).f2) ((rd_T31 x98 x100).f3)).bind fun t139 => (if t139.toList = x130002.toList then ((spec_tidy.f k ((rd_T31 x98 x100).f0) ((rd_T31 x98 x100).f1) ((rd_T31 x98 x100).f2) ((rd_T31 x98 x100).f3)).bind fun t140 => (if t140 = true then (spec_tidy.l0 k x98 x99 (wrap64 (x100 + 1)) x130000 x130001 x130002 x130003) else (some false))) else (some false))) else (none)) else (none)) else (some true)
def spec_tidy.j3 : Nat → Int → Bool → Int → Int → ByteArray → List (S31) → Option (Bool)
 | 0, _, _, _, _, _, _ => none
 | k + 1, x42, x115, x130000, x130001, x130002, x130003 => if x115 = true then (if (x130003.length : Int) = 0 then (spec_tidy.j4 k true x130000 x130001 x130002 x130003) else (if x130000 = 123 then (if (x130003.length : Int) = 2 then (if 0 < (x130003.length : Int) then ((spec_Basic.f ((rd_T31 x130003 0).f0)).bind fun t142 => (spec_tidy.j4 k (!t142) x130000 x130001 x130002 x130003)) else (none)) else (spec_tidy.j4 k true x130000 x130001 x130002 x130003)) else (spec_tidy.j4 k false x130000 x130001 x130002 x130003))) else (if x42 = 118 then (if (x130003.length : Int) = 1 then (if 0 < (x130003.length : Int) then ((if ((rd_T31 x130003 0).f0) = 123 then (some false) else ((spec_SigOf.f k ((rd_T31 x130003 0).f0) ((rd_T31 x130003 0).f1) ((rd_T31 x130003 0).f2) ((rd_T31 x130003 0).f3)).bind fun t130 => ((spec_Valid.f k t130).bind fun t131 => (if t131 = true then ((spec_tidy.f k ((rd_T31 x130003 0).f0) ((rd_T31 x130003 0).f1) ((rd_T31 x130003 0).f2) ((rd_T31 x130003 0).f3)).bind fun t132 => (some t132)) else (some false))))).bind fun t147 => (some t147)) else (none)) else (some false)) else ((spec_Basic.f x130000).bind fun t148 => (if t148 = true then (some ((x130003.length : Int) == 0)) else (some false))))
def spec_tidy.j4 : Nat → Bool → Int → Int → ByteArray → List (S31) → Option (Bool)
 | 0, _, _, _, _, _ => none
 | k + 1, x141, x130000, x130001, x130002, x130003 => if x141 = true then (some false) else (spec_tidy.l1 k x130003 (x130003.length : Int) 0)
def spec_tidy.l1 : Nat → List (S31) → Int → Int → Option (Bool)
 | 0, _, _, _ => none
 | k + 1, x143, x144, x145 => if x145 < x144 then (if 0 ≤ x145 then (if x145 < (x143.length : Int) then (if ((rd_T31 x143 x145).f0) = 123 then (some false) else ((spec_tidy.f k ((rd_T31 x143 x145).f0) ((rd_T31 x143 x145).f1) ((rd_T31 x143 x145).f2) ((rd_T31 x143 x145).f3)).bind fun t145 => (if t145 = true then (spec_tidy.l1 k x143 x144 (wrap64 (x145 + 1))) else (some false)))) else (none)) else (none)) else (some true)
def spec_tidy.f : Nat → Int → Int → ByteArray → List (S31) → Option (Bool)
 | 0, _, _, _, _ => none
 | k + 1, a0_0, a0_1, a0_2, l0_3 => (spec_inRange.f a0_0 a0_1).bind fun t130 => (if t130 = true then (if a0_0 = 97 then (spec_tidy.j0 k false a0_0 a0_1 a0_2 l0_3) else (if a0_0 = 115 then (spec_tidy.j0 k false a0_0 a0_1 a0_2 l0_3) else (if a0_0 = 111 then (spec_tidy.j0 k false a0_0 a0_1 a0_2 l0_3) else (if a0_0 = 103 then (spec_tidy.j0 k false a0_0 a0_1 a0_2 l0_3) else (spec_tidy.j0 k (a0_2.toList != ([] : List UInt8)) a0_0 a0_1 a0_2 l0_3))))) else (spec_tidy.j0 k true a0_0 a0_1 a0_2 l0_3))
end
def spec_Tidy.f (k : Nat) (a0_0 : Int) (a0_1 : Int) (a0_2 : ByteArray) (l0_3 : List (S31)) : Option (Bool) := if a0_0 = 123 then (some false) else ((spec_SigOf.f k a0_0 a0_1 a0_2 l0_3).bind fun t130 => ((spec_Valid.f k t130).bind fun t131 => (if t131 = true then ((spec_tidy.f k a0_0 a0_1 a0_2 l0_3).bind fun t132 => (some t132)) else (some false))))

end Go.Proofs.YtboioihppjhjcaaDoor.MFnSgOf

namespace Go.Proofs.YtboioihppjhjcaaDoor.MFnSgOf
open Go.RowKit Go.Proofs.YtboioihppjhjcaaDoorW.PrintWords Go.Proofs.YtboioihppjhjcaaDoorW.PrintLast Go.Proofs.YtboioihppjhjcaaDoorW.PrintMore
attribute [local go_sem] max2_int min2_int max_two min_two max_three min_three max_four min_four
set_option linter.unusedVariables false
set_option linter.unusedSimpArgs false

open Go.Proofs.YtboioihppjhjcaaDoor.Hlp Go.Proofs.YtboioihppjhjcaaDoor.SgT Go.Proofs.YtboioihppjhjcaaDoor.SgZ Go.Proofs.YtboioihppjhjcaaDoor.MFnSgOfs Go.Proofs.YtboioihppjhjcaaDoor.MFnSgOfy
/-- A signature's bytes. -/
def VALID (l : List UInt8) : Prop := l.length ≤ 255 ∧ ∃ xs : List (List UInt8), (∀ x ∈ xs, T 32 32 32 x) ∧ l = xs.flatten
/-- A tidy value, in so many steps. -/
def TD : Nat → S31 → Prop
  | 0, _ => False
  | n + 1, x =>
    (∃ c : UInt8, basicC c = true ∧ x.f0 = (c.toNat : Int)) ∨
    (x.f0 = 118 ∧ ∃ y, x.f3 = [y] ∧ y.f0 ≠ 123 ∧ VALID (bl (sig y)) ∧ TD n y) ∨
    ((x.f0 = 40 ∨ x.f0 = 123 ∧ ∃ k v, x.f3 = [k, v] ∧ ∃ c : UInt8, basicC c = true ∧ k.f0 = (c.toNat : Int)) ∧ x.f3 ≠ [] ∧ ∀ y ∈ x.f3, y.f0 ≠ 123 ∧ TD n y) ∨
    (x.f0 = 97 ∧ T 33 32 33 (97 :: bl x.f2) ∧ ∀ y ∈ x.f3, sig y = x.f2 ∧ TD n y)
theorem len2 {α : Type} (l : List α) (h : l.length = 2) : ∃ a b, l = [a, b] := by
  match l, h with
  | [a, b], _ => exact ⟨a, b, rfl⟩
theorem va_ev (s : ByteArray) (hs : s.size ≤ 1000000000) : ∃ b : Bool, Ev (fun k => spec_Valid.f k s) b ∧ (b = true → VALID (bl s)) := by
  obtain ⟨L, b, hL, h⟩ := types s hs
  have e : Ev (fun k => (spec_Types.f k s).bind fun x => some x.2) b := Ev.bind hL (Ev.now b)
  refine ⟨b, Ev.congr (fun k => rfl) e, fun hb => ?_⟩
  rcases h with ⟨_, h3, h4, h5⟩ | ⟨h3, _⟩
  · exact ⟨h3, _, h4, h5⟩
  · rw [hb] at h3; cases h3
theorem rd_drop {L0 : List S31} {i : Nat} (hlt : i < L0.length) : rd_T31 L0 (i : Int) = L0[i] := by unfold rd_T31; rw [Int.toNat_natCast, List.getD_eq_getElem?_getD, List.getElem?_eq_getElem hlt]; rfl
theorem td_l0 (n : Nat) (s : ByteArray) (a b : Int) (l : List S31) (L0 : List S31) (hk : ∀ x ∈ L0, ∃ b, Ev (fun k => spec_tidy.f k x.f0 x.f1 x.f2 x.f3) b ∧ (b = true → TD n x)) (hx : ∀ x ∈ L0, Ev (fun k => spec_SigOf.f k x.f0 x.f1 x.f2 x.f3) (sig x)) (hz : L0.length ≤ 1000) :
    ∀ d i : Nat, L0.length - i = d → i ≤ L0.length → ∃ r, Ev (fun k => spec_tidy.l0 k L0 (L0.length : Int) (i : Int) a b s l) r ∧ (r = true → ∀ y ∈ L0.drop i, sig y = s ∧ TD n y) := by
  intro d
  induction d with
  | zero =>
    intro i hd hi
    refine ⟨true, Ev.step (f := fun _ => some true) (fun k => ?_) (Ev.now _), fun _ y hy => ?_⟩
    · simp only [spec_tidy.l0]; rw [if_neg (by omega)]
    · rw [List.drop_eq_nil_of_le (by omega)] at hy; cases hy
  | succ d ih =>
    intro i hd hi
    have hlt : i < L0.length := by omega
    have e : L0.drop i = L0[i] :: L0.drop (i + 1) := List.drop_eq_getElem_cons hlt
    obtain ⟨r, hr, hr2⟩ := ih (i + 1) (by omega) (by omega)
    obtain ⟨q, hq, hq2⟩ := hk _ (List.getElem_mem hlt)
    have hs := hx _ (List.getElem_mem hlt)
    have ew : wrap64 ((i : Int) + 1) = ((i + 1 : Nat) : Int) := w64 (by omega) (by omega)
    have st : ∀ k, spec_tidy.l0 (k + 1) L0 (L0.length : Int) (i : Int) a b s l = (spec_SigOf.f k L0[i].f0 L0[i].f1 L0[i].f2 L0[i].f3).bind fun t139 => (if t139.toList = s.toList then ((spec_tidy.f k L0[i].f0 L0[i].f1 L0[i].f2 L0[i].f3).bind fun t140 => (if t140 = true then (spec_tidy.l0 k L0 (L0.length : Int) ((i + 1 : Nat) : Int) a b s l) else (some false))) else (some false)) := by
      intro k; simp only [spec_tidy.l0, rd_drop hlt, ew]; rw [if_pos (by omega), if_pos (by omega), if_pos (by omega)]
    by_cases h : (sig L0[i]).toList = s.toList
    · cases q with
      | true =>
        refine ⟨r, Ev.step st (Ev.bind hs (ev_ite_pos h (fun _ => rfl) (Ev.bind hq (ev_ite_pos rfl (fun _ => rfl) hr)))), fun h1 y hy => ?_⟩
        rw [e] at hy
        rcases List.mem_cons.mp hy with rfl | hy
        · exact ⟨bl_ext (by rw [toList_bl, toList_bl] at h; exact h), hq2 rfl⟩
        · exact hr2 h1 y hy
      | false => exact ⟨false, Ev.step st (Ev.bind hs (ev_ite_pos h (fun _ => rfl) (Ev.bind hq (ev_ite_neg (by simp) (fun _ => rfl) (Ev.now _))))), fun h => by cases h⟩
    · exact ⟨false, Ev.step st (Ev.bind hs (ev_ite_neg h (fun _ => rfl) (Ev.now _))), fun h => by cases h⟩
theorem td_l1 (n : Nat) (L0 : List S31) (hk : ∀ x ∈ L0, ∃ b, Ev (fun k => spec_tidy.f k x.f0 x.f1 x.f2 x.f3) b ∧ (b = true → TD n x)) (hz : L0.length ≤ 1000) :
    ∀ d i : Nat, L0.length - i = d → i ≤ L0.length → ∃ r, Ev (fun k => spec_tidy.l1 k L0 (L0.length : Int) (i : Int)) r ∧ (r = true → ∀ y ∈ L0.drop i, y.f0 ≠ 123 ∧ TD n y) := by
  intro d
  induction d with
  | zero =>
    intro i hd hi
    refine ⟨true, Ev.step (f := fun _ => some true) (fun k => ?_) (Ev.now _), fun _ y hy => ?_⟩
    · simp only [spec_tidy.l1]; rw [if_neg (by omega)]
    · rw [List.drop_eq_nil_of_le (by omega)] at hy; cases hy
  | succ d ih =>
    intro i hd hi
    have hlt : i < L0.length := by omega
    have e : L0.drop i = L0[i] :: L0.drop (i + 1) := List.drop_eq_getElem_cons hlt
    obtain ⟨r, hr, hr2⟩ := ih (i + 1) (by omega) (by omega)
    obtain ⟨q, hq, hq2⟩ := hk _ (List.getElem_mem hlt)
    have ew : wrap64 ((i : Int) + 1) = ((i + 1 : Nat) : Int) := w64 (by omega) (by omega)
    have st : ∀ k, spec_tidy.l1 (k + 1) L0 (L0.length : Int) (i : Int) = (if L0[i].f0 = 123 then (some false) else ((spec_tidy.f k L0[i].f0 L0[i].f1 L0[i].f2 L0[i].f3).bind fun t145 => (if t145 = true then (spec_tidy.l1 k L0 (L0.length : Int) ((i + 1 : Nat) : Int)) else (some false)))) := by
      intro k; simp only [spec_tidy.l1, rd_drop hlt, ew]; rw [if_pos (by omega), if_pos (by omega), if_pos (by omega)]
    by_cases h : L0[i].f0 = 123
    · exact ⟨false, Ev.step st (ev_ite_pos h (fun _ => rfl) (Ev.now _)), fun h => by cases h⟩
    · cases q with
      | true =>
        refine ⟨r, Ev.step st (ev_ite_neg h (fun _ => rfl) (Ev.bind hq (ev_ite_pos rfl (fun _ => rfl) hr))), fun h1 y hy => ?_⟩
        rw [e] at hy
        rcases List.mem_cons.mp hy with rfl | hy
        · exact ⟨h, hq2 rfl⟩
        · exact hr2 h1 y hy
      | false => exact ⟨false, Ev.step st (ev_ite_neg h (fun _ => rfl) (Ev.bind hq (ev_ite_neg (by simp) (fun _ => rfl) (Ev.now _)))), fun h => by cases h⟩
/-- What tidy says of a value that is small enough, and what Tidy says of one of which tidy has said it. -/
theorem ti_ev (n : Nat) (x : S31) (hm : (nodes x).length ≤ 1000) (hs : Sh [x]) (ht : ∃ b, Ev (fun k => spec_tidy.f k x.f0 x.f1 x.f2 x.f3) b ∧ (b = true → TD n x)) :
    ∃ b, Ev (fun k => spec_Tidy.f k x.f0 x.f1 x.f2 x.f3) b ∧ (b = true → x.f0 ≠ 123 ∧ VALID (bl (sig x)) ∧ TD n x) := by
  unfold spec_Tidy.f
  by_cases h : x.f0 = 123
  · exact ⟨false, ev_ite_pos h (fun _ => rfl) (Ev.now _), fun h => by cases h⟩
  · have hz := sig_size hs
    obtain ⟨v, hv, hv2⟩ := va_ev (sig x) (by omega)
    obtain ⟨b, hb, hb2⟩ := ht
    have hsg := ev_sig _ x (Nat.le_refl _) hm hs
    cases v with
    | true => exact ⟨b, ev_ite_neg h (fun _ => rfl) (Ev.bind hsg (Ev.bind hv (ev_ite_pos rfl (fun _ => rfl) (Ev.bind hb (Ev.now _))))), fun h1 => ⟨h, hv2 rfl, hb2 h1⟩⟩
    | false => exact ⟨false, ev_ite_neg h (fun _ => rfl) (Ev.bind hsg (Ev.bind hv (ev_ite_neg (by simp) (fun _ => rfl) (Ev.now _)))), fun h => by cases h⟩
theorem in_Basic (a : Int) : ∃ b, spec_Basic.f a = some b ∧ (b = true → ∃ c : UInt8, basicC c = true ∧ a = (c.toNat : Int)) := by
  by_cases h : 0 ≤ a ∧ a < 256
  · obtain ⟨n, rfl⟩ : ∃ n : Nat, a = n := ⟨a.toNat, by omega⟩
    have := basic_f (UInt8.ofNat n)
    have e : (UInt8.ofNat n).toNat = n := by simp; omega
    rw [e] at this
    exact ⟨_, this, fun hb => ⟨UInt8.ofNat n, hb, by rw [e]⟩⟩
  · refine ⟨false, ?_, fun h => by cases h⟩
    unfold spec_Basic.f
    iterate 13 rw [if_neg (by omega)]
theorem td_ev : ∀ n (x : S31), (nodes x).length ≤ n → (nodes x).length ≤ 1000 → Sh [x] → ∃ b, Ev (fun k => spec_tidy.f k x.f0 x.f1 x.f2 x.f3) b ∧ (b = true → TD n x) := by
  intro n
  induction n with
  | zero => intro x h; rw [nodes_eq] at h; simp at h
  | succ n ih =>
    intro x h hm hs
    obtain ⟨h1, h2, _⟩ := hs.cons
    obtain ⟨a, b, s, l⟩ := x
    rw [nodes_eq] at h hm
    simp only [List.length_cons] at h hm
    simp only at h1 h2 h hm ⊢
    have hl := nodesL_len l
    have kid : ∀ x ∈ l, (nodes x).length ≤ n ∧ (nodes x).length ≤ 1000 ∧ Sh [x] := by
      intro x hx
      obtain ⟨p, q, rfl⟩ := List.append_of_mem hx
      rw [nodesL_app, nodesL] at h hm
      simp only [List.length_append] at h hm
      refine ⟨by omega, by omega, ?_⟩
      intro y hy
      rw [nodesL, nodesL, List.append_nil] at hy
      exact h2 y (by rw [nodesL_app, nodesL]; simp [hy])
    have hk : ∀ x ∈ l, ∃ b, Ev (fun k => spec_tidy.f k x.f0 x.f1 x.f2 x.f3) b ∧ (b = true → TD n x) := fun x hx => ih x (kid x hx).1 (kid x hx).2.1 (kid x hx).2.2
    have hsg : ∀ x ∈ l, Ev (fun k => spec_SigOf.f k x.f0 x.f1 x.f2 x.f3) (sig x) := fun x hx => ev_sig _ x (Nat.le_refl _) (kid x hx).2.1 (kid x hx).2.2
    have e4t : Ev (fun k => spec_tidy.j4 k true a b s l) false := Ev.step (f := fun _ => some false) (fun k => by simp only [spec_tidy.j4]; rw [if_pos trivial]) (Ev.now _)
    have e4 : ∃ r, Ev (fun k => spec_tidy.j4 k false a b s l) r ∧ (r = true → ∀ y ∈ l, y.f0 ≠ 123 ∧ TD n y) := by
      obtain ⟨r, hr, hr2⟩ := td_l1 n l hk (by omega) _ 0 rfl (Nat.zero_le _)
      rw [List.drop_zero] at hr2
      exact ⟨r, Ev.step (fun k => by simp only [spec_tidy.j4]; rw [if_neg (by simp)]; rfl) hr, hr2⟩
    have e1t : Ev (fun k => spec_tidy.j1 k true a b s l) false := Ev.step (f := fun _ => some false) (fun k => by simp only [spec_tidy.j1]; rw [if_pos trivial]) (Ev.now _)
    have e1 : ∃ r, Ev (fun k => spec_tidy.j1 k false a b s l) r ∧ (r = true → ∀ y ∈ l, sig y = s ∧ TD n y) := by
      obtain ⟨r, hr, hr2⟩ := td_l0 n s a b l l hk hsg (by omega) _ 0 rfl (Nat.zero_le _)
      rw [List.drop_zero] at hr2
      exact ⟨r, Ev.step (fun k => by simp only [spec_tidy.j1]; rw [if_neg (by simp)]; rfl) hr, hr2⟩
    have e0t : Ev (fun k => spec_tidy.j0 k true a b s l) false := Ev.step (f := fun _ => some false) (fun k => by simp only [spec_tidy.j0]; rw [if_pos trivial]) (Ev.now _)
    have e3t : (a = 40 ∨ a = 123) → ∃ r, Ev (fun k => spec_tidy.j3 k a true a b s l) r ∧ (r = true → TD (n + 1) ⟨a, b, s, l⟩) := by
      intro ha
      have st : ∀ k, spec_tidy.j3 (k + 1) a true a b s l = (if (l.length : Int) = 0 then (spec_tidy.j4 k true a b s l) else (if a = 123 then (if (l.length : Int) = 2 then (if 0 < (l.length : Int) then ((spec_Basic.f ((rd_T31 l 0).f0)).bind fun t142 => (spec_tidy.j4 k (!t142) a b s l)) else (none)) else (spec_tidy.j4 k true a b s l)) else (spec_tidy.j4 k false a b s l))) := by
        intro k; simp only [spec_tidy.j3]; rw [if_pos trivial]
      obtain ⟨r, hr, hr2⟩ := e4
      by_cases z : (l.length : Int) = 0
      · exact ⟨false, Ev.step st (ev_ite_pos z (fun _ => rfl) e4t), fun h => by cases h⟩
      · have hne : l ≠ [] := fun q => z (by rw [q]; rfl)
        by_cases h123 : a = 123
        · by_cases z2 : (l.length : Int) = 2
          · obtain ⟨k0, v0, rfl⟩ : ∃ k0 v0, l = [k0, v0] := len2 l (by omega)
            obtain ⟨t, ht, ht2⟩ := in_Basic k0.f0
            cases t with
            | true =>
              refine ⟨r, Ev.step st (ev_ite_neg z (fun _ => rfl) (ev_ite_pos h123 (fun _ => rfl) (ev_ite_pos z2 (fun _ => rfl) (ev_ite_pos (by omega) (fun _ => rfl) (Ev.bind (g := fun _ => spec_Basic.f k0.f0) (a := true) ⟨0, fun _ _ => ht⟩ hr))))), fun h => ?_⟩
              exact .inr (.inr (.inl ⟨.inr ⟨h123, k0, v0, rfl, ht2 rfl⟩, hne, hr2 h⟩))
            | false =>
              exact ⟨false, Ev.step st (ev_ite_neg z (fun _ => rfl) (ev_ite_pos h123 (fun _ => rfl) (ev_ite_pos z2 (fun _ => rfl) (ev_ite_pos (by omega) (fun _ => rfl) (Ev.bind (g := fun _ => spec_Basic.f k0.f0) (a := false) ⟨0, fun _ _ => ht⟩ e4t))))), fun h => by cases h⟩
          · exact ⟨false, Ev.step st (ev_ite_neg z (fun _ => rfl) (ev_ite_pos h123 (fun _ => rfl) (ev_ite_neg z2 (fun _ => rfl) e4t))), fun h => by cases h⟩
        · refine ⟨r, Ev.step st (ev_ite_neg z (fun _ => rfl) (ev_ite_neg h123 (fun _ => rfl) hr)), fun h => ?_⟩
          exact .inr (.inr (.inl ⟨.inl (show a = 40 by omega), hne, hr2 h⟩))
    have e3 : ∃ r, Ev (fun k => spec_tidy.j3 k a false a b s l) r ∧ (r = true → TD (n + 1) ⟨a, b, s, l⟩) := by
      have st : ∀ k, spec_tidy.j3 (k + 1) a false a b s l = (if a = 118 then (if (l.length : Int) = 1 then (if 0 < (l.length : Int) then ((spec_Tidy.f k ((rd_T31 l 0).f0) ((rd_T31 l 0).f1) ((rd_T31 l 0).f2) ((rd_T31 l 0).f3)).bind fun t147 => (some t147)) else (none)) else (some false)) else ((spec_Basic.f a).bind fun t148 => (if t148 = true then (some ((l.length : Int) == 0)) else (some false)))) := by
        intro k; simp only [spec_tidy.j3, spec_Tidy.f]; rw [if_neg (by simp)]
      by_cases h118 : a = 118
      · by_cases z : (l.length : Int) = 1
        · obtain ⟨y, rfl⟩ : ∃ y, l = [y] := List.length_eq_one_iff.mp (by omega)
          obtain ⟨r, hr, hr2⟩ := ti_ev n y (kid y (by simp)).2.1 (kid y (by simp)).2.2 (hk y (by simp))
          refine ⟨r, Ev.step st (ev_ite_pos h118 (fun _ => rfl) (ev_ite_pos z (fun _ => rfl) (ev_ite_pos (by omega) (fun _ => rfl) (Ev.bind hr (Ev.now _))))), fun h => ?_⟩
          obtain ⟨g1, g2, g3⟩ := hr2 h
          exact .inr (.inl ⟨h118, y, rfl, g1, g2, g3⟩)
        · exact ⟨false, Ev.step st (ev_ite_pos h118 (fun _ => rfl) (ev_ite_neg z (fun _ => rfl) (Ev.now _))), fun h => by cases h⟩
      · obtain ⟨t, ht, ht2⟩ := in_Basic a
        cases t with
        | true => exact ⟨_, Ev.step st (ev_ite_neg h118 (fun _ => rfl) (Ev.bind (g := fun _ => spec_Basic.f a) (a := true) ⟨0, fun _ _ => ht⟩ (ev_ite_pos rfl (fun _ => rfl) (Ev.now _)))), fun _ => .inl (ht2 rfl)⟩
        | false => exact ⟨false, Ev.step st (ev_ite_neg h118 (fun _ => rfl) (Ev.bind (g := fun _ => spec_Basic.f a) (a := false) ⟨0, fun _ _ => ht⟩ (ev_ite_neg (by simp) (fun _ => rfl) (Ev.now _)))), fun h => by cases h⟩
    have e0 : ∃ r, Ev (fun k => spec_tidy.j0 k false a b s l) r ∧ (r = true → TD (n + 1) ⟨a, b, s, l⟩) := by
      have st : ∀ k, spec_tidy.j0 (k + 1) false a b s l = (if a = 115 then ((spec_ValidString.f k s).bind fun t131 => (if t131 = true then (some ((l.length : Int) == 0)) else (some false))) else (if a = 111 then ((spec_ValidPath.f k s).bind fun t132 => (if t132 = true then (some ((l.length : Int) == 0)) else (some false))) else (if a = 103 then ((spec_Valid.f k s).bind fun t133 => (if t133 = true then (some ((l.length : Int) == 0)) else (some false))) else (if a = 97 then ((spec_First.f k s).bind fun bt134 => (if bt134.2.2 = true then (if bt134.2.1.toList = ([] : List UInt8) then (spec_tidy.j1 k (bt134.1.toList != s.toList) a b s l) else (spec_tidy.j1 k true a b s l)) else (spec_tidy.j1 k true a b s l))) else (if a = 40 then (spec_tidy.j3 k a (a == 40) a b s l) else (spec_tidy.j3 k a (a == 123) a b s l)))))) := by
        intro k; simp only [spec_tidy.j0]; rw [if_neg (by simp)]
      have leaf : ∀ {g : Nat → Option Bool} {t : Bool}, Ev g t → (∃ c : UInt8, basicC c = true ∧ a = (c.toNat : Int)) → ∃ r, Ev (fun k => (g k).bind fun t => (if t = true then (some ((l.length : Int) == 0)) else (some false))) r ∧ (r = true → TD (n + 1) ⟨a, b, s, l⟩) := by
        intro g t hg hc
        cases t with
        | true => exact ⟨_, Ev.bind hg (ev_ite_pos rfl (fun _ => rfl) (Ev.now _)), fun _ => .inl hc⟩
        | false => exact ⟨_, Ev.bind hg (ev_ite_neg (by simp) (fun _ => rfl) (Ev.now _)), fun h => by cases h⟩
      by_cases c1 : a = 115
      · obtain ⟨t, ht⟩ := vs_l s (by omega) _ 0 rfl
        obtain ⟨r, hr, hr2⟩ := leaf (g := fun k => spec_ValidString.f k s) (Ev.congr (fun k => rfl) ht) ⟨115, by decide, c1⟩
        exact ⟨r, Ev.step st (ev_ite_pos c1 (fun _ => rfl) hr), hr2⟩
      · by_cases c2 : a = 111
        · obtain ⟨t, ht⟩ := vp_tot s (by omega)
          obtain ⟨r, hr, hr2⟩ := leaf ht ⟨111, by decide, c2⟩
          exact ⟨r, Ev.step st (ev_ite_neg c1 (fun _ => rfl) (ev_ite_pos c2 (fun _ => rfl) hr)), hr2⟩
        · by_cases c3 : a = 103
          · obtain ⟨t, ht, _⟩ := va_ev s (by omega)
            obtain ⟨r, hr, hr2⟩ := leaf ht ⟨103, by decide, c3⟩
            exact ⟨r, Ev.step st (ev_ite_neg c1 (fun _ => rfl) (ev_ite_neg c2 (fun _ => rfl) (ev_ite_pos c3 (fun _ => rfl) hr))), hr2⟩
          · by_cases c4 : a = 97
            · obtain ⟨r1, r2, r3, hf, hf2⟩ := fi_ev s (by omega)
              cases r3 with
              | false => exact ⟨false, Ev.step st (ev_ite_neg c1 (fun _ => rfl) (ev_ite_neg c2 (fun _ => rfl) (ev_ite_neg c3 (fun _ => rfl) (ev_ite_pos c4 (fun _ => rfl) (Ev.bind hf (ev_ite_neg (by simp) (fun _ => rfl) e1t)))))), fun h => by cases h⟩
              | true =>
                by_cases hr2 : r2.toList = ([] : List UInt8)
                · cases hc : (r1.toList != s.toList) with
                  | true => exact ⟨false, Ev.step st (ev_ite_neg c1 (fun _ => rfl) (ev_ite_neg c2 (fun _ => rfl) (ev_ite_neg c3 (fun _ => rfl) (ev_ite_pos c4 (fun _ => rfl) (Ev.bind hf (ev_ite_pos rfl (fun _ => rfl) (ev_ite_pos hr2 (fun _ => rfl) (by simp only [hc]; exact e1t)))))))), fun h => by cases h⟩
                  | false =>
                    obtain ⟨r, hr, hr3⟩ := e1
                    refine ⟨r, Ev.step st (ev_ite_neg c1 (fun _ => rfl) (ev_ite_neg c2 (fun _ => rfl) (ev_ite_neg c3 (fun _ => rfl) (ev_ite_pos c4 (fun _ => rfl) (Ev.bind hf (ev_ite_pos rfl (fun _ => rfl) (ev_ite_pos hr2 (fun _ => rfl) (by simp only [hc]; exact hr)))))))), fun h => ?_⟩
                    exact .inr (.inr (.inr ⟨c4, hf2 rfl (by rw [toList_bl] at hr2; rw [← bl_len, hr2]; rfl), hr3 h⟩))
                · exact ⟨false, Ev.step st (ev_ite_neg c1 (fun _ => rfl) (ev_ite_neg c2 (fun _ => rfl) (ev_ite_neg c3 (fun _ => rfl) (ev_ite_pos c4 (fun _ => rfl) (Ev.bind hf (ev_ite_pos rfl (fun _ => rfl) (ev_ite_neg hr2 (fun _ => rfl) e1t))))))), fun h => by cases h⟩
            · by_cases c5 : a = 40
              · obtain ⟨r, hr, hr2⟩ := e3t (.inl c5)
                exact ⟨r, Ev.step st (ev_ite_neg c1 (fun _ => rfl) (ev_ite_neg c2 (fun _ => rfl) (ev_ite_neg c3 (fun _ => rfl) (ev_ite_neg c4 (fun _ => rfl) (ev_ite_pos c5 (fun _ => rfl) (by rw [beq_iff_eq.mpr c5]; exact hr)))))), hr2⟩
              · by_cases c6 : a = 123
                · obtain ⟨r, hr, hr2⟩ := e3t (.inr c6)
                  exact ⟨r, Ev.step st (ev_ite_neg c1 (fun _ => rfl) (ev_ite_neg c2 (fun _ => rfl) (ev_ite_neg c3 (fun _ => rfl) (ev_ite_neg c4 (fun _ => rfl) (ev_ite_neg c5 (fun _ => rfl) (by rw [beq_iff_eq.mpr c6]; exact hr)))))), hr2⟩
                · obtain ⟨r, hr, hr2⟩ := e3
                  exact ⟨r, Ev.step st (ev_ite_neg c1 (fun _ => rfl) (ev_ite_neg c2 (fun _ => rfl) (ev_ite_neg c3 (fun _ => rfl) (ev_ite_neg c4 (fun _ => rfl) (ev_ite_neg c5 (fun _ => rfl) (by rw [beq_eq_false_iff_ne.mpr c6]; exact hr)))))), hr2⟩
    obtain ⟨t, ht⟩ := inRange_tot a b
    have st : ∀ k, spec_tidy.f (k + 1) a b s l = (spec_inRange.f a b).bind fun t130 => (if t130 = true then (if a = 97 then (spec_tidy.j0 k false a b s l) else (if a = 115 then (spec_tidy.j0 k false a b s l) else (if a = 111 then (spec_tidy.j0 k false a b s l) else (if a = 103 then (spec_tidy.j0 k false a b s l) else (spec_tidy.j0 k (s.toList != ([] : List UInt8)) a b s l))))) else (spec_tidy.j0 k true a b s l)) := fun k => by simp only [spec_tidy.f]
    have hin : Ev (fun _ => spec_inRange.f a b) t := ⟨0, fun _ _ => ht⟩
    cases t with
    | false => exact ⟨false, Ev.step st (Ev.bind hin (ev_ite_neg (by simp) (fun _ => rfl) e0t)), fun h => by cases h⟩
    | true =>
      obtain ⟨r, hr, hr2⟩ := e0
      by_cases d1 : a = 97
      · exact ⟨r, Ev.step st (Ev.bind hin (ev_ite_pos rfl (fun _ => rfl) (ev_ite_pos d1 (fun _ => rfl) hr))), hr2⟩
      · by_cases d2 : a = 115
        · exact ⟨r, Ev.step st (Ev.bind hin (ev_ite_pos rfl (fun _ => rfl) (ev_ite_neg d1 (fun _ => rfl) (ev_ite_pos d2 (fun _ => rfl) hr)))), hr2⟩
        · by_cases d3 : a = 111
          · exact ⟨r, Ev.step st (Ev.bind hin (ev_ite_pos rfl (fun _ => rfl) (ev_ite_neg d1 (fun _ => rfl) (ev_ite_neg d2 (fun _ => rfl) (ev_ite_pos d3 (fun _ => rfl) hr))))), hr2⟩
          · by_cases d4 : a = 103
            · exact ⟨r, Ev.step st (Ev.bind hin (ev_ite_pos rfl (fun _ => rfl) (ev_ite_neg d1 (fun _ => rfl) (ev_ite_neg d2 (fun _ => rfl) (ev_ite_neg d3 (fun _ => rfl) (ev_ite_pos d4 (fun _ => rfl) hr)))))), hr2⟩
            · cases hc : (s.toList != ([] : List UInt8)) with
              | true => exact ⟨false, Ev.step st (Ev.bind hin (ev_ite_pos rfl (fun _ => rfl) (ev_ite_neg d1 (fun _ => rfl) (ev_ite_neg d2 (fun _ => rfl) (ev_ite_neg d3 (fun _ => rfl) (ev_ite_neg d4 (fun _ => rfl) (by simp only [hc]; exact e0t))))))), fun h => by cases h⟩
              | false => exact ⟨r, Ev.step st (Ev.bind hin (ev_ite_pos rfl (fun _ => rfl) (ev_ite_neg d1 (fun _ => rfl) (ev_ite_neg d2 (fun _ => rfl) (ev_ite_neg d3 (fun _ => rfl) (ev_ite_neg d4 (fun _ => rfl) (by simp only [hc]; exact hr))))))), hr2⟩

end Go.Proofs.YtboioihppjhjcaaDoor.MFnSgOf

namespace Go.Proofs.YtboioihppjhjcaaDoor.MFnSgOf
open Go.RowKit Go.Proofs.YtboioihppjhjcaaDoorW.PrintWords Go.Proofs.YtboioihppjhjcaaDoorW.PrintLast Go.Proofs.YtboioihppjhjcaaDoorW.PrintMore
attribute [local go_sem] max2_int min2_int max_two min_two max_three min_three max_four min_four
set_option linter.unusedVariables false
set_option linter.unusedSimpArgs false

open Go.Proofs.YtboioihppjhjcaaDoor.Hlp Go.Proofs.YtboioihppjhjcaaDoor.SgT Go.Proofs.YtboioihppjhjcaaDoor.SgZ Go.Proofs.YtboioihppjhjcaaDoor.MFnSgOfs Go.Proofs.YtboioihppjhjcaaDoor.MFnSgOfy
/-- A type at the head of a text is the only one there. -/
theorem T_uniq {x y r q : List UInt8} (hx : T 900 900 900 x) (hy : T 900 900 900 y) (hl : (x ++ r).length ≤ 1000000000) (e : x ++ r = y ++ q) : x = y := by
  let s : ByteArray := ⟨(x ++ r).toArray⟩
  have hb : bl s = x ++ r := by simp [s, bl]
  have hs : s.size ≤ 1000000000 := by rw [← bl_len, hb]; exact hl
  obtain ⟨n, _, h1, _⟩ := complete s.size s (Nat.le_refl _) hs 900 900 900 (by omega) (by omega) (by omega) (by omega) (by omega) (by omega)
  have e1 := h1 x r hx hb
  have e2 := h1 y q hy (by rw [hb, e])
  have h3 := congrArg (List.take x.length) e
  rw [List.take_left, show x.length = y.length by omega, List.take_left] at h3
  exact h3
theorem T_uniqL : ∀ (xs ys : List (List UInt8)), (∀ x ∈ xs, T 900 900 900 x) → (∀ y ∈ ys, T 900 900 900 y) → xs.flatten.length ≤ 1000000000 → xs.flatten = ys.flatten → xs = ys
  | [], [], _, _, _, _ => rfl
  | [], y :: ys, _, hy, _, e => by
    have := (hy y List.mem_cons_self).len
    have h2 := congrArg List.length e
    simp only [List.flatten_nil, List.flatten_cons, List.length_nil, List.length_append] at h2; omega
  | x :: xs, [], hx, _, _, e => by
    have := (hx x List.mem_cons_self).len
    have h2 := congrArg List.length e
    simp only [List.flatten_nil, List.flatten_cons, List.length_nil, List.length_append] at h2; omega
  | x :: xs, y :: ys, hx, hy, hl, e => by
    simp only [List.flatten_cons] at e hl
    have e3 := T_uniq (hx x List.mem_cons_self) (hy y List.mem_cons_self) hl e
    subst e3
    have e4 := List.append_cancel_left e
    rw [T_uniqL xs ys (fun z hz => hx z (List.mem_cons_of_mem _ hz)) (fun z hz => hy z (List.mem_cons_of_mem _ hz)) (by simp only [List.length_append] at hl; omega) e4]
theorem bl_son (c : UInt8) : bl (strOfNums [(c.toNat : Int)]) = [c] := by simp [strOfNums, bl]
theorem bl_sigL : ∀ l : List S31, bl (sigL l) = (l.map fun y => bl (sig y)).flatten
  | [] => by rw [sigL]; rfl
  | x :: r => by rw [sigL, bl_append, bl_sigL r]; simp
theorem sig_leaf {x : S31} {c : UInt8} (hc : oneC c = true) (h : x.f0 = (c.toNat : Int)) : bl (sig x) = [c] := by
  obtain ⟨a, b, s, l⟩ := x
  simp only at h
  subst h
  obtain ⟨_, h1, h2, _, h3, _⟩ := one_ascii c hc
  have g1 : ¬ (c.toNat : Int) = 97 := fun q => h1 ((num_eq 97).mp q)
  have g2 : ¬ (c.toNat : Int) = 40 := fun q => h2 ((num_eq 40).mp q)
  have g3 : ¬ (c.toNat : Int) = 123 := fun q => h3 ((num_eq 123).mp q)
  rw [sig, if_neg g1, if_neg g2, if_neg g3]
  exact bl_son c
theorem sig_arr {x : S31} (h : x.f0 = 97) : bl (sig x) = 97 :: bl x.f2 := by
  obtain ⟨a, b, s, l⟩ := x
  simp only at h
  rw [sig, if_pos h, bl_append]; rfl
theorem sig_str {x : S31} (h : x.f0 = 40) : bl (sig x) = 40 :: ((x.f3.map fun y => bl (sig y)).flatten ++ [41]) := by
  obtain ⟨a, b, s, l⟩ := x
  simp only at h
  subst h
  rw [sig, if_neg (by omega), if_pos rfl, bl_append, bl_append, bl_sigL]
  rw [show bl (strOfNums [40]) = [40] from bl_son 40]; rfl
theorem sig_ent {x : S31} (h : x.f0 = 123) : bl (sig x) = 123 :: ((x.f3.map fun y => bl (sig y)).flatten ++ [125]) := by
  obtain ⟨a, b, s, l⟩ := x
  simp only at h
  subst h
  rw [sig, if_neg (by omega), if_neg (by omega), if_pos rfl, bl_append, bl_append, bl_sigL]
  rw [show bl (strOfNums [123]) = [123] from bl_son 123]; rfl
/-- A tidy value's signature is a complete type, however deep. -/
theorem sigT : ∀ (n : Nat) (x : S31), TD n x → x.f0 ≠ 123 → T 33 (32 + (n : Int)) 33 (bl (sig x))
  | 0, _, h, _ => h.elim
  | n + 1, x, h, h123 => by
    rcases h with ⟨c, hc, h0⟩ | ⟨h0, _⟩ | ⟨h0, hne, hk⟩ | ⟨h0, ht, _⟩
    · have ho : oneC c = true := by simp [oneC, hc]
      rw [sig_leaf ho h0]; exact T.one (by omega) (by omega) (by omega) ho
    · rw [sig_leaf (c := 118) (by decide) h0]; exact T.one (by omega) (by omega) (by omega) (by decide)
    · have h40 : x.f0 = 40 := by
        rcases h0 with h | ⟨h, _⟩
        · exact h
        · exact absurd h h123
      rw [sig_str h40]
      refine T.str (by omega) (by omega) (by omega) (by simpa using hne) fun y hy => ?_
      obtain ⟨z, hz, rfl⟩ := List.mem_map.mp hy
      have := sigT n z (hk z hz).2 (hk z hz).1
      rw [show (32 + ((n + 1 : Nat) : Int) - 1) = 32 + (n : Int) by omega]
      exact this
    · rw [sig_arr h0]
      exact ht.more (by omega) (by omega) (by omega)

end Go.Proofs.YtboioihppjhjcaaDoor.MFnSgOf

namespace Go.Proofs.YtboioihppjhjcaaDoor.MFnSgOf
open Go.RowKit Go.Proofs.YtboioihppjhjcaaDoorW.PrintWords Go.Proofs.YtboioihppjhjcaaDoorW.PrintLast Go.Proofs.YtboioihppjhjcaaDoorW.PrintMore
attribute [local go_sem] max2_int min2_int max_two min_two max_three min_three max_four min_four
set_option linter.unusedVariables false
set_option linter.unusedSimpArgs false

open Go.Proofs.YtboioihppjhjcaaDoor.Hlp Go.Proofs.YtboioihppjhjcaaDoor.SgT Go.Proofs.YtboioihppjhjcaaDoor.SgZ Go.Proofs.YtboioihppjhjcaaDoor.MFnSgOfs Go.Proofs.YtboioihppjhjcaaDoor.MFnSgOfy
/-- A valid signature of a tidy value is one complete type. -/
theorem sig32 {n : Nat} {x : S31} (h : TD n x) (h123 : x.f0 ≠ 123) (hn : n ≤ 800) (hv : VALID (bl (sig x))) : T 32 32 32 (bl (sig x)) := by
  obtain ⟨hl, xs, hx, e⟩ := hv
  have t := sigT n x h h123
  have e2 : xs = [bl (sig x)] := T_uniqL xs [bl (sig x)] (fun y hy => (hx y hy).more (by omega) (by omega) (by omega)) (fun y hy => by
    rw [List.mem_singleton.mp hy]
    exact t.more (by omega) (by omega) (by omega)) (by rw [← e]; omega) (by rw [← e]; simp)
  exact hx _ (by rw [e2]; simp)
mutual
/-- The same tree in the rows of the door. -/
def toV : S31 → S53
  | ⟨a, b, s, l⟩ => ⟨a, b, s, toVL l⟩
def toVL : List S31 → List S53
  | [] => []
  | x :: r => toV x :: toVL r
end
theorem toVL_map : ∀ l : List S31, toVL l = l.map toV
  | [] => by rw [toVL]; rfl
  | x :: r => by rw [toVL, toVL_map r]; rfl
theorem toV_f0 (x : S31) : (toV x).f0 = x.f0 := by cases x; rw [toV]
theorem toV_f2 (x : S31) : (toV x).f2 = x.f2 := by cases x; rw [toV]
theorem toV_f3 (x : S31) : (toV x).f3 = x.f3.map toV := by cases x; rw [toV, toVL_map]
/-- What sgKeys tells, in so many steps. -/
def KY : Nat → S31 → Prop
  | 0, _ => False
  | n + 1, x => (x.f0 = 97 → NK (97 :: bl x.f2)) ∧ ∀ y ∈ x.f3, KY n y

end Go.Proofs.YtboioihppjhjcaaDoor.MFnSgOf

namespace Go.Proofs.YtboioihppjhjcaaDoor.MFnSgOf
open Go.RowKit Go.Proofs.YtboioihppjhjcaaDoorW.PrintWords Go.Proofs.YtboioihppjhjcaaDoorW.PrintLast Go.Proofs.YtboioihppjhjcaaDoorW.PrintMore
attribute [local go_sem] max2_int min2_int max_two min_two max_three min_three max_four min_four
set_option linter.unusedVariables false
set_option linter.unusedSimpArgs false

open Go.Proofs.YtboioihppjhjcaaDoor.Hlp Go.Proofs.YtboioihppjhjcaaDoor.SgT Go.Proofs.YtboioihppjhjcaaDoor.SgZ Go.Proofs.YtboioihppjhjcaaDoor.MFnSgOfs Go.Proofs.YtboioihppjhjcaaDoor.MFnSgOfy
/-- Of each value in a list something: a list of them. -/
theorem pick (P : S31 → List UInt8 → Prop) : ∀ l : List S31, (∀ y ∈ l, ∃ t, P y t) → ∃ zs : List (List UInt8 × List UInt8), zs.length = l.length ∧ zs.map Prod.fst = (l.map fun y => bl (sig y)) ∧ (∀ z ∈ zs, ∃ y ∈ l, z.1 = bl (sig y) ∧ P y z.2) ∧
    ∀ (j : Nat) y z, l[j]? = some y → zs[j]? = some z → z.1 = bl (sig y) ∧ P y z.2
  | [], _ => ⟨[], rfl, rfl, fun z h => by (cases h), fun j y z h _ => by simp at h⟩
  | x :: r, h => by
    obtain ⟨t, ht⟩ := h x List.mem_cons_self
    obtain ⟨zs, h1, h2, h3, h4⟩ := pick P r (fun y hy => h y (List.mem_cons_of_mem _ hy))
    refine ⟨(bl (sig x), t) :: zs, by simp [h1], by simp [h2], fun z hz => ?_, fun j y z hy hz => ?_⟩
    · rcases List.mem_cons.mp hz with rfl | hz
      · exact ⟨x, List.mem_cons_self, rfl, ht⟩
      · obtain ⟨y, hy, h⟩ := h3 z hz
        exact ⟨y, List.mem_cons_of_mem _ hy, h⟩
    · cases j with
      | zero => simp at hy hz; subst hy; subst hz; exact ⟨rfl, ht⟩
      | succ j => simp at hy hz; exact h4 j y z hy hz
/-- A tidy value whose own signature is one letter. -/
theorem vt_leaf (n : Nat) (x : S31) (A B E : Int) (c : UInt8) (hc : basicC c = true) (h0 : x.f0 = (c.toNat : Int)) (hk : x.f3.length ≤ 1000) (hT : T A B E (bl (sig x))) :
    ∃ t, Z A B E (bl (sig x)) t ∧ VT (n + 1) (toV x) (bl (sig x)) t := by
  have ho : oneC c = true := by simp [oneC, hc]
  obtain ⟨p1, p2, p3⟩ := hT.pos
  rw [sig_leaf ho h0]
  exact ⟨[c], ⟨1, p1, p2, p3, .inl ⟨c, ho, rfl, rfl⟩⟩, by rw [toV_f3, List.length_map]; exact hk, by simp, by simp, .inl ⟨c, hc, by rw [toV_f0]; exact h0, rfl, rfl⟩⟩
theorem vt_var (n : Nat) (x y : S31) (A B E : Int) (h0 : x.f0 = 118) (h3 : x.f3 = [y]) (hT : T A B E (bl (sig x))) (ih : ∃ t, Z 32 32 32 (bl (sig y)) t ∧ VT n (toV y) (bl (sig y)) t) :
    ∃ t, Z A B E (bl (sig x)) t ∧ VT (n + 1) (toV x) (bl (sig x)) t := by
  obtain ⟨p1, p2, p3⟩ := hT.pos
  obtain ⟨t, hz, hv⟩ := ih
  rw [sig_leaf (c := 118) (by decide) h0]
  exact ⟨[118], ⟨1, p1, p2, p3, .inl ⟨118, by decide, rfl, rfl⟩⟩, by rw [toV_f3, h3]; simp, by simp, by simp, .inr (.inl ⟨by rw [toV_f0]; exact h0, toV y, _, t, by rw [toV_f3, h3]; rfl, hv, hz, rfl, rfl⟩)⟩

end Go.Proofs.YtboioihppjhjcaaDoor.MFnSgOf

namespace Go.Proofs.YtboioihppjhjcaaDoor.MFnSgOf
open Go.RowKit Go.Proofs.YtboioihppjhjcaaDoorW.PrintWords Go.Proofs.YtboioihppjhjcaaDoorW.PrintLast Go.Proofs.YtboioihppjhjcaaDoorW.PrintMore
attribute [local go_sem] max2_int min2_int max_two min_two max_three min_three max_four min_four
set_option linter.unusedVariables false
set_option linter.unusedSimpArgs false

open Go.Proofs.YtboioihppjhjcaaDoor.Hlp Go.Proofs.YtboioihppjhjcaaDoor.SgT Go.Proofs.YtboioihppjhjcaaDoor.SgZ Go.Proofs.YtboioihppjhjcaaDoor.MFnSgOfs Go.Proofs.YtboioihppjhjcaaDoor.MFnSgOfy
theorem ZF_all {A B E : Int} : ∀ {zs : List (List UInt8 × List UInt8)}, (∀ z ∈ zs, Z A B E z.1 z.2) → ∃ n, ∀ z ∈ zs, ZF n A B E z.1 z.2
  | [], _ => ⟨0, fun z h => by cases h⟩
  | x :: r, h => by
    obtain ⟨n, hn⟩ := h x List.mem_cons_self
    obtain ⟨m, hm⟩ := ZF_all (fun z hz => h z (List.mem_cons_of_mem _ hz))
    refine ⟨n + m, fun z hz => ?_⟩
    rcases List.mem_cons.mp hz with rfl | hz
    · exact hn.le (by omega)
    · exact (hm z hz).le (by omega)
theorem mem_flat {α : Type} {x : List α} {L : List (List α)} (h : x ∈ L) : x.length ≤ L.flatten.length := by
  obtain ⟨p, q, rfl⟩ := List.append_of_mem h
  simp only [List.flatten_append, List.flatten_cons, List.length_append]; omega
theorem vt_str (n : Nat) (x : S31) (A B E : Int) (h0 : x.f0 = 40) (hne : x.f3 ≠ []) (hk : x.f3.length ≤ 1000) (hT : T A B E (bl (sig x))) (hlen : (bl (sig x)).length ≤ 255) (hn : n ≤ 800) (hA : A ≤ 32) (hB : B ≤ 32) (hE : E ≤ 32)
    (hkids : ∀ y ∈ x.f3, TD n y ∧ y.f0 ≠ 123) (ih : ∀ y ∈ x.f3, T A (B - 1) E (bl (sig y)) → (bl (sig y)).length ≤ 255 → ∃ t, Z A (B - 1) E (bl (sig y)) t ∧ VT n (toV y) (bl (sig y)) t) :
    ∃ t, Z A B E (bl (sig x)) t ∧ VT (n + 1) (toV x) (bl (sig x)) t := by
  obtain ⟨p1, p2, p3⟩ := hT.pos
  rw [sig_str h0] at hT hlen ⊢
  obtain ⟨_, _, _, hc⟩ := hT.cases
  have hF : (x.f3.map fun y => bl (sig y)).flatten.length ≤ 253 := by simp only [List.length_cons, List.length_append, List.length_nil] at hlen; omega
  rcases hc with ⟨c, _, e⟩ | ⟨u, _, e⟩ | ⟨c, u, _, _, e⟩ | ⟨xs, _, hx, e⟩
  · have := congrArg List.length e
    simp only [List.length_cons, List.length_append, List.length_nil] at this; omega
  · exact absurd (List.cons.inj e).1 (by decide)
  · exact absurd (List.cons.inj e).1 (by decide)
  · have e2 := List.append_cancel_right (List.cons.inj e).2
    have e3 : (x.f3.map fun y => bl (sig y)) = xs := T_uniqL _ xs (fun u hu => by
      obtain ⟨y, hy, rfl⟩ := List.mem_map.mp hu
      exact (sigT n y (hkids y hy).1 (hkids y hy).2).more (by omega) (by omega) (by omega)) (fun u hu => (hx u hu).more (by omega) (by omega) (by omega)) (by omega) e2
    obtain ⟨zs, z1, z2, z3, z4⟩ := pick (fun y t => Z A (B - 1) E (bl (sig y)) t ∧ VT n (toV y) (bl (sig y)) t) x.f3 (fun y hy => ih y hy (hx _ (e3 ▸ List.mem_map_of_mem hy)) (by
      have := mem_flat (List.mem_map_of_mem (f := fun y => bl (sig y)) hy); omega))
    have hzs : ∀ z ∈ zs, Z A (B - 1) E z.1 z.2 := fun z hz => by
      obtain ⟨y, _, e, h, _⟩ := z3 z hz
      rw [e]; exact h
    obtain ⟨N, hN⟩ := ZF_all hzs
    have hzne : zs ≠ [] := fun q => hne (List.eq_nil_of_length_eq_zero (by rw [← z1, q]; rfl))
    rw [← z2] at hlen ⊢
    have hZ : Z A B E (40 :: ((zs.map Prod.fst).flatten ++ [41])) (40 :: ((zs.map Prod.snd).flatten ++ [41])) := ⟨N + 1, p1, p2, p3, .inr (.inr (.inr ⟨zs, hzne, hN, rfl, rfl⟩))⟩
    refine ⟨_, hZ, by rw [toV_f3, List.length_map]; exact hk, hlen, ?_, .inr (.inr (.inl ⟨by rw [toV_f0]; exact h0, zs, by rw [toV_f3, List.length_map]; exact z1, fun j y z hy hz => ?_, rfl, rfl⟩))⟩
    · exact Nat.le_trans hZ.len.1 hlen
    · rw [toV_f3, List.getElem?_map] at hy
      obtain ⟨y0, hy0, rfl⟩ := Option.map_eq_some_iff.mp hy
      obtain ⟨h1, h2⟩ := z4 j y0 z hy0 hz
      rw [h1]; exact h2.2

end Go.Proofs.YtboioihppjhjcaaDoor.MFnSgOf

namespace Go.Proofs.YtboioihppjhjcaaDoor.MFnSgOf
open Go.RowKit Go.Proofs.YtboioihppjhjcaaDoorW.PrintWords Go.Proofs.YtboioihppjhjcaaDoorW.PrintLast Go.Proofs.YtboioihppjhjcaaDoorW.PrintMore
attribute [local go_sem] max2_int min2_int max_two min_two max_three min_three max_four min_four
set_option linter.unusedVariables false
set_option linter.unusedSimpArgs false

open Go.Proofs.YtboioihppjhjcaaDoor.Hlp Go.Proofs.YtboioihppjhjcaaDoor.SgT Go.Proofs.YtboioihppjhjcaaDoor.SgZ Go.Proofs.YtboioihppjhjcaaDoor.MFnSgOfs Go.Proofs.YtboioihppjhjcaaDoor.MFnSgOfy
theorem TD.succ : ∀ {n : Nat} {x : S31}, TD n x → TD (n + 1) x
  | 0, _, h => h.elim
  | n + 1, x, h => by
    rcases h with h | ⟨h0, y, h3, h4, h5, h6⟩ | ⟨h0, h1, h2⟩ | ⟨h0, h1, h2⟩
    · exact .inl h
    · exact .inr (.inl ⟨h0, y, h3, h4, h5, TD.succ h6⟩)
    · exact .inr (.inr (.inl ⟨h0, h1, fun y hy => ⟨(h2 y hy).1, TD.succ (h2 y hy).2⟩⟩))
    · exact .inr (.inr (.inr ⟨h0, h1, fun y hy => ⟨(h2 y hy).1, TD.succ (h2 y hy).2⟩⟩))
theorem KY.succ : ∀ {n : Nat} {x : S31}, KY n x → KY (n + 1) x
  | 0, _, h => h.elim
  | n + 1, x, h => ⟨h.1, fun y hy => KY.succ (h.2 y hy)⟩
theorem ZF_more {n : Nat} : ∀ {A B E A' B' E' : Int} {l t : List UInt8}, ZF n A B E l t → A ≤ A' → B ≤ B' → E ≤ E' → ZF n A' B' E' l t := by
  induction n with
  | zero => intro A B E A' B' E' l t h; exact h.elim
  | succ n ih =>
    intro A B E A' B' E' l t h hA hB hE
    obtain ⟨h1, h2, h3, h⟩ := h
    refine ⟨by omega, by omega, by omega, ?_⟩
    rcases h with h | ⟨x, y, hx, e⟩ | ⟨c, x, y, hc, hx, e⟩ | ⟨zs, hn, hx, e⟩
    · exact .inl h
    · exact .inr (.inl ⟨x, y, ih hx (by omega) (by omega) (by omega), e⟩)
    · exact .inr (.inr (.inl ⟨c, x, y, hc, ih hx (by omega) (by omega) (by omega), e⟩))
    · exact .inr (.inr (.inr ⟨zs, hn, fun z h => ih (hx z h) (by omega) (by omega) (by omega), e⟩))
theorem Z_more {A B E A' B' E' : Int} {l t : List UInt8} (h : Z A B E l t) (hA : A ≤ A') (hB : B ≤ B') (hE : E ≤ E') : Z A' B' E' l t := by
  obtain ⟨n, h⟩ := h
  exact ⟨n, ZF_more h hA hB hE⟩
/-- An array's value whose elements are no entries. -/
theorem vt_arr (n : Nat) (x : S31) (A B E : Int) (c0 : UInt8) (cs : List UInt8) (h0 : x.f0 = 97) (h2 : bl x.f2 = c0 :: cs) (hne : c0 ≠ 123) (hk : x.f3.length ≤ 1000) (hT : T A B E (bl (sig x))) (hlen : (bl (sig x)).length ≤ 255) (hA : A ≤ 32) (hB : B ≤ 32) (hE : E ≤ 32)
    (hNK : NK (97 :: bl x.f2)) (ih : ∀ y ∈ x.f3, T (A - 1) B E (bl x.f2) → ∃ t, VT n (toV y) (bl x.f2) t) (hBs : x.f2 = Bs (c0 :: cs)) :
    ∃ t, Z A B E (bl (sig x)) t ∧ VT (n + 1) (toV x) (bl (sig x)) t := by
  obtain ⟨p1, p2, p3⟩ := hT.pos
  rw [sig_arr h0] at hT hlen ⊢
  obtain ⟨_, _, _, hc⟩ := hT.cases
  rcases hc with ⟨c, hc, e⟩ | ⟨u, hu, e⟩ | ⟨c, u, _, _, e⟩ | ⟨xs, _, hx, e⟩
  · have := (List.cons.inj e).2
    rw [h2] at this; cases this
  · have e2 := (List.cons.inj e).2
    subst e2
    obtain ⟨te, hz⟩ := Z.of hu hNK.tail
    have hZ : Z A B E (97 :: bl x.f2) (91 :: te) := by
      obtain ⟨N, hN⟩ := hz
      exact ⟨N + 1, p1, p2, p3, .inr (.inl ⟨_, te, hN, rfl, rfl⟩)⟩
    refine ⟨91 :: te, hZ, by rw [toV_f3, List.length_map]; exact hk, hlen, Nat.le_trans hZ.len.1 hlen, .inr (.inr (.inr (.inl ⟨by rw [toV_f0]; exact h0, c0, cs, te, by rw [toV_f2]; exact hBs, hne, ?_, fun y hy => ?_, by rw [h2], rfl⟩)))⟩
    · rw [← h2]; exact Z_more hz (by omega) (by omega) (by omega)
    · rw [toV_f3] at hy
      obtain ⟨y0, hy0, rfl⟩ := List.mem_map.mp hy
      obtain ⟨t, ht⟩ := ih y0 hy0 hu
      exact ⟨_, t, ht⟩
  · have := (List.cons.inj e).2
    rw [h2] at this
    exact absurd (List.cons.inj this).1 hne
  · exact absurd (List.cons.inj e).1 (by decide)

end Go.Proofs.YtboioihppjhjcaaDoor.MFnSgOf

namespace Go.Proofs.YtboioihppjhjcaaDoor.MFnSgOf
open Go.RowKit Go.Proofs.YtboioihppjhjcaaDoorW.PrintWords Go.Proofs.YtboioihppjhjcaaDoorW.PrintLast Go.Proofs.YtboioihppjhjcaaDoorW.PrintMore
attribute [local go_sem] max2_int min2_int max_two min_two max_three min_three max_four min_four
set_option linter.unusedVariables false
set_option linter.unusedSimpArgs false

open Go.Proofs.YtboioihppjhjcaaDoor.Hlp Go.Proofs.YtboioihppjhjcaaDoor.SgT Go.Proofs.YtboioihppjhjcaaDoor.SgZ Go.Proofs.YtboioihppjhjcaaDoor.MFnSgOfs Go.Proofs.YtboioihppjhjcaaDoor.MFnSgOfy
/-- A tidy value whose signature begins as an entry's is an entry. -/
theorem ent_of {n : Nat} {y : S31} {cs : List UInt8} (h : TD n y) (e : bl (sig y) = 123 :: cs) : ∃ k v, y.f3 = [k, v] ∧ (∃ c : UInt8, basicC c = true ∧ k.f0 = (c.toNat : Int)) ∧ bl (sig y) = 123 :: (bl (sig k) ++ bl (sig v) ++ [125]) := by
  cases n with
  | zero => exact h.elim
  | succ n =>
    rcases h with ⟨c, hc, h0⟩ | ⟨h0, _⟩ | ⟨h0 | ⟨h0, k, v, h3, hc⟩, _, _⟩ | ⟨h0, _⟩
    · have ho : oneC c = true := by simp [oneC, hc]
      rw [sig_leaf ho h0] at e
      obtain ⟨_, _, _, _, h5, _⟩ := one_ascii c ho
      exact absurd (List.cons.inj e).1 h5
    · rw [sig_leaf (c := 118) (by decide) h0] at e
      exact absurd (List.cons.inj e).1 (by decide)
    · rw [sig_str h0] at e
      exact absurd (List.cons.inj e).1 (by decide)
    · refine ⟨k, v, h3, hc, ?_⟩
      rw [sig_ent h0, h3]; simp
    · rw [sig_arr h0] at e
      exact absurd (List.cons.inj e).1 (by decide)
/-- An array's value whose elements are entries. -/
theorem vt_dict (n : Nat) (x : S31) (A B E : Int) (cs : List UInt8) (h0 : x.f0 = 97) (h2 : bl x.f2 = 123 :: cs) (hk : x.f3.length ≤ 1000) (hT : T A B E (bl (sig x))) (hlen : (bl (sig x)).length ≤ 255) (hA : A ≤ 32) (hB : B ≤ 32) (hE : E ≤ 32)
    (hNK : NK (97 :: bl x.f2)) (hkids : ∀ y ∈ x.f3, sig y = x.f2 ∧ TD n y) (hrow : ∀ y ∈ x.f3, ∀ k ∈ y.f3, k.f3.length ≤ 1000)
    (ih : ∀ y ∈ x.f3, ∀ v ∈ y.f3, T (A - 1) B (E - 1) (bl (sig v)) → ∃ t, VT n (toV v) (bl (sig v)) t) (hBs : x.f2 = Bs (bl x.f2)) :
    ∃ t, Z A B E (bl (sig x)) t ∧ VT (n + 1) (toV x) (bl (sig x)) t := by
  obtain ⟨p1, p2, p3⟩ := hT.pos
  rw [sig_arr h0] at hT hlen ⊢
  obtain ⟨_, _, _, hc⟩ := hT.cases
  rcases hc with ⟨c, hc, e⟩ | ⟨u, hu, e⟩ | ⟨c, u, hcb, hu, e⟩ | ⟨xs, _, hx, e⟩
  · have := (List.cons.inj e).2
    rw [h2] at this; cases this
  · have e2 := (List.cons.inj e).2
    obtain ⟨d, r, e3, h4, _⟩ := hu.head
    rw [h2, e3] at e2
    exact absurd (List.cons.inj e2).1.symm h4
  · have e2 := (List.cons.inj e).2
    have hkc : keyC c = true := by
      have g := hNK [97] (u ++ [125])
      rw [e2] at g
      have g1 : c ≠ 98 := fun q => g.1 (by rw [q]; rfl)
      have g2 : c ≠ 103 := fun q => g.2 (by rw [q]; rfl)
      simp [keyC, hcb, g1, g2]
    have hnu : NK u := by
      rw [e2] at hNK
      exact NK.mid (a := [97, 123, c]) (b := u) (c := [125]) (by simpa using hNK)
    obtain ⟨te, hz⟩ := Z.of hu hnu
    rw [e2] at hlen ⊢
    have hZ : Z A B E (97 :: 123 :: c :: (u ++ [125])) (123 :: c :: te) := by
      obtain ⟨N, hN⟩ := hz
      exact ⟨N + 1, p1, p2, p3, .inr (.inr (.inl ⟨c, _, te, hkc, hN, rfl, rfl⟩))⟩
    refine ⟨_, hZ, by rw [toV_f3, List.length_map]; exact hk, hlen, Nat.le_trans hZ.len.1 hlen, .inr (.inr (.inr (.inr ⟨by rw [toV_f0]; exact h0, c, u, te, by rw [toV_f2, hBs, e2], hkc, Z_more hz (by omega) (by omega) (by omega), fun y hy => ?_, rfl, rfl⟩)))⟩
    rw [toV_f3] at hy
    obtain ⟨y0, hy0, rfl⟩ := List.mem_map.mp hy
    obtain ⟨k, v, h3, ⟨c', hc', hk0⟩, es⟩ := ent_of (hkids y0 hy0).2 (by rw [(hkids y0 hy0).1]; exact h2)
    have ho : oneC c' = true := by simp [oneC, hc']
    rw [(hkids y0 hy0).1, e2, sig_leaf ho hk0] at es
    have es2 : c :: (u ++ [125]) = c' :: (bl (sig v) ++ [125]) := (List.cons.inj es).2
    obtain ⟨rfl, es3⟩ := List.cons.inj es2
    have es4 := List.append_cancel_right es3
    obtain ⟨m, rfl⟩ : ∃ m, n = m + 1 := by
      cases n with
      | zero => exact (hkids y0 hy0).2.elim
      | succ m => exact ⟨m, rfl⟩
    obtain ⟨t1, ht1⟩ := ih y0 hy0 v (by rw [h3]; simp) (by rw [← es4]; exact hu)
    refine ⟨toV k, toV v, [], _, t1, by rw [toV_f3, h3]; rfl, ?_, ht1⟩
    exact ⟨by rw [toV_f3, List.length_map]; exact hrow y0 hy0 k (by rw [h3]; simp), by simp, by simp, .inl ⟨c, hc', by rw [toV_f0]; exact hk0, rfl, rfl⟩⟩
  · exact absurd (List.cons.inj e).1 (by decide)

end Go.Proofs.YtboioihppjhjcaaDoor.MFnSgOf

namespace Go.Proofs.YtboioihppjhjcaaDoor.MFnSgOf
open Go.RowKit Go.Proofs.YtboioihppjhjcaaDoorW.PrintWords Go.Proofs.YtboioihppjhjcaaDoorW.PrintLast Go.Proofs.YtboioihppjhjcaaDoorW.PrintMore
attribute [local go_sem] max2_int min2_int max_two min_two max_three min_three max_four min_four
set_option linter.unusedVariables false
set_option linter.unusedSimpArgs false

open Go.Proofs.YtboioihppjhjcaaDoor.Hlp Go.Proofs.YtboioihppjhjcaaDoor.SgT Go.Proofs.YtboioihppjhjcaaDoor.SgZ Go.Proofs.YtboioihppjhjcaaDoor.MFnSgOfs Go.Proofs.YtboioihppjhjcaaDoor.MFnSgOfy
theorem mem_nodesL {z y : S31} {l : List S31} (hy : y ∈ l) (hz : z ∈ nodes y) : z ∈ nodesL l := by
  obtain ⟨p, q, rfl⟩ := List.append_of_mem hy
  rw [nodesL_app, nodesL]; simp [hz]
theorem Bs_bl2 (s : ByteArray) : s = Bs (bl s) := bl_ext (by simp [Bs, bl])
theorem ent_kids {m : Nat} {y : S31} {cs : List UInt8} (h : TD (m + 1) y) (e : bl (sig y) = 123 :: cs) : y.f0 = 123 ∧ ∀ z ∈ y.f3, z.f0 ≠ 123 ∧ TD m z := by
  rcases h with ⟨c, hc, h0⟩ | ⟨h0, _⟩ | ⟨h0 | ⟨h0, _⟩, _, hk⟩ | ⟨h0, _⟩
  · have ho : oneC c = true := by simp [oneC, hc]
    rw [sig_leaf ho h0] at e
    obtain ⟨_, _, _, _, h5, _⟩ := one_ascii c ho
    exact absurd (List.cons.inj e).1 h5
  · rw [sig_leaf (c := 118) (by decide) h0] at e
    exact absurd (List.cons.inj e).1 (by decide)
  · rw [sig_str h0] at e
    exact absurd (List.cons.inj e).1 (by decide)
  · exact ⟨h0, hk⟩
  · rw [sig_arr h0] at e
    exact absurd (List.cons.inj e).1 (by decide)
/-- A tidy value of a complete type is a value of its signature. -/
theorem vt_of : ∀ (n : Nat) (x : S31) (A B E : Int), TD n x → KY n x → x.f0 ≠ 123 → n ≤ 800 → (∀ y ∈ nodes x, y.f3.length ≤ 1000) → A ≤ 32 → B ≤ 32 → E ≤ 32 → T A B E (bl (sig x)) → (bl (sig x)).length ≤ 255 →
    ∃ t, Z A B E (bl (sig x)) t ∧ VT n (toV x) (bl (sig x)) t
  | 0, _, _, _, _, h, _, _, _, _, _, _, _, _, _ => h.elim
  | n + 1, x, A, B, E, h, hK, h123, hn, hrow, hA, hB, hE, hT, hlen => by
    have hx : x.f3.length ≤ 1000 := hrow x (by rw [nodes_eq]; simp)
    have hkid : ∀ y ∈ x.f3, ∀ z ∈ nodes y, z.f3.length ≤ 1000 := fun y hy z hz => hrow z (by rw [nodes_eq]; exact List.mem_cons_of_mem _ (mem_nodesL hy hz))
    rcases h with ⟨c, hc, h0⟩ | ⟨h0, y, h3, hy123, hv, hy⟩ | ⟨h0, hne, hk⟩ | ⟨h0, ht, hk⟩
    · exact vt_leaf n x A B E c hc h0 hx hT
    · have hm : y ∈ x.f3 := by rw [h3]; simp
      exact vt_var n x y A B E h0 h3 hT (vt_of n y 32 32 32 hy (hK.2 y hm) hy123 (by omega) (hkid y hm) (by omega) (by omega) (by omega) (sig32 hy hy123 (by omega) hv) hv.1)
    · have h40 : x.f0 = 40 := by
        rcases h0 with h | ⟨h, _⟩
        · exact h
        · exact absurd h h123
      exact vt_str n x A B E h40 hne hx hT hlen (by omega) hA hB hE (fun y hy => ⟨(hk y hy).2, (hk y hy).1⟩) (fun y hy ht hl => vt_of n y A (B - 1) E (hk y hy).2 (hK.2 y hy) (hk y hy).1 (by omega) (hkid y hy) hA (by omega) hE ht hl)
    · have hNK := hK.1 h0
      have hsl : bl (sig x) = 97 :: bl x.f2 := sig_arr h0
      have hl2 : (bl x.f2).length ≤ 254 := by rw [hsl] at hlen; simp at hlen; omega
      cases hb : bl x.f2 with
      | nil =>
        rw [hsl, hb] at hT
        obtain ⟨_, _, _, hc⟩ := hT.cases
        rcases hc with ⟨c, hc, e⟩ | ⟨u, hu, e⟩ | ⟨c, u, _, _, e⟩ | ⟨xs, _, _, e⟩
        · rw [← (List.cons.inj e).1] at hc; exact absurd hc (by decide)
        · rw [← (List.cons.inj e).2] at hu; exact absurd hu.len (by simp)
        · cases (List.cons.inj e).2
        · exact absurd (List.cons.inj e).1 (by decide)
      | cons c0 cs =>
        by_cases hc0 : c0 = 123
        · subst hc0
          refine vt_dict n x A B E cs h0 hb hx hT hlen hA hB hE hNK hk (fun y hy z hz => hkid y hy z (by rw [nodes_eq]; exact List.mem_cons_of_mem _ (mem_nodesL hz (by rw [nodes_eq]; simp)))) (fun y hy v hv ht => ?_) (Bs_bl2 _)
          obtain ⟨m, rfl⟩ : ∃ m, n = m + 1 := by
            cases n with
            | zero => exact (hk y hy).2.elim
            | succ m => exact ⟨m, rfl⟩
          have es : bl (sig y) = bl x.f2 := by rw [(hk y hy).1]
          obtain ⟨y0, hz⟩ := ent_kids (hk y hy).2 (by rw [es]; exact hb)
          have hlv : (bl (sig v)).length ≤ 255 := by
            have h1 := mem_flat (List.mem_map_of_mem (f := fun y => bl (sig y)) hv)
            rw [sig_ent y0] at es
            have h2 := congrArg List.length es
            simp only [List.length_cons, List.length_append, List.length_nil] at h2
            omega
          obtain ⟨t, _, hvt⟩ := vt_of (m + 1) v (A - 1) B (E - 1) (TD.succ (hz v hv).2) (KY.succ ((hK.2 y hy).2 v hv)) (hz v hv).1 (by omega) (fun z h => hkid y hy z (by rw [nodes_eq]; exact List.mem_cons_of_mem _ (mem_nodesL hv h))) (by omega) hB (by omega) ht hlv
          exact ⟨t, hvt⟩
        · refine vt_arr n x A B E c0 cs h0 hb hc0 hx hT hlen hA hB hE hNK (fun y hy ht => ?_) (by rw [← hb]; exact Bs_bl2 _)
          have es : bl (sig y) = bl x.f2 := by rw [(hk y hy).1]
          have hy123 : y.f0 ≠ 123 := fun q => by
            rw [sig_ent q, hb] at es
            exact hc0 (List.cons.inj es).1.symm
          rw [← es] at ht ⊢
          obtain ⟨t, _, hv⟩ := vt_of n y (A - 1) B E (hk y hy).2 (hK.2 y hy) hy123 (by omega) (hkid y hy) (by omega) hB hE ht (by rw [es]; omega)
          exact ⟨t, hv⟩

end Go.Proofs.YtboioihppjhjcaaDoor.MFnSgOf
