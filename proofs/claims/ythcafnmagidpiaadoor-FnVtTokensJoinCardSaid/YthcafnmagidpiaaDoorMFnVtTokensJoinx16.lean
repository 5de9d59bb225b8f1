-- Written by a program of this session (myprint.py, out of the translation). Not trusted: Lean checks it.
import Derived.Test.YthcafnmagidpiaaDoorMFnVtTokensJoinx0
namespace Go.Proofs.YthcafnmagidpiaaDoor.MFnVtTokensJoin
open Go.RowKit Go.Proofs.YthcafnmagidpiaaDoorW.PrintWords Go.Proofs.YthcafnmagidpiaaDoorW.PrintLast Go.Proofs.YthcafnmagidpiaaDoorW.PrintMore
attribute [local go_sem] max2_int min2_int max_two min_two max_three min_three max_four min_four   -- for this text's walks alone
set_option linter.unusedVariables false
set_option linter.unusedSimpArgs false

/-! ### dbus_zzVarType: function 50 -/
def dbus_zzVarType.f (a0 : ByteArray) : Option (ByteArray × Bool) := if a0.toList = ([98, 111, 111, 108, 101, 97, 110] : List UInt8) then (some ((⟨#[98]⟩ : ByteArray), true)) else (if a0.toList = ([98, 121, 116, 101] : List UInt8) then (some ((⟨#[121]⟩ : ByteArray), true)) else (if a0.toList = ([105, 110, 116, 49, 54] : List UInt8) then (some ((⟨#[110]⟩ : ByteArray), true)) else (if a0.toList = ([117, 105, 110, 116, 49, 54] : List UInt8) then (some ((⟨#[113]⟩ : ByteArray), true)) else (if a0.toList = ([105, 110, 116, 51, 50] : List UInt8) then (some ((⟨#[105]⟩ : ByteArray), true)) else (if a0.toList = ([117, 105, 110, 116, 51, 50] : List UInt8) then (some ((⟨#[117]⟩ : ByteArray), true)) else (if a0.toList = ([105, 110, 116, 54, 52] : List UInt8) then (some ((⟨#[120]⟩ : ByteArray), true)) else (if a0.toList = ([117, 105, 110, 116, 54, 52] : List UInt8) then (some ((⟨#[116]⟩ : ByteArray), true)) else (if a0.toList = ([100, 111, 117, 98, 108, 101] : List UInt8) then (some ((⟨#[102]⟩ : ByteArray), true)) else (if a0.toList = ([115, 116, 114, 105, 110, 103] : List UInt8) then (some ((⟨#[115]⟩ : ByteArray), true)) else (if a0.toList = ([111, 98, 106, 101, 99, 116, 112, 97, 116, 104] : List UInt8) then (some ((⟨#[111]⟩ : ByteArray), true)) else (if a0.toList = ([115, 105, 103, 110, 97, 116, 117, 114, 101] : List UInt8) then (some ((⟨#[103]⟩ : ByteArray), true)) else (some ((⟨#[]⟩ : ByteArray), false)))))))))))))
set_option maxHeartbeats 8000000 in
set_option maxRecDepth 100000 in
theorem dbus_zzVarType.calls (a0 : ByteArray) (r1 : ByteArray) (r2 : Bool) (w : World) (h : dbus_zzVarType.f a0 = some (r1, r2)) :
  Calls Tryd.prog 50 #[.string a0] w fun e w' => e = .returned (.tuple #[.string r1, .bool r2]) ∧ Drawn0 w w' := by
 have H : (if a0.toList = ([98, 111, 111, 108, 101, 97, 110] : List UInt8) then (some ((⟨#[98]⟩ : ByteArray), true)) else (if a0.toList = ([98, 121, 116, 101] : List UInt8) then (some ((⟨#[121]⟩ : ByteArray), true)) else (if a0.toList = ([105, 110, 116, 49, 54] : List UInt8) then (some ((⟨#[110]⟩ : ByteArray), true)) else (if a0.toList = ([117, 105, 110, 116, 49, 54] : List UInt8) then (some ((⟨#[113]⟩ : ByteArray), true)) else (if a0.toList = ([105, 110, 116, 51, 50] : List UInt8) then (some ((⟨#[105]⟩ : ByteArray), true)) else (if a0.toList = ([117, 105, 110, 116, 51, 50] : List UInt8) then (some ((⟨#[117]⟩ : ByteArray), true)) else (if a0.toList = ([105, 110, 116, 54, 52] : List UInt8) then (some ((⟨#[120]⟩ : ByteArray), true)) else (if a0.toList = ([117, 105, 110, 116, 54, 52] : List UInt8) then (some ((⟨#[116]⟩ : ByteArray), true)) else (if a0.toList = ([100, 111, 117, 98, 108, 101] : List UInt8) then (some ((⟨#[102]⟩ : ByteArray), true)) else (if a0.toList = ([115, 116, 114, 105, 110, 103] : List UInt8) then (some ((⟨#[115]⟩ : ByteArray), true)) else (if a0.toList = ([111, 98, 106, 101, 99, 116, 112, 97, 116, 104] : List UInt8) then (some ((⟨#[111]⟩ : ByteArray), true)) else (if a0.toList = ([115, 105, 103, 110, 97, 116, 117, 114, 101] : List UInt8) then (some ((⟨#[103]⟩ : ByteArray), true)) else (some ((⟨#[]⟩ : ByteArray), false)))))))))))))) = some (r1, r2) := h
 clear h
 by_cases c2 : a0.toList = ([98, 111, 111, 108, 101, 97, 110] : List UInt8)
 ·rw [if_pos c2] at H
  have c2b0 : (a0.toList == ([98, 111, 111, 108, 101, 97, 110] : List UInt8)) = true := beq_iff_eq.mpr c2
  have c2b1 : (a0.toList != ([98, 111, 111, 108, 101, 97, 110] : List UInt8)) = false := bne_eq_false_iff_eq.mpr c2
  clear c2
  simp only [Option.some.injEq, Prod.mk.injEq] at H
  obtain ⟨rfl, rfl⟩ := H
  go_enter Tryd.func50, Tryd.ntmps50
  go_wp2
  go_ret2
  exact ⟨by first | rfl | (simp; done) | (simp [*]; done), by repeat (first | exact Drawn0.refl _ | apply Drawn0.step)⟩
 ·rw [if_neg c2] at H
  have c2b0 : (a0.toList == ([98, 111, 111, 108, 101, 97, 110] : List UInt8)) = false := beq_eq_false_iff_ne.mpr c2
  have c2b1 : (a0.toList != ([98, 111, 111, 108, 101, 97, 110] : List UInt8)) = true := bne_iff_ne.mpr c2
  by_cases c3 : a0.toList = ([98, 121, 116, 101] : List UInt8)
  ·rw [if_pos c3] at H
   have c3b0 : (a0.toList == ([98, 121, 116, 101] : List UInt8)) = true := beq_iff_eq.mpr c3
   have c3b1 : (a0.toList != ([98, 121, 116, 101] : List UInt8)) = false := bne_eq_false_iff_eq.mpr c3
   clear c3
   simp only [Option.some.injEq, Prod.mk.injEq] at H
   obtain ⟨rfl, rfl⟩ := H
   go_enter Tryd.func50, Tryd.ntmps50
   go_wp2
   go_ret2
   exact ⟨by first | rfl | (simp; done) | (simp [*]; done), by repeat (first | exact Drawn0.refl _ | apply Drawn0.step)⟩
  ·rw [if_neg c3] at H
   have c3b0 : (a0.toList == ([98, 121, 116, 101] : List UInt8)) = false := beq_eq_false_iff_ne.mpr c3
   have c3b1 : (a0.toList != ([98, 121, 116, 101] : List UInt8)) = true := bne_iff_ne.mpr c3
   by_cases c4 : a0.toList = ([105, 110, 116, 49, 54] : List UInt8)
   ·rw [if_pos c4] at H
    have c4b0 : (a0.toList == ([105, 110, 116, 49, 54] : List UInt8)) = true := beq_iff_eq.mpr c4
    have c4b1 : (a0.toList != ([105, 110, 116, 49, 54] : List UInt8)) = false := bne_eq_false_iff_eq.mpr c4
    clear c4
    simp only [Option.some.injEq, Prod.mk.injEq] at H
    obtain ⟨rfl, rfl⟩ := H
    go_enter Tryd.func50, Tryd.ntmps50
    go_wp2
    go_ret2
    exact ⟨by first | rfl | (simp; done) | (simp [*]; done), by repeat (first | exact Drawn0.refl _ | apply Drawn0.step)⟩
   ·rw [if_neg c4] at H
    have c4b0 : (a0.toList == ([105, 110, 116, 49, 54] : List UInt8)) = false := beq_eq_false_iff_ne.mpr c4
    have c4b1 : (a0.toList != ([105, 110, 116, 49, 54] : List UInt8)) = true := bne_iff_ne.mpr c4
    by_cases c5 : a0.toList = ([117, 105, 110, 116, 49, 54] : List UInt8)
    ·rw [if_pos c5] at H
     have c5b0 : (a0.toList == ([117, 105, 110, 116, 49, 54] : List UInt8)) = true := beq_iff_eq.mpr c5
     have c5b1 : (a0.toList != ([117, 105, 110, 116, 49, 54] : List UInt8)) = false := bne_eq_false_iff_eq.mpr c5
     clear c5
     simp only [Option.some.injEq, Prod.mk.injEq] at H
     obtain ⟨rfl, rfl⟩ := H
     go_enter Tryd.func50, Tryd.ntmps50
     go_wp2
     go_ret2
     exact ⟨by first | rfl | (simp; done) | (simp [*]; done), by repeat (first | exact Drawn0.refl _ | apply Drawn0.step)⟩
    ·rw [if_neg c5] at H
     have c5b0 : (a0.toList == ([117, 105, 110, 116, 49, 54] : List UInt8)) = false := beq_eq_false_iff_ne.mpr c5
     have c5b1 : (a0.toList != ([117, 105, 110, 116, 49, 54] : List UInt8)) = true := bne_iff_ne.mpr c5
     by_cases c6 : a0.toList = ([105, 110, 116, 51, 50] : List UInt8)
     ·rw [if_pos c6] at H
      have c6b0 : (a0.toList == ([105, 110, 116, 51, 50] : List UInt8)) = true := beq_iff_eq.mpr c6
      have c6b1 : (a0.toList != ([105, 110, 116, 51, 50] : List UInt8)) = false := bne_eq_false_iff_eq.mpr c6
      clear c6
      simp only [Option.some.injEq, Prod.mk.injEq] at H
      obtain ⟨rfl, rfl⟩ := H
      go_enter Tryd.func50, Tryd.ntmps50
      go_wp2
      go_ret2
      exact ⟨by first | rfl | (simp; done) | (simp [*]; done), by repeat (first | exact Drawn0.refl _ | apply Drawn0.step)⟩
     ·rw [if_neg c6] at H
      have c6b0 : (a0.toList == ([105, 110, 116, 51, 50] : List UInt8)) = false := beq_eq_false_iff_ne.mpr c6
      have c6b1 : (a0.toList != ([105, 110, 116, 51, 50] : List UInt8)) = true := bne_iff_ne.mpr c6
      by_cases c7 : a0.toList = ([117, 105, 110, 116, 51, 50] : List UInt8)
      ·rw [if_pos c7] at H
       have c7b0 : (a0.toList == ([117, 105, 110, 116, 51, 50] : List UInt8)) = true := beq_iff_eq.mpr c7
       have c7b1 : (a0.toList != ([117, 105, 110, 116, 51, 50] : List UInt8)) = false := bne_eq_false_iff_eq.mpr c7
       clear c7
       simp only [Option.some.injEq, Prod.mk.injEq] at H
       obtain ⟨rfl, rfl⟩ := H
       go_enter Tryd.func50, Tryd.ntmps50
       go_wp2
       go_ret2
       exact ⟨by first | rfl | (simp; done) | (simp [*]; done), by repeat (first | exact Drawn0.refl _ | apply Drawn0.step)⟩
      ·rw [if_neg c7] at H
       have c7b0 : (a0.toList == ([117, 105, 110, 116, 51, 50] : List UInt8)) = false := beq_eq_false_iff_ne.mpr c7
       have c7b1 : (a0.toList != ([117, 105, 110, 116, 51, 50] : List UInt8)) = true := bne_iff_ne.mpr c7
       by_cases c8 : a0.toList = ([105, 110, 116, 54, 52] : List UInt8)
       ·rw [if_pos c8] at H
        have c8b0 : (a0.toList == ([105, 110, 116, 54, 52] : List UInt8)) = true := beq_iff_eq.mpr c8
        have c8b1 : (a0.toList != ([105, 110, 116, 54, 52] : List UInt8)) = false := bne_eq_false_iff_eq.mpr c8
        clear c8
        simp only [Option.some.injEq, Prod.mk.injEq] at H
        obtain ⟨rfl, rfl⟩ := H
        go_enter Tryd.func50, Tryd.ntmps50
        go_wp2
        go_ret2
        exact ⟨by first | rfl | (simp; done) | (simp [*]; done), by repeat (first | exact Drawn0.refl _ | apply Drawn0.step)⟩
       ·rw [if_neg c8] at H
        have c8b0 : (a0.toList == ([105, 110, 116, 54, 52] : List UInt8)) = false := beq_eq_false_iff_ne.mpr c8
        have c8b1 : (a0.toList != ([105, 110, 116, 54, 52] : List UInt8)) = true := bne_iff_ne.mpr c8
        by_cases c9 : a0.toList = ([117, 105, 110, 116, 54, 52] : List UInt8)
        ·rw [if_pos c9] at H
         have c9b0 : (a0.toList == ([117, 105, 110, 116, 54, 52] : List UInt8)) = true := beq_iff_eq.mpr c9
         have c9b1 : (a0.toList != ([117, 105, 110, 116, 54, 52] : List UInt8)) = false := bne_eq_false_iff_eq.mpr c9
         clear c9
         simp only [Option.some.injEq, Prod.mk.injEq] at H
         obtain ⟨rfl, rfl⟩ := H
         go_enter Tryd.func50, Tryd.ntmps50
         go_wp2
         go_ret2
         exact ⟨by first | rfl | (simp; done) | (simp [*]; done), by repeat (first | exact Drawn0.refl _ | apply Drawn0.step)⟩
        ·rw [if_neg c9] at H
         have c9b0 : (a0.toList == ([117, 105, 110, 116, 54, 52] : List UInt8)) = false := beq_eq_false_iff_ne.mpr c9
         have c9b1 : (a0.toList != ([117, 105, 110, 116, 54, 52] : List UInt8)) = true := bne_iff_ne.mpr c9
         by_cases c10 : a0.toList = ([100, 111, 117, 98, 108, 101] : List UInt8)
         ·rw [if_pos c10] at H
          have c10b0 : (a0.toList == ([100, 111, 117, 98, 108, 101] : List UInt8)) = true := beq_iff_eq.mpr c10
          have c10b1 : (a0.toList != ([100, 111, 117, 98, 108, 101] : List UInt8)) = false := bne_eq_false_iff_eq.mpr c10
          clear c10
          simp only [Option.some.injEq, Prod.mk.injEq] at H
          obtain ⟨rfl, rfl⟩ := H
          go_enter Tryd.func50, Tryd.ntmps50
          go_wp2
          go_ret2
          exact ⟨by first | rfl | (simp; done) | (simp [*]; done), by repeat (first | exact Drawn0.refl _ | apply Drawn0.step)⟩
         ·rw [if_neg c10] at H
          have c10b0 : (a0.toList == ([100, 111, 117, 98, 108, 101] : List UInt8)) = false := beq_eq_false_iff_ne.mpr c10
          have c10b1 : (a0.toList != ([100, 111, 117, 98, 108, 101] : List UInt8)) = true := bne_iff_ne.mpr c10
          by_cases c11 : a0.toList = ([115, 116, 114, 105, 110, 103] : List UInt8)
          ·rw [if_pos c11] at H
           have c11b0 : (a0.toList == ([115, 116, 114, 105, 110, 103] : List UInt8)) = true := beq_iff_eq.mpr c11
           have c11b1 : (a0.toList != ([115, 116, 114, 105, 110, 103] : List UInt8)) = false := bne_eq_false_iff_eq.mpr c11
           clear c11
           simp only [Option.some.injEq, Prod.mk.injEq] at H
           obtain ⟨rfl, rfl⟩ := H
           go_enter Tryd.func50, Tryd.ntmps50
           go_wp2
           go_ret2
           exact ⟨by first | rfl | (simp; done) | (simp [*]; done), by repeat (first | exact Drawn0.refl _ | apply Drawn0.step)⟩
          ·rw [if_neg c11] at H
           have c11b0 : (a0.toList == ([115, 116, 114, 105, 110, 103] : List UInt8)) = false := beq_eq_false_iff_ne.mpr c11
           have c11b1 : (a0.toList != ([115, 116, 114, 105, 110, 103] : List UInt8)) = true := bne_iff_ne.mpr c11
           by_cases c12 : a0.toList = ([111, 98, 106, 101, 99, 116, 112, 97, 116, 104] : List UInt8)
           ·rw [if_pos c12] at H
            have c12b0 : (a0.toList == ([111, 98, 106, 101, 99, 116, 112, 97, 116, 104] : List UInt8)) = true := beq_iff_eq.mpr c12
            have c12b1 : (a0.toList != ([111, 98, 106, 101, 99, 116, 112, 97, 116, 104] : List UInt8)) = false := bne_eq_false_iff_eq.mpr c12
            clear c12
            simp only [Option.some.injEq, Prod.mk.injEq] at H
            obtain ⟨rfl, rfl⟩ := H
            go_enter Tryd.func50, Tryd.ntmps50
            go_wp2
            go_ret2
            exact ⟨by first | rfl | (simp; done) | (simp [*]; done), by repeat (first | exact Drawn0.refl _ | apply Drawn0.step)⟩
           ·rw [if_neg c12] at H
            have c12b0 : (a0.toList == ([111, 98, 106, 101, 99, 116, 112, 97, 116, 104] : List UInt8)) = false := beq_eq_false_iff_ne.mpr c12
            have c12b1 : (a0.toList != ([111, 98, 106, 101, 99, 116, 112, 97, 116, 104] : List UInt8)) = true := bne_iff_ne.mpr c12
            by_cases c13 : a0.toList = ([115, 105, 103, 110, 97, 116, 117, 114, 101] : List UInt8)
            ·rw [if_pos c13] at H
             have c13b0 : (a0.toList == ([115, 105, 103, 110, 97, 116, 117, 114, 101] : List UInt8)) = true := beq_iff_eq.mpr c13
             have c13b1 : (a0.toList != ([115, 105, 103, 110, 97, 116, 117, 114, 101] : List UInt8)) = false := bne_eq_false_iff_eq.mpr c13
             clear c13
             simp only [Option.some.injEq, Prod.mk.injEq] at H
             obtain ⟨rfl, rfl⟩ := H
             go_enter Tryd.func50, Tryd.ntmps50
             go_wp2
             go_ret2
             exact ⟨by first | rfl | (simp; done) | (simp [*]; done), by repeat (first | exact Drawn0.refl _ | apply Drawn0.step)⟩
            ·rw [if_neg c13] at H
             have c13b0 : (a0.toList == ([115, 105, 103, 110, 97, 116, 117, 114, 101] : List UInt8)) = false := beq_eq_false_iff_ne.mpr c13
             have c13b1 : (a0.toList != ([115, 105, 103, 110, 97, 116, 117, 114, 101] : List UInt8)) = true := bne_iff_ne.mpr c13
             simp only [Option.some.injEq, Prod.mk.injEq] at H
             obtain ⟨rfl, rfl⟩ := H
             go_enter Tryd.func50, Tryd.ntmps50
             go_wp2
             go_ret2
             exact ⟨by first | rfl | (simp; done) | (simp [*]; done), by repeat (first | exact Drawn0.refl _ | apply Drawn0.step)⟩

-- NOT PRINTED: function 38 (dbus_varLexType)

/-- A state of type 59 at block g of W; what its slices lead to came in by w0. -/
def IsS59 (w0 W : World) (g : Nat) (f0 : ByteArray) (f1 : Int) (f2 : Int) (f3 : Int) (f4 : List (S48)) : Prop := ∃ A4 c4, W.heap[g]? = some (.cells #[.string f0, .int .i64 f1, .int .i64 f2, .int .i64 f3, .slice A4 f4.length c4] 59 (0, 0)) ∧ w0.heap.size ≤ g ∧ Kd.C k48 w0 A4 f4.length f4
theorem IsS59.grown {w0 W : World} {g : Nat} {f0 : ByteArray} {f1 : Int} {f2 : Int} {f3 : Int} {f4 : List (S48)} {W1 : World} {row : Option Nat} (h : IsS59 w0 W g f0 f1 f2 f3 f4) (hw : W.grownBy W1 row) (hne : some g ≠ row) : IsS59 w0 W1 g f0 f1 f2 f3 f4 := by
 obtain ⟨A4, c4, hb, hg, hr4⟩ := h
 exact ⟨A4, c4, blk_grown hb hw hne, hg, hr4⟩
theorem IsS59.own_neN {w0 W : World} {g : Nat} {f0 : ByteArray} {f1 : Int} {f2 : Int} {f3 : Int} {f4 : List (S48)} {α : Type} {d : Kd α} {e : Nat} {base : Nat} {ok : Nat → Prop} {v : Value} {xs : List α} (h : IsS59 w0 W g f0 f1 f2 f3 f4) (ho : Kd.N d e W base ok v xs) (ht : e ≠ 59) : some g ≠ v.ownBlock := by
 obtain ⟨A4, c4, hb, hg, hr4⟩ := h
 exact Kd.N_ne ho hb ht
theorem IsS59.fresh {w0 W : World} {g : Nat} {f0 : ByteArray} {f1 : Int} {f2 : Int} {f3 : Int} {f4 : List (S48)} (h : IsS59 w0 W g f0 f1 f2 f3 f4) : ∀ k, W.heap.size ≤ k → k ≠ g := by
 obtain ⟨A4, c4, hb, hg, hr4⟩ := h
 exact Kd.freshB hb
theorem IsS59.kept {w0 W : World} {g : Nat} {f0 : ByteArray} {f1 : Int} {f2 : Int} {f3 : Int} {f4 : List (S48)} {W1 : World} {S : Nat → Prop} (h : IsS59 w0 W g f0 f1 f2 f3 f4) (hk : Kept W W1 S) (hne : ¬ S g) : IsS59 w0 W1 g f0 f1 f2 f3 f4 := by
 obtain ⟨A4, c4, hb, hg, hr4⟩ := h
 exact ⟨A4, c4, blk_kept hb hk hne, hg, hr4⟩
theorem IsS59.below {w0 W : World} {g : Nat} {f0 : ByteArray} {f1 : Int} {f2 : Int} {f3 : Int} {f4 : List (S48)} {W1 : World} (h : IsS59 w0 W g f0 f1 f2 f3 f4) (hw : Below W.heap.size W W1) : IsS59 w0 W1 g f0 f1 f2 f3 f4 := h.grown (grown_of_below hw none) (by simp)
theorem IsS59.alloc {w0 W : World} {g : Nat} {f0 : ByteArray} {f1 : Int} {f2 : Int} {f3 : Int} {f4 : List (S48)} (h : IsS59 w0 W g f0 f1 f2 f3 f4) (o : Obj) : IsS59 w0 (W.alloc o) g f0 f1 f2 f3 f4 := h.below (below_alloc (Below.refl _ _) o)
theorem IsS59.drewN {w0 W : World} {g : Nat} {f0 : ByteArray} {f1 : Int} {f2 : Int} {f3 : Int} {f4 : List (S48)} (h : IsS59 w0 W g f0 f1 f2 f3 f4) (m : Nat) : IsS59 w0 (W.drewN m) g f0 f1 f2 f3 f4 := h
theorem IsS59.drew {w0 W : World} {g : Nat} {f0 : ByteArray} {f1 : Int} {f2 : Int} {f3 : Int} {f4 : List (S48)} (h : IsS59 w0 W g f0 f1 f2 f3 f4) : IsS59 w0 W.drew g f0 f1 f2 f3 f4 := h
theorem IsS59.at_ {w0 W : World} {g : Nat} {f0 : ByteArray} {f1 : Int} {f2 : Int} {f3 : Int} {f4 : List (S48)} {w' : World} {m : Nat} (hq : W.drewN m = w') (h : IsS59 w0 W g f0 f1 f2 f3 f4) : IsS59 w0 w' g f0 f1 f2 f3 f4 := by subst hq; exact IsS59.drewN h m
theorem IsS59.apart {w0 W : World} {g : Nat} {f0 : ByteArray} {f1 : Int} {f2 : Int} {f3 : Int} {f4 : List (S48)} {α : Type} {d : Kd α} {e : Nat} {base : Nat} {ok : Nat → Prop} {v : Value} {xs : List α} (h : IsS59 w0 W g f0 f1 f2 f3 f4) (ho : d.R e W base ok v xs) (ht : ∀ q, q ∈ e :: d.E → q ≠ 59) : d.R e W base (fun k => ok k ∧ k ≠ g) v xs := by
 obtain ⟨A4, c4, hb, hg, hr4⟩ := h
 exact Kd.R_types ho hb ht
theorem IsS59.own_ne {w0 W : World} {g : Nat} {f0 : ByteArray} {f1 : Int} {f2 : Int} {f3 : Int} {f4 : List (S48)} {α : Type} {d : Kd α} {e : Nat} {base : Nat} {ok : Nat → Prop} {v : Value} {xs : List α} (h : IsS59 w0 W g f0 f1 f2 f3 f4) (ho : d.R e W base ok v xs) (ht : e ≠ 59) : some g ≠ v.ownBlock := by
 obtain ⟨A4, c4, hb, hg, hr4⟩ := h
 exact Kd.R_ne ho hb ht
theorem IsS59.apartQ {w0 W : World} {g : Nat} {f0 : ByteArray} {f1 : Int} {f2 : Int} {f3 : Int} {f4 : List (S48)} {α : Type} {d : Kd α} {e : Nat} {base : Nat} {ok : Nat → Prop} {v : Value} {xs : List α} (h : IsS59 w0 W g f0 f1 f2 f3 f4) (ho : d.Q e W base ok v xs) (ht : ∀ q, q ∈ e :: d.E → q ≠ 59) : d.Q e W base (fun k => ok k ∧ k ≠ g) v xs := by
 obtain ⟨A4, c4, hb, hg, hr4⟩ := h
 exact Kd.Q_types ho hb ht
theorem IsS59.own_neQ {w0 W : World} {g : Nat} {f0 : ByteArray} {f1 : Int} {f2 : Int} {f3 : Int} {f4 : List (S48)} {α : Type} {d : Kd α} {e : Nat} {base : Nat} {ok : Nat → Prop} {v : Value} {xs : List α} (h : IsS59 w0 W g f0 f1 f2 f3 f4) (ho : d.Q e W base ok v xs) (ht : e ≠ 59) : some g ≠ v.ownBlock := by
 obtain ⟨A4, c4, hb, hg, hr4⟩ := h
 exact Kd.Q_ne ho hb ht
theorem IsS59.apartS {w0 W : World} {g : Nat} {f0 : ByteArray} {f1 : Int} {f2 : Int} {f3 : Int} {f4 : List (S48)} {α : Type} {d : Kd α} {e : Nat} {base : Nat} {ok : Nat → Prop} {v : Value} {xs : List α} (h : IsS59 w0 W g f0 f1 f2 f3 f4) (ho : d.S e W base ok v xs) (ht : ∀ q, q ∈ e :: d.E → q ≠ 59) : d.S e W base (fun k => ok k ∧ k ≠ g) v xs := by
 obtain ⟨A4, c4, hb, hg, hr4⟩ := h
 exact Kd.S_types ho hb ht
theorem IsS59.own_neS {w0 W : World} {g : Nat} {f0 : ByteArray} {f1 : Int} {f2 : Int} {f3 : Int} {f4 : List (S48)} {α : Type} {d : Kd α} {e : Nat} {base : Nat} {ok : Nat → Prop} {v : Value} {xs : List α} (h : IsS59 w0 W g f0 f1 f2 f3 f4) (ho : d.S e W base ok v xs) (ht : e ≠ 59) : some g ≠ v.ownBlock := by
 obtain ⟨A4, c4, hb, hg, hr4⟩ := h
 exact Kd.S_ne ho hb ht
theorem IsS59.lt {w0 W : World} {g : Nat} {f0 : ByteArray} {f1 : Int} {f2 : Int} {f3 : Int} {f4 : List (S48)} (h : IsS59 w0 W g f0 f1 f2 f3 f4) : g < W.heap.size := by
 obtain ⟨A4, c4, hb, hg, hr4⟩ := h
 exact blk_lt hb
theorem IsS59.ge {w0 W : World} {g : Nat} {f0 : ByteArray} {f1 : Int} {f2 : Int} {f3 : Int} {f4 : List (S48)} (h : IsS59 w0 W g f0 f1 f2 f3 f4) : w0.heap.size ≤ g := by
 obtain ⟨A4, c4, hb, hg, hr4⟩ := h
 exact hg
theorem IsS59.ne_blk {w0 W : World} {g : Nat} {f0 : ByteArray} {f1 : Int} {f2 : Int} {f3 : Int} {f4 : List (S48)} {a : Nat} {cs : Array Value} {t : TypeId} {fr : Nat × Nat} (h : IsS59 w0 W g f0 f1 f2 f3 f4) (hb2 : W.heap[a]? = some (.cells cs t fr)) (ht : t ≠ 59) : g ≠ a := by
 obtain ⟨A4, c4, hb, hg, hr4⟩ := h
 rintro rfl
 rw [hb] at hb2
 injection hb2 with hb2
 injection hb2 with _ ht2
 exact ht ht2.symm
theorem IsS59.far {w0 W : World} {g : Nat} {f0 : ByteArray} {f1 : Int} {f2 : Int} {f3 : Int} {f4 : List (S48)} {p : Addr} (h : IsS59 w0 W g f0 f1 f2 f3 f4) (hne : g ≠ p.block) (u : Value) : IsS59 w0 (W.setCell p u) g f0 f1 f2 f3 f4 := by
 obtain ⟨A4, c4, hb, hg, hr4⟩ := h
 exact ⟨A4, c4, blk_far hb hne u, hg, hr4⟩
theorem cellS59_0 {W : World} {g : Nat} {A4 : Option Addr} {c4 : Nat} {f0 : ByteArray} {f1 : Int} {f2 : Int} {f3 : Int} {f4 : List (S48)} (h : W.heap[g]? = some (.cells #[.string f0, .int .i64 f1, .int .i64 f2, .int .i64 f3, .slice A4 f4.length c4] 59 (0, 0))) : W.cell? ⟨g, 0, none⟩ = some (.string f0) := (blk_cell h 0).trans rfl
theorem IsS59.set_0 {w0 W : World} {g : Nat} {f0 : ByteArray} {f1 : Int} {f2 : Int} {f3 : Int} {f4 : List (S48)} (h : IsS59 w0 W g f0 f1 f2 f3 f4) (x : ByteArray) : IsS59 w0 (W.setCell ⟨g, 0, none⟩ (.string x)) g x f1 f2 f3 f4 := by
 obtain ⟨A4, c4, hb, hg, hr4⟩ := h
 exact ⟨A4, c4, by simpa using blk_set hb 0 (.string x), hg, hr4⟩
theorem cellS59_1 {W : World} {g : Nat} {A4 : Option Addr} {c4 : Nat} {f0 : ByteArray} {f1 : Int} {f2 : Int} {f3 : Int} {f4 : List (S48)} (h : W.heap[g]? = some (.cells #[.string f0, .int .i64 f1, .int .i64 f2, .int .i64 f3, .slice A4 f4.length c4] 59 (0, 0))) : W.cell? ⟨g, 1, none⟩ = some (.int .i64 f1) := (blk_cell h 1).trans rfl
theorem IsS59.set_1 {w0 W : World} {g : Nat} {f0 : ByteArray} {f1 : Int} {f2 : Int} {f3 : Int} {f4 : List (S48)} (h : IsS59 w0 W g f0 f1 f2 f3 f4) (x : Int) : IsS59 w0 (W.setCell ⟨g, 1, none⟩ (.int .i64 x)) g f0 x f2 f3 f4 := by
 obtain ⟨A4, c4, hb, hg, hr4⟩ := h
 exact ⟨A4, c4, by simpa using blk_set hb 1 (.int .i64 x), hg, hr4⟩
theorem cellS59_2 {W : World} {g : Nat} {A4 : Option Addr} {c4 : Nat} {f0 : ByteArray} {f1 : Int} {f2 : Int} {f3 : Int} {f4 : List (S48)} (h : W.heap[g]? = some (.cells #[.string f0, .int .i64 f1, .int .i64 f2, .int .i64 f3, .slice A4 f4.length c4] 59 (0, 0))) : W.cell? ⟨g, 2, none⟩ = some (.int .i64 f2) := (blk_cell h 2).trans rfl
theorem IsS59.set_2 {w0 W : World} {g : Nat} {f0 : ByteArray} {f1 : Int} {f2 : Int} {f3 : Int} {f4 : List (S48)} (h : IsS59 w0 W g f0 f1 f2 f3 f4) (x : Int) : IsS59 w0 (W.setCell ⟨g, 2, none⟩ (.int .i64 x)) g f0 f1 x f3 f4 := by
 obtain ⟨A4, c4, hb, hg, hr4⟩ := h
 exact ⟨A4, c4, by simpa using blk_set hb 2 (.int .i64 x), hg, hr4⟩
theorem cellS59_3 {W : World} {g : Nat} {A4 : Option Addr} {c4 : Nat} {f0 : ByteArray} {f1 : Int} {f2 : Int} {f3 : Int} {f4 : List (S48)} (h : W.heap[g]? = some (.cells #[.string f0, .int .i64 f1, .int .i64 f2, .int .i64 f3, .slice A4 f4.length c4] 59 (0, 0))) : W.cell? ⟨g, 3, none⟩ = some (.int .i64 f3) := (blk_cell h 3).trans rfl
theorem IsS59.set_3 {w0 W : World} {g : Nat} {f0 : ByteArray} {f1 : Int} {f2 : Int} {f3 : Int} {f4 : List (S48)} (h : IsS59 w0 W g f0 f1 f2 f3 f4) (x : Int) : IsS59 w0 (W.setCell ⟨g, 3, none⟩ (.int .i64 x)) g f0 f1 f2 x f4 := by
 obtain ⟨A4, c4, hb, hg, hr4⟩ := h
 exact ⟨A4, c4, by simpa using blk_set hb 3 (.int .i64 x), hg, hr4⟩
theorem cellS59_4 {W : World} {g : Nat} {A4 : Option Addr} {c4 : Nat} {f0 : ByteArray} {f1 : Int} {f2 : Int} {f3 : Int} {f4 : List (S48)} (h : W.heap[g]? = some (.cells #[.string f0, .int .i64 f1, .int .i64 f2, .int .i64 f3, .slice A4 f4.length c4] 59 (0, 0))) : W.cell? ⟨g, 4, none⟩ = some (.slice A4 f4.length c4) := (blk_cell h 4).trans rfl
theorem IsS59.new (w0 W : World) (A4 : Option Addr) (c4 : Nat) (f0 : ByteArray) (f1 : Int) (f2 : Int) (f3 : Int) (f4 : List (S48)) (hB : Below w0.heap.size w0 W) (hr4 : Kd.C k48 w0 A4 f4.length f4) : IsS59 w0 (W.alloc (.cells #[.string f0, .int .i64 f1, .int .i64 f2, .int .i64 f3, .slice A4 f4.length c4] 59)) W.heap.size f0 f1 f2 f3 f4 := ⟨A4, c4, by simpa using heap_alloc_new W _, hB.size, hr4⟩

/-! ### dbus_varLexer_ignore: function 40 -/
def dbus_varLexer_ignore.f (s0_0 : ByteArray) (s0_1 : Int) (s0_2 : Int) (s0_3 : Int) (s0_4 : List (S48)) : Option (ByteArray × Int × Int × Int) := some (s0_0, s0_2, s0_2, s0_3)
set_option maxHeartbeats 8000000 in
set_option maxRecDepth 100000 in
theorem dbus_varLexer_ignore.calls (g : Nat) (s0_0 : ByteArray) (s0_1 : Int) (s0_2 : Int) (s0_3 : Int) (s0_4 : List (S48)) (r1 : ByteArray) (r2 : Int) (r3 : Int) (r4 : Int) (w0 w : World) (hI : IsS59 w0 w g s0_0 s0_1 s0_2 s0_3 s0_4) (hB : Below w0.heap.size w0 w) (h : dbus_varLexer_ignore.f s0_0 s0_1 s0_2 s0_3 s0_4 = some (r1, r2, r3, r4)) :
  Calls Tryd.prog 40 #[.pointer (some ⟨g, 0, none⟩)] w fun e w' => e = .returned (.tuple #[]) ∧ IsS59 w0 w' g r1 r2 r3 r4 s0_4 ∧ Below w0.heap.size w0 w' ∧ KeepBut w w' g none := by
 have HI0 := Aside0.mk hI
 have HK := Aside0.mk (KeepBut.refl w g none)
 have HL := Aside0.mk hB.size
 clear hI
 have HW0 := Aside0.mk hB.size
 have HB := Aside0.mk hB
 clear hB
 have H : (some (s0_0, s0_2, s0_2, s0_3)) = some (r1, r2, r3, r4) := h
 clear h
 simp only [Option.some.injEq, Prod.mk.injEq] at H
 obtain ⟨rfl, rfl, rfl, rfl⟩ := H
 obtain ⟨ASz2_4, cSz2_4, HGz2, hgz2, HSz2_4⟩ := HI0.out
 have hcz2_0 := cellS59_0 HGz2
 have hcz2_1 := cellS59_1 HGz2
 have hcz2_2 := cellS59_2 HGz2
 have hcz2_3 := cellS59_3 HGz2
 have hcz2_4 := cellS59_4 HGz2
 have hfz2_0 := blk_frozen HGz2 0
 have hfz2_1 := blk_frozen HGz2 1
 have hfz2_2 := blk_frozen HGz2 2
 have hfz2_3 := blk_frozen HGz2 3
 clear HGz2 hgz2
 go_enter Tryd.func40, Tryd.ntmps40
 go_wp2
 first | go_end0 | ((try simp only [Exit.inBlock, Exit.then]); refine bodyPost_ret (results_none rfl _ _ _) rfl ?_)
 exact ⟨by first | rfl | (simp [errW_none, errW_some] <;> rfl) | (simp [*, errW_none, errW_some] <;> rfl) | (simp (disch := omega) only [wrap64_id] <;> rfl), by repeat (first | (with_reducible first | exact HI0.out | apply IsS59.alloc | apply IsS59.drewN | apply IsS59.drew | apply IsS59.set_0 | apply IsS59.set_1 | apply IsS59.set_2 | apply IsS59.set_3) | exact HI0.out), by repeat (first | (with_reducible first | exact HB.out | apply below_alloc | apply pw_below_drewN | apply below_drew1 | refine below_set ?_ (IsS59.ge HI0.out)) | exact HB.out), by repeat (first | (with_reducible first | exact HK.out | apply KeepBut.set_ | apply keep_drewN | apply keep_drew | apply keep_alloc) | exact HK.out)⟩

/-! ### dbus_zzNumber: function 41 -/
def dbus_zzNumber.f (a0 : Int) : Option (Bool) := if a0 = 178 then (some true) else (if a0 = 179 then (some true) else (if a0 = 185 then (some true) else (if a0 = 188 then (some true) else (if a0 = 189 then (some true) else (if a0 = 190 then (some true) else (if 48 ≤ a0 then (some (decide (a0 ≤ 57))) else (some false)))))))
set_option maxHeartbeats 8000000 in
set_option maxRecDepth 100000 in
theorem dbus_zzNumber.calls (a0 : Int) (r : Bool) (w : World) (h : dbus_zzNumber.f a0 = some r) :
  Calls Tryd.prog 41 #[.int .i32 a0] w fun e w' => e = .returned (.bool r) ∧ Drawn0 w w' := by
 have H : (if a0 = 178 then (some true) else (if a0 = 179 then (some true) else (if a0 = 185 then (some true) else (if a0 = 188 then (some true) else (if a0 = 189 then (some true) else (if a0 = 190 then (some true) else (if 48 ≤ a0 then (some (decide (a0 ≤ 57))) else (some false)))))))) = some r := h
 clear h
 by_cases c2 : a0 = 178
 ·rw [if_pos c2] at H
  have c2b0 : (a0 == 178) = true := beq_iff_eq.mpr c2
  have c2b1 : (a0 != 178) = false := bne_eq_false_iff_eq.mpr c2
  clear c2
  obtain rfl := Option.some.inj H
  go_enter Tryd.func41, Tryd.ntmps41
  go_wp2
  go_ret
  exact ⟨by first | rfl | (simp; done) | (simp [*]; done), by repeat (first | exact Drawn0.refl _ | apply Drawn0.step)⟩
 ·rw [if_neg c2] at H
  have c2b0 : (a0 == 178) = false := beq_eq_false_iff_ne.mpr c2
  have c2b1 : (a0 != 178) = true := bne_iff_ne.mpr c2
  by_cases c3 : a0 = 179
  ·rw [if_pos c3] at H
   have c3b0 : (a0 == 179) = true := beq_iff_eq.mpr c3
   have c3b1 : (a0 != 179) = false := bne_eq_false_iff_eq.mpr c3
   clear c3
   obtain rfl := Option.some.inj H
   go_enter Tryd.func41, Tryd.ntmps41
   go_wp2
   go_ret
   exact ⟨by first | rfl | (simp; done) | (simp [*]; done), by repeat (first | exact Drawn0.refl _ | apply Drawn0.step)⟩
  ·rw [if_neg c3] at H
   have c3b0 : (a0 == 179) = false := beq_eq_false_iff_ne.mpr c3
   have c3b1 : (a0 != 179) = true := bne_iff_ne.mpr c3
   by_cases c4 : a0 = 185
   ·rw [if_pos c4] at H
    have c4b0 : (a0 == 185) = true := beq_iff_eq.mpr c4
    have c4b1 : (a0 != 185) = false := bne_eq_false_iff_eq.mpr c4
    clear c4
    obtain rfl := Option.some.inj H
    go_enter Tryd.func41, Tryd.ntmps41
    go_wp2
    go_ret
    exact ⟨by first | rfl | (simp; done) | (simp [*]; done), by repeat (first | exact Drawn0.refl _ | apply Drawn0.step)⟩
   ·rw [if_neg c4] at H
    have c4b0 : (a0 == 185) = false := beq_eq_false_iff_ne.mpr c4
    have c4b1 : (a0 != 185) = true := bne_iff_ne.mpr c4
    by_cases c5 : a0 = 188
    ·rw [if_pos c5] at H
     have c5b0 : (a0 == 188) = true := beq_iff_eq.mpr c5
     have c5b1 : (a0 != 188) = false := bne_eq_false_iff_eq.mpr c5
     clear c5
     obtain rfl := Option.some.inj H
     go_enter Tryd.func41, Tryd.ntmps41
     go_wp2
     go_ret
     exact ⟨by first | rfl | (simp; done) | (simp [*]; done), by repeat (first | exact Drawn0.refl _ | apply Drawn0.step)⟩
    ·rw [if_neg c5] at H
     have c5b0 : (a0 == 188) = false := beq_eq_false_iff_ne.mpr c5
     have c5b1 : (a0 != 188) = true := bne_iff_ne.mpr c5
     by_cases c6 : a0 = 189
     ·rw [if_pos c6] at H
      have c6b0 : (a0 == 189) = true := beq_iff_eq.mpr c6
      have c6b1 : (a0 != 189) = false := bne_eq_false_iff_eq.mpr c6
      clear c6
      obtain rfl := Option.some.inj H
      go_enter Tryd.func41, Tryd.ntmps41
      go_wp2
      go_ret
      exact ⟨by first | rfl | (simp; done) | (simp [*]; done), by repeat (first | exact Drawn0.refl _ | apply Drawn0.step)⟩
     ·rw [if_neg c6] at H
      have c6b0 : (a0 == 189) = false := beq_eq_false_iff_ne.mpr c6
      have c6b1 : (a0 != 189) = true := bne_iff_ne.mpr c6
      by_cases c7 : a0 = 190
      ·rw [if_pos c7] at H
       have c7b0 : (a0 == 190) = true := beq_iff_eq.mpr c7
       have c7b1 : (a0 != 190) = false := bne_eq_false_iff_eq.mpr c7
       clear c7
       obtain rfl := Option.some.inj H
       go_enter Tryd.func41, Tryd.ntmps41
       go_wp2
       go_ret
       exact ⟨by first | rfl | (simp; done) | (simp [*]; done), by repeat (first | exact Drawn0.refl _ | apply Drawn0.step)⟩
      ·rw [if_neg c7] at H
       have c7b0 : (a0 == 190) = false := beq_eq_false_iff_ne.mpr c7
       have c7b1 : (a0 != 190) = true := bne_iff_ne.mpr c7
       by_cases c8 : 48 ≤ a0
       ·rw [if_pos c8] at H
        have c8b0 : decide (48 ≤ a0) = true := decide_eq_true c8
        clear c8
        obtain rfl := Option.some.inj H
        go_enter Tryd.func41, Tryd.ntmps41
        go_wp2
        go_ret
        exact ⟨by first | rfl | (simp; done) | (simp [*]; done), by repeat (first | exact Drawn0.refl _ | apply Drawn0.step)⟩
       ·rw [if_neg c8] at H
        have c8b0 : decide (48 ≤ a0) = false := decide_eq_false c8
        clear c8
        obtain rfl := Option.some.inj H
        go_enter Tryd.func41, Tryd.ntmps41
        go_wp2
        go_ret
        exact ⟨by first | rfl | (simp; done) | (simp [*]; done), by repeat (first | exact Drawn0.refl _ | apply Drawn0.step)⟩

-- NOT PRINTED: function 43 (dbus_varLexer_peek)

/-! ### dbus_zzLetter: function 52 -/
def dbus_zzLetter.j0 : Nat → Int → Int → Bool → Option (Bool)
 | 0, _, _, _ => none
 | k + 1, x0, x3, x4 => if x4 = true then (some true) else (if x3 = 215 then (some false) else (if x3 = 247 then (some false) else (if 97 ≤ x0 then (if x0 ≤ 122 then (some true) else (if 65 ≤ x0 then (if x0 ≤ 90 then (some true) else (if 192 ≤ x0 then (some (decide (x0 ≤ 255))) else (some false))) else (if 192 ≤ x0 then (some (decide (x0 ≤ 255))) else (some false)))) else (if 65 ≤ x0 then (if x0 ≤ 90 then (some true) else (if 192 ≤ x0 then (some (decide (x0 ≤ 255))) else (some false))) else (if 192 ≤ x0 then (some (decide (x0 ≤ 255))) else (some false))))))
def dbus_zzLetter.f (k : Nat) (a0 : Int) : Option (Bool) := if a0 = 170 then (dbus_zzLetter.j0 k a0 a0 (a0 == 170)) else (if a0 = 181 then (dbus_zzLetter.j0 k a0 a0 (a0 == 181)) else (dbus_zzLetter.j0 k a0 a0 (a0 == 186)))
theorem dbus_zzLetter.mono_l : ∀ k, (∀ y0 y1 y2, LeO (dbus_zzLetter.j0 k y0 y1 y2) (dbus_zzLetter.j0 (k + 1) y0 y1 y2))
 | 0 => fun _ _ _ r h => by simp [dbus_zzLetter.j0] at h
 | k + 1 => by
  have ih0 := dbus_zzLetter.mono_l k
  ·intro y0 y1 y2
   unfold dbus_zzLetter.j0
   repeat' first
   | (with_reducible exact ih0 _ _ _)
   | (with_reducible exact LeO.refl _)
   | (with_reducible exact LeO.none _)
   | (with_reducible refine LeO.ite ?_ ?_)
   | (with_reducible refine LeO.bind ?_ (fun _ => ?_))
   | exact ih0 _ _ _
   | exact LeO.none _
   | refine LeO.ite ?_ ?_
   | refine LeO.bind ?_ (fun _ => ?_)
theorem dbus_zzLetter.mono : ∀ a0 k, LeO (dbus_zzLetter.f k a0) (dbus_zzLetter.f (k + 1) a0) := by
 intro a0 k
 have ih0 := dbus_zzLetter.mono_l k
 unfold dbus_zzLetter.f
 repeat' first
   | (with_reducible exact ih0 _ _ _)
   | (with_reducible exact LeO.refl _)
   | (with_reducible exact LeO.none _)
   | (with_reducible refine LeO.ite ?_ ?_)
   | (with_reducible refine LeO.bind ?_ (fun _ => ?_))
   | exact ih0 _ _ _
   | exact LeO.none _
   | refine LeO.ite ?_ ?_
   | refine LeO.bind ?_ (fun _ => ?_)
set_option maxHeartbeats 8000000 in
set_option maxRecDepth 100000 in
theorem dbus_zzLetter.calls (k : Nat) (a0 : Int) (r : Bool) (w : World) (h : dbus_zzLetter.f k a0 = some r) :
  Calls Tryd.prog 52 #[.int .i32 a0] w fun e w' => e = .returned (.bool r) ∧ Drawn0 w w' := by
 have H : (if a0 = 170 then (dbus_zzLetter.j0 k a0 a0 (a0 == 170)) else (if a0 = 181 then (dbus_zzLetter.j0 k a0 a0 (a0 == 181)) else (dbus_zzLetter.j0 k a0 a0 (a0 == 186)))) = some r := h
 clear h
 have HC2 := Aside0.mk H
 clear H
 go_enter Tryd.func52, Tryd.ntmps52
 go_upto_if 4 with (fail)
 go_cut [4] (fun v4 wc => ∃ (kq : Nat) (x4_1 : Bool), v4 = .bool x4_1 ∧ Aside0 (dbus_zzLetter.j0 kq a0 a0 x4_1 = some r) ∧ Aside0 (kq ≤ k) ∧ Drawn0 w wc)
 case first =>
  have H := HC2.out
  clear HC2
  by_cases c3 : a0 = 170
  ·rw [if_pos c3] at H
   have c3b0 : (a0 == 170) = true := beq_iff_eq.mpr c3
   have c3b1 : (a0 != 170) = false := bne_eq_false_iff_eq.mpr c3
   clear c3
   (first | rw [c3b0] | (simp only [i64_w, i32_w]; rw [c3b0]) | skip)
   have H' := Aside0.mk H
   clear H
   go_wp2
   go_meet
   case rel => exact ⟨_, ((a0 == 170)), (by first | rfl | (simp; done) | (simp [*]; done)), H', ⟨by first | omega | exact Nat.le_refl _⟩, by repeat (first | exact Drawn0.refl _ | apply Drawn0.step)⟩
  ·rw [if_neg c3] at H
   have c3b0 : (a0 == 170) = false := beq_eq_false_iff_ne.mpr c3
   have c3b1 : (a0 != 170) = true := bne_iff_ne.mpr c3
   (first | rw [c3b0] | (simp only [i64_w, i32_w]; rw [c3b0]) | skip)
   by_cases c4 : a0 = 181
   ·rw [if_pos c4] at H
    have c4b0 : (a0 == 181) = true := beq_iff_eq.mpr c4
    have c4b1 : (a0 != 181) = false := bne_eq_false_iff_eq.mpr c4
    clear c4
    have H' := Aside0.mk H
    clear H
    go_wp2
    go_meet
    case rel => exact ⟨_, ((a0 == 181)), (by first | rfl | (simp; done) | (simp [*]; done)), H', ⟨by first | omega | exact Nat.le_refl _⟩, by repeat (first | exact Drawn0.refl _ | apply Drawn0.step)⟩
   ·rw [if_neg c4] at H
    have c4b0 : (a0 == 181) = false := beq_eq_false_iff_ne.mpr c4
    have c4b1 : (a0 != 181) = true := bne_iff_ne.mpr c4
    have H' := Aside0.mk H
    clear H
    go_wp2
    go_meet
    case rel => exact ⟨_, ((a0 == 186)), (by first | rfl | (simp; done) | (simp [*]; done)), H', ⟨by first | omega | exact Nat.le_refl _⟩, by repeat (first | exact Drawn0.refl _ | apply Drawn0.step)⟩
 case rest =>
  clear HC2
  try clear p2
  try clear c3
  try clear c3b0
  try clear c3b1
  try clear c4
  try clear c4b0
  try clear c4b1
  obtain ⟨kq, x4_1, rfl, HA, HJ1, ⟨mc1, rfl⟩⟩ := hcut
  cases kq with
  | zero => exact absurd HA.out (by simp [dbus_zzLetter.j0])
  | succ kj1 =>
   have H := HA.out
   clear HA
   simp only [dbus_zzLetter.j0] at H
   by_cases c5 : x4_1 = true
   ·subst c5
    have H1 : (some true) = some r := by rw [if_pos rfl] at H; exact H
    clear H
    have H := H1
    clear H1
    obtain rfl := Option.some.inj H
    go_wp2
    go_ret
    exact ⟨by first | rfl | (simp; done) | (simp [*]; done), by repeat (first | exact Drawn0.refl _ | apply Drawn0.step)⟩
   ·replace c5 := Bool.eq_false_iff.mpr c5
    subst c5
    have H1 : (if a0 = 215 then (some false) else (if a0 = 247 then (some false) else (if 97 ≤ a0 then (if a0 ≤ 122 then (some true) else (if 65 ≤ a0 then (if a0 ≤ 90 then (some true) else (if 192 ≤ a0 then (some (decide (a0 ≤ 255))) else (some false))) else (if 192 ≤ a0 then (some (decide (a0 ≤ 255))) else (some false)))) else (if 65 ≤ a0 then (if a0 ≤ 90 then (some true) else (if 192 ≤ a0 then (some (decide (a0 ≤ 255))) else (some false))) else (if 192 ≤ a0 then (some (decide (a0 ≤ 255))) else (some false)))))) = some r := by rw [if_neg (show ¬ (false = true) by decide)] at H; exact H
    clear H
    have H := H1
    clear H1
    by_cases c6 : a0 = 215
    ·rw [if_pos c6] at H
     have c6b0 : (a0 == 215) = true := beq_iff_eq.mpr c6
     have c6b1 : (a0 != 215) = false := bne_eq_false_iff_eq.mpr c6
     clear c6
     obtain rfl := Option.some.inj H
     go_wp2
     go_ret
     exact ⟨by first | rfl | (simp; done) | (simp [*]; done), by repeat (first | exact Drawn0.refl _ | apply Drawn0.step)⟩
    ·rw [if_neg c6] at H
     have c6b0 : (a0 == 215) = false := beq_eq_false_iff_ne.mpr c6
     have c6b1 : (a0 != 215) = true := bne_iff_ne.mpr c6
     by_cases c7 : a0 = 247
     ·rw [if_pos c7] at H
      have c7b0 : (a0 == 247) = true := beq_iff_eq.mpr c7
      have c7b1 : (a0 != 247) = false := bne_eq_false_iff_eq.mpr c7
      clear c7
      obtain rfl := Option.some.inj H
      go_wp2
      go_ret
      exact ⟨by first | rfl | (simp; done) | (simp [*]; done), by repeat (first | exact Drawn0.refl _ | apply Drawn0.step)⟩
     ·rw [if_neg c7] at H
      have c7b0 : (a0 == 247) = false := beq_eq_false_iff_ne.mpr c7
      have c7b1 : (a0 != 247) = true := bne_iff_ne.mpr c7
      by_cases c8 : 97 ≤ a0
      ·rw [if_pos c8] at H
       have c8b0 : decide (97 ≤ a0) = true := decide_eq_true c8
       clear c8
       by_cases c9 : a0 ≤ 122
       ·rw [if_pos c9] at H
        have c9b0 : decide (a0 ≤ 122) = true := decide_eq_true c9
        clear c9
        obtain rfl := Option.some.inj H
        go_wp2
        go_ret
        exact ⟨by first | rfl | (simp; done) | (simp [*]; done), by repeat (first | exact Drawn0.refl _ | apply Drawn0.step)⟩
       ·rw [if_neg c9] at H
        have c9b0 : decide (a0 ≤ 122) = false := decide_eq_false c9
        clear c9
        by_cases c10 : 65 ≤ a0
        ·rw [if_pos c10] at H
         have c10b0 : decide (65 ≤ a0) = true := decide_eq_true c10
         clear c10
         by_cases c11 : a0 ≤ 90
         ·rw [if_pos c11] at H
          have c11b0 : decide (a0 ≤ 90) = true := decide_eq_true c11
          clear c11
          obtain rfl := Option.some.inj H
          go_wp2
          go_ret
          exact ⟨by first | rfl | (simp; done) | (simp [*]; done), by repeat (first | exact Drawn0.refl _ | apply Drawn0.step)⟩
         ·rw [if_neg c11] at H
          have c11b0 : decide (a0 ≤ 90) = false := decide_eq_false c11
          clear c11
          by_cases c12 : 192 ≤ a0
          ·rw [if_pos c12] at H
           have c12b0 : decide (192 ≤ a0) = true := decide_eq_true c12
           clear c12
           obtain rfl := Option.some.inj H
           go_wp2
           go_ret
           exact ⟨by first | rfl | (simp; done) | (simp [*]; done), by repeat (first | exact Drawn0.refl _ | apply Drawn0.step)⟩
          ·rw [if_neg c12] at H
           have c12b0 : decide (192 ≤ a0) = false := decide_eq_false c12
           clear c12
           obtain rfl := Option.some.inj H
           go_wp2
           go_ret
           exact ⟨by first | rfl | (simp; done) | (simp [*]; done), by repeat (first | exact Drawn0.refl _ | apply Drawn0.step)⟩
        ·rw [if_neg c10] at H
         have c10b0 : decide (65 ≤ a0) = false := decide_eq_false c10
         clear c10
         by_cases c13 : 192 ≤ a0
         ·rw [if_pos c13] at H
          have c13b0 : decide (192 ≤ a0) = true := decide_eq_true c13
          clear c13
          obtain rfl := Option.some.inj H
          go_wp2
          go_ret
          exact ⟨by first | rfl | (simp; done) | (simp [*]; done), by repeat (first | exact Drawn0.refl _ | apply Drawn0.step)⟩
         ·rw [if_neg c13] at H
          have c13b0 : decide (192 ≤ a0) = false := decide_eq_false c13
          clear c13
          obtain rfl := Option.some.inj H
          go_wp2
          go_ret
          exact ⟨by first | rfl | (simp; done) | (simp [*]; done), by repeat (first | exact Drawn0.refl _ | apply Drawn0.step)⟩
      ·rw [if_neg c8] at H
       have c8b0 : decide (97 ≤ a0) = false := decide_eq_false c8
       clear c8
       by_cases c14 : 65 ≤ a0
       ·rw [if_pos c14] at H
        have c14b0 : decide (65 ≤ a0) = true := decide_eq_true c14
        clear c14
        by_cases c15 : a0 ≤ 90
        ·rw [if_pos c15] at H
         have c15b0 : decide (a0 ≤ 90) = true := decide_eq_true c15
         clear c15
         obtain rfl := Option.some.inj H
         go_wp2
         go_ret
         exact ⟨by first | rfl | (simp; done) | (simp [*]; done), by repeat (first | exact Drawn0.refl _ | apply Drawn0.step)⟩
        ·rw [if_neg c15] at H
         have c15b0 : decide (a0 ≤ 90) = false := decide_eq_false c15
         clear c15
         by_cases c16 : 192 ≤ a0
         ·rw [if_pos c16] at H
          have c16b0 : decide (192 ≤ a0) = true := decide_eq_true c16
          clear c16
          obtain rfl := Option.some.inj H
          go_wp2
          go_ret
          exact ⟨by first | rfl | (simp; done) | (simp [*]; done), by repeat (first | exact Drawn0.refl _ | apply Drawn0.step)⟩
         ·rw [if_neg c16] at H
          have c16b0 : decide (192 ≤ a0) = false := decide_eq_false c16
          clear c16
          obtain rfl := Option.some.inj H
          go_wp2
          go_ret
          exact ⟨by first | rfl | (simp; done) | (simp [*]; done), by repeat (first | exact Drawn0.refl _ | apply Drawn0.step)⟩
       ·rw [if_neg c14] at H
        have c14b0 : decide (65 ≤ a0) = false := decide_eq_false c14
        clear c14
        by_cases c17 : 192 ≤ a0
        ·rw [if_pos c17] at H
         have c17b0 : decide (192 ≤ a0) = true := decide_eq_true c17
         clear c17
         obtain rfl := Option.some.inj H
         go_wp2
         go_ret
         exact ⟨by first | rfl | (simp; done) | (simp [*]; done), by repeat (first | exact Drawn0.refl _ | apply Drawn0.step)⟩
        ·rw [if_neg c17] at H
         have c17b0 : decide (192 ≤ a0) = false := decide_eq_false c17
         clear c17
         obtain rfl := Option.some.inj H
         go_wp2
         go_ret
         exact ⟨by first | rfl | (simp; done) | (simp [*]; done), by repeat (first | exact Drawn0.refl _ | apply Drawn0.step)⟩

-- NOT PRINTED: function 42 (dbus_varLexNumber)

-- NOT PRINTED: function 32 (dbus_varLexNormal)

-- NOT PRINTED: function 30 (dbus_varLexer_run)

end Go.Proofs.YthcafnmagidpiaaDoor.MFnVtTokensJoin
