-- Written by a program of this session (myprint.py, out of the translation). Not trusted: Lean checks it.
import Derived.Test.YtpgpkdickcdlpaaMFnAdReadJoinx0
import Derived.Test.YtpgpkdickcdlpaaMFnAdReadJoinx2
namespace Go.Proofs.Ytpgpkdickcdlpaa.MFnAdReadJoin
open Go.RowKit Go.Proofs.YtpgpkdickcdlpaaW.PrintWords Go.Proofs.YtpgpkdickcdlpaaW.PrintLast Go.Proofs.YtpgpkdickcdlpaaW.PrintMore
attribute [local go_sem] max2_int min2_int max_two min_two max_three min_three max_four min_four   -- for this text's walks alone
set_option linter.unusedVariables false
set_option linter.unusedSimpArgs false

/-! ### laws_FnAdReadJoin: function 3 -/
mutual
def laws_FnAdReadJoin.j0 : Nat → ByteArray → ByteArray → Bool → Option (Bool)
  | 0, _, _, _ => none
  | k + 1, x0, x1, x20 => if x20 = true then (some true) else (if (x0.size : Int) > 4096 then (laws_FnAdReadJoin.j1 k x0 x1 true) else (if (x1.size : Int) > 4096 then (laws_FnAdReadJoin.j1 k x0 x1 true) else (if (x0.size : Int) > 0 then (if 0 ≤ (wrap64 ((x0.size : Int) - 1)) then (if (wrap64 ((x0.size : Int) - 1)) < (x0.size : Int) then (if (bt x0 (wrap64 ((x0.size : Int) - 1))) = 37 then (laws_FnAdReadJoin.j1 k x0 x1 true) else (if (x0.size : Int) > 1 then (if 0 ≤ (wrap64 ((x0.size : Int) - 2)) then (if (wrap64 ((x0.size : Int) - 2)) < (x0.size : Int) then (laws_FnAdReadJoin.j1 k x0 x1 ((bt x0 (wrap64 ((x0.size : Int) - 2))) == 37)) else (none)) else (none)) else (laws_FnAdReadJoin.j1 k x0 x1 false))) else (none)) else (none)) else (if (x0.size : Int) > 1 then (if 0 ≤ (wrap64 ((x0.size : Int) - 2)) then (if (wrap64 ((x0.size : Int) - 2)) < (x0.size : Int) then (laws_FnAdReadJoin.j1 k x0 x1 ((bt x0 (wrap64 ((x0.size : Int) - 2))) == 37)) else (none)) else (none)) else (laws_FnAdReadJoin.j1 k x0 x1 false)))))
def laws_FnAdReadJoin.j1 : Nat → ByteArray → ByteArray → Bool → Option (Bool)
  | 0, _, _, _ => none
  | k + 1, x0, x1, x54 => if x54 = true then (some true) else ((impl_AdUnescape.f k x0).bind fun bt105 => ((impl_AdUnescape.f k x1).bind fun bt107 => (if x0.size + x1.size ≤ 9223372036854775807 then ((impl_AdUnescape.f k (x0 ++ x1)).bind fun bt109 => ((impl_AdUnescape.f k (⟨#[37, 52, 49]⟩ : ByteArray)).bind fun bt111 => (if bt105.2 = true then (if (bt109.2 == bt107.2) = true then (if bt109.2 = true then (if bt105.1.size + bt107.1.size ≤ 9223372036854775807 then (if bt109.1.toList = (bt105.1 ++ bt107.1).toList then (if bt111.2 = true then (some (bt111.1.toList == ([65] : List UInt8))) else (some false)) else (some false)) else (none)) else (if bt111.2 = true then (some (bt111.1.toList == ([65] : List UInt8))) else (some false))) else (some false)) else (if (bt109.2 == false) = true then (if bt109.2 = true then (if bt105.1.size + bt107.1.size ≤ 9223372036854775807 then (if bt109.1.toList = (bt105.1 ++ bt107.1).toList then (if bt111.2 = true then (some (bt111.1.toList == ([65] : List UInt8))) else (some false)) else (some false)) else (none)) else (if bt111.2 = true then (some (bt111.1.toList == ([65] : List UInt8))) else (some false))) else (some false))))) else (none))))
end
def laws_FnAdReadJoin.f (k : Nat) (a0 : ByteArray) (a1 : ByteArray) : Option (Bool) := if (a0.size : Int) > 2147483647 then (laws_FnAdReadJoin.j0 k a0 a1 true) else (laws_FnAdReadJoin.j0 k a0 a1 (decide ((a1.size : Int) > 2147483647)))
theorem laws_FnAdReadJoin.mono_l : ∀ k, (∀ y0 y1 y2, LeO (laws_FnAdReadJoin.j0 k y0 y1 y2) (laws_FnAdReadJoin.j0 (k + 1) y0 y1 y2)) ∧ (∀ y0 y1 y2, LeO (laws_FnAdReadJoin.j1 k y0 y1 y2) (laws_FnAdReadJoin.j1 (k + 1) y0 y1 y2))
  | 0 => ⟨fun _ _ _ r h => by simp [laws_FnAdReadJoin.j0] at h, fun _ _ _ r h => by simp [laws_FnAdReadJoin.j1] at h⟩
  | k + 1 => by
    obtain ⟨ih0, ih1⟩ := laws_FnAdReadJoin.mono_l k
    refine ⟨?_, ?_⟩
    · intro y0 y1 y2
      unfold laws_FnAdReadJoin.j0
      repeat' first
      | (with_reducible exact ih0 _ _ _)
      | (with_reducible exact ih1 _ _ _)
      | (with_reducible exact impl_AdUnescape.mono _ _)
      | (with_reducible exact LeO.refl _)
      | (with_reducible exact LeO.none _)
      | (with_reducible refine LeO.ite ?_ ?_)
      | (with_reducible refine LeO.bind ?_ (fun _ => ?_))
      | exact ih0 _ _ _
      | exact ih1 _ _ _
      | exact impl_AdUnescape.mono _ _
      | exact LeO.none _
      | refine LeO.ite ?_ ?_
      | refine LeO.bind ?_ (fun _ => ?_)
    · intro y0 y1 y2
      unfold laws_FnAdReadJoin.j1
      repeat' first
      | (with_reducible exact ih0 _ _ _)
      | (with_reducible exact ih1 _ _ _)
      | (with_reducible exact impl_AdUnescape.mono _ _)
      | (with_reducible exact LeO.refl _)
      | (with_reducible exact LeO.none _)
      | (with_reducible refine LeO.ite ?_ ?_)
      | (with_reducible refine LeO.bind ?_ (fun _ => ?_))
      | exact ih0 _ _ _
      | exact ih1 _ _ _
      | exact impl_AdUnescape.mono _ _
      | exact LeO.none _
      | refine LeO.ite ?_ ?_
      | refine LeO.bind ?_ (fun _ => ?_)
theorem laws_FnAdReadJoin.mono : ∀ a0 a1 k, LeO (laws_FnAdReadJoin.f k a0 a1) (laws_FnAdReadJoin.f (k + 1) a0 a1) := by
  intro a0 a1 k
  obtain ⟨ih0, ih1⟩ := laws_FnAdReadJoin.mono_l k
  unfold laws_FnAdReadJoin.f
  repeat' first
      | (with_reducible exact ih0 _ _ _)
      | (with_reducible exact ih1 _ _ _)
      | (with_reducible exact impl_AdUnescape.mono _ _)
      | (with_reducible exact LeO.refl _)
      | (with_reducible exact LeO.none _)
      | (with_reducible refine LeO.ite ?_ ?_)
      | (with_reducible refine LeO.bind ?_ (fun _ => ?_))
      | exact ih0 _ _ _
      | exact ih1 _ _ _
      | exact impl_AdUnescape.mono _ _
      | exact LeO.none _
      | refine LeO.ite ?_ ?_
      | refine LeO.bind ?_ (fun _ => ?_)
set_option maxHeartbeats 8000000 in
set_option maxRecDepth 100000 in
theorem laws_FnAdReadJoin.calls (k : Nat) (a0 : ByteArray) (a1 : ByteArray) (r : Bool) (w : World) (h : laws_FnAdReadJoin.f k a0 a1 = some r) :
    Calls Try.prog 3 #[.string a0, .string a1] w fun e w' => e = .returned (.bool r) ∧ Below w.heap.size w w' := by
  have HB := Aside0.mk (Below.refl w.heap.size w)
  have H : (if (a0.size : Int) > 2147483647 then (laws_FnAdReadJoin.j0 k a0 a1 true) else (laws_FnAdReadJoin.j0 k a0 a1 (decide ((a1.size : Int) > 2147483647)))) = some r := h
  clear h
  have HC3 := Aside0.mk H
  clear H
  go_enter Try.func3, Try.ntmps3
  go_upto_region 1 with (fail)
  go_cut [20] (fun v20 wc => ∃ (kq : Nat) (x20_2 : Bool), v20 = .bool x20_2 ∧ Aside0 (laws_FnAdReadJoin.j0 kq a0 a1 x20_2 = some r) ∧ Aside0 (kq ≤ k) ∧ Aside0 (Below w.heap.size w wc))
  case first =>
    have H := HC3.out
    clear HC3
    by_cases c4 : (a0.size : Int) > 2147483647
    · rw [if_pos c4] at H
      have c4b0 : decide (2147483647 < (a0.size : Int)) = true := decide_eq_true c4
      have c4b1 : decide (2147483647 < a0.size) = true := decide_eq_true (by omega)
      clear c4
      (first | rw [c4b0] | (simp only [i64_w, i32_w]; rw [c4b0]) | skip)
      have H' := Aside0.mk H
      clear H
      go_wp2
      go_meet
      case rel => exact ⟨_, (true), (by first | rfl | (simp; done) | (simp [*]; done)), H', ⟨by first | omega | exact Nat.le_refl _⟩, ⟨by repeat (first | (with_reducible first | exact HB.out | apply below_alloc | apply pw_below_drewN | apply below_drew1) | exact HB.out)⟩⟩
    · rw [if_neg c4] at H
      have c4b0 : decide (2147483647 < (a0.size : Int)) = false := decide_eq_false c4
      have c4b1 : decide (2147483647 < a0.size) = false := decide_eq_false (by omega)
      clear c4
      (first | rw [c4b0] | (simp only [i64_w, i32_w]; rw [c4b0]) | skip)
      have H' := Aside0.mk H
      clear H
      go_wp2
      go_meet
      case rel => exact ⟨_, (decide ((a1.size : Int) > 2147483647)), (by first | rfl | (simp; done) | (simp [*]; done)), H', ⟨by first | omega | exact Nat.le_refl _⟩, ⟨by repeat (first | (with_reducible first | exact HB.out | apply below_alloc | apply pw_below_drewN | apply below_drew1) | exact HB.out)⟩⟩
  case rest =>
    clear HC3
    try clear p2
    try clear c3
    try clear c4
    try clear c4b0
    try clear c4b1
    obtain ⟨kq, x20_2, rfl, HA, HJ2, HB⟩ := hcut
    cases kq with
    | zero => exact absurd HA.out (by simp [laws_FnAdReadJoin.j0])
    | succ kj2 =>
      have H := HA.out
      clear HA
      simp only [laws_FnAdReadJoin.j0] at H
      by_cases c5 : x20_2 = true
      · subst c5
        have H1 : (some true) = some r := by rw [if_pos rfl] at H; exact H
        clear H
        have H := H1
        clear H1
        obtain rfl := Option.some.inj H
        go_wp2
        go_ret
        exact ⟨by first | rfl | (simp [errW_none, errW_some] <;> rfl) | (simp [*, errW_none, errW_some] <;> rfl) | (simp (disch := omega) only [wrap64_id] <;> rfl), by repeat (first | (with_reducible first | exact HB.out | apply below_alloc | apply pw_below_drewN | apply below_drew1) | exact HB.out)⟩
      · replace c5 := Bool.eq_false_iff.mpr c5
        subst c5
        have H1 : (if (a0.size : Int) > 4096 then (laws_FnAdReadJoin.j1 kj2 a0 a1 true) else (if (a1.size : Int) > 4096 then (laws_FnAdReadJoin.j1 kj2 a0 a1 true) else (if (a0.size : Int) > 0 then (if 0 ≤ (wrap64 ((a0.size : Int) - 1)) then (if (wrap64 ((a0.size : Int) - 1)) < (a0.size : Int) then (if (bt a0 (wrap64 ((a0.size : Int) - 1))) = 37 then (laws_FnAdReadJoin.j1 kj2 a0 a1 true) else (if (a0.size : Int) > 1 then (if 0 ≤ (wrap64 ((a0.size : Int) - 2)) then (if (wrap64 ((a0.size : Int) - 2)) < (a0.size : Int) then (laws_FnAdReadJoin.j1 kj2 a0 a1 ((bt a0 (wrap64 ((a0.size : Int) - 2))) == 37)) else (none)) else (none)) else (laws_FnAdReadJoin.j1 kj2 a0 a1 false))) else (none)) else (none)) else (if (a0.size : Int) > 1 then (if 0 ≤ (wrap64 ((a0.size : Int) - 2)) then (if (wrap64 ((a0.size : Int) - 2)) < (a0.size : Int) then (laws_FnAdReadJoin.j1 kj2 a0 a1 ((bt a0 (wrap64 ((a0.size : Int) - 2))) == 37)) else (none)) else (none)) else (laws_FnAdReadJoin.j1 kj2 a0 a1 false))))) = some r := by rw [if_neg (show ¬ (false = true) by decide)] at H; exact H
        clear H
        have H := H1
        clear H1
        have HC6 := Aside0.mk H
        clear H
        go_upto_region 3 with (fail)
        go_cut [54] (fun v54 wc => ∃ (kq : Nat) (x54_5 : Bool), v54 = .bool x54_5 ∧ Aside0 (laws_FnAdReadJoin.j1 kq a0 a1 x54_5 = some r) ∧ Aside0 (kq ≤ kj2) ∧ Aside0 (Below w.heap.size w wc))
        case first =>
          have H := HC6.out
          clear HC6
          by_cases c7 : (a0.size : Int) > 4096
          · rw [if_pos c7] at H
            have c7b0 : decide (4096 < (a0.size : Int)) = true := decide_eq_true c7
            have c7b1 : decide (4096 < a0.size) = true := decide_eq_true (by omega)
            clear c7
            (first | rw [c7b0] | (simp only [i64_w, i32_w]; rw [c7b0]) | skip)
            have H' := Aside0.mk H
            clear H
            go_wp2
            go_meet
            case rel => exact ⟨_, (true), (by first | rfl | (simp; done) | (simp [*]; done)), H', ⟨by have := HJ2.out; first | omega | exact Nat.le_refl _⟩, ⟨by repeat (first | (with_reducible first | exact HB.out | apply below_alloc | apply pw_below_drewN | apply below_drew1) | exact HB.out)⟩⟩
          · rw [if_neg c7] at H
            have c7b0 : decide (4096 < (a0.size : Int)) = false := decide_eq_false c7
            have c7b1 : decide (4096 < a0.size) = false := decide_eq_false (by omega)
            clear c7
            (first | rw [c7b0] | (simp only [i64_w, i32_w]; rw [c7b0]) | skip)
            by_cases c8 : (a1.size : Int) > 4096
            · rw [if_pos c8] at H
              have c8b0 : decide (4096 < (a1.size : Int)) = true := decide_eq_true c8
              have c8b1 : decide (4096 < a1.size) = true := decide_eq_true (by omega)
              clear c8
              have H' := Aside0.mk H
              clear H
              go_wp2
              go_meet
              case rel => exact ⟨_, (true), (by first | rfl | (simp; done) | (simp [*]; done)), H', ⟨by have := HJ2.out; first | omega | exact Nat.le_refl _⟩, ⟨by repeat (first | (with_reducible first | exact HB.out | apply below_alloc | apply pw_below_drewN | apply below_drew1) | exact HB.out)⟩⟩
            · rw [if_neg c8] at H
              have c8b0 : decide (4096 < (a1.size : Int)) = false := decide_eq_false c8
              have c8b1 : decide (4096 < a1.size) = false := decide_eq_false (by omega)
              clear c8
              by_cases c9 : (a0.size : Int) > 0
              · rw [if_pos c9] at H
                have c9b0 : decide (0 < (a0.size : Int)) = true := decide_eq_true c9
                have c9b1 : decide (0 < a0.size) = true := decide_eq_true (by omega)
                clear c9
                obtain ⟨ji10, hji10⟩ : ∃ j_ : Int, (wrap64 ((a0.size : Int) - 1)) = j_ := ⟨_, rfl⟩
                replace H : (if 0 ≤ (ji10) then (if (ji10) < (a0.size : Int) then (if (bt a0 (ji10)) = 37 then (laws_FnAdReadJoin.j1 kj2 a0 a1 true) else (if (a0.size : Int) > 1 then (if 0 ≤ (wrap64 ((a0.size : Int) - 2)) then (if (wrap64 ((a0.size : Int) - 2)) < (a0.size : Int) then (laws_FnAdReadJoin.j1 kj2 a0 a1 ((bt a0 (wrap64 ((a0.size : Int) - 2))) == 37)) else (none)) else (none)) else (laws_FnAdReadJoin.j1 kj2 a0 a1 false))) else (none)) else (none)) = some r := by first | (rw [hji10] at H; exact H) | (simp only [hji10] at H ⊢; exact H)
                have hji10w : (IntKind.i64.wrap ((a0.size : Int) - 1)) = ji10 := (i64_w _).trans hji10
                by_cases c11 : 0 ≤ (ji10)
                · rw [if_pos c11] at H
                  have c11b0 : decide (0 ≤ (ji10)) = true := decide_eq_true c11
                  clear c11
                  by_cases c12 : (ji10) < (a0.size : Int)
                  · rw [if_pos c12] at H
                    have c12b0 : decide ((ji10) < (a0.size : Int)) = true := decide_eq_true c12
                    clear c12
                    by_cases c14 : (bt a0 (ji10)) = 37
                    · rw [if_pos c14] at H
                      have c14b0 : ((bt a0 (ji10)) == 37) = true := beq_iff_eq.mpr c14
                      have c14b1 : ((bt a0 (ji10)) != 37) = false := bne_eq_false_iff_eq.mpr c14
                      clear c14
                      have H' := Aside0.mk H
                      clear H
                      have p13 : 0 ≤ ((ji10) : Int) := of_decide_eq_true (by first | (with_reducible assumption) | assumption)
                      have q13 : (ji10) < (a0.size : Int) := of_decide_eq_true (by first | (with_reducible assumption) | assumption)
                      have hx13 := bt_at a0 (ji10)
                      replace p13 := eq_true p13
                      replace q13 := eq_true q13
                      go_wp2
                      go_meet
                      case rel => exact ⟨_, (true), (by first | rfl | (simp; done) | (simp [*]; done)), H', ⟨by have := HJ2.out; first | omega | exact Nat.le_refl _⟩, ⟨by repeat (first | (with_reducible first | exact HB.out | apply below_alloc | apply pw_below_drewN | apply below_drew1) | exact HB.out)⟩⟩
                    · rw [if_neg c14] at H
                      have c14b0 : ((bt a0 (ji10)) == 37) = false := beq_eq_false_iff_ne.mpr c14
                      have c14b1 : ((bt a0 (ji10)) != 37) = true := bne_iff_ne.mpr c14
                      by_cases c15 : (a0.size : Int) > 1
                      · rw [if_pos c15] at H
                        have c15b0 : decide (1 < (a0.size : Int)) = true := decide_eq_true c15
                        have c15b1 : decide (1 < a0.size) = true := decide_eq_true (by omega)
                        clear c15
                        obtain ⟨ji16, hji16⟩ : ∃ j_ : Int, (wrap64 ((a0.size : Int) - 2)) = j_ := ⟨_, rfl⟩
                        replace H : (if 0 ≤ (ji16) then (if (ji16) < (a0.size : Int) then (laws_FnAdReadJoin.j1 kj2 a0 a1 ((bt a0 (ji16)) == 37)) else (none)) else (none)) = some r := by first | (rw [hji16] at H; exact H) | (simp only [hji16] at H ⊢; exact H)
                        have hji16w : (IntKind.i64.wrap ((a0.size : Int) - 2)) = ji16 := (i64_w _).trans hji16
                        by_cases c17 : 0 ≤ (ji16)
                        · rw [if_pos c17] at H
                          have c17b0 : decide (0 ≤ (ji16)) = true := decide_eq_true c17
                          clear c17
                          by_cases c18 : (ji16) < (a0.size : Int)
                          · rw [if_pos c18] at H
                            have c18b0 : decide ((ji16) < (a0.size : Int)) = true := decide_eq_true c18
                            clear c18
                            have H' := Aside0.mk H
                            clear H
                            have p13 : 0 ≤ ((ji10) : Int) := of_decide_eq_true (by first | (with_reducible assumption) | assumption)
                            have q13 : (ji10) < (a0.size : Int) := of_decide_eq_true (by first | (with_reducible assumption) | assumption)
                            have hx13 := bt_at a0 (ji10)
                            replace p13 := eq_true p13
                            replace q13 := eq_true q13
                            have p19 : 0 ≤ ((ji16) : Int) := of_decide_eq_true (by first | (with_reducible assumption) | assumption)
                            have q19 : (ji16) < (a0.size : Int) := of_decide_eq_true (by first | (with_reducible assumption) | assumption)
                            have hx19 := bt_at a0 (ji16)
                            replace p19 := eq_true p19
                            replace q19 := eq_true q19
                            go_wp2
                            go_meet
                            case rel => exact ⟨_, (((bt a0 (ji16)) == 37)), (by first | rfl | (simp; done) | (simp only [← hji16] <;> (first | rfl | simp)) | (simp [*]; done)), H', ⟨by have := HJ2.out; first | omega | exact Nat.le_refl _⟩, ⟨by repeat (first | (with_reducible first | exact HB.out | apply below_alloc | apply pw_below_drewN | apply below_drew1) | exact HB.out)⟩⟩
                          · rw [if_neg c18] at H
                            exact absurd H (by simp)
                        · rw [if_neg c17] at H
                          exact absurd H (by simp)
                      · rw [if_neg c15] at H
                        have c15b0 : decide (1 < (a0.size : Int)) = false := decide_eq_false c15
                        have c15b1 : decide (1 < a0.size) = false := decide_eq_false (by omega)
                        clear c15
                        have H' := Aside0.mk H
                        clear H
                        have p13 : 0 ≤ ((ji10) : Int) := of_decide_eq_true (by first | (with_reducible assumption) | assumption)
                        have q13 : (ji10) < (a0.size : Int) := of_decide_eq_true (by first | (with_reducible assumption) | assumption)
                        have hx13 := bt_at a0 (ji10)
                        replace p13 := eq_true p13
                        replace q13 := eq_true q13
                        go_wp2
                        go_meet
                        case rel => exact ⟨_, (false), (by first | rfl | (simp; done) | (simp [*]; done)), H', ⟨by have := HJ2.out; first | omega | exact Nat.le_refl _⟩, ⟨by repeat (first | (with_reducible first | exact HB.out | apply below_alloc | apply pw_below_drewN | apply below_drew1) | exact HB.out)⟩⟩
                  · rw [if_neg c12] at H
                    exact absurd H (by simp)
                · rw [if_neg c11] at H
                  exact absurd H (by simp)
              · rw [if_neg c9] at H
                have c9b0 : decide (0 < (a0.size : Int)) = false := decide_eq_false c9
                have c9b1 : decide (0 < a0.size) = false := decide_eq_false (by omega)
                clear c9
                by_cases c20 : (a0.size : Int) > 1
                · rw [if_pos c20] at H
                  have c20b0 : decide (1 < (a0.size : Int)) = true := decide_eq_true c20
                  have c20b1 : decide (1 < a0.size) = true := decide_eq_true (by omega)
                  clear c20
                  obtain ⟨ji21, hji21⟩ : ∃ j_ : Int, (wrap64 ((a0.size : Int) - 2)) = j_ := ⟨_, rfl⟩
                  replace H : (if 0 ≤ (ji21) then (if (ji21) < (a0.size : Int) then (laws_FnAdReadJoin.j1 kj2 a0 a1 ((bt a0 (ji21)) == 37)) else (none)) else (none)) = some r := by first | (rw [hji21] at H; exact H) | (simp only [hji21] at H ⊢; exact H)
                  have hji21w : (IntKind.i64.wrap ((a0.size : Int) - 2)) = ji21 := (i64_w _).trans hji21
                  by_cases c22 : 0 ≤ (ji21)
                  · rw [if_pos c22] at H
                    have c22b0 : decide (0 ≤ (ji21)) = true := decide_eq_true c22
                    clear c22
                    by_cases c23 : (ji21) < (a0.size : Int)
                    · rw [if_pos c23] at H
                      have c23b0 : decide ((ji21) < (a0.size : Int)) = true := decide_eq_true c23
                      clear c23
                      have H' := Aside0.mk H
                      clear H
                      have p24 : 0 ≤ ((ji21) : Int) := of_decide_eq_true (by first | (with_reducible assumption) | assumption)
                      have q24 : (ji21) < (a0.size : Int) := of_decide_eq_true (by first | (with_reducible assumption) | assumption)
                      have hx24 := bt_at a0 (ji21)
                      replace p24 := eq_true p24
                      replace q24 := eq_true q24
                      go_wp2
                      go_meet
                      case rel => exact ⟨_, (((bt a0 (ji21)) == 37)), (by first | rfl | (simp; done) | (simp only [← hji21] <;> (first | rfl | simp)) | (simp [*]; done)), H', ⟨by have := HJ2.out; first | omega | exact Nat.le_refl _⟩, ⟨by repeat (first | (with_reducible first | exact HB.out | apply below_alloc | apply pw_below_drewN | apply below_drew1) | exact HB.out)⟩⟩
                    · rw [if_neg c23] at H
                      exact absurd H (by simp)
                  · rw [if_neg c22] at H
                    exact absurd H (by simp)
                · rw [if_neg c20] at H
                  have c20b0 : decide (1 < (a0.size : Int)) = false := decide_eq_false c20
                  have c20b1 : decide (1 < a0.size) = false := decide_eq_false (by omega)
                  clear c20
                  have H' := Aside0.mk H
                  clear H
                  go_wp2
                  go_meet
                  case rel => exact ⟨_, (false), (by first | rfl | (simp; done) | (simp [*]; done)), H', ⟨by have := HJ2.out; first | omega | exact Nat.le_refl _⟩, ⟨by repeat (first | (with_reducible first | exact HB.out | apply below_alloc | apply pw_below_drewN | apply below_drew1) | exact HB.out)⟩⟩
        case rest =>
          clear HC6
          try clear c1
          try clear p1
          try clear q1
          try clear hx1
          try clear c2
          try clear p2
          try clear q2
          try clear hx2
          try clear c3
          try clear c4
          try clear c4b0
          try clear c4b1
          try clear c5
          try clear p6
          try clear c7
          try clear c7b0
          try clear c7b1
          try clear c8
          try clear c8b0
          try clear c8b1
          try clear c9
          try clear c9b0
          try clear c9b1
          try clear c11
          try clear c11b0
          try clear c12
          try clear c12b0
          try clear p13
          try clear q13
          try clear hx13
          try clear c14
          try clear c14b0
          try clear c14b1
          try clear c15
          try clear c15b0
          try clear c15b1
          try clear c17
          try clear c17b0
          try clear c18
          try clear c18b0
          try clear p19
          try clear q19
          try clear hx19
          try clear c20
          try clear c20b0
          try clear c20b1
          try clear c22
          try clear c22b0
          try clear c23
          try clear c23b0
          try clear p24
          try clear q24
          try clear hx24
          try clear p13
          try clear p19
          try clear p2
          try clear p24
          try clear q13
          try clear q19
          try clear q24
          obtain ⟨kq, x54_5, rfl, HA, HJ5, HB⟩ := hcut
          cases kq with
          | zero => exact absurd HA.out (by simp [laws_FnAdReadJoin.j1])
          | succ kj5 =>
            have H := HA.out
            clear HA
            simp only [laws_FnAdReadJoin.j1] at H
            by_cases c25 : x54_5 = true
            · subst c25
              have H1 : (some true) = some r := by rw [if_pos rfl] at H; exact H
              clear H
              have H := H1
              clear H1
              obtain rfl := Option.some.inj H
              go_wp2
              go_ret
              exact ⟨by first | rfl | (simp [errW_none, errW_some] <;> rfl) | (simp [*, errW_none, errW_some] <;> rfl) | (simp (disch := omega) only [wrap64_id] <;> rfl), by repeat (first | (with_reducible first | exact HB.out | apply below_alloc | apply pw_below_drewN | apply below_drew1) | exact HB.out)⟩
            · replace c25 := Bool.eq_false_iff.mpr c25
              subst c25
              have H1 : ((impl_AdUnescape.f kj5 a0).bind fun bt105 => ((impl_AdUnescape.f kj5 a1).bind fun bt107 => (if a0.size + a1.size ≤ 9223372036854775807 then ((impl_AdUnescape.f kj5 (a0 ++ a1)).bind fun bt109 => ((impl_AdUnescape.f kj5 (⟨#[37, 52, 49]⟩ : ByteArray)).bind fun bt111 => (if bt105.2 = true then (if (bt109.2 == bt107.2) = true then (if bt109.2 = true then (if bt105.1.size + bt107.1.size ≤ 9223372036854775807 then (if bt109.1.toList = (bt105.1 ++ bt107.1).toList then (if bt111.2 = true then (some (bt111.1.toList == ([65] : List UInt8))) else (some false)) else (some false)) else (none)) else (if bt111.2 = true then (some (bt111.1.toList == ([65] : List UInt8))) else (some false))) else (some false)) else (if (bt109.2 == false) = true then (if bt109.2 = true then (if bt105.1.size + bt107.1.size ≤ 9223372036854775807 then (if bt109.1.toList = (bt105.1 ++ bt107.1).toList then (if bt111.2 = true then (some (bt111.1.toList == ([65] : List UInt8))) else (some false)) else (some false)) else (none)) else (if bt111.2 = true then (some (bt111.1.toList == ([65] : List UInt8))) else (some false))) else (some false))))) else (none)))) = some r := by rw [if_neg (show ¬ (false = true) by decide)] at H; exact H
              clear H
              have H := H1
              clear H1
              replace H := Option.bind_eq_some_iff.mp H
              obtain ⟨⟨t105, t106⟩, A260, H⟩ := H
              replace H : ((impl_AdUnescape.f kj5 a1).bind fun bt107 => (if a0.size + a1.size ≤ 9223372036854775807 then ((impl_AdUnescape.f kj5 (a0 ++ a1)).bind fun bt109 => ((impl_AdUnescape.f kj5 (⟨#[37, 52, 49]⟩ : ByteArray)).bind fun bt111 => (if t106 = true then (if (bt109.2 == bt107.2) = true then (if bt109.2 = true then (if t105.size + bt107.1.size ≤ 9223372036854775807 then (if bt109.1.toList = (t105 ++ bt107.1).toList then (if bt111.2 = true then (some (bt111.1.toList == ([65] : List UInt8))) else (some false)) else (some false)) else (none)) else (if bt111.2 = true then (some (bt111.1.toList == ([65] : List UInt8))) else (some false))) else (some false)) else (if (bt109.2 == false) = true then (if bt109.2 = true then (if t105.size + bt107.1.size ≤ 9223372036854775807 then (if bt109.1.toList = (t105 ++ bt107.1).toList then (if bt111.2 = true then (some (bt111.1.toList == ([65] : List UInt8))) else (some false)) else (some false)) else (none)) else (if bt111.2 = true then (some (bt111.1.toList == ([65] : List UInt8))) else (some false))) else (some false))))) else (none))) = some r := H
              have A26 := Aside0.mk A260
              clear A260
              replace H := Option.bind_eq_some_iff.mp H
              obtain ⟨⟨t107, t108⟩, A270, H⟩ := H
              replace H : (if a0.size + a1.size ≤ 9223372036854775807 then ((impl_AdUnescape.f kj5 (a0 ++ a1)).bind fun bt109 => ((impl_AdUnescape.f kj5 (⟨#[37, 52, 49]⟩ : ByteArray)).bind fun bt111 => (if t106 = true then (if (bt109.2 == t108) = true then (if bt109.2 = true then (if t105.size + t107.size ≤ 9223372036854775807 then (if bt109.1.toList = (t105 ++ t107).toList then (if bt111.2 = true then (some (bt111.1.toList == ([65] : List UInt8))) else (some false)) else (some false)) else (none)) else (if bt111.2 = true then (some (bt111.1.toList == ([65] : List UInt8))) else (some false))) else (some false)) else (if (bt109.2 == false) = true then (if bt109.2 = true then (if t105.size + t107.size ≤ 9223372036854775807 then (if bt109.1.toList = (t105 ++ t107).toList then (if bt111.2 = true then (some (bt111.1.toList == ([65] : List UInt8))) else (some false)) else (some false)) else (none)) else (if bt111.2 = true then (some (bt111.1.toList == ([65] : List UInt8))) else (some false))) else (some false))))) else (none)) = some r := H
              have A27 := Aside0.mk A270
              clear A270
              by_cases c28 : a0.size + a1.size ≤ 9223372036854775807
              · rw [if_pos c28] at H
                have c28b0 := eq_true c28
                have c28b1 : decide (a0.size + a1.size ≤ 9223372036854775807) = true := decide_eq_true c28
                try have c28b2 : (9223372036854775807 < a0.size + a1.size) = False := eq_false (Nat.not_lt.2 c28)
                replace H := Option.bind_eq_some_iff.mp H
                obtain ⟨⟨t109, t110⟩, A290, H⟩ := H
                replace H : ((impl_AdUnescape.f kj5 (⟨#[37, 52, 49]⟩ : ByteArray)).bind fun bt111 => (if t106 = true then (if (t110 == t108) = true then (if t110 = true then (if t105.size + t107.size ≤ 9223372036854775807 then (if t109.toList = (t105 ++ t107).toList then (if bt111.2 = true then (some (bt111.1.toList == ([65] : List UInt8))) else (some false)) else (some false)) else (none)) else (if bt111.2 = true then (some (bt111.1.toList == ([65] : List UInt8))) else (some false))) else (some false)) else (if (t110 == false) = true then (if t110 = true then (if t105.size + t107.size ≤ 9223372036854775807 then (if t109.toList = (t105 ++ t107).toList then (if bt111.2 = true then (some (bt111.1.toList == ([65] : List UInt8))) else (some false)) else (some false)) else (none)) else (if bt111.2 = true then (some (bt111.1.toList == ([65] : List UInt8))) else (some false))) else (some false)))) = some r := H
                have A29 := Aside0.mk A290
                clear A290
                replace H := Option.bind_eq_some_iff.mp H
                obtain ⟨⟨t111, t112⟩, A300, H⟩ := H
                replace H : (if t106 = true then (if (t110 == t108) = true then (if t110 = true then (if t105.size + t107.size ≤ 9223372036854775807 then (if t109.toList = (t105 ++ t107).toList then (if t112 = true then (some (t111.toList == ([65] : List UInt8))) else (some false)) else (some false)) else (none)) else (if t112 = true then (some (t111.toList == ([65] : List UInt8))) else (some false))) else (some false)) else (if (t110 == false) = true then (if t110 = true then (if t105.size + t107.size ≤ 9223372036854775807 then (if t109.toList = (t105 ++ t107).toList then (if t112 = true then (some (t111.toList == ([65] : List UInt8))) else (some false)) else (some false)) else (none)) else (if t112 = true then (some (t111.toList == ([65] : List UInt8))) else (some false))) else (some false))) = some r := H
                have A30 := Aside0.mk A300
                clear A300
                by_cases c31 : t106 = true
                · subst c31
                  have H1 : (if (t110 == t108) = true then (if t110 = true then (if t105.size + t107.size ≤ 9223372036854775807 then (if t109.toList = (t105 ++ t107).toList then (if t112 = true then (some (t111.toList == ([65] : List UInt8))) else (some false)) else (some false)) else (none)) else (if t112 = true then (some (t111.toList == ([65] : List UInt8))) else (some false))) else (some false)) = some r := by rw [if_pos rfl] at H; exact H
                  clear H
                  have H := H1
                  clear H1
                  by_cases c32 : (t110 == t108) = true
                  · rw [if_pos c32] at H
                    have c32b0 : (t110 == t108) = true := c32
                    (try (have c32b1 : decide (t110 = t108) = true := by simpa using c32))
                    (try (have c32b2 : (t110 == t108) = true := by simpa using c32))
                    clear c32
                    by_cases c33 : t110 = true
                    · subst c33
                      have H1 : (if t105.size + t107.size ≤ 9223372036854775807 then (if t109.toList = (t105 ++ t107).toList then (if t112 = true then (some (t111.toList == ([65] : List UInt8))) else (some false)) else (some false)) else (none)) = some r := by rw [if_pos rfl] at H; exact H
                      clear H
                      have H := H1
                      clear H1
                      by_cases c34 : t105.size + t107.size ≤ 9223372036854775807
                      · rw [if_pos c34] at H
                        have c34b0 := eq_true c34
                        have c34b1 : decide (t105.size + t107.size ≤ 9223372036854775807) = true := decide_eq_true c34
                        try have c34b2 : (9223372036854775807 < t105.size + t107.size) = False := eq_false (Nat.not_lt.2 c34)
                        by_cases c35 : t109.toList = (t105 ++ t107).toList
                        · rw [if_pos c35] at H
                          have c35b0 : (t109.toList == (t105 ++ t107).toList) = true := beq_iff_eq.mpr c35
                          have c35b1 : (t109.toList != (t105 ++ t107).toList) = false := bne_eq_false_iff_eq.mpr c35
                          clear c35
                          by_cases c36 : t112 = true
                          · subst c36
                            have H1 : (some (t111.toList == ([65] : List UInt8))) = some r := by rw [if_pos rfl] at H; exact H
                            clear H
                            have H := H1
                            clear H1
                            obtain rfl := Option.some.inj H
                            go_wp2_with (first | ((with_reducible refine gate_callee (f := 7) rfl ?_); refine goesL_ (some 57) rfl rfl Try.func7 (by kernel_rfl) rfl #[.string a0] rfl (by (try simp only [List.map_toArray, List.map_cons, List.map_nil]); first | done | rfl | (simp only [List.length_drop, List.length_take]; rfl)) ?_; (with_reducible refine (impl_AdUnescape.calls kj5 a0 t105 true _ A26.out).mono ?_); rintro e w37 ⟨rfl, hb⟩; refine ⟨_, rfl, ?_⟩; have n0_ := Aside0.mk (below_step (by repeat (first | (with_reducible first | exact HB.out | apply below_alloc | apply pw_below_drewN | apply below_drew1) | exact HB.out)) hb); clear HB; have HB := n0_; clear n0_; (try clear hb); (try clear hb2); (try clear hk); (try clear hi)) | ((with_reducible refine gate_callee (f := 7) rfl ?_); refine goesL_ (some 62) rfl rfl Try.func7 (by kernel_rfl) rfl #[.string a1] rfl (by (try simp only [List.map_toArray, List.map_cons, List.map_nil]); first | done | rfl | (simp only [List.length_drop, List.length_take]; rfl)) ?_; (with_reducible refine (impl_AdUnescape.calls kj5 a1 t107 t108 _ A27.out).mono ?_); rintro e w38 ⟨rfl, hb⟩; refine ⟨_, rfl, ?_⟩; have n0_ := Aside0.mk (below_step (by repeat (first | (with_reducible first | exact HB.out | apply below_alloc | apply pw_below_drewN | apply below_drew1) | exact HB.out)) hb); clear HB; have HB := n0_; clear n0_; (try clear hb); (try clear hb2); (try clear hk); (try clear hi)) | ((with_reducible refine gate_callee (f := 7) rfl ?_); refine goesL_ (some 69) rfl rfl Try.func7 (by kernel_rfl) rfl #[.string (a0 ++ a1)] rfl (by (try simp only [List.map_toArray, List.map_cons, List.map_nil]); first | done | rfl | (simp only [List.length_drop, List.length_take]; rfl)) ?_; (with_reducible refine (impl_AdUnescape.calls kj5 (a0 ++ a1) t109 true _ A29.out).mono ?_); rintro e w39 ⟨rfl, hb⟩; refine ⟨_, rfl, ?_⟩; have n0_ := Aside0.mk (below_step (by repeat (first | (with_reducible first | exact HB.out | apply below_alloc | apply pw_below_drewN | apply below_drew1) | exact HB.out)) hb); clear HB; have HB := n0_; clear n0_; (try clear hb); (try clear hb2); (try clear hk); (try clear hi)) | ((with_reducible refine gate_callee (f := 7) rfl ?_); refine goesL_ (some 73) rfl rfl Try.func7 (by kernel_rfl) rfl #[.string (⟨#[37, 52, 49]⟩ : ByteArray)] rfl (by (try simp only [List.map_toArray, List.map_cons, List.map_nil]); first | done | rfl | (simp only [List.length_drop, List.length_take]; rfl)) ?_; (with_reducible refine (impl_AdUnescape.calls kj5 (⟨#[37, 52, 49]⟩ : ByteArray) t111 true _ A30.out).mono ?_); rintro e w40 ⟨rfl, hb⟩; refine ⟨_, rfl, ?_⟩; have n0_ := Aside0.mk (below_step (by repeat (first | (with_reducible first | exact HB.out | apply below_alloc | apply pw_below_drewN | apply below_drew1) | exact HB.out)) hb); clear HB; have HB := n0_; clear n0_; (try clear hb); (try clear hb2); (try clear hk); (try clear hi)))
                            go_ret
                            exact ⟨by first | rfl | (simp [errW_none, errW_some] <;> rfl) | (simp [*, errW_none, errW_some] <;> rfl) | (simp (disch := omega) only [wrap64_id] <;> rfl), by repeat (first | (with_reducible first | exact HB.out | apply below_alloc | apply pw_below_drewN | apply below_drew1) | exact HB.out)⟩
                          · replace c36 := Bool.eq_false_iff.mpr c36
                            subst c36
                            have H1 : (some false) = some r := by rw [if_neg (show ¬ (false = true) by decide)] at H; exact H
                            clear H
                            have H := H1
                            clear H1
                            obtain rfl := Option.some.inj H
                            go_wp2_with (first | ((with_reducible refine gate_callee (f := 7) rfl ?_); refine goesL_ (some 57) rfl rfl Try.func7 (by kernel_rfl) rfl #[.string a0] rfl (by (try simp only [List.map_toArray, List.map_cons, List.map_nil]); first | done | rfl | (simp only [List.length_drop, List.length_take]; rfl)) ?_; (with_reducible refine (impl_AdUnescape.calls kj5 a0 t105 true _ A26.out).mono ?_); rintro e w41 ⟨rfl, hb⟩; refine ⟨_, rfl, ?_⟩; have n0_ := Aside0.mk (below_step (by repeat (first | (with_reducible first | exact HB.out | apply below_alloc | apply pw_below_drewN | apply below_drew1) | exact HB.out)) hb); clear HB; have HB := n0_; clear n0_; (try clear hb); (try clear hb2); (try clear hk); (try clear hi)) | ((with_reducible refine gate_callee (f := 7) rfl ?_); refine goesL_ (some 62) rfl rfl Try.func7 (by kernel_rfl) rfl #[.string a1] rfl (by (try simp only [List.map_toArray, List.map_cons, List.map_nil]); first | done | rfl | (simp only [List.length_drop, List.length_take]; rfl)) ?_; (with_reducible refine (impl_AdUnescape.calls kj5 a1 t107 t108 _ A27.out).mono ?_); rintro e w42 ⟨rfl, hb⟩; refine ⟨_, rfl, ?_⟩; have n0_ := Aside0.mk (below_step (by repeat (first | (with_reducible first | exact HB.out | apply below_alloc | apply pw_below_drewN | apply below_drew1) | exact HB.out)) hb); clear HB; have HB := n0_; clear n0_; (try clear hb); (try clear hb2); (try clear hk); (try clear hi)) | ((with_reducible refine gate_callee (f := 7) rfl ?_); refine goesL_ (some 69) rfl rfl Try.func7 (by kernel_rfl) rfl #[.string (a0 ++ a1)] rfl (by (try simp only [List.map_toArray, List.map_cons, List.map_nil]); first | done | rfl | (simp only [List.length_drop, List.length_take]; rfl)) ?_; (with_reducible refine (impl_AdUnescape.calls kj5 (a0 ++ a1) t109 true _ A29.out).mono ?_); rintro e w43 ⟨rfl, hb⟩; refine ⟨_, rfl, ?_⟩; have n0_ := Aside0.mk (below_step (by repeat (first | (with_reducible first | exact HB.out | apply below_alloc | apply pw_below_drewN | apply below_drew1) | exact HB.out)) hb); clear HB; have HB := n0_; clear n0_; (try clear hb); (try clear hb2); (try clear hk); (try clear hi)) | ((with_reducible refine gate_callee (f := 7) rfl ?_); refine goesL_ (some 73) rfl rfl Try.func7 (by kernel_rfl) rfl #[.string (⟨#[37, 52, 49]⟩ : ByteArray)] rfl (by (try simp only [List.map_toArray, List.map_cons, List.map_nil]); first | done | rfl | (simp only [List.length_drop, List.length_take]; rfl)) ?_; (with_reducible refine (impl_AdUnescape.calls kj5 (⟨#[37, 52, 49]⟩ : ByteArray) t111 false _ A30.out).mono ?_); rintro e w44 ⟨rfl, hb⟩; refine ⟨_, rfl, ?_⟩; have n0_ := Aside0.mk (below_step (by repeat (first | (with_reducible first | exact HB.out | apply below_alloc | apply pw_below_drewN | apply below_drew1) | exact HB.out)) hb); clear HB; have HB := n0_; clear n0_; (try clear hb); (try clear hb2); (try clear hk); (try clear hi)))
                            go_ret
                            exact ⟨by first | rfl | (simp [errW_none, errW_some] <;> rfl) | (simp [*, errW_none, errW_some] <;> rfl) | (simp (disch := omega) only [wrap64_id] <;> rfl), by repeat (first | (with_reducible first | exact HB.out | apply below_alloc | apply pw_below_drewN | apply below_drew1) | exact HB.out)⟩
                        · rw [if_neg c35] at H
                          have c35b0 : (t109.toList == (t105 ++ t107).toList) = false := beq_eq_false_iff_ne.mpr c35
                          have c35b1 : (t109.toList != (t105 ++ t107).toList) = true := bne_iff_ne.mpr c35
                          obtain rfl := Option.some.inj H
                          go_wp2_with (first | ((with_reducible refine gate_callee (f := 7) rfl ?_); refine goesL_ (some 57) rfl rfl Try.func7 (by kernel_rfl) rfl #[.string a0] rfl (by (try simp only [List.map_toArray, List.map_cons, List.map_nil]); first | done | rfl | (simp only [List.length_drop, List.length_take]; rfl)) ?_; (with_reducible refine (impl_AdUnescape.calls kj5 a0 t105 true _ A26.out).mono ?_); rintro e w45 ⟨rfl, hb⟩; refine ⟨_, rfl, ?_⟩; have n0_ := Aside0.mk (below_step (by repeat (first | (with_reducible first | exact HB.out | apply below_alloc | apply pw_below_drewN | apply below_drew1) | exact HB.out)) hb); clear HB; have HB := n0_; clear n0_; (try clear hb); (try clear hb2); (try clear hk); (try clear hi)) | ((with_reducible refine gate_callee (f := 7) rfl ?_); refine goesL_ (some 62) rfl rfl Try.func7 (by kernel_rfl) rfl #[.string a1] rfl (by (try simp only [List.map_toArray, List.map_cons, List.map_nil]); first | done | rfl | (simp only [List.length_drop, List.length_take]; rfl)) ?_; (with_reducible refine (impl_AdUnescape.calls kj5 a1 t107 t108 _ A27.out).mono ?_); rintro e w46 ⟨rfl, hb⟩; refine ⟨_, rfl, ?_⟩; have n0_ := Aside0.mk (below_step (by repeat (first | (with_reducible first | exact HB.out | apply below_alloc | apply pw_below_drewN | apply below_drew1) | exact HB.out)) hb); clear HB; have HB := n0_; clear n0_; (try clear hb); (try clear hb2); (try clear hk); (try clear hi)) | ((with_reducible refine gate_callee (f := 7) rfl ?_); refine goesL_ (some 69) rfl rfl Try.func7 (by kernel_rfl) rfl #[.string (a0 ++ a1)] rfl (by (try simp only [List.map_toArray, List.map_cons, List.map_nil]); first | done | rfl | (simp only [List.length_drop, List.length_take]; rfl)) ?_; (with_reducible refine (impl_AdUnescape.calls kj5 (a0 ++ a1) t109 true _ A29.out).mono ?_); rintro e w47 ⟨rfl, hb⟩; refine ⟨_, rfl, ?_⟩; have n0_ := Aside0.mk (below_step (by repeat (first | (with_reducible first | exact HB.out | apply below_alloc | apply pw_below_drewN | apply below_drew1) | exact HB.out)) hb); clear HB; have HB := n0_; clear n0_; (try clear hb); (try clear hb2); (try clear hk); (try clear hi)) | ((with_reducible refine gate_callee (f := 7) rfl ?_); refine goesL_ (some 73) rfl rfl Try.func7 (by kernel_rfl) rfl #[.string (⟨#[37, 52, 49]⟩ : ByteArray)] rfl (by (try simp only [List.map_toArray, List.map_cons, List.map_nil]); first | done | rfl | (simp only [List.length_drop, List.length_take]; rfl)) ?_; (with_reducible refine (impl_AdUnescape.calls kj5 (⟨#[37, 52, 49]⟩ : ByteArray) t111 t112 _ A30.out).mono ?_); rintro e w48 ⟨rfl, hb⟩; refine ⟨_, rfl, ?_⟩; have n0_ := Aside0.mk (below_step (by repeat (first | (with_reducible first | exact HB.out | apply below_alloc | apply pw_below_drewN | apply below_drew1) | exact HB.out)) hb); clear HB; have HB := n0_; clear n0_; (try clear hb); (try clear hb2); (try clear hk); (try clear hi)))
                          go_ret
                          exact ⟨by first | rfl | (simp [errW_none, errW_some] <;> rfl) | (simp [*, errW_none, errW_some] <;> rfl) | (simp (disch := omega) only [wrap64_id] <;> rfl), by repeat (first | (with_reducible first | exact HB.out | apply below_alloc | apply pw_below_drewN | apply below_drew1) | exact HB.out)⟩
                      · rw [if_neg c34] at H
                        exact absurd H (by simp)
                    · replace c33 := Bool.eq_false_iff.mpr c33
                      subst c33
                      have H1 : (if t112 = true then (some (t111.toList == ([65] : List UInt8))) else (some false)) = some r := by rw [if_neg (show ¬ (false = true) by decide)] at H; exact H
                      clear H
                      have H := H1
                      clear H1
                      by_cases c49 : t112 = true
                      · subst c49
                        have H1 : (some (t111.toList == ([65] : List UInt8))) = some r := by rw [if_pos rfl] at H; exact H
                        clear H
                        have H := H1
                        clear H1
                        obtain rfl := Option.some.inj H
                        go_wp2_with (first | ((with_reducible refine gate_callee (f := 7) rfl ?_); refine goesL_ (some 57) rfl rfl Try.func7 (by kernel_rfl) rfl #[.string a0] rfl (by (try simp only [List.map_toArray, List.map_cons, List.map_nil]); first | done | rfl | (simp only [List.length_drop, List.length_take]; rfl)) ?_; (with_reducible refine (impl_AdUnescape.calls kj5 a0 t105 true _ A26.out).mono ?_); rintro e w50 ⟨rfl, hb⟩; refine ⟨_, rfl, ?_⟩; have n0_ := Aside0.mk (below_step (by repeat (first | (with_reducible first | exact HB.out | apply below_alloc | apply pw_below_drewN | apply below_drew1) | exact HB.out)) hb); clear HB; have HB := n0_; clear n0_; (try clear hb); (try clear hb2); (try clear hk); (try clear hi)) | ((with_reducible refine gate_callee (f := 7) rfl ?_); refine goesL_ (some 62) rfl rfl Try.func7 (by kernel_rfl) rfl #[.string a1] rfl (by (try simp only [List.map_toArray, List.map_cons, List.map_nil]); first | done | rfl | (simp only [List.length_drop, List.length_take]; rfl)) ?_; (with_reducible refine (impl_AdUnescape.calls kj5 a1 t107 t108 _ A27.out).mono ?_); rintro e w51 ⟨rfl, hb⟩; refine ⟨_, rfl, ?_⟩; have n0_ := Aside0.mk (below_step (by repeat (first | (with_reducible first | exact HB.out | apply below_alloc | apply pw_below_drewN | apply below_drew1) | exact HB.out)) hb); clear HB; have HB := n0_; clear n0_; (try clear hb); (try clear hb2); (try clear hk); (try clear hi)) | ((with_reducible refine gate_callee (f := 7) rfl ?_); refine goesL_ (some 69) rfl rfl Try.func7 (by kernel_rfl) rfl #[.string (a0 ++ a1)] rfl (by (try simp only [List.map_toArray, List.map_cons, List.map_nil]); first | done | rfl | (simp only [List.length_drop, List.length_take]; rfl)) ?_; (with_reducible refine (impl_AdUnescape.calls kj5 (a0 ++ a1) t109 false _ A29.out).mono ?_); rintro e w52 ⟨rfl, hb⟩; refine ⟨_, rfl, ?_⟩; have n0_ := Aside0.mk (below_step (by repeat (first | (with_reducible first | exact HB.out | apply below_alloc | apply pw_below_drewN | apply below_drew1) | exact HB.out)) hb); clear HB; have HB := n0_; clear n0_; (try clear hb); (try clear hb2); (try clear hk); (try clear hi)) | ((with_reducible refine gate_callee (f := 7) rfl ?_); refine goesL_ (some 73) rfl rfl Try.func7 (by kernel_rfl) rfl #[.string (⟨#[37, 52, 49]⟩ : ByteArray)] rfl (by (try simp only [List.map_toArray, List.map_cons, List.map_nil]); first | done | rfl | (simp only [List.length_drop, List.length_take]; rfl)) ?_; (with_reducible refine (impl_AdUnescape.calls kj5 (⟨#[37, 52, 49]⟩ : ByteArray) t111 true _ A30.out).mono ?_); rintro e w53 ⟨rfl, hb⟩; refine ⟨_, rfl, ?_⟩; have n0_ := Aside0.mk (below_step (by repeat (first | (with_reducible first | exact HB.out | apply below_alloc | apply pw_below_drewN | apply below_drew1) | exact HB.out)) hb); clear HB; have HB := n0_; clear n0_; (try clear hb); (try clear hb2); (try clear hk); (try clear hi)))
                        go_ret
                        exact ⟨by first | rfl | (simp [errW_none, errW_some] <;> rfl) | (simp [*, errW_none, errW_some] <;> rfl) | (simp (disch := omega) only [wrap64_id] <;> rfl), by repeat (first | (with_reducible first | exact HB.out | apply below_alloc | apply pw_below_drewN | apply below_drew1) | exact HB.out)⟩
                      · replace c49 := Bool.eq_false_iff.mpr c49
                        subst c49
                        have H1 : (some false) = some r := by rw [if_neg (show ¬ (false = true) by decide)] at H; exact H
                        clear H
                        have H := H1
                        clear H1
                        obtain rfl := Option.some.inj H
                        go_wp2_with (first | ((with_reducible refine gate_callee (f := 7) rfl ?_); refine goesL_ (some 57) rfl rfl Try.func7 (by kernel_rfl) rfl #[.string a0] rfl (by (try simp only [List.map_toArray, List.map_cons, List.map_nil]); first | done | rfl | (simp only [List.length_drop, List.length_take]; rfl)) ?_; (with_reducible refine (impl_AdUnescape.calls kj5 a0 t105 true _ A26.out).mono ?_); rintro e w54 ⟨rfl, hb⟩; refine ⟨_, rfl, ?_⟩; have n0_ := Aside0.mk (below_step (by repeat (first | (with_reducible first | exact HB.out | apply below_alloc | apply pw_below_drewN | apply below_drew1) | exact HB.out)) hb); clear HB; have HB := n0_; clear n0_; (try clear hb); (try clear hb2); (try clear hk); (try clear hi)) | ((with_reducible refine gate_callee (f := 7) rfl ?_); refine goesL_ (some 62) rfl rfl Try.func7 (by kernel_rfl) rfl #[.string a1] rfl (by (try simp only [List.map_toArray, List.map_cons, List.map_nil]); first | done | rfl | (simp only [List.length_drop, List.length_take]; rfl)) ?_; (with_reducible refine (impl_AdUnescape.calls kj5 a1 t107 t108 _ A27.out).mono ?_); rintro e w55 ⟨rfl, hb⟩; refine ⟨_, rfl, ?_⟩; have n0_ := Aside0.mk (below_step (by repeat (first | (with_reducible first | exact HB.out | apply below_alloc | apply pw_below_drewN | apply below_drew1) | exact HB.out)) hb); clear HB; have HB := n0_; clear n0_; (try clear hb); (try clear hb2); (try clear hk); (try clear hi)) | ((with_reducible refine gate_callee (f := 7) rfl ?_); refine goesL_ (some 69) rfl rfl Try.func7 (by kernel_rfl) rfl #[.string (a0 ++ a1)] rfl (by (try simp only [List.map_toArray, List.map_cons, List.map_nil]); first | done | rfl | (simp only [List.length_drop, List.length_take]; rfl)) ?_; (with_reducible refine (impl_AdUnescape.calls kj5 (a0 ++ a1) t109 false _ A29.out).mono ?_); rintro e w56 ⟨rfl, hb⟩; refine ⟨_, rfl, ?_⟩; have n0_ := Aside0.mk (below_step (by repeat (first | (with_reducible first | exact HB.out | apply below_alloc | apply pw_below_drewN | apply below_drew1) | exact HB.out)) hb); clear HB; have HB := n0_; clear n0_; (try clear hb); (try clear hb2); (try clear hk); (try clear hi)) | ((with_reducible refine gate_callee (f := 7) rfl ?_); refine goesL_ (some 73) rfl rfl Try.func7 (by kernel_rfl) rfl #[.string (⟨#[37, 52, 49]⟩ : ByteArray)] rfl (by (try simp only [List.map_toArray, List.map_cons, List.map_nil]); first | done | rfl | (simp only [List.length_drop, List.length_take]; rfl)) ?_; (with_reducible refine (impl_AdUnescape.calls kj5 (⟨#[37, 52, 49]⟩ : ByteArray) t111 false _ A30.out).mono ?_); rintro e w57 ⟨rfl, hb⟩; refine ⟨_, rfl, ?_⟩; have n0_ := Aside0.mk (below_step (by repeat (first | (with_reducible first | exact HB.out | apply below_alloc | apply pw_below_drewN | apply below_drew1) | exact HB.out)) hb); clear HB; have HB := n0_; clear n0_; (try clear hb); (try clear hb2); (try clear hk); (try clear hi)))
                        go_ret
                        exact ⟨by first | rfl | (simp [errW_none, errW_some] <;> rfl) | (simp [*, errW_none, errW_some] <;> rfl) | (simp (disch := omega) only [wrap64_id] <;> rfl), by repeat (first | (with_reducible first | exact HB.out | apply below_alloc | apply pw_below_drewN | apply below_drew1) | exact HB.out)⟩
                  · rw [if_neg c32] at H
                    have c32b0 : (t110 == t108) = false := by simpa using c32
                    (try (have c32b1 : decide (t110 = t108) = false := by simpa using c32))
                    (try (have c32b2 : (t110 == t108) = false := by simpa using c32))
                    (try (have c32b3 : ¬ (t110 = t108) := by simpa using c32))
                    clear c32
                    obtain rfl := Option.some.inj H
                    go_wp2_with (first | ((with_reducible refine gate_callee (f := 7) rfl ?_); refine goesL_ (some 57) rfl rfl Try.func7 (by kernel_rfl) rfl #[.string a0] rfl (by (try simp only [List.map_toArray, List.map_cons, List.map_nil]); first | done | rfl | (simp only [List.length_drop, List.length_take]; rfl)) ?_; (with_reducible refine (impl_AdUnescape.calls kj5 a0 t105 true _ A26.out).mono ?_); rintro e w58 ⟨rfl, hb⟩; refine ⟨_, rfl, ?_⟩; have n0_ := Aside0.mk (below_step (by repeat (first | (with_reducible first | exact HB.out | apply below_alloc | apply pw_below_drewN | apply below_drew1) | exact HB.out)) hb); clear HB; have HB := n0_; clear n0_; (try clear hb); (try clear hb2); (try clear hk); (try clear hi)) | ((with_reducible refine gate_callee (f := 7) rfl ?_); refine goesL_ (some 62) rfl rfl Try.func7 (by kernel_rfl) rfl #[.string a1] rfl (by (try simp only [List.map_toArray, List.map_cons, List.map_nil]); first | done | rfl | (simp only [List.length_drop, List.length_take]; rfl)) ?_; (with_reducible refine (impl_AdUnescape.calls kj5 a1 t107 t108 _ A27.out).mono ?_); rintro e w59 ⟨rfl, hb⟩; refine ⟨_, rfl, ?_⟩; have n0_ := Aside0.mk (below_step (by repeat (first | (with_reducible first | exact HB.out | apply below_alloc | apply pw_below_drewN | apply below_drew1) | exact HB.out)) hb); clear HB; have HB := n0_; clear n0_; (try clear hb); (try clear hb2); (try clear hk); (try clear hi)) | ((with_reducible refine gate_callee (f := 7) rfl ?_); refine goesL_ (some 69) rfl rfl Try.func7 (by kernel_rfl) rfl #[.string (a0 ++ a1)] rfl (by (try simp only [List.map_toArray, List.map_cons, List.map_nil]); first | done | rfl | (simp only [List.length_drop, List.length_take]; rfl)) ?_; (with_reducible refine (impl_AdUnescape.calls kj5 (a0 ++ a1) t109 t110 _ A29.out).mono ?_); rintro e w60 ⟨rfl, hb⟩; refine ⟨_, rfl, ?_⟩; have n0_ := Aside0.mk (below_step (by repeat (first | (with_reducible first | exact HB.out | apply below_alloc | apply pw_below_drewN | apply below_drew1) | exact HB.out)) hb); clear HB; have HB := n0_; clear n0_; (try clear hb); (try clear hb2); (try clear hk); (try clear hi)) | ((with_reducible refine gate_callee (f := 7) rfl ?_); refine goesL_ (some 73) rfl rfl Try.func7 (by kernel_rfl) rfl #[.string (⟨#[37, 52, 49]⟩ : ByteArray)] rfl (by (try simp only [List.map_toArray, List.map_cons, List.map_nil]); first | done | rfl | (simp only [List.length_drop, List.length_take]; rfl)) ?_; (with_reducible refine (impl_AdUnescape.calls kj5 (⟨#[37, 52, 49]⟩ : ByteArray) t111 t112 _ A30.out).mono ?_); rintro e w61 ⟨rfl, hb⟩; refine ⟨_, rfl, ?_⟩; have n0_ := Aside0.mk (below_step (by repeat (first | (with_reducible first | exact HB.out | apply below_alloc | apply pw_below_drewN | apply below_drew1) | exact HB.out)) hb); clear HB; have HB := n0_; clear n0_; (try clear hb); (try clear hb2); (try clear hk); (try clear hi)))
                    go_ret
                    exact ⟨by first | rfl | (simp [errW_none, errW_some] <;> rfl) | (simp [*, errW_none, errW_some] <;> rfl) | (simp (disch := omega) only [wrap64_id] <;> rfl), by repeat (first | (with_reducible first | exact HB.out | apply below_alloc | apply pw_below_drewN | apply below_drew1) | exact HB.out)⟩
                · replace c31 := Bool.eq_false_iff.mpr c31
                  subst c31
                  have H1 : (if (t110 == false) = true then (if t110 = true then (if t105.size + t107.size ≤ 9223372036854775807 then (if t109.toList = (t105 ++ t107).toList then (if t112 = true then (some (t111.toList == ([65] : List UInt8))) else (some false)) else (some false)) else (none)) else (if t112 = true then (some (t111.toList == ([65] : List UInt8))) else (some false))) else (some false)) = some r := by rw [if_neg (show ¬ (false = true) by decide)] at H; exact H
                  clear H
                  have H := H1
                  clear H1
                  by_cases c62 : (t110 == false) = true
                  · rw [if_pos c62] at H
                    have c62b0 : (t110 == false) = true := c62
                    (try (have c62b1 : decide (t110 = false) = true := by simpa using c62))
                    (try (have c62b2 : (t110 == false) = true := by simpa using c62))
                    clear c62
                    by_cases c63 : t110 = true
                    · subst c63
                      have H1 : (if t105.size + t107.size ≤ 9223372036854775807 then (if t109.toList = (t105 ++ t107).toList then (if t112 = true then (some (t111.toList == ([65] : List UInt8))) else (some false)) else (some false)) else (none)) = some r := by rw [if_pos rfl] at H; exact H
                      clear H
                      have H := H1
                      clear H1
                      by_cases c64 : t105.size + t107.size ≤ 9223372036854775807
                      · rw [if_pos c64] at H
                        have c64b0 := eq_true c64
                        have c64b1 : decide (t105.size + t107.size ≤ 9223372036854775807) = true := decide_eq_true c64
                        try have c64b2 : (9223372036854775807 < t105.size + t107.size) = False := eq_false (Nat.not_lt.2 c64)
                        by_cases c65 : t109.toList = (t105 ++ t107).toList
                        · rw [if_pos c65] at H
                          have c65b0 : (t109.toList == (t105 ++ t107).toList) = true := beq_iff_eq.mpr c65
                          have c65b1 : (t109.toList != (t105 ++ t107).toList) = false := bne_eq_false_iff_eq.mpr c65
                          clear c65
                          by_cases c66 : t112 = true
                          · subst c66
                            have H1 : (some (t111.toList == ([65] : List UInt8))) = some r := by rw [if_pos rfl] at H; exact H
                            clear H
                            have H := H1
                            clear H1
                            obtain rfl := Option.some.inj H
                            go_wp2_with (first | ((with_reducible refine gate_callee (f := 7) rfl ?_); refine goesL_ (some 57) rfl rfl Try.func7 (by kernel_rfl) rfl #[.string a0] rfl (by (try simp only [List.map_toArray, List.map_cons, List.map_nil]); first | done | rfl | (simp only [List.length_drop, List.length_take]; rfl)) ?_; (with_reducible refine (impl_AdUnescape.calls kj5 a0 t105 false _ A26.out).mono ?_); rintro e w67 ⟨rfl, hb⟩; refine ⟨_, rfl, ?_⟩; have n0_ := Aside0.mk (below_step (by repeat (first | (with_reducible first | exact HB.out | apply below_alloc | apply pw_below_drewN | apply below_drew1) | exact HB.out)) hb); clear HB; have HB := n0_; clear n0_; (try clear hb); (try clear hb2); (try clear hk); (try clear hi)) | ((with_reducible refine gate_callee (f := 7) rfl ?_); refine goesL_ (some 62) rfl rfl Try.func7 (by kernel_rfl) rfl #[.string a1] rfl (by (try simp only [List.map_toArray, List.map_cons, List.map_nil]); first | done | rfl | (simp only [List.length_drop, List.length_take]; rfl)) ?_; (with_reducible refine (impl_AdUnescape.calls kj5 a1 t107 t108 _ A27.out).mono ?_); rintro e w68 ⟨rfl, hb⟩; refine ⟨_, rfl, ?_⟩; have n0_ := Aside0.mk (below_step (by repeat (first | (with_reducible first | exact HB.out | apply below_alloc | apply pw_below_drewN | apply below_drew1) | exact HB.out)) hb); clear HB; have HB := n0_; clear n0_; (try clear hb); (try clear hb2); (try clear hk); (try clear hi)) | ((with_reducible refine gate_callee (f := 7) rfl ?_); refine goesL_ (some 69) rfl rfl Try.func7 (by kernel_rfl) rfl #[.string (a0 ++ a1)] rfl (by (try simp only [List.map_toArray, List.map_cons, List.map_nil]); first | done | rfl | (simp only [List.length_drop, List.length_take]; rfl)) ?_; (with_reducible refine (impl_AdUnescape.calls kj5 (a0 ++ a1) t109 true _ A29.out).mono ?_); rintro e w69 ⟨rfl, hb⟩; refine ⟨_, rfl, ?_⟩; have n0_ := Aside0.mk (below_step (by repeat (first | (with_reducible first | exact HB.out | apply below_alloc | apply pw_below_drewN | apply below_drew1) | exact HB.out)) hb); clear HB; have HB := n0_; clear n0_; (try clear hb); (try clear hb2); (try clear hk); (try clear hi)) | ((with_reducible refine gate_callee (f := 7) rfl ?_); refine goesL_ (some 73) rfl rfl Try.func7 (by kernel_rfl) rfl #[.string (⟨#[37, 52, 49]⟩ : ByteArray)] rfl (by (try simp only [List.map_toArray, List.map_cons, List.map_nil]); first | done | rfl | (simp only [List.length_drop, List.length_take]; rfl)) ?_; (with_reducible refine (impl_AdUnescape.calls kj5 (⟨#[37, 52, 49]⟩ : ByteArray) t111 true _ A30.out).mono ?_); rintro e w70 ⟨rfl, hb⟩; refine ⟨_, rfl, ?_⟩; have n0_ := Aside0.mk (below_step (by repeat (first | (with_reducible first | exact HB.out | apply below_alloc | apply pw_below_drewN | apply below_drew1) | exact HB.out)) hb); clear HB; have HB := n0_; clear n0_; (try clear hb); (try clear hb2); (try clear hk); (try clear hi)))
                            go_ret
                            exact ⟨by first | rfl | (simp [errW_none, errW_some] <;> rfl) | (simp [*, errW_none, errW_some] <;> rfl) | (simp (disch := omega) only [wrap64_id] <;> rfl), by repeat (first | (with_reducible first | exact HB.out | apply below_alloc | apply pw_below_drewN | apply below_drew1) | exact HB.out)⟩
                          · replace c66 := Bool.eq_false_iff.mpr c66
                            subst c66
                            have H1 : (some false) = some r := by rw [if_neg (show ¬ (false = true) by decide)] at H; exact H
                            clear H
                            have H := H1
                            clear H1
                            obtain rfl := Option.some.inj H
                            go_wp2_with (first | ((with_reducible refine gate_callee (f := 7) rfl ?_); refine goesL_ (some 57) rfl rfl Try.func7 (by kernel_rfl) rfl #[.string a0] rfl (by (try simp only [List.map_toArray, List.map_cons, List.map_nil]); first | done | rfl | (simp only [List.length_drop, List.length_take]; rfl)) ?_; (with_reducible refine (impl_AdUnescape.calls kj5 a0 t105 false _ A26.out).mono ?_); rintro e w71 ⟨rfl, hb⟩; refine ⟨_, rfl, ?_⟩; have n0_ := Aside0.mk (below_step (by repeat (first | (with_reducible first | exact HB.out | apply below_alloc | apply pw_below_drewN | apply below_drew1) | exact HB.out)) hb); clear HB; have HB := n0_; clear n0_; (try clear hb); (try clear hb2); (try clear hk); (try clear hi)) | ((with_reducible refine gate_callee (f := 7) rfl ?_); refine goesL_ (some 62) rfl rfl Try.func7 (by kernel_rfl) rfl #[.string a1] rfl (by (try simp only [List.map_toArray, List.map_cons, List.map_nil]); first | done | rfl | (simp only [List.length_drop, List.length_take]; rfl)) ?_; (with_reducible refine (impl_AdUnescape.calls kj5 a1 t107 t108 _ A27.out).mono ?_); rintro e w72 ⟨rfl, hb⟩; refine ⟨_, rfl, ?_⟩; have n0_ := Aside0.mk (below_step (by repeat (first | (with_reducible first | exact HB.out | apply below_alloc | apply pw_below_drewN | apply below_drew1) | exact HB.out)) hb); clear HB; have HB := n0_; clear n0_; (try clear hb); (try clear hb2); (try clear hk); (try clear hi)) | ((with_reducible refine gate_callee (f := 7) rfl ?_); refine goesL_ (some 69) rfl rfl Try.func7 (by kernel_rfl) rfl #[.string (a0 ++ a1)] rfl (by (try simp only [List.map_toArray, List.map_cons, List.map_nil]); first | done | rfl | (simp only [List.length_drop, List.length_take]; rfl)) ?_; (with_reducible refine (impl_AdUnescape.calls kj5 (a0 ++ a1) t109 true _ A29.out).mono ?_); rintro e w73 ⟨rfl, hb⟩; refine ⟨_, rfl, ?_⟩; have n0_ := Aside0.mk (below_step (by repeat (first | (with_reducible first | exact HB.out | apply below_alloc | apply pw_below_drewN | apply below_drew1) | exact HB.out)) hb); clear HB; have HB := n0_; clear n0_; (try clear hb); (try clear hb2); (try clear hk); (try clear hi)) | ((with_reducible refine gate_callee (f := 7) rfl ?_); refine goesL_ (some 73) rfl rfl Try.func7 (by kernel_rfl) rfl #[.string (⟨#[37, 52, 49]⟩ : ByteArray)] rfl (by (try simp only [List.map_toArray, List.map_cons, List.map_nil]); first | done | rfl | (simp only [List.length_drop, List.length_take]; rfl)) ?_; (with_reducible refine (impl_AdUnescape.calls kj5 (⟨#[37, 52, 49]⟩ : ByteArray) t111 false _ A30.out).mono ?_); rintro e w74 ⟨rfl, hb⟩; refine ⟨_, rfl, ?_⟩; have n0_ := Aside0.mk (below_step (by repeat (first | (with_reducible first | exact HB.out | apply below_alloc | apply pw_below_drewN | apply below_drew1) | exact HB.out)) hb); clear HB; have HB := n0_; clear n0_; (try clear hb); (try clear hb2); (try clear hk); (try clear hi)))
                            go_ret
                            exact ⟨by first | rfl | (simp [errW_none, errW_some] <;> rfl) | (simp [*, errW_none, errW_some] <;> rfl) | (simp (disch := omega) only [wrap64_id] <;> rfl), by repeat (first | (with_reducible first | exact HB.out | apply below_alloc | apply pw_below_drewN | apply below_drew1) | exact HB.out)⟩
                        · rw [if_neg c65] at H
                          have c65b0 : (t109.toList == (t105 ++ t107).toList) = false := beq_eq_false_iff_ne.mpr c65
                          have c65b1 : (t109.toList != (t105 ++ t107).toList) = true := bne_iff_ne.mpr c65
                          obtain rfl := Option.some.inj H
                          go_wp2_with (first | ((with_reducible refine gate_callee (f := 7) rfl ?_); refine goesL_ (some 57) rfl rfl Try.func7 (by kernel_rfl) rfl #[.string a0] rfl (by (try simp only [List.map_toArray, List.map_cons, List.map_nil]); first | done | rfl | (simp only [List.length_drop, List.length_take]; rfl)) ?_; (with_reducible refine (impl_AdUnescape.calls kj5 a0 t105 false _ A26.out).mono ?_); rintro e w75 ⟨rfl, hb⟩; refine ⟨_, rfl, ?_⟩; have n0_ := Aside0.mk (below_step (by repeat (first | (with_reducible first | exact HB.out | apply below_alloc | apply pw_below_drewN | apply below_drew1) | exact HB.out)) hb); clear HB; have HB := n0_; clear n0_; (try clear hb); (try clear hb2); (try clear hk); (try clear hi)) | ((with_reducible refine gate_callee (f := 7) rfl ?_); refine goesL_ (some 62) rfl rfl Try.func7 (by kernel_rfl) rfl #[.string a1] rfl (by (try simp only [List.map_toArray, List.map_cons, List.map_nil]); first | done | rfl | (simp only [List.length_drop, List.length_take]; rfl)) ?_; (with_reducible refine (impl_AdUnescape.calls kj5 a1 t107 t108 _ A27.out).mono ?_); rintro e w76 ⟨rfl, hb⟩; refine ⟨_, rfl, ?_⟩; have n0_ := Aside0.mk (below_step (by repeat (first | (with_reducible first | exact HB.out | apply below_alloc | apply pw_below_drewN | apply below_drew1) | exact HB.out)) hb); clear HB; have HB := n0_; clear n0_; (try clear hb); (try clear hb2); (try clear hk); (try clear hi)) | ((with_reducible refine gate_callee (f := 7) rfl ?_); refine goesL_ (some 69) rfl rfl Try.func7 (by kernel_rfl) rfl #[.string (a0 ++ a1)] rfl (by (try simp only [List.map_toArray, List.map_cons, List.map_nil]); first | done | rfl | (simp only [List.length_drop, List.length_take]; rfl)) ?_; (with_reducible refine (impl_AdUnescape.calls kj5 (a0 ++ a1) t109 true _ A29.out).mono ?_); rintro e w77 ⟨rfl, hb⟩; refine ⟨_, rfl, ?_⟩; have n0_ := Aside0.mk (below_step (by repeat (first | (with_reducible first | exact HB.out | apply below_alloc | apply pw_below_drewN | apply below_drew1) | exact HB.out)) hb); clear HB; have HB := n0_; clear n0_; (try clear hb); (try clear hb2); (try clear hk); (try clear hi)) | ((with_reducible refine gate_callee (f := 7) rfl ?_); refine goesL_ (some 73) rfl rfl Try.func7 (by kernel_rfl) rfl #[.string (⟨#[37, 52, 49]⟩ : ByteArray)] rfl (by (try simp only [List.map_toArray, List.map_cons, List.map_nil]); first | done | rfl | (simp only [List.length_drop, List.length_take]; rfl)) ?_; (with_reducible refine (impl_AdUnescape.calls kj5 (⟨#[37, 52, 49]⟩ : ByteArray) t111 t112 _ A30.out).mono ?_); rintro e w78 ⟨rfl, hb⟩; refine ⟨_, rfl, ?_⟩; have n0_ := Aside0.mk (below_step (by repeat (first | (with_reducible first | exact HB.out | apply below_alloc | apply pw_below_drewN | apply below_drew1) | exact HB.out)) hb); clear HB; have HB := n0_; clear n0_; (try clear hb); (try clear hb2); (try clear hk); (try clear hi)))
                          go_ret
                          exact ⟨by first | rfl | (simp [errW_none, errW_some] <;> rfl) | (simp [*, errW_none, errW_some] <;> rfl) | (simp (disch := omega) only [wrap64_id] <;> rfl), by repeat (first | (with_reducible first | exact HB.out | apply below_alloc | apply pw_below_drewN | apply below_drew1) | exact HB.out)⟩
                      · rw [if_neg c64] at H
                        exact absurd H (by simp)
                    · replace c63 := Bool.eq_false_iff.mpr c63
                      subst c63
                      have H1 : (if t112 = true then (some (t111.toList == ([65] : List UInt8))) else (some false)) = some r := by rw [if_neg (show ¬ (false = true) by decide)] at H; exact H
                      clear H
                      have H := H1
                      clear H1
                      by_cases c79 : t112 = true
                      · subst c79
                        have H1 : (some (t111.toList == ([65] : List UInt8))) = some r := by rw [if_pos rfl] at H; exact H
                        clear H
                        have H := H1
                        clear H1
                        obtain rfl := Option.some.inj H
                        go_wp2_with (first | ((with_reducible refine gate_callee (f := 7) rfl ?_); refine goesL_ (some 57) rfl rfl Try.func7 (by kernel_rfl) rfl #[.string a0] rfl (by (try simp only [List.map_toArray, List.map_cons, List.map_nil]); first | done | rfl | (simp only [List.length_drop, List.length_take]; rfl)) ?_; (with_reducible refine (impl_AdUnescape.calls kj5 a0 t105 false _ A26.out).mono ?_); rintro e w80 ⟨rfl, hb⟩; refine ⟨_, rfl, ?_⟩; have n0_ := Aside0.mk (below_step (by repeat (first | (with_reducible first | exact HB.out | apply below_alloc | apply pw_below_drewN | apply below_drew1) | exact HB.out)) hb); clear HB; have HB := n0_; clear n0_; (try clear hb); (try clear hb2); (try clear hk); (try clear hi)) | ((with_reducible refine gate_callee (f := 7) rfl ?_); refine goesL_ (some 62) rfl rfl Try.func7 (by kernel_rfl) rfl #[.string a1] rfl (by (try simp only [List.map_toArray, List.map_cons, List.map_nil]); first | done | rfl | (simp only [List.length_drop, List.length_take]; rfl)) ?_; (with_reducible refine (impl_AdUnescape.calls kj5 a1 t107 t108 _ A27.out).mono ?_); rintro e w81 ⟨rfl, hb⟩; refine ⟨_, rfl, ?_⟩; have n0_ := Aside0.mk (below_step (by repeat (first | (with_reducible first | exact HB.out | apply below_alloc | apply pw_below_drewN | apply below_drew1) | exact HB.out)) hb); clear HB; have HB := n0_; clear n0_; (try clear hb); (try clear hb2); (try clear hk); (try clear hi)) | ((with_reducible refine gate_callee (f := 7) rfl ?_); refine goesL_ (some 69) rfl rfl Try.func7 (by kernel_rfl) rfl #[.string (a0 ++ a1)] rfl (by (try simp only [List.map_toArray, List.map_cons, List.map_nil]); first | done | rfl | (simp only [List.length_drop, List.length_take]; rfl)) ?_; (with_reducible refine (impl_AdUnescape.calls kj5 (a0 ++ a1) t109 false _ A29.out).mono ?_); rintro e w82 ⟨rfl, hb⟩; refine ⟨_, rfl, ?_⟩; have n0_ := Aside0.mk (below_step (by repeat (first | (with_reducible first | exact HB.out | apply below_alloc | apply pw_below_drewN | apply below_drew1) | exact HB.out)) hb); clear HB; have HB := n0_; clear n0_; (try clear hb); (try clear hb2); (try clear hk); (try clear hi)) | ((with_reducible refine gate_callee (f := 7) rfl ?_); refine goesL_ (some 73) rfl rfl Try.func7 (by kernel_rfl) rfl #[.string (⟨#[37, 52, 49]⟩ : ByteArray)] rfl (by (try simp only [List.map_toArray, List.map_cons, List.map_nil]); first | done | rfl | (simp only [List.length_drop, List.length_take]; rfl)) ?_; (with_reducible refine (impl_AdUnescape.calls kj5 (⟨#[37, 52, 49]⟩ : ByteArray) t111 true _ A30.out).mono ?_); rintro e w83 ⟨rfl, hb⟩; refine ⟨_, rfl, ?_⟩; have n0_ := Aside0.mk (below_step (by repeat (first | (with_reducible first | exact HB.out | apply below_alloc | apply pw_below_drewN | apply below_drew1) | exact HB.out)) hb); clear HB; have HB := n0_; clear n0_; (try clear hb); (try clear hb2); (try clear hk); (try clear hi)))
                        go_ret
                        exact ⟨by first | rfl | (simp [errW_none, errW_some] <;> rfl) | (simp [*, errW_none, errW_some] <;> rfl) | (simp (disch := omega) only [wrap64_id] <;> rfl), by repeat (first | (with_reducible first | exact HB.out | apply below_alloc | apply pw_below_drewN | apply below_drew1) | exact HB.out)⟩
                      · replace c79 := Bool.eq_false_iff.mpr c79
                        subst c79
                        have H1 : (some false) = some r := by rw [if_neg (show ¬ (false = true) by decide)] at H; exact H
                        clear H
                        have H := H1
                        clear H1
                        obtain rfl := Option.some.inj H
                        go_wp2_with (first | ((with_reducible refine gate_callee (f := 7) rfl ?_); refine goesL_ (some 57) rfl rfl Try.func7 (by kernel_rfl) rfl #[.string a0] rfl (by (try simp only [List.map_toArray, List.map_cons, List.map_nil]); first | done | rfl | (simp only [List.length_drop, List.length_take]; rfl)) ?_; (with_reducible refine (impl_AdUnescape.calls kj5 a0 t105 false _ A26.out).mono ?_); rintro e w84 ⟨rfl, hb⟩; refine ⟨_, rfl, ?_⟩; have n0_ := Aside0.mk (below_step (by repeat (first | (with_reducible first | exact HB.out | apply below_alloc | apply pw_below_drewN | apply below_drew1) | exact HB.out)) hb); clear HB; have HB := n0_; clear n0_; (try clear hb); (try clear hb2); (try clear hk); (try clear hi)) | ((with_reducible refine gate_callee (f := 7) rfl ?_); refine goesL_ (some 62) rfl rfl Try.func7 (by kernel_rfl) rfl #[.string a1] rfl (by (try simp only [List.map_toArray, List.map_cons, List.map_nil]); first | done | rfl | (simp only [List.length_drop, List.length_take]; rfl)) ?_; (with_reducible refine (impl_AdUnescape.calls kj5 a1 t107 t108 _ A27.out).mono ?_); rintro e w85 ⟨rfl, hb⟩; refine ⟨_, rfl, ?_⟩; have n0_ := Aside0.mk (below_step (by repeat (first | (with_reducible first | exact HB.out | apply below_alloc | apply pw_below_drewN | apply below_drew1) | exact HB.out)) hb); clear HB; have HB := n0_; clear n0_; (try clear hb); (try clear hb2); (try clear hk); (try clear hi)) | ((with_reducible refine gate_callee (f := 7) rfl ?_); refine goesL_ (some 69) rfl rfl Try.func7 (by kernel_rfl) rfl #[.string (a0 ++ a1)] rfl (by (try simp only [List.map_toArray, List.map_cons, List.map_nil]); first | done | rfl | (simp only [List.length_drop, List.length_take]; rfl)) ?_; (with_reducible refine (impl_AdUnescape.calls kj5 (a0 ++ a1) t109 false _ A29.out).mono ?_); rintro e w86 ⟨rfl, hb⟩; refine ⟨_, rfl, ?_⟩; have n0_ := Aside0.mk (below_step (by repeat (first | (with_reducible first | exact HB.out | apply below_alloc | apply pw_below_drewN | apply below_drew1) | exact HB.out)) hb); clear HB; have HB := n0_; clear n0_; (try clear hb); (try clear hb2); (try clear hk); (try clear hi)) | ((with_reducible refine gate_callee (f := 7) rfl ?_); refine goesL_ (some 73) rfl rfl Try.func7 (by kernel_rfl) rfl #[.string (⟨#[37, 52, 49]⟩ : ByteArray)] rfl (by (try simp only [List.map_toArray, List.map_cons, List.map_nil]); first | done | rfl | (simp only [List.length_drop, List.length_take]; rfl)) ?_; (with_reducible refine (impl_AdUnescape.calls kj5 (⟨#[37, 52, 49]⟩ : ByteArray) t111 false _ A30.out).mono ?_); rintro e w87 ⟨rfl, hb⟩; refine ⟨_, rfl, ?_⟩; have n0_ := Aside0.mk (below_step (by repeat (first | (with_reducible first | exact HB.out | apply below_alloc | apply pw_below_drewN | apply below_drew1) | exact HB.out)) hb); clear HB; have HB := n0_; clear n0_; (try clear hb); (try clear hb2); (try clear hk); (try clear hi)))
                        go_ret
                        exact ⟨by first | rfl | (simp [errW_none, errW_some] <;> rfl) | (simp [*, errW_none, errW_some] <;> rfl) | (simp (disch := omega) only [wrap64_id] <;> rfl), by repeat (first | (with_reducible first | exact HB.out | apply below_alloc | apply pw_below_drewN | apply below_drew1) | exact HB.out)⟩
                  · rw [if_neg c62] at H
                    have c62b0 : (t110 == false) = false := by simpa using c62
                    (try (have c62b1 : decide (t110 = false) = false := by simpa using c62))
                    (try (have c62b2 : (t110 == false) = false := by simpa using c62))
                    (try (have c62b3 : ¬ (t110 = false) := by simpa using c62))
                    clear c62
                    obtain rfl := Option.some.inj H
                    go_wp2_with (first | ((with_reducible refine gate_callee (f := 7) rfl ?_); refine goesL_ (some 57) rfl rfl Try.func7 (by kernel_rfl) rfl #[.string a0] rfl (by (try simp only [List.map_toArray, List.map_cons, List.map_nil]); first | done | rfl | (simp only [List.length_drop, List.length_take]; rfl)) ?_; (with_reducible refine (impl_AdUnescape.calls kj5 a0 t105 false _ A26.out).mono ?_); rintro e w88 ⟨rfl, hb⟩; refine ⟨_, rfl, ?_⟩; have n0_ := Aside0.mk (below_step (by repeat (first | (with_reducible first | exact HB.out | apply below_alloc | apply pw_below_drewN | apply below_drew1) | exact HB.out)) hb); clear HB; have HB := n0_; clear n0_; (try clear hb); (try clear hb2); (try clear hk); (try clear hi)) | ((with_reducible refine gate_callee (f := 7) rfl ?_); refine goesL_ (some 62) rfl rfl Try.func7 (by kernel_rfl) rfl #[.string a1] rfl (by (try simp only [List.map_toArray, List.map_cons, List.map_nil]); first | done | rfl | (simp only [List.length_drop, List.length_take]; rfl)) ?_; (with_reducible refine (impl_AdUnescape.calls kj5 a1 t107 t108 _ A27.out).mono ?_); rintro e w89 ⟨rfl, hb⟩; refine ⟨_, rfl, ?_⟩; have n0_ := Aside0.mk (below_step (by repeat (first | (with_reducible first | exact HB.out | apply below_alloc | apply pw_below_drewN | apply below_drew1) | exact HB.out)) hb); clear HB; have HB := n0_; clear n0_; (try clear hb); (try clear hb2); (try clear hk); (try clear hi)) | ((with_reducible refine gate_callee (f := 7) rfl ?_); refine goesL_ (some 69) rfl rfl Try.func7 (by kernel_rfl) rfl #[.string (a0 ++ a1)] rfl (by (try simp only [List.map_toArray, List.map_cons, List.map_nil]); first | done | rfl | (simp only [List.length_drop, List.length_take]; rfl)) ?_; (with_reducible refine (impl_AdUnescape.calls kj5 (a0 ++ a1) t109 t110 _ A29.out).mono ?_); rintro e w90 ⟨rfl, hb⟩; refine ⟨_, rfl, ?_⟩; have n0_ := Aside0.mk (below_step (by repeat (first | (with_reducible first | exact HB.out | apply below_alloc | apply pw_below_drewN | apply below_drew1) | exact HB.out)) hb); clear HB; have HB := n0_; clear n0_; (try clear hb); (try clear hb2); (try clear hk); (try clear hi)) | ((with_reducible refine gate_callee (f := 7) rfl ?_); refine goesL_ (some 73) rfl rfl Try.func7 (by kernel_rfl) rfl #[.string (⟨#[37, 52, 49]⟩ : ByteArray)] rfl (by (try simp only [List.map_toArray, List.map_cons, List.map_nil]); first | done | rfl | (simp only [List.length_drop, List.length_take]; rfl)) ?_; (with_reducible refine (impl_AdUnescape.calls kj5 (⟨#[37, 52, 49]⟩ : ByteArray) t111 t112 _ A30.out).mono ?_); rintro e w91 ⟨rfl, hb⟩; refine ⟨_, rfl, ?_⟩; have n0_ := Aside0.mk (below_step (by repeat (first | (with_reducible first | exact HB.out | apply below_alloc | apply pw_below_drewN | apply below_drew1) | exact HB.out)) hb); clear HB; have HB := n0_; clear n0_; (try clear hb); (try clear hb2); (try clear hk); (try clear hi)))
                    go_ret
                    exact ⟨by first | rfl | (simp [errW_none, errW_some] <;> rfl) | (simp [*, errW_none, errW_some] <;> rfl) | (simp (disch := omega) only [wrap64_id] <;> rfl), by repeat (first | (with_reducible first | exact HB.out | apply below_alloc | apply pw_below_drewN | apply below_drew1) | exact HB.out)⟩
              · rw [if_neg c28] at H
                exact absurd H (by simp)

/-- THE ONE PURE STATEMENT of laws_FnAdReadJoin: yours. -/
def laws_FnAdReadJoin.Pure : Prop := ∀ (a0 : ByteArray) (a1 : ByteArray), a0.size ≤ 140737488351232 → a1.size ≤ 140737488351232 → ∃ k, laws_FnAdReadJoin.f k a0 a1 = some true
theorem laws_FnAdReadJoin.walk (P : laws_FnAdReadJoin.Pure) (a0 : ByteArray) (a1 : ByteArray) (w : World) (w0 : a0.size ≤ 140737488351232) (w1 : a1.size ≤ 140737488351232) :
    Calls Try.prog 3 #[.string a0, .string a1] w fun e w' => e = .returned (.bool true) ∧ Below w.heap.size w w' := by
  obtain ⟨k, h⟩ := P a0 a1 w0 w1
  refine (laws_FnAdReadJoin.calls k a0 a1 true w h).mono ?_
  rintro e w' ⟨rfl, hd⟩
  exact ⟨rfl, hd⟩

end Go.Proofs.Ytpgpkdickcdlpaa.MFnAdReadJoin
