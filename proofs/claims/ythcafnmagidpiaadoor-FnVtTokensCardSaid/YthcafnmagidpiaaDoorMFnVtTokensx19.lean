-- Written by a program of this session (myprint.py, out of the translation). Not trusted: Lean checks it.
import Derived.Test.YthcafnmagidpiaaDoorMFnVtTokensx0
import Derived.Test.YthcafnmagidpiaaDoorMFnVtTokensx3
import Derived.Test.YthcafnmagidpiaaDoorMFnVtTokensx11
import Derived.Test.YthcafnmagidpiaaDoorMFnVtTokensx18
namespace Go.Proofs.YthcafnmagidpiaaDoor.MFnVtTokens
open Go.RowKit Go.Proofs.YthcafnmagidpiaaDoorW.PrintWords Go.Proofs.YthcafnmagidpiaaDoorW.PrintLast Go.Proofs.YthcafnmagidpiaaDoorW.PrintMore
attribute [local go_sem] max2_int min2_int max_two min_two max_three min_three max_four min_four   -- for this text's walks alone
set_option linter.unusedVariables false
set_option linter.unusedSimpArgs false

/-! ### laws_FnVtTokens: function 3 -/
mutual
def laws_FnVtTokens.j0 : Nat → ByteArray → List (S26) → Bool → Option (Bool)
 | 0, _, _, _ => none
 | k + 1, x0, x3, x45 => if x45 = true then (some true) else ((impl_VtTokens.f k x0).bind fun bt196 => (if (bt196.1.length : Int) = (x3.length : Int) then (laws_FnVtTokens.j1 k x3 bt196.1 bt196.2 ((bt196.2.length : Int) != (x3.length : Int))) else (laws_FnVtTokens.j1 k x3 bt196.1 bt196.2 true)))
def laws_FnVtTokens.j1 : Nat → List (S26) → List Int → List ByteArray → Bool → Option (Bool)
 | 0, _, _, _, _ => none
 | k + 1, x3, x6, x7, x62 => if x62 = true then (some false) else (laws_FnVtTokens.l0 k x6 x7 x3 (x3.length : Int) 0)
def laws_FnVtTokens.l0 : Nat → List Int → List ByteArray → List (S26) → Int → Int → Option (Bool)
 | 0, _, _, _, _, _ => none
 | k + 1, x6, x7, x63, x64, x65 => if x65 < x64 then (if 0 ≤ x65 then (if x65 < (x63.length : Int) then (if x65 < (x6.length : Int) then (if (rd x6 x65) = ((rd_T26 x63 x65).f0) then (if ((rd_T26 x63 x65).f0) = 1 then (laws_FnVtTokens.l0 k x6 x7 x63 x64 (wrap64 (x65 + 1))) else (if x65 < (x7.length : Int) then (if (rdOf ByteArray.empty x7 x65).toList = ((rd_T26 x63 x65).f1).toList then (laws_FnVtTokens.l0 k x6 x7 x63 x64 (wrap64 (x65 + 1))) else (some false)) else (none))) else (some false)) else (none)) else (none)) else (none)) else (some true)
end
def laws_FnVtTokens.f (k : Nat) (a0 : ByteArray) : Option (Bool) := if (a0.size : Int) > 2147483647 then (some true) else (if (a0.size : Int) > 4096 then (some true) else ((spec_Tokens.f k a0).bind fun bt191 => (if bt191.2 = true then (if (bt191.1.length : Int) > 1 then (if 0 ≤ (wrap64 ((bt191.1.length : Int) - 2)) then (if (wrap64 ((bt191.1.length : Int) - 2)) < (bt191.1.length : Int) then (if ((rd_T26 bt191.1 (wrap64 ((bt191.1.length : Int) - 2))).f0) = 13 then (if 0 ≤ (wrap64 ((a0.size : Int) - 1)) then (if (wrap64 ((a0.size : Int) - 1)) < (a0.size : Int) then (laws_FnVtTokens.j0 k a0 bt191.1 (decide ((bt a0 (wrap64 ((a0.size : Int) - 1))) > 32))) else (none)) else (none)) else (laws_FnVtTokens.j0 k a0 bt191.1 false)) else (none)) else (none)) else (laws_FnVtTokens.j0 k a0 bt191.1 false)) else (laws_FnVtTokens.j0 k a0 bt191.1 true))))
theorem laws_FnVtTokens.mono_l : ∀ k, (∀ y0 y1 y2, LeO (laws_FnVtTokens.j0 k y0 y1 y2) (laws_FnVtTokens.j0 (k + 1) y0 y1 y2)) ∧ (∀ y0 y1 y2 y3, LeO (laws_FnVtTokens.j1 k y0 y1 y2 y3) (laws_FnVtTokens.j1 (k + 1) y0 y1 y2 y3)) ∧ (∀ y0 y1 y2 y3 y4, LeO (laws_FnVtTokens.l0 k y0 y1 y2 y3 y4) (laws_FnVtTokens.l0 (k + 1) y0 y1 y2 y3 y4))
 | 0 => ⟨fun _ _ _ r h => by simp [laws_FnVtTokens.j0] at h, fun _ _ _ _ r h => by simp [laws_FnVtTokens.j1] at h, fun _ _ _ _ _ r h => by simp [laws_FnVtTokens.l0] at h⟩
 | k + 1 => by
  obtain ⟨ih0, ih1, ih2⟩ := laws_FnVtTokens.mono_l k
  refine ⟨?_, ?_, ?_⟩ <;> intros <;> (first | unfold laws_FnVtTokens.j0 | unfold laws_FnVtTokens.j1 | unfold laws_FnVtTokens.l0) <;> repeat' first
    | (with_reducible exact ih0 _ _ _)
    | (with_reducible exact ih1 _ _ _ _)
    | (with_reducible exact ih2 _ _ _ _ _)
    | (with_reducible exact impl_VtTokens.mono _ _)
    | (with_reducible exact spec_Tokens.mono _ _)
    | (with_reducible exact LeO.refl _)
    | (with_reducible exact LeO.none _)
    | (with_reducible refine LeO.ite ?_ ?_)
    | (with_reducible refine LeO.bind ?_ (fun _ => ?_))
    | exact ih0 _ _ _
    | exact ih1 _ _ _ _
    | exact ih2 _ _ _ _ _
    | exact impl_VtTokens.mono _ _
    | exact spec_Tokens.mono _ _
    | exact LeO.none _
    | refine LeO.ite ?_ ?_
    | refine LeO.bind ?_ (fun _ => ?_)
theorem laws_FnVtTokens.mono : ∀ a0 k, LeO (laws_FnVtTokens.f k a0) (laws_FnVtTokens.f (k + 1) a0) := by
 intro a0 k
 obtain ⟨ih0, ih1, ih2⟩ := laws_FnVtTokens.mono_l k
 unfold laws_FnVtTokens.f
 repeat' first
   | (with_reducible exact ih0 _ _ _)
   | (with_reducible exact ih1 _ _ _ _)
   | (with_reducible exact ih2 _ _ _ _ _)
   | (with_reducible exact impl_VtTokens.mono _ _)
   | (with_reducible exact spec_Tokens.mono _ _)
   | (with_reducible exact LeO.refl _)
   | (with_reducible exact LeO.none _)
   | (with_reducible refine LeO.ite ?_ ?_)
   | (with_reducible refine LeO.bind ?_ (fun _ => ?_))
   | exact ih0 _ _ _
   | exact ih1 _ _ _ _
   | exact ih2 _ _ _ _ _
   | exact impl_VtTokens.mono _ _
   | exact spec_Tokens.mono _ _
   | exact LeO.none _
   | refine LeO.ite ?_ ?_
   | refine LeO.bind ?_ (fun _ => ?_)
set_option maxHeartbeats 8000000 in
set_option maxRecDepth 100000 in
theorem laws_FnVtTokens.calls (k : Nat) (a0 : ByteArray) (r : Bool) (w : World) (hT : Lib.Utf8Tabs 0 1 w) (h : laws_FnVtTokens.f k a0 = some r) :
  Calls Tryd.prog 3 #[.string a0] w fun e w' => e = .returned (.bool r) ∧ Below w.heap.size w w' := by
 have hu26 := Tryd.underlying26
 have HTT := Aside0.mk hT
 clear hT
 have HB := Aside0.mk (Below.refl w.heap.size w)
 have H : (if (a0.size : Int) > 2147483647 then (some true) else (if (a0.size : Int) > 4096 then (some true) else ((spec_Tokens.f k a0).bind fun bt191 => (if bt191.2 = true then (if (bt191.1.length : Int) > 1 then (if 0 ≤ (wrap64 ((bt191.1.length : Int) - 2)) then (if (wrap64 ((bt191.1.length : Int) - 2)) < (bt191.1.length : Int) then (if ((rd_T26 bt191.1 (wrap64 ((bt191.1.length : Int) - 2))).f0) = 13 then (if 0 ≤ (wrap64 ((a0.size : Int) - 1)) then (if (wrap64 ((a0.size : Int) - 1)) < (a0.size : Int) then (laws_FnVtTokens.j0 k a0 bt191.1 (decide ((bt a0 (wrap64 ((a0.size : Int) - 1))) > 32))) else (none)) else (none)) else (laws_FnVtTokens.j0 k a0 bt191.1 false)) else (none)) else (none)) else (laws_FnVtTokens.j0 k a0 bt191.1 false)) else (laws_FnVtTokens.j0 k a0 bt191.1 true))))) = some r := h
 clear h
 by_cases c2 : (a0.size : Int) > 2147483647
 ·rw [if_pos c2] at H
  have c2b0 : decide (2147483647 < (a0.size : Int)) = true := decide_eq_true c2
  have c2b1 : decide (2147483647 < a0.size) = true := decide_eq_true (by omega)
  clear c2
  obtain rfl := Option.some.inj H
  go_enter Tryd.func3, Tryd.ntmps3
  go_wp2
  repeat (go_quiet (fail); try go_wp2)
  go_ret
  exact ⟨by first | rfl | (simp [errW_none, errW_some] <;> rfl) | (simp [*, errW_none, errW_some] <;> rfl) | (simp (disch := omega) only [wrap64_id] <;> rfl), by repeat (first | (with_reducible first | exact HB.out | apply below_alloc | apply pw_below_drewN | apply below_drew1) | exact HB.out)⟩
 ·rw [if_neg c2] at H
  have c2b0 : decide (2147483647 < (a0.size : Int)) = false := decide_eq_false c2
  have c2b1 : decide (2147483647 < a0.size) = false := decide_eq_false (by omega)
  clear c2
  by_cases c3 : (a0.size : Int) > 4096
  ·rw [if_pos c3] at H
   have c3b0 : decide (4096 < (a0.size : Int)) = true := decide_eq_true c3
   have c3b1 : decide (4096 < a0.size) = true := decide_eq_true (by omega)
   clear c3
   obtain rfl := Option.some.inj H
   go_enter Tryd.func3, Tryd.ntmps3
   go_wp2
   repeat (go_quiet (fail); try go_wp2)
   go_ret
   exact ⟨by first | rfl | (simp [errW_none, errW_some] <;> rfl) | (simp [*, errW_none, errW_some] <;> rfl) | (simp (disch := omega) only [wrap64_id] <;> rfl), by repeat (first | (with_reducible first | exact HB.out | apply below_alloc | apply pw_below_drewN | apply below_drew1) | exact HB.out)⟩
  ·rw [if_neg c3] at H
   have c3b0 : decide (4096 < (a0.size : Int)) = false := decide_eq_false c3
   have c3b1 : decide (4096 < a0.size) = false := decide_eq_false (by omega)
   clear c3
   replace H := Option.bind_eq_some_iff.mp H
   obtain ⟨⟨t191, t192⟩, A40, H⟩ := H
   replace H : (if t192 = true then (if (t191.length : Int) > 1 then (if 0 ≤ (wrap64 ((t191.length : Int) - 2)) then (if (wrap64 ((t191.length : Int) - 2)) < (t191.length : Int) then (if ((rd_T26 t191 (wrap64 ((t191.length : Int) - 2))).f0) = 13 then (if 0 ≤ (wrap64 ((a0.size : Int) - 1)) then (if (wrap64 ((a0.size : Int) - 1)) < (a0.size : Int) then (laws_FnVtTokens.j0 k a0 t191 (decide ((bt a0 (wrap64 ((a0.size : Int) - 1))) > 32))) else (none)) else (none)) else (laws_FnVtTokens.j0 k a0 t191 false)) else (none)) else (none)) else (laws_FnVtTokens.j0 k a0 t191 false)) else (laws_FnVtTokens.j0 k a0 t191 true)) = some r := H
   have A4 := Aside0.mk A40
   clear A40
   have HC5 := Aside0.mk H
   clear H
   go_enter Tryd.func3, Tryd.ntmps3
   go_upto_region 7 with (first | (go_at_call 5; (with_reducible refine (spec_Tokens.calls k a0 t191 t192 _ A4.out).mono ?_); rintro e w6 ⟨v193, rfl, ho0, hb⟩; have n0_ := Aside0.mk (Kd.R_lower ho0 (below_size (by repeat (first | (with_reducible first | exact HB.out | apply below_alloc | apply pw_below_drewN | apply below_drew1) | exact HB.out)))); have n1_ := Aside0.mk (below_step (by repeat (first | (with_reducible first | exact HB.out | apply below_alloc | apply pw_below_drewN | apply below_drew1) | exact HB.out)) hb); clear HB; have HO194 := n0_; have HB := n1_; clear n0_ n1_; (try clear hb); (try clear hb2); (try clear hk); (try clear hi); (try clear ho0); obtain ⟨Ao7, co7, eo7⟩ := Kd.R_slice HO194.out; subst eo7))
   repeat (go_quiet (first | (go_at_call 5; (with_reducible refine (spec_Tokens.calls k a0 t191 t192 _ A4.out).mono ?_); rintro e w6 ⟨v193, rfl, ho0, hb⟩; have n0_ := Aside0.mk (Kd.R_lower ho0 (below_size (by repeat (first | (with_reducible first | exact HB.out | apply below_alloc | apply pw_below_drewN | apply below_drew1) | exact HB.out)))); have n1_ := Aside0.mk (below_step (by repeat (first | (with_reducible first | exact HB.out | apply below_alloc | apply pw_below_drewN | apply below_drew1) | exact HB.out)) hb); clear HB; have HO194 := n0_; have HB := n1_; clear n0_ n1_; (try clear hb); (try clear hb2); (try clear hk); (try clear hi); (try clear ho0); obtain ⟨Ao7, co7, eo7⟩ := Kd.R_slice HO194.out; subst eo7)); go_upto_region 7 with (first | (go_at_call 5; (with_reducible refine (spec_Tokens.calls k a0 t191 t192 _ A4.out).mono ?_); rintro e w6 ⟨v193, rfl, ho0, hb⟩; have n0_ := Aside0.mk (Kd.R_lower ho0 (below_size (by repeat (first | (with_reducible first | exact HB.out | apply below_alloc | apply pw_below_drewN | apply below_drew1) | exact HB.out)))); have n1_ := Aside0.mk (below_step (by repeat (first | (with_reducible first | exact HB.out | apply below_alloc | apply pw_below_drewN | apply below_drew1) | exact HB.out)) hb); clear HB; have HO194 := n0_; have HB := n1_; clear n0_ n1_; (try clear hb); (try clear hb2); (try clear hk); (try clear hi); (try clear ho0); obtain ⟨Ao7, co7, eo7⟩ := Kd.R_slice HO194.out; subst eo7)))
   (try simp only [Act.put, List.setIfInBounds_toArray, List.set_cons_zero, List.set_cons_succ])
   go_cut [45] (fun v45 wc => ∃ (kq : Nat) (x45_4 : Bool), v45 = .bool x45_4 ∧ Aside0 (laws_FnVtTokens.j0 kq a0 t191 x45_4 = some r) ∧ Aside0 (kq ≤ k) ∧ Aside0 (Kd.R k26 26 wc w.heap.size (fun _ => True) (.slice Ao7 t191.length co7) t191) ∧ Aside0 (Below w.heap.size w wc))
   case first => as_aux_lemma =>
    have H := HC5.out
    clear HC5
    by_cases c8 : t192 = true
    ·subst c8
     have H1 : (if (t191.length : Int) > 1 then (if 0 ≤ (wrap64 ((t191.length : Int) - 2)) then (if (wrap64 ((t191.length : Int) - 2)) < (t191.length : Int) then (if ((rd_T26 t191 (wrap64 ((t191.length : Int) - 2))).f0) = 13 then (if 0 ≤ (wrap64 ((a0.size : Int) - 1)) then (if (wrap64 ((a0.size : Int) - 1)) < (a0.size : Int) then (laws_FnVtTokens.j0 k a0 t191 (decide ((bt a0 (wrap64 ((a0.size : Int) - 1))) > 32))) else (none)) else (none)) else (laws_FnVtTokens.j0 k a0 t191 false)) else (none)) else (none)) else (laws_FnVtTokens.j0 k a0 t191 false)) = some r := by rw [if_pos rfl] at H; exact H
     clear H
     have H := H1
     clear H1
     by_cases c9 : (t191.length : Int) > 1
     ·rw [if_pos c9] at H
      have c9b0 : decide (1 < (t191.length : Int)) = true := decide_eq_true c9
      have c9b1 : decide (1 < t191.length) = true := decide_eq_true (by omega)
      clear c9
      (first | rw [c9b0] | (simp only [i64_w, i32_w]; rw [c9b0]) | skip)
      obtain ⟨ji10, hji10⟩ : ∃ j_ : Int, (wrap64 ((t191.length : Int) - 2)) = j_ := ⟨_, rfl⟩
      replace H : (if 0 ≤ (ji10) then (if (ji10) < (t191.length : Int) then (if ((rd_T26 t191 (ji10)).f0) = 13 then (if 0 ≤ (wrap64 ((a0.size : Int) - 1)) then (if (wrap64 ((a0.size : Int) - 1)) < (a0.size : Int) then (laws_FnVtTokens.j0 k a0 t191 (decide ((bt a0 (wrap64 ((a0.size : Int) - 1))) > 32))) else (none)) else (none)) else (laws_FnVtTokens.j0 k a0 t191 false)) else (none)) else (none)) = some r := by first | (rw [hji10] at H; exact H) | (simp only [hji10] at H ⊢; exact H)
      have hji10w : (IntKind.i64.wrap ((t191.length : Int) - 2)) = ji10 := (i64_w _).trans hji10
      by_cases c11 : 0 ≤ (ji10)
      ·rw [if_pos c11] at H
       have c11b0 : decide (0 ≤ (ji10)) = true := decide_eq_true c11
       clear c11
       by_cases c12 : (ji10) < (t191.length : Int)
       ·rw [if_pos c12] at H
        have c12b0 : decide ((ji10) < (t191.length : Int)) = true := decide_eq_true c12
        clear c12
        by_cases c13 : ((rd_T26 t191 (ji10)).f0) = 13
        ·rw [if_pos c13] at H
         have c13b0 : (((rd_T26 t191 (ji10)).f0) == 13) = true := beq_iff_eq.mpr c13
         have c13b1 : (((rd_T26 t191 (ji10)).f0) != 13) = false := bne_eq_false_iff_eq.mpr c13
         clear c13
         obtain ⟨ji14, hji14⟩ : ∃ j_ : Int, (wrap64 ((a0.size : Int) - 1)) = j_ := ⟨_, rfl⟩
         replace H : (if 0 ≤ (ji14) then (if (ji14) < (a0.size : Int) then (laws_FnVtTokens.j0 k a0 t191 (decide ((bt a0 (ji14)) > 32))) else (none)) else (none)) = some r := by first | (rw [hji14] at H; exact H) | (simp only [hji14] at H ⊢; exact H)
         have hji14w : (IntKind.i64.wrap ((a0.size : Int) - 1)) = ji14 := (i64_w _).trans hji14
         by_cases c15 : 0 ≤ (ji14)
         ·rw [if_pos c15] at H
          have c15b0 : decide (0 ≤ (ji14)) = true := decide_eq_true c15
          clear c15
          by_cases c16 : (ji14) < (a0.size : Int)
          ·rw [if_pos c16] at H
           have c16b0 : decide ((ji14) < (a0.size : Int)) = true := decide_eq_true c16
           clear c16
           have H' := Aside0.mk H
           clear H
           have p195 : 0 ≤ ((ji10) : Int) := of_decide_eq_true (by first | (with_reducible assumption) | assumption)
           have q195 : (ji10) < (t191.length : Int) := of_decide_eq_true (by first | (with_reducible assumption) | assumption)
           obtain ⟨ad195, e195, hx195_0, hx195_1⟩ := at_T26 (Kd.R_reads' HO194.out).2.2 (ji10) p195 q195
           cases e195
           replace p195 := eq_true p195
           replace q195 := eq_true q195
           have p17 : 0 ≤ ((ji14) : Int) := of_decide_eq_true (by first | (with_reducible assumption) | assumption)
           have q17 : (ji14) < (a0.size : Int) := of_decide_eq_true (by first | (with_reducible assumption) | assumption)
           have hx17 := bt_at a0 (ji14)
           replace p17 := eq_true p17
           replace q17 := eq_true q17
           go_wp2
           repeat (go_quiet (fail); try go_wp2)
           go_meet
           case rel => exact ⟨_, (decide ((bt a0 (ji14)) > 32)), (by first | rfl | (simp; done) | (simp only [← hji14] <;> (first | rfl | simp)) | (simp [*]; done)), H', ⟨by first | omega | exact Nat.le_refl _⟩, ⟨by (with_reducible repeat (first | apply Kd.R_alloc | apply Kd.R_drewN | apply Kd.R_drew)); exact HO194.out⟩, ⟨by repeat (first | (with_reducible first | exact HB.out | apply below_alloc | apply pw_below_drewN | apply below_drew1) | exact HB.out)⟩⟩
          ·rw [if_neg c16] at H
           exact absurd H (by simp)
         ·rw [if_neg c15] at H
          exact absurd H (by simp)
        ·rw [if_neg c13] at H
         have c13b0 : (((rd_T26 t191 (ji10)).f0) == 13) = false := beq_eq_false_iff_ne.mpr c13
         have c13b1 : (((rd_T26 t191 (ji10)).f0) != 13) = true := bne_iff_ne.mpr c13
         have H' := Aside0.mk H
         clear H
         have p195 : 0 ≤ ((ji10) : Int) := of_decide_eq_true (by first | (with_reducible assumption) | assumption)
         have q195 : (ji10) < (t191.length : Int) := of_decide_eq_true (by first | (with_reducible assumption) | assumption)
         obtain ⟨ad195, e195, hx195_0, hx195_1⟩ := at_T26 (Kd.R_reads' HO194.out).2.2 (ji10) p195 q195
         cases e195
         replace p195 := eq_true p195
         replace q195 := eq_true q195
         go_wp2
         repeat (go_quiet (fail); try go_wp2)
         go_meet
         case rel => exact ⟨_, (false), (by first | rfl | (simp; done) | (simp [*]; done)), H', ⟨by first | omega | exact Nat.le_refl _⟩, ⟨by (with_reducible repeat (first | apply Kd.R_alloc | apply Kd.R_drewN | apply Kd.R_drew)); exact HO194.out⟩, ⟨by repeat (first | (with_reducible first | exact HB.out | apply below_alloc | apply pw_below_drewN | apply below_drew1) | exact HB.out)⟩⟩
       ·rw [if_neg c12] at H
        exact absurd H (by simp)
      ·rw [if_neg c11] at H
       exact absurd H (by simp)
     ·rw [if_neg c9] at H
      have c9b0 : decide (1 < (t191.length : Int)) = false := decide_eq_false c9
      have c9b1 : decide (1 < t191.length) = false := decide_eq_false (by omega)
      clear c9
      (first | rw [c9b0] | (simp only [i64_w, i32_w]; rw [c9b0]) | skip)
      have H' := Aside0.mk H
      clear H
      go_wp2
      repeat (go_quiet (fail); try go_wp2)
      go_meet
      case rel => exact ⟨_, (false), (by first | rfl | (simp; done) | (simp [*]; done)), H', ⟨by first | omega | exact Nat.le_refl _⟩, ⟨by (with_reducible repeat (first | apply Kd.R_alloc | apply Kd.R_drewN | apply Kd.R_drew)); exact HO194.out⟩, ⟨by repeat (first | (with_reducible first | exact HB.out | apply below_alloc | apply pw_below_drewN | apply below_drew1) | exact HB.out)⟩⟩
    ·replace c8 := Bool.eq_false_iff.mpr c8
     subst c8
     have H1 : (laws_FnVtTokens.j0 k a0 t191 true) = some r := by rw [if_neg (show ¬ (false = true) by decide)] at H; exact H
     clear H
     have H := H1
     clear H1
     have H' := Aside0.mk H
     clear H
     go_wp2
     repeat (go_quiet (fail); try go_wp2)
     go_meet
     case rel => exact ⟨_, (true), (by first | rfl | (simp; done) | (simp [*]; done)), H', ⟨by first | omega | exact Nat.le_refl _⟩, ⟨by (with_reducible repeat (first | apply Kd.R_alloc | apply Kd.R_drewN | apply Kd.R_drew)); exact HO194.out⟩, ⟨by repeat (first | (with_reducible first | exact HB.out | apply below_alloc | apply pw_below_drewN | apply below_drew1) | exact HB.out)⟩⟩
   case rest => as_aux_lemma =>
    clear HC5
    try clear c1
    try clear p1
    try clear q1
    try clear hx1
    try clear c2
    try clear c2b0
    try clear c2b1
    try clear p2
    try clear c3
    try clear c3b0
    try clear c3b1
    try clear p6
    try clear c8
    try clear c9
    try clear c9b0
    try clear c9b1
    try clear c11
    try clear c11b0
    try clear c12
    try clear c12b0
    try clear c13
    try clear c13b0
    try clear c13b1
    try clear c15
    try clear c15b0
    try clear c16
    try clear c16b0
    try clear p17
    try clear q17
    try clear hx17
    try clear hx195_0
    try clear hx195_1
    try clear p17
    try clear p195
    try clear q17
    try clear q195
    obtain ⟨kq, x45_4, rfl, HA, HJ4, HO_3, HB⟩ := hcut
    cases kq with
    | zero => exact absurd HA.out (by simp [laws_FnVtTokens.j0])
    | succ kj4 =>
     have H := HA.out
     clear HA
     simp only [laws_FnVtTokens.j0] at H
     by_cases c18 : x45_4 = true
     ·subst c18
      have H1 : (some true) = some r := by rw [if_pos rfl] at H; exact H
      clear H
      have H := H1
      clear H1
      obtain rfl := Option.some.inj H
      go_wp2
      repeat (go_quiet (fail); try go_wp2)
      go_ret
      exact ⟨by first | rfl | (simp [errW_none, errW_some] <;> rfl) | (simp [*, errW_none, errW_some] <;> rfl) | (simp (disch := omega) only [wrap64_id] <;> rfl), by repeat (first | (with_reducible first | exact HB.out | apply below_alloc | apply pw_below_drewN | apply below_drew1) | exact HB.out)⟩
     ·replace c18 := Bool.eq_false_iff.mpr c18
      subst c18
      have H1 : ((impl_VtTokens.f kj4 a0).bind fun bt196 => (if (bt196.1.length : Int) = (t191.length : Int) then (laws_FnVtTokens.j1 kj4 t191 bt196.1 bt196.2 ((bt196.2.length : Int) != (t191.length : Int))) else (laws_FnVtTokens.j1 kj4 t191 bt196.1 bt196.2 true))) = some r := by rw [if_neg (show ¬ (false = true) by decide)] at H; exact H
      clear H
      have H := H1
      clear H1
      replace H := Option.bind_eq_some_iff.mp H
      obtain ⟨⟨t196, t197⟩, A190, H⟩ := H
      replace H : (if (t196.length : Int) = (t191.length : Int) then (laws_FnVtTokens.j1 kj4 t191 t196 t197 ((t197.length : Int) != (t191.length : Int))) else (laws_FnVtTokens.j1 kj4 t191 t196 t197 true)) = some r := H
      have A19 := Aside0.mk A190
      clear A190
      have HC20 := Aside0.mk H
      clear H
      go_upto_region 10 with (first | (go_at_call 6; (with_reducible refine (impl_VtTokens.calls kj4 a0 t196 t197 _ (utabs_up HTT.out (by repeat (first | (with_reducible first | exact HB.out | apply below_alloc | apply pw_below_drewN | apply below_drew1) | exact HB.out))) A19.out).mono ?_); rintro e w21 ⟨v198, v200, rfl, ho0, ho1, hb⟩; have n0_ := Aside0.mk (Kd.R_below (by (with_reducible repeat (first | apply Kd.R_alloc | apply Kd.R_drewN | apply Kd.R_drew)); exact HO_3.out) hb); have n1_ := Aside0.mk (Kd.R_lower ho0 (below_size (by repeat (first | (with_reducible first | exact HB.out | apply below_alloc | apply pw_below_drewN | apply below_drew1) | exact HB.out)))); have n2_ := Aside0.mk (Kd.R_lower ho1 (below_size (by repeat (first | (with_reducible first | exact HB.out | apply below_alloc | apply pw_below_drewN | apply below_drew1) | exact HB.out)))); have n3_ := Aside0.mk (below_step (by repeat (first | (with_reducible first | exact HB.out | apply below_alloc | apply pw_below_drewN | apply below_drew1) | exact HB.out)) hb); clear HO_3; clear HB; have HO_3 := n0_; have HO199 := n1_; have HO201 := n2_; have HB := n3_; clear n0_ n1_ n2_ n3_; (try clear hb); (try clear hb2); (try clear hk); (try clear hi); (try clear ho0); (try clear ho1)))
      repeat (go_quiet (first | (go_at_call 6; (with_reducible refine (impl_VtTokens.calls kj4 a0 t196 t197 _ (utabs_up HTT.out (by repeat (first | (with_reducible first | exact HB.out | apply below_alloc | apply pw_below_drewN | apply below_drew1) | exact HB.out))) A19.out).mono ?_); rintro e w21 ⟨v198, v200, rfl, ho0, ho1, hb⟩; have n0_ := Aside0.mk (Kd.R_below (by (with_reducible repeat (first | apply Kd.R_alloc | apply Kd.R_drewN | apply Kd.R_drew)); exact HO_3.out) hb); have n1_ := Aside0.mk (Kd.R_lower ho0 (below_size (by repeat (first | (with_reducible first | exact HB.out | apply below_alloc | apply pw_below_drewN | apply below_drew1) | exact HB.out)))); have n2_ := Aside0.mk (Kd.R_lower ho1 (below_size (by repeat (first | (with_reducible first | exact HB.out | apply below_alloc | apply pw_below_drewN | apply below_drew1) | exact HB.out)))); have n3_ := Aside0.mk (below_step (by repeat (first | (with_reducible first | exact HB.out | apply below_alloc | apply pw_below_drewN | apply below_drew1) | exact HB.out)) hb); clear HO_3; clear HB; have HO_3 := n0_; have HO199 := n1_; have HO201 := n2_; have HB := n3_; clear n0_ n1_ n2_ n3_; (try clear hb); (try clear hb2); (try clear hk); (try clear hi); (try clear ho0); (try clear ho1))); go_upto_region 10 with (first | (go_at_call 6; (with_reducible refine (impl_VtTokens.calls kj4 a0 t196 t197 _ (utabs_up HTT.out (by repeat (first | (with_reducible first | exact HB.out | apply below_alloc | apply pw_below_drewN | apply below_drew1) | exact HB.out))) A19.out).mono ?_); rintro e w21 ⟨v198, v200, rfl, ho0, ho1, hb⟩; have n0_ := Aside0.mk (Kd.R_below (by (with_reducible repeat (first | apply Kd.R_alloc | apply Kd.R_drewN | apply Kd.R_drew)); exact HO_3.out) hb); have n1_ := Aside0.mk (Kd.R_lower ho0 (below_size (by repeat (first | (with_reducible first | exact HB.out | apply below_alloc | apply pw_below_drewN | apply below_drew1) | exact HB.out)))); have n2_ := Aside0.mk (Kd.R_lower ho1 (below_size (by repeat (first | (with_reducible first | exact HB.out | apply below_alloc | apply pw_below_drewN | apply below_drew1) | exact HB.out)))); have n3_ := Aside0.mk (below_step (by repeat (first | (with_reducible first | exact HB.out | apply below_alloc | apply pw_below_drewN | apply below_drew1) | exact HB.out)) hb); clear HO_3; clear HB; have HO_3 := n0_; have HO199 := n1_; have HO201 := n2_; have HB := n3_; clear n0_ n1_ n2_ n3_; (try clear hb); (try clear hb2); (try clear hk); (try clear hi); (try clear ho0); (try clear ho1))))
      (try simp only [Act.put, List.setIfInBounds_toArray, List.set_cons_zero, List.set_cons_succ])
      go_cut [62] (fun v62 wc => ∃ (kq : Nat) (x62_19 : Bool), v62 = .bool x62_19 ∧ Aside0 (laws_FnVtTokens.j1 kq t191 t196 t197 x62_19 = some r) ∧ Aside0 (kq ≤ kj4) ∧ Aside0 (Kd.R k26 26 wc w.heap.size (fun _ => True) (.slice Ao7 t191.length co7) t191) ∧ Aside0 (Kd.R (Kd.int .i64) 3 wc w.heap.size (fun _ => True) v198 t196) ∧ Aside0 (Kd.R Kd.string 9 wc w.heap.size (fun _ => True) v200 t197) ∧ Aside0 (Below w.heap.size w wc))
      case first => as_aux_lemma =>
       have H := HC20.out
       clear HC20
       by_cases c22 : (t196.length : Int) = (t191.length : Int)
       ·rw [if_pos c22] at H
        have c22b0 : ((t196.length : Int) == (t191.length : Int)) = true := beq_iff_eq.mpr c22
        have c22b1 : ((t196.length : Int) != (t191.length : Int)) = false := bne_eq_false_iff_eq.mpr c22
        have c22b2 : (t196.length == t191.length) = true := by first | simpa using c22 | (simp at c22 ⊢; omega)
        clear c22
        (first | rw [c22b0] | (simp only [i64_w, i32_w]; rw [c22b0]) | skip)
        have H' := Aside0.mk H
        clear H
        obtain ⟨Ao23, co23, eo23⟩ := Kd.R_slice HO199.out
        subst eo23
        obtain ⟨Ao24, co24, eo24⟩ := Kd.R_slice HO201.out
        subst eo24
        go_wp2
        repeat (go_quiet (fail); try go_wp2)
        go_meet
        case rel => exact ⟨_, (((t197.length : Int) != (t191.length : Int))), (by first | rfl | (simp; done) | (simp [*]; done)), H', ⟨by have := HJ4.out; first | omega | exact Nat.le_refl _⟩, ⟨by (with_reducible repeat (first | apply Kd.R_alloc | apply Kd.R_drewN | apply Kd.R_drew)); exact HO_3.out⟩, ⟨by (with_reducible repeat (first | apply Kd.R_alloc | apply Kd.R_drewN | apply Kd.R_drew)); exact HO199.out⟩, ⟨by (with_reducible repeat (first | apply Kd.R_alloc | apply Kd.R_drewN | apply Kd.R_drew)); exact HO201.out⟩, ⟨by repeat (first | (with_reducible first | exact HB.out | apply below_alloc | apply pw_below_drewN | apply below_drew1) | exact HB.out)⟩⟩
       ·rw [if_neg c22] at H
        have c22b0 : ((t196.length : Int) == (t191.length : Int)) = false := beq_eq_false_iff_ne.mpr c22
        have c22b1 : ((t196.length : Int) != (t191.length : Int)) = true := bne_iff_ne.mpr c22
        have c22b2 : (t196.length == t191.length) = false := by first | simpa using c22 | (simp at c22 ⊢; omega)
        (first | rw [c22b0] | (simp only [i64_w, i32_w]; rw [c22b0]) | skip)
        have H' := Aside0.mk H
        clear H
        obtain ⟨Ao25, co25, eo25⟩ := Kd.R_slice HO199.out
        subst eo25
        go_wp2
        repeat (go_quiet (fail); try go_wp2)
        go_meet
        case rel => exact ⟨_, (true), (by first | rfl | (simp; done) | (simp [*]; done)), H', ⟨by have := HJ4.out; first | omega | exact Nat.le_refl _⟩, ⟨by (with_reducible repeat (first | apply Kd.R_alloc | apply Kd.R_drewN | apply Kd.R_drew)); exact HO_3.out⟩, ⟨by (with_reducible repeat (first | apply Kd.R_alloc | apply Kd.R_drewN | apply Kd.R_drew)); exact HO199.out⟩, ⟨by (with_reducible repeat (first | apply Kd.R_alloc | apply Kd.R_drewN | apply Kd.R_drew)); exact HO201.out⟩, ⟨by repeat (first | (with_reducible first | exact HB.out | apply below_alloc | apply pw_below_drewN | apply below_drew1) | exact HB.out)⟩⟩
      case rest => as_aux_lemma =>
       clear HC20
       try clear c1
       try clear p1
       try clear q1
       try clear hx1
       try clear c2
       try clear c2b0
       try clear c2b1
       try clear p2
       try clear c3
       try clear c3b0
       try clear c3b1
       try clear p6
       try clear c8
       try clear c9
       try clear c9b0
       try clear c9b1
       try clear c11
       try clear c11b0
       try clear c12
       try clear c12b0
       try clear c13
       try clear c13b0
       try clear c13b1
       try clear c15
       try clear c15b0
       try clear c16
       try clear c16b0
       try clear p17
       try clear q17
       try clear hx17
       try clear c18
       try clear p19
       try clear q19
       try clear hx19
       try clear c22
       try clear c22b0
       try clear c22b1
       try clear c22b2
       try clear hx195_0
       try clear hx195_1
       try clear p1
       try clear p17
       try clear p195
       try clear p2
       try clear p6
       try clear q1
       try clear q17
       try clear q195
       obtain ⟨kq, x62_19, rfl, HA, HJ19, HO_3, HO_6, HO_7, HB⟩ := hcut
       cases kq with
       | zero => exact absurd HA.out (by simp [laws_FnVtTokens.j1])
       | succ kj19 =>
        have H := HA.out
        clear HA
        simp only [laws_FnVtTokens.j1] at H
        by_cases c26 : x62_19 = true
        ·subst c26
         have H1 : (some false) = some r := by rw [if_pos rfl] at H; exact H
         clear H
         have H := H1
         clear H1
         obtain rfl := Option.some.inj H
         go_wp2
         repeat (go_quiet (fail); try go_wp2)
         go_ret
         exact ⟨by first | rfl | (simp [errW_none, errW_some] <;> rfl) | (simp [*, errW_none, errW_some] <;> rfl) | (simp (disch := omega) only [wrap64_id] <;> rfl), by repeat (first | (with_reducible first | exact HB.out | apply below_alloc | apply pw_below_drewN | apply below_drew1) | exact HB.out)⟩
        ·replace c26 := Bool.eq_false_iff.mpr c26
         subst c26
         have H1 : (laws_FnVtTokens.l0 kj19 t196 t197 t191 (t191.length : Int) 0) = some r := by rw [if_neg (show ¬ (false = true) by decide)] at H; exact H
         clear H
         have H := H1
         clear H1
         have H' := Aside0.mk H
         clear H
         go_wp2
         repeat (go_quiet (fail); try go_wp2)
         go_loopg [65] kj19 (fun kq v65 w' => ∃ (x65_3 : Int), v65 = .int .i64 x65_3 ∧ Aside0 (laws_FnVtTokens.l0 kq t196 t197 t191 (t191.length : Int) x65_3 = some r) ∧ Aside0 (kq ≤ kj19) ∧ Aside0 (Kd.R (Kd.int .i64) 3 w' w.heap.size (fun _ => True) v198 t196) ∧ Aside0 (Kd.R Kd.string 9 w' w.heap.size (fun _ => True) v200 t197) ∧ Aside0 (Kd.R k26 26 w' w.heap.size (fun _ => True) (.slice Ao7 t191.length co7) t191) ∧ Aside0 (Below w.heap.size w w'))
         case atStart => exact ⟨(0), (by first | rfl | (simp; done) | (simp [*]; done)), H', ⟨Nat.le_refl _⟩, ⟨by (with_reducible repeat (first | apply Kd.R_alloc | apply Kd.R_drewN | apply Kd.R_drew)); exact HO_6.out⟩, ⟨by (with_reducible repeat (first | apply Kd.R_alloc | apply Kd.R_drewN | apply Kd.R_drew)); exact HO_7.out⟩, ⟨by (with_reducible repeat (first | apply Kd.R_alloc | apply Kd.R_drewN | apply Kd.R_drew)); exact HO_3.out⟩, ⟨by repeat (first | (with_reducible first | exact HB.out | apply below_alloc | apply pw_below_drewN | apply below_drew1) | exact HB.out)⟩⟩
         case round => as_aux_lemma =>
          clear H'
          try clear c1
          try clear p1
          try clear q1
          try clear hx1
          try clear c2
          try clear c2b0
          try clear c2b1
          try clear p2
          try clear c3
          try clear c3b0
          try clear c3b1
          try clear p6
          try clear c8
          try clear c9
          try clear c9b0
          try clear c9b1
          try clear c11
          try clear c11b0
          try clear c12
          try clear c12b0
          try clear c13
          try clear c13b0
          try clear c13b1
          try clear c15
          try clear c15b0
          try clear c16
          try clear c16b0
          try clear p17
          try clear q17
          try clear hx17
          try clear c18
          try clear p19
          try clear q19
          try clear hx19
          try clear c22
          try clear c22b0
          try clear c22b1
          try clear c22b2
          try clear c26
          try clear hx195_0
          try clear hx195_1
          try clear p1
          try clear p17
          try clear p19
          try clear p195
          try clear p2
          try clear p6
          try clear q1
          try clear q17
          try clear q19
          try clear q195
          obtain ⟨x65_3, rfl, HA, HK3, HO_6, HO_7, HO_63, HB⟩ := hrel
          cases gk with
          | zero => exact absurd HA.out (by simp [laws_FnVtTokens.l0])
          | succ k3 =>
           have H := HA.out
           clear HA
           simp only [laws_FnVtTokens.l0] at H
           by_cases c27 : x65_3 < (t191.length : Int)
           ·rw [if_pos c27] at H
            have c27b0 : decide (x65_3 < (t191.length : Int)) = true := decide_eq_true c27
            clear c27
            by_cases c28 : 0 ≤ x65_3
            ·rw [if_pos c28] at H
             have c28b0 : decide (0 ≤ x65_3) = true := decide_eq_true c28
             clear c28
             by_cases c29 : x65_3 < (t191.length : Int)
             ·rw [if_pos c29] at H
              have c29b0 : decide (x65_3 < (t191.length : Int)) = true := decide_eq_true c29
              clear c29
              by_cases c30 : x65_3 < (t196.length : Int)
              ·rw [if_pos c30] at H
               have c30b0 : decide (x65_3 < (t196.length : Int)) = true := decide_eq_true c30
               clear c30
               by_cases c31 : (rd t196 x65_3) = ((rd_T26 t191 x65_3).f0)
               ·rw [if_pos c31] at H
                have c31b0 : ((rd t196 x65_3) == ((rd_T26 t191 x65_3).f0)) = true := beq_iff_eq.mpr c31
                have c31b1 : ((rd t196 x65_3) != ((rd_T26 t191 x65_3).f0)) = false := bne_eq_false_iff_eq.mpr c31
                clear c31
                by_cases c32 : ((rd_T26 t191 x65_3).f0) = 1
                ·rw [if_pos c32] at H
                 have c32b0 : (((rd_T26 t191 x65_3).f0) == 1) = true := beq_iff_eq.mpr c32
                 have c32b1 : (((rd_T26 t191 x65_3).f0) != 1) = false := bne_eq_false_iff_eq.mpr c32
                 clear c32
                 have H' := Aside0.mk H
                 clear H
                 have p202 : 0 ≤ (x65_3 : Int) := of_decide_eq_true (by first | (with_reducible assumption) | assumption)
                 have q202 : x65_3 < (t191.length : Int) := of_decide_eq_true (by first | (with_reducible assumption) | assumption)
                 obtain ⟨ad202, e202, hx202_0, hx202_1⟩ := at_T26 (Kd.R_reads' HO_63.out).2.2 x65_3 p202 q202
                 cases e202
                 replace p202 := eq_true p202
                 replace q202 := eq_true q202
                 go_wp2_with (first | ((with_reducible refine gate_dst (N := 9) rfl ?_); (try (refine gate_guard (by rfl) ?_; dsimp only)); refine box_event ?hg (N := 9) ?hd (cs := #[.int .i64 0, .string (⟨#[]⟩ : ByteArray)]) (t := 26) ?hr ?_; (case hd => rfl); (case hg => rfl); (case hr => first | (go_simp; done) | (go_simp; rfl)); intro gb203 hg w33 hbox hb; have n0_ := Aside0.mk (Kd.R_below (by (with_reducible repeat (first | apply Kd.R_alloc | apply Kd.R_drewN | apply Kd.R_drew)); exact HO_6.out) hb); have n1_ := Aside0.mk (Kd.R_below (by (with_reducible repeat (first | apply Kd.R_alloc | apply Kd.R_drewN | apply Kd.R_drew)); exact HO_7.out) hb); have n2_ := Aside0.mk (Kd.R_below (Kd.R_elderB (by (with_reducible repeat (first | apply Kd.R_alloc | apply Kd.R_drewN | apply Kd.R_drew)); exact HO_63.out) gb203 (Nat.le_of_eq hg.symm)) hb); have n3_ := Aside0.mk (below_step (by repeat (first | (with_reducible first | exact HB.out | apply below_alloc | apply pw_below_drewN | apply below_drew1) | exact HB.out)) hb); have n4_ := Aside0.mk (hbox); have n5_ := Aside0.mk ((by rw [hg]; exact (below_size (by repeat (first | (with_reducible first | exact HB.out | apply below_alloc | apply pw_below_drewN | apply below_drew1) | exact HB.out))) : w.heap.size ≤ gb203)); have n6_ := Aside0.mk ((by rw [hg]; exact (below_size (by repeat (first | (with_reducible first | exact HB.out | apply below_alloc | apply pw_below_drewN | apply below_drew1) | exact HB.out))) : w.heap.size ≤ gb203)); clear HO_6; clear HO_7; clear HO_63; clear HB; have HO_6 := n0_; have HO_7 := n1_; have HO_63 := n2_; have HB := n3_; have BK203 := n4_; have GW203 := n5_; have GE203 := n6_; clear n0_ n1_ n2_ n3_ n4_ n5_ n6_; clear hb hbox hg; have hcz34_0 : w33.cell? ⟨gb203, 0, none⟩ = some (.int .i64 0) := (blk_cell BK203.out 0).trans rfl; have hcz34_1 : w33.cell? ⟨gb203, 1, none⟩ = some (.string (⟨#[]⟩ : ByteArray)) := (blk_cell BK203.out 1).trans rfl; have hfz34_0 := blk_frozen BK203.out 0; have hfz34_1 := blk_frozen BK203.out 1; obtain ⟨Ao35, co35, eo35⟩ := Kd.R_slice HO_6.out; subst eo35; have p204 : 0 ≤ (x65_3 : Int) := of_decide_eq_true (by first | (with_reducible assumption) | assumption); have q204 : x65_3 < (t196.length : Int) := of_decide_eq_true (by first | (with_reducible assumption) | assumption); obtain ⟨ad204, e204, hx204_0⟩ := Kd.at_int (Kd.R_reads' HO_6.out).2.2 x65_3 p204 q204; cases e204; have hn204_0 : ad204.block ≠ gb203 := Kd.own_blk (Kd.R_ne HO_6.out BK203.out (by decide)); have hn204_1 : ad204.block ≠ gb203 := Kd.own_blk (Kd.R_ne HO_6.out BK203.out (by decide)); replace hx204_0 := (cell_far (p := ⟨gb203, 0, none⟩) (by first | (rw [add_block]; exact hn204_0) | (show (Addr.add _ _).block ≠ _; rw [add_block]; exact hn204_0) | exact hn204_0) (.int .i64 ((rd_T26 t191 x65_3).f0))).trans hx204_0; replace hx204_0 := (cell_far (p := ⟨gb203, 1, none⟩) (by first | (rw [add_block]; exact hn204_1) | (show (Addr.add _ _).block ≠ _; rw [add_block]; exact hn204_1) | exact hn204_1) (.string ((rd_T26 t191 x65_3).f1))).trans hx204_0; (try have hy204_0 := fun (n_ : Nat) => (show ((((w33.drewN n_).setCell ⟨gb203, 0, none⟩ (.int .i64 ((rd_T26 t191 x65_3).f0))).setCell ⟨gb203, 1, none⟩ (.string ((rd_T26 t191 x65_3).f1)))).cell? _ = some _ from hx204_0)); clear hn204_0; clear hn204_1; replace p204 := eq_true p204; replace q204 := eq_true q204))
                 repeat (go_quiet (first | ((with_reducible refine gate_dst (N := 9) rfl ?_); (try (refine gate_guard (by rfl) ?_; dsimp only)); refine box_event ?hg (N := 9) ?hd (cs := #[.int .i64 0, .string (⟨#[]⟩ : ByteArray)]) (t := 26) ?hr ?_; (case hd => rfl); (case hg => rfl); (case hr => first | (go_simp; done) | (go_simp; rfl)); intro gb203 hg w33 hbox hb; have n0_ := Aside0.mk (Kd.R_below (by (with_reducible repeat (first | apply Kd.R_alloc | apply Kd.R_drewN | apply Kd.R_drew)); exact HO_6.out) hb); have n1_ := Aside0.mk (Kd.R_below (by (with_reducible repeat (first | apply Kd.R_alloc | apply Kd.R_drewN | apply Kd.R_drew)); exact HO_7.out) hb); have n2_ := Aside0.mk (Kd.R_below (Kd.R_elderB (by (with_reducible repeat (first | apply Kd.R_alloc | apply Kd.R_drewN | apply Kd.R_drew)); exact HO_63.out) gb203 (Nat.le_of_eq hg.symm)) hb); have n3_ := Aside0.mk (below_step (by repeat (first | (with_reducible first | exact HB.out | apply below_alloc | apply pw_below_drewN | apply below_drew1) | exact HB.out)) hb); have n4_ := Aside0.mk (hbox); have n5_ := Aside0.mk ((by rw [hg]; exact (below_size (by repeat (first | (with_reducible first | exact HB.out | apply below_alloc | apply pw_below_drewN | apply below_drew1) | exact HB.out))) : w.heap.size ≤ gb203)); have n6_ := Aside0.mk ((by rw [hg]; exact (below_size (by repeat (first | (with_reducible first | exact HB.out | apply below_alloc | apply pw_below_drewN | apply below_drew1) | exact HB.out))) : w.heap.size ≤ gb203)); clear HO_6; clear HO_7; clear HO_63; clear HB; have HO_6 := n0_; have HO_7 := n1_; have HO_63 := n2_; have HB := n3_; have BK203 := n4_; have GW203 := n5_; have GE203 := n6_; clear n0_ n1_ n2_ n3_ n4_ n5_ n6_; clear hb hbox hg; have hcz34_0 : w33.cell? ⟨gb203, 0, none⟩ = some (.int .i64 0) := (blk_cell BK203.out 0).trans rfl; have hcz34_1 : w33.cell? ⟨gb203, 1, none⟩ = some (.string (⟨#[]⟩ : ByteArray)) := (blk_cell BK203.out 1).trans rfl; have hfz34_0 := blk_frozen BK203.out 0; have hfz34_1 := blk_frozen BK203.out 1; obtain ⟨Ao35, co35, eo35⟩ := Kd.R_slice HO_6.out; subst eo35; have p204 : 0 ≤ (x65_3 : Int) := of_decide_eq_true (by first | (with_reducible assumption) | assumption); have q204 : x65_3 < (t196.length : Int) := of_decide_eq_true (by first | (with_reducible assumption) | assumption); obtain ⟨ad204, e204, hx204_0⟩ := Kd.at_int (Kd.R_reads' HO_6.out).2.2 x65_3 p204 q204; cases e204; have hn204_0 : ad204.block ≠ gb203 := Kd.own_blk (Kd.R_ne HO_6.out BK203.out (by decide)); have hn204_1 : ad204.block ≠ gb203 := Kd.own_blk (Kd.R_ne HO_6.out BK203.out (by decide)); replace hx204_0 := (cell_far (p := ⟨gb203, 0, none⟩) (by first | (rw [add_block]; exact hn204_0) | (show (Addr.add _ _).block ≠ _; rw [add_block]; exact hn204_0) | exact hn204_0) (.int .i64 ((rd_T26 t191 x65_3).f0))).trans hx204_0; replace hx204_0 := (cell_far (p := ⟨gb203, 1, none⟩) (by first | (rw [add_block]; exact hn204_1) | (show (Addr.add _ _).block ≠ _; rw [add_block]; exact hn204_1) | exact hn204_1) (.string ((rd_T26 t191 x65_3).f1))).trans hx204_0; (try have hy204_0 := fun (n_ : Nat) => (show ((((w33.drewN n_).setCell ⟨gb203, 0, none⟩ (.int .i64 ((rd_T26 t191 x65_3).f0))).setCell ⟨gb203, 1, none⟩ (.string ((rd_T26 t191 x65_3).f1)))).cell? _ = some _ from hx204_0)); clear hn204_0; clear hn204_1; replace p204 := eq_true p204; replace q204 := eq_true q204)); try go_wp2_with (first | ((with_reducible refine gate_dst (N := 9) rfl ?_); (try (refine gate_guard (by rfl) ?_; dsimp only)); refine box_event ?hg (N := 9) ?hd (cs := #[.int .i64 0, .string (⟨#[]⟩ : ByteArray)]) (t := 26) ?hr ?_; (case hd => rfl); (case hg => rfl); (case hr => first | (go_simp; done) | (go_simp; rfl)); intro gb203 hg w33 hbox hb; have n0_ := Aside0.mk (Kd.R_below (by (with_reducible repeat (first | apply Kd.R_alloc | apply Kd.R_drewN | apply Kd.R_drew)); exact HO_6.out) hb); have n1_ := Aside0.mk (Kd.R_below (by (with_reducible repeat (first | apply Kd.R_alloc | apply Kd.R_drewN | apply Kd.R_drew)); exact HO_7.out) hb); have n2_ := Aside0.mk (Kd.R_below (Kd.R_elderB (by (with_reducible repeat (first | apply Kd.R_alloc | apply Kd.R_drewN | apply Kd.R_drew)); exact HO_63.out) gb203 (Nat.le_of_eq hg.symm)) hb); have n3_ := Aside0.mk (below_step (by repeat (first | (with_reducible first | exact HB.out | apply below_alloc | apply pw_below_drewN | apply below_drew1) | exact HB.out)) hb); have n4_ := Aside0.mk (hbox); have n5_ := Aside0.mk ((by rw [hg]; exact (below_size (by repeat (first | (with_reducible first | exact HB.out | apply below_alloc | apply pw_below_drewN | apply below_drew1) | exact HB.out))) : w.heap.size ≤ gb203)); have n6_ := Aside0.mk ((by rw [hg]; exact (below_size (by repeat (first | (with_reducible first | exact HB.out | apply below_alloc | apply pw_below_drewN | apply below_drew1) | exact HB.out))) : w.heap.size ≤ gb203)); clear HO_6; clear HO_7; clear HO_63; clear HB; have HO_6 := n0_; have HO_7 := n1_; have HO_63 := n2_; have HB := n3_; have BK203 := n4_; have GW203 := n5_; have GE203 := n6_; clear n0_ n1_ n2_ n3_ n4_ n5_ n6_; clear hb hbox hg; have hcz34_0 : w33.cell? ⟨gb203, 0, none⟩ = some (.int .i64 0) := (blk_cell BK203.out 0).trans rfl; have hcz34_1 : w33.cell? ⟨gb203, 1, none⟩ = some (.string (⟨#[]⟩ : ByteArray)) := (blk_cell BK203.out 1).trans rfl; have hfz34_0 := blk_frozen BK203.out 0; have hfz34_1 := blk_frozen BK203.out 1; obtain ⟨Ao35, co35, eo35⟩ := Kd.R_slice HO_6.out; subst eo35; have p204 : 0 ≤ (x65_3 : Int) := of_decide_eq_true (by first | (with_reducible assumption) | assumption); have q204 : x65_3 < (t196.length : Int) := of_decide_eq_true (by first | (with_reducible assumption) | assumption); obtain ⟨ad204, e204, hx204_0⟩ := Kd.at_int (Kd.R_reads' HO_6.out).2.2 x65_3 p204 q204; cases e204; have hn204_0 : ad204.block ≠ gb203 := Kd.own_blk (Kd.R_ne HO_6.out BK203.out (by decide)); have hn204_1 : ad204.block ≠ gb203 := Kd.own_blk (Kd.R_ne HO_6.out BK203.out (by decide)); replace hx204_0 := (cell_far (p := ⟨gb203, 0, none⟩) (by first | (rw [add_block]; exact hn204_0) | (show (Addr.add _ _).block ≠ _; rw [add_block]; exact hn204_0) | exact hn204_0) (.int .i64 ((rd_T26 t191 x65_3).f0))).trans hx204_0; replace hx204_0 := (cell_far (p := ⟨gb203, 1, none⟩) (by first | (rw [add_block]; exact hn204_1) | (show (Addr.add _ _).block ≠ _; rw [add_block]; exact hn204_1) | exact hn204_1) (.string ((rd_T26 t191 x65_3).f1))).trans hx204_0; (try have hy204_0 := fun (n_ : Nat) => (show ((((w33.drewN n_).setCell ⟨gb203, 0, none⟩ (.int .i64 ((rd_T26 t191 x65_3).f0))).setCell ⟨gb203, 1, none⟩ (.string ((rd_T26 t191 x65_3).f1)))).cell? _ = some _ from hx204_0)); clear hn204_0; clear hn204_1; replace p204 := eq_true p204; replace q204 := eq_true q204)))
                 go_roundg k3
                 case measure => have := HJ4.out; have := HJ19.out; have := HK3.out; omega
                 case rel => exact ⟨(wrap64 (x65_3 + 1)), (by first | rfl | (simp; done) | (simp [*]; done)), H', ⟨by have := HJ4.out; have := HJ19.out; have := HK3.out; omega⟩, ⟨by (with_reducible repeat (first | apply Kd.R_alloc | apply Kd.R_drewN | apply Kd.R_drew)); exact Kd.R_mono (Kd.R_far (p := ⟨gb203, 1, none⟩) (Kd.R_far (p := ⟨gb203, 0, none⟩) (Kd.R_types HO_6.out BK203.out (by decide)) (fun _ hk => hk.2) (.int .i64 ((rd_T26 t191 x65_3).f0))) (fun _ hk => hk.2) (.string ((rd_T26 t191 x65_3).f1))) (fun _ hk => trivial)⟩, ⟨by (with_reducible repeat (first | apply Kd.R_alloc | apply Kd.R_drewN | apply Kd.R_drew)); exact Kd.R_mono (Kd.R_far (p := ⟨gb203, 1, none⟩) (Kd.R_far (p := ⟨gb203, 0, none⟩) (Kd.R_types HO_7.out BK203.out (by decide)) (fun _ hk => hk.2) (.int .i64 ((rd_T26 t191 x65_3).f0))) (fun _ hk => hk.2) (.string ((rd_T26 t191 x65_3).f1))) (fun _ hk => trivial)⟩, ⟨by (with_reducible repeat (first | apply Kd.R_alloc | apply Kd.R_drewN | apply Kd.R_drew)); exact Kd.R_mono (Kd.R_far (p := ⟨gb203, 1, none⟩) (Kd.R_far (p := ⟨gb203, 0, none⟩) (Kd.R_mono HO_63.out (fun k_ hk => (⟨hk, hk.2⟩ : _ ∧ k_ ≠ gb203))) (fun _ hk => hk.2) (.int .i64 ((rd_T26 t191 x65_3).f0))) (fun _ hk => hk.2) (.string ((rd_T26 t191 x65_3).f1))) (fun _ hk => trivial)⟩, ⟨by repeat (first | (with_reducible first | exact HB.out | apply below_alloc | apply pw_below_drewN | apply below_drew1 | refine below_set ?_ GE203.out) | exact HB.out)⟩⟩
                ·rw [if_neg c32] at H
                 have c32b0 : (((rd_T26 t191 x65_3).f0) == 1) = false := beq_eq_false_iff_ne.mpr c32
                 have c32b1 : (((rd_T26 t191 x65_3).f0) != 1) = true := bne_iff_ne.mpr c32
                 by_cases c36 : x65_3 < (t197.length : Int)
                 ·rw [if_pos c36] at H
                  have c36b0 : decide (x65_3 < (t197.length : Int)) = true := decide_eq_true c36
                  clear c36
                  by_cases c37 : (rdOf ByteArray.empty t197 x65_3).toList = ((rd_T26 t191 x65_3).f1).toList
                  ·rw [if_pos c37] at H
                   have c37b0 : ((rdOf ByteArray.empty t197 x65_3).toList == ((rd_T26 t191 x65_3).f1).toList) = true := beq_iff_eq.mpr c37
                   have c37b1 : ((rdOf ByteArray.empty t197 x65_3).toList != ((rd_T26 t191 x65_3).f1).toList) = false := bne_eq_false_iff_eq.mpr c37
                   clear c37
                   have H' := Aside0.mk H
                   clear H
                   have p202 : 0 ≤ (x65_3 : Int) := of_decide_eq_true (by first | (with_reducible assumption) | assumption)
                   have q202 : x65_3 < (t191.length : Int) := of_decide_eq_true (by first | (with_reducible assumption) | assumption)
                   obtain ⟨ad202, e202, hx202_0, hx202_1⟩ := at_T26 (Kd.R_reads' HO_63.out).2.2 x65_3 p202 q202
                   cases e202
                   replace p202 := eq_true p202
                   replace q202 := eq_true q202
                   go_wp2_with (first | ((with_reducible refine gate_dst (N := 9) rfl ?_); (try (refine gate_guard (by rfl) ?_; dsimp only)); refine box_event ?hg (N := 9) ?hd (cs := #[.int .i64 0, .string (⟨#[]⟩ : ByteArray)]) (t := 26) ?hr ?_; (case hd => rfl); (case hg => rfl); (case hr => first | (go_simp; done) | (go_simp; rfl)); intro gb203 hg w38 hbox hb; have n0_ := Aside0.mk (Kd.R_below (by (with_reducible repeat (first | apply Kd.R_alloc | apply Kd.R_drewN | apply Kd.R_drew)); exact HO_6.out) hb); have n1_ := Aside0.mk (Kd.R_below (by (with_reducible repeat (first | apply Kd.R_alloc | apply Kd.R_drewN | apply Kd.R_drew)); exact HO_7.out) hb); have n2_ := Aside0.mk (Kd.R_below (Kd.R_elderB (by (with_reducible repeat (first | apply Kd.R_alloc | apply Kd.R_drewN | apply Kd.R_drew)); exact HO_63.out) gb203 (Nat.le_of_eq hg.symm)) hb); have n3_ := Aside0.mk (below_step (by repeat (first | (with_reducible first | exact HB.out | apply below_alloc | apply pw_below_drewN | apply below_drew1) | exact HB.out)) hb); have n4_ := Aside0.mk (hbox); have n5_ := Aside0.mk ((by rw [hg]; exact (below_size (by repeat (first | (with_reducible first | exact HB.out | apply below_alloc | apply pw_below_drewN | apply below_drew1) | exact HB.out))) : w.heap.size ≤ gb203)); have n6_ := Aside0.mk ((by rw [hg]; exact (below_size (by repeat (first | (with_reducible first | exact HB.out | apply below_alloc | apply pw_below_drewN | apply below_drew1) | exact HB.out))) : w.heap.size ≤ gb203)); clear HO_6; clear HO_7; clear HO_63; clear HB; have HO_6 := n0_; have HO_7 := n1_; have HO_63 := n2_; have HB := n3_; have BK203 := n4_; have GW203 := n5_; have GE203 := n6_; clear n0_ n1_ n2_ n3_ n4_ n5_ n6_; clear hb hbox hg; have hcz39_0 : w38.cell? ⟨gb203, 0, none⟩ = some (.int .i64 0) := (blk_cell BK203.out 0).trans rfl; have hcz39_1 : w38.cell? ⟨gb203, 1, none⟩ = some (.string (⟨#[]⟩ : ByteArray)) := (blk_cell BK203.out 1).trans rfl; have hfz39_0 := blk_frozen BK203.out 0; have hfz39_1 := blk_frozen BK203.out 1; obtain ⟨Ao40, co40, eo40⟩ := Kd.R_slice HO_6.out; subst eo40; have p204 : 0 ≤ (x65_3 : Int) := of_decide_eq_true (by first | (with_reducible assumption) | assumption); have q204 : x65_3 < (t196.length : Int) := of_decide_eq_true (by first | (with_reducible assumption) | assumption); obtain ⟨ad204, e204, hx204_0⟩ := Kd.at_int (Kd.R_reads' HO_6.out).2.2 x65_3 p204 q204; cases e204; have hn204_0 : ad204.block ≠ gb203 := Kd.own_blk (Kd.R_ne HO_6.out BK203.out (by decide)); have hn204_1 : ad204.block ≠ gb203 := Kd.own_blk (Kd.R_ne HO_6.out BK203.out (by decide)); replace hx204_0 := (cell_far (p := ⟨gb203, 0, none⟩) (by first | (rw [add_block]; exact hn204_0) | (show (Addr.add _ _).block ≠ _; rw [add_block]; exact hn204_0) | exact hn204_0) (.int .i64 ((rd_T26 t191 x65_3).f0))).trans hx204_0; replace hx204_0 := (cell_far (p := ⟨gb203, 1, none⟩) (by first | (rw [add_block]; exact hn204_1) | (show (Addr.add _ _).block ≠ _; rw [add_block]; exact hn204_1) | exact hn204_1) (.string ((rd_T26 t191 x65_3).f1))).trans hx204_0; (try have hy204_0 := fun (n_ : Nat) => (show ((((w38.drewN n_).setCell ⟨gb203, 0, none⟩ (.int .i64 ((rd_T26 t191 x65_3).f0))).setCell ⟨gb203, 1, none⟩ (.string ((rd_T26 t191 x65_3).f1)))).cell? _ = some _ from hx204_0)); clear hn204_0; clear hn204_1; replace p204 := eq_true p204; replace q204 := eq_true q204; obtain ⟨Ao41, co41, eo41⟩ := Kd.R_slice HO_7.out; subst eo41; have p205 : 0 ≤ (x65_3 : Int) := of_decide_eq_true (by first | (with_reducible assumption) | assumption); have q205 : x65_3 < (t197.length : Int) := of_decide_eq_true (by first | (with_reducible assumption) | assumption); obtain ⟨ad205, e205, hx205_0⟩ := Kd.at_string (Kd.R_reads' HO_7.out).2.2 x65_3 p205 q205; cases e205; have hn205_0 : ad205.block ≠ gb203 := Kd.own_blk (Kd.R_ne HO_7.out BK203.out (by decide)); have hn205_1 : ad205.block ≠ gb203 := Kd.own_blk (Kd.R_ne HO_7.out BK203.out (by decide)); replace hx205_0 := (cell_far (p := ⟨gb203, 0, none⟩) (by first | (rw [add_block]; exact hn205_0) | (show (Addr.add _ _).block ≠ _; rw [add_block]; exact hn205_0) | exact hn205_0) (.int .i64 ((rd_T26 t191 x65_3).f0))).trans hx205_0; replace hx205_0 := (cell_far (p := ⟨gb203, 1, none⟩) (by first | (rw [add_block]; exact hn205_1) | (show (Addr.add _ _).block ≠ _; rw [add_block]; exact hn205_1) | exact hn205_1) (.string ((rd_T26 t191 x65_3).f1))).trans hx205_0; (try have hy205_0 := fun (n_ : Nat) => (show ((((w38.drewN n_).setCell ⟨gb203, 0, none⟩ (.int .i64 ((rd_T26 t191 x65_3).f0))).setCell ⟨gb203, 1, none⟩ (.string ((rd_T26 t191 x65_3).f1)))).cell? _ = some _ from hx205_0)); clear hn205_0; clear hn205_1; replace p205 := eq_true p205; replace q205 := eq_true q205))
                   repeat (go_quiet (first | ((with_reducible refine gate_dst (N := 9) rfl ?_); (try (refine gate_guard (by rfl) ?_; dsimp only)); refine box_event ?hg (N := 9) ?hd (cs := #[.int .i64 0, .string (⟨#[]⟩ : ByteArray)]) (t := 26) ?hr ?_; (case hd => rfl); (case hg => rfl); (case hr => first | (go_simp; done) | (go_simp; rfl)); intro gb203 hg w38 hbox hb; have n0_ := Aside0.mk (Kd.R_below (by (with_reducible repeat (first | apply Kd.R_alloc | apply Kd.R_drewN | apply Kd.R_drew)); exact HO_6.out) hb); have n1_ := Aside0.mk (Kd.R_below (by (with_reducible repeat (first | apply Kd.R_alloc | apply Kd.R_drewN | apply Kd.R_drew)); exact HO_7.out) hb); have n2_ := Aside0.mk (Kd.R_below (Kd.R_elderB (by (with_reducible repeat (first | apply Kd.R_alloc | apply Kd.R_drewN | apply Kd.R_drew)); exact HO_63.out) gb203 (Nat.le_of_eq hg.symm)) hb); have n3_ := Aside0.mk (below_step (by repeat (first | (with_reducible first | exact HB.out | apply below_alloc | apply pw_below_drewN | apply below_drew1) | exact HB.out)) hb); have n4_ := Aside0.mk (hbox); have n5_ := Aside0.mk ((by rw [hg]; exact (below_size (by repeat (first | (with_reducible first | exact HB.out | apply below_alloc | apply pw_below_drewN | apply below_drew1) | exact HB.out))) : w.heap.size ≤ gb203)); have n6_ := Aside0.mk ((by rw [hg]; exact (below_size (by repeat (first | (with_reducible first | exact HB.out | apply below_alloc | apply pw_below_drewN | apply below_drew1) | exact HB.out))) : w.heap.size ≤ gb203)); clear HO_6; clear HO_7; clear HO_63; clear HB; have HO_6 := n0_; have HO_7 := n1_; have HO_63 := n2_; have HB := n3_; have BK203 := n4_; have GW203 := n5_; have GE203 := n6_; clear n0_ n1_ n2_ n3_ n4_ n5_ n6_; clear hb hbox hg; have hcz39_0 : w38.cell? ⟨gb203, 0, none⟩ = some (.int .i64 0) := (blk_cell BK203.out 0).trans rfl; have hcz39_1 : w38.cell? ⟨gb203, 1, none⟩ = some (.string (⟨#[]⟩ : ByteArray)) := (blk_cell BK203.out 1).trans rfl; have hfz39_0 := blk_frozen BK203.out 0; have hfz39_1 := blk_frozen BK203.out 1; obtain ⟨Ao40, co40, eo40⟩ := Kd.R_slice HO_6.out; subst eo40; have p204 : 0 ≤ (x65_3 : Int) := of_decide_eq_true (by first | (with_reducible assumption) | assumption); have q204 : x65_3 < (t196.length : Int) := of_decide_eq_true (by first | (with_reducible assumption) | assumption); obtain ⟨ad204, e204, hx204_0⟩ := Kd.at_int (Kd.R_reads' HO_6.out).2.2 x65_3 p204 q204; cases e204; have hn204_0 : ad204.block ≠ gb203 := Kd.own_blk (Kd.R_ne HO_6.out BK203.out (by decide)); have hn204_1 : ad204.block ≠ gb203 := Kd.own_blk (Kd.R_ne HO_6.out BK203.out (by decide)); replace hx204_0 := (cell_far (p := ⟨gb203, 0, none⟩) (by first | (rw [add_block]; exact hn204_0) | (show (Addr.add _ _).block ≠ _; rw [add_block]; exact hn204_0) | exact hn204_0) (.int .i64 ((rd_T26 t191 x65_3).f0))).trans hx204_0; replace hx204_0 := (cell_far (p := ⟨gb203, 1, none⟩) (by first | (rw [add_block]; exact hn204_1) | (show (Addr.add _ _).block ≠ _; rw [add_block]; exact hn204_1) | exact hn204_1) (.string ((rd_T26 t191 x65_3).f1))).trans hx204_0; (try have hy204_0 := fun (n_ : Nat) => (show ((((w38.drewN n_).setCell ⟨gb203, 0, none⟩ (.int .i64 ((rd_T26 t191 x65_3).f0))).setCell ⟨gb203, 1, none⟩ (.string ((rd_T26 t191 x65_3).f1)))).cell? _ = some _ from hx204_0)); clear hn204_0; clear hn204_1; replace p204 := eq_true p204; replace q204 := eq_true q204; obtain ⟨Ao41, co41, eo41⟩ := Kd.R_slice HO_7.out; subst eo41; have p205 : 0 ≤ (x65_3 : Int) := of_decide_eq_true (by first | (with_reducible assumption) | assumption); have q205 : x65_3 < (t197.length : Int) := of_decide_eq_true (by first | (with_reducible assumption) | assumption); obtain ⟨ad205, e205, hx205_0⟩ := Kd.at_string (Kd.R_reads' HO_7.out).2.2 x65_3 p205 q205; cases e205; have hn205_0 : ad205.block ≠ gb203 := Kd.own_blk (Kd.R_ne HO_7.out BK203.out (by decide)); have hn205_1 : ad205.block ≠ gb203 := Kd.own_blk (Kd.R_ne HO_7.out BK203.out (by decide)); replace hx205_0 := (cell_far (p := ⟨gb203, 0, none⟩) (by first | (rw [add_block]; exact hn205_0) | (show (Addr.add _ _).block ≠ _; rw [add_block]; exact hn205_0) | exact hn205_0) (.int .i64 ((rd_T26 t191 x65_3).f0))).trans hx205_0; replace hx205_0 := (cell_far (p := ⟨gb203, 1, none⟩) (by first | (rw [add_block]; exact hn205_1) | (show (Addr.add _ _).block ≠ _; rw [add_block]; exact hn205_1) | exact hn205_1) (.string ((rd_T26 t191 x65_3).f1))).trans hx205_0; (try have hy205_0 := fun (n_ : Nat) => (show ((((w38.drewN n_).setCell ⟨gb203, 0, none⟩ (.int .i64 ((rd_T26 t191 x65_3).f0))).setCell ⟨gb203, 1, none⟩ (.string ((rd_T26 t191 x65_3).f1)))).cell? _ = some _ from hx205_0)); clear hn205_0; clear hn205_1; replace p205 := eq_true p205; replace q205 := eq_true q205)); try go_wp2_with (first | ((with_reducible refine gate_dst (N := 9) rfl ?_); (try (refine gate_guard (by rfl) ?_; dsimp only)); refine box_event ?hg (N := 9) ?hd (cs := #[.int .i64 0, .string (⟨#[]⟩ : ByteArray)]) (t := 26) ?hr ?_; (case hd => rfl); (case hg => rfl); (case hr => first | (go_simp; done) | (go_simp; rfl)); intro gb203 hg w38 hbox hb; have n0_ := Aside0.mk (Kd.R_below (by (with_reducible repeat (first | apply Kd.R_alloc | apply Kd.R_drewN | apply Kd.R_drew)); exact HO_6.out) hb); have n1_ := Aside0.mk (Kd.R_below (by (with_reducible repeat (first | apply Kd.R_alloc | apply Kd.R_drewN | apply Kd.R_drew)); exact HO_7.out) hb); have n2_ := Aside0.mk (Kd.R_below (Kd.R_elderB (by (with_reducible repeat (first | apply Kd.R_alloc | apply Kd.R_drewN | apply Kd.R_drew)); exact HO_63.out) gb203 (Nat.le_of_eq hg.symm)) hb); have n3_ := Aside0.mk (below_step (by repeat (first | (with_reducible first | exact HB.out | apply below_alloc | apply pw_below_drewN | apply below_drew1) | exact HB.out)) hb); have n4_ := Aside0.mk (hbox); have n5_ := Aside0.mk ((by rw [hg]; exact (below_size (by repeat (first | (with_reducible first | exact HB.out | apply below_alloc | apply pw_below_drewN | apply below_drew1) | exact HB.out))) : w.heap.size ≤ gb203)); have n6_ := Aside0.mk ((by rw [hg]; exact (below_size (by repeat (first | (with_reducible first | exact HB.out | apply below_alloc | apply pw_below_drewN | apply below_drew1) | exact HB.out))) : w.heap.size ≤ gb203)); clear HO_6; clear HO_7; clear HO_63; clear HB; have HO_6 := n0_; have HO_7 := n1_; have HO_63 := n2_; have HB := n3_; have BK203 := n4_; have GW203 := n5_; have GE203 := n6_; clear n0_ n1_ n2_ n3_ n4_ n5_ n6_; clear hb hbox hg; have hcz39_0 : w38.cell? ⟨gb203, 0, none⟩ = some (.int .i64 0) := (blk_cell BK203.out 0).trans rfl; have hcz39_1 : w38.cell? ⟨gb203, 1, none⟩ = some (.string (⟨#[]⟩ : ByteArray)) := (blk_cell BK203.out 1).trans rfl; have hfz39_0 := blk_frozen BK203.out 0; have hfz39_1 := blk_frozen BK203.out 1; obtain ⟨Ao40, co40, eo40⟩ := Kd.R_slice HO_6.out; subst eo40; have p204 : 0 ≤ (x65_3 : Int) := of_decide_eq_true (by first | (with_reducible assumption) | assumption); have q204 : x65_3 < (t196.length : Int) := of_decide_eq_true (by first | (with_reducible assumption) | assumption); obtain ⟨ad204, e204, hx204_0⟩ := Kd.at_int (Kd.R_reads' HO_6.out).2.2 x65_3 p204 q204; cases e204; have hn204_0 : ad204.block ≠ gb203 := Kd.own_blk (Kd.R_ne HO_6.out BK203.out (by decide)); have hn204_1 : ad204.block ≠ gb203 := Kd.own_blk (Kd.R_ne HO_6.out BK203.out (by decide)); replace hx204_0 := (cell_far (p := ⟨gb203, 0, none⟩) (by first | (rw [add_block]; exact hn204_0) | (show (Addr.add _ _).block ≠ _; rw [add_block]; exact hn204_0) | exact hn204_0) (.int .i64 ((rd_T26 t191 x65_3).f0))).trans hx204_0; replace hx204_0 := (cell_far (p := ⟨gb203, 1, none⟩) (by first | (rw [add_block]; exact hn204_1) | (show (Addr.add _ _).block ≠ _; rw [add_block]; exact hn204_1) | exact hn204_1) (.string ((rd_T26 t191 x65_3).f1))).trans hx204_0; (try have hy204_0 := fun (n_ : Nat) => (show ((((w38.drewN n_).setCell ⟨gb203, 0, none⟩ (.int .i64 ((rd_T26 t191 x65_3).f0))).setCell ⟨gb203, 1, none⟩ (.string ((rd_T26 t191 x65_3).f1)))).cell? _ = some _ from hx204_0)); clear hn204_0; clear hn204_1; replace p204 := eq_true p204; replace q204 := eq_true q204; obtain ⟨Ao41, co41, eo41⟩ := Kd.R_slice HO_7.out; subst eo41; have p205 : 0 ≤ (x65_3 : Int) := of_decide_eq_true (by first | (with_reducible assumption) | assumption); have q205 : x65_3 < (t197.length : Int) := of_decide_eq_true (by first | (with_reducible assumption) | assumption); obtain ⟨ad205, e205, hx205_0⟩ := Kd.at_string (Kd.R_reads' HO_7.out).2.2 x65_3 p205 q205; cases e205; have hn205_0 : ad205.block ≠ gb203 := Kd.own_blk (Kd.R_ne HO_7.out BK203.out (by decide)); have hn205_1 : ad205.block ≠ gb203 := Kd.own_blk (Kd.R_ne HO_7.out BK203.out (by decide)); replace hx205_0 := (cell_far (p := ⟨gb203, 0, none⟩) (by first | (rw [add_block]; exact hn205_0) | (show (Addr.add _ _).block ≠ _; rw [add_block]; exact hn205_0) | exact hn205_0) (.int .i64 ((rd_T26 t191 x65_3).f0))).trans hx205_0; replace hx205_0 := (cell_far (p := ⟨gb203, 1, none⟩) (by first | (rw [add_block]; exact hn205_1) | (show (Addr.add _ _).block ≠ _; rw [add_block]; exact hn205_1) | exact hn205_1) (.string ((rd_T26 t191 x65_3).f1))).trans hx205_0; (try have hy205_0 := fun (n_ : Nat) => (show ((((w38.drewN n_).setCell ⟨gb203, 0, none⟩ (.int .i64 ((rd_T26 t191 x65_3).f0))).setCell ⟨gb203, 1, none⟩ (.string ((rd_T26 t191 x65_3).f1)))).cell? _ = some _ from hx205_0)); clear hn205_0; clear hn205_1; replace p205 := eq_true p205; replace q205 := eq_true q205)))
                   go_roundg k3
                   case measure => have := HJ4.out; have := HJ19.out; have := HK3.out; omega
                   case rel => exact ⟨(wrap64 (x65_3 + 1)), (by first | rfl | (simp; done) | (simp [*]; done)), H', ⟨by have := HJ4.out; have := HJ19.out; have := HK3.out; omega⟩, ⟨by (with_reducible repeat (first | apply Kd.R_alloc | apply Kd.R_drewN | apply Kd.R_drew)); exact Kd.R_mono (Kd.R_far (p := ⟨gb203, 1, none⟩) (Kd.R_far (p := ⟨gb203, 0, none⟩) (Kd.R_types HO_6.out BK203.out (by decide)) (fun _ hk => hk.2) (.int .i64 ((rd_T26 t191 x65_3).f0))) (fun _ hk => hk.2) (.string ((rd_T26 t191 x65_3).f1))) (fun _ hk => trivial)⟩, ⟨by (with_reducible repeat (first | apply Kd.R_alloc | apply Kd.R_drewN | apply Kd.R_drew)); exact Kd.R_mono (Kd.R_far (p := ⟨gb203, 1, none⟩) (Kd.R_far (p := ⟨gb203, 0, none⟩) (Kd.R_types HO_7.out BK203.out (by decide)) (fun _ hk => hk.2) (.int .i64 ((rd_T26 t191 x65_3).f0))) (fun _ hk => hk.2) (.string ((rd_T26 t191 x65_3).f1))) (fun _ hk => trivial)⟩, ⟨by (with_reducible repeat (first | apply Kd.R_alloc | apply Kd.R_drewN | apply Kd.R_drew)); exact Kd.R_mono (Kd.R_far (p := ⟨gb203, 1, none⟩) (Kd.R_far (p := ⟨gb203, 0, none⟩) (Kd.R_mono HO_63.out (fun k_ hk => (⟨hk, hk.2⟩ : _ ∧ k_ ≠ gb203))) (fun _ hk => hk.2) (.int .i64 ((rd_T26 t191 x65_3).f0))) (fun _ hk => hk.2) (.string ((rd_T26 t191 x65_3).f1))) (fun _ hk => trivial)⟩, ⟨by repeat (first | (with_reducible first | exact HB.out | apply below_alloc | apply pw_below_drewN | apply below_drew1 | refine below_set ?_ GE203.out) | exact HB.out)⟩⟩
                  ·rw [if_neg c37] at H
                   have c37b0 : ((rdOf ByteArray.empty t197 x65_3).toList == ((rd_T26 t191 x65_3).f1).toList) = false := beq_eq_false_iff_ne.mpr c37
                   have c37b1 : ((rdOf ByteArray.empty t197 x65_3).toList != ((rd_T26 t191 x65_3).f1).toList) = true := bne_iff_ne.mpr c37
                   obtain rfl := Option.some.inj H
                   have p202 : 0 ≤ (x65_3 : Int) := of_decide_eq_true (by first | (with_reducible assumption) | assumption)
                   have q202 : x65_3 < (t191.length : Int) := of_decide_eq_true (by first | (with_reducible assumption) | assumption)
                   obtain ⟨ad202, e202, hx202_0, hx202_1⟩ := at_T26 (Kd.R_reads' HO_63.out).2.2 x65_3 p202 q202
                   cases e202
                   replace p202 := eq_true p202
                   replace q202 := eq_true q202
                   go_wp2_with (first | ((with_reducible refine gate_dst (N := 9) rfl ?_); (try (refine gate_guard (by rfl) ?_; dsimp only)); refine box_event ?hg (N := 9) ?hd (cs := #[.int .i64 0, .string (⟨#[]⟩ : ByteArray)]) (t := 26) ?hr ?_; (case hd => rfl); (case hg => rfl); (case hr => first | (go_simp; done) | (go_simp; rfl)); intro gb203 hg w42 hbox hb; have n0_ := Aside0.mk (Kd.R_below (by (with_reducible repeat (first | apply Kd.R_alloc | apply Kd.R_drewN | apply Kd.R_drew)); exact HO_6.out) hb); have n1_ := Aside0.mk (Kd.R_below (by (with_reducible repeat (first | apply Kd.R_alloc | apply Kd.R_drewN | apply Kd.R_drew)); exact HO_7.out) hb); have n2_ := Aside0.mk (Kd.R_below (Kd.R_elderB (by (with_reducible repeat (first | apply Kd.R_alloc | apply Kd.R_drewN | apply Kd.R_drew)); exact HO_63.out) gb203 (Nat.le_of_eq hg.symm)) hb); have n3_ := Aside0.mk (below_step (by repeat (first | (with_reducible first | exact HB.out | apply below_alloc | apply pw_below_drewN | apply below_drew1) | exact HB.out)) hb); have n4_ := Aside0.mk (hbox); have n5_ := Aside0.mk ((by rw [hg]; exact (below_size (by repeat (first | (with_reducible first | exact HB.out | apply below_alloc | apply pw_below_drewN | apply below_drew1) | exact HB.out))) : w.heap.size ≤ gb203)); have n6_ := Aside0.mk ((by rw [hg]; exact (below_size (by repeat (first | (with_reducible first | exact HB.out | apply below_alloc | apply pw_below_drewN | apply below_drew1) | exact HB.out))) : w.heap.size ≤ gb203)); clear HO_6; clear HO_7; clear HO_63; clear HB; have HO_6 := n0_; have HO_7 := n1_; have HO_63 := n2_; have HB := n3_; have BK203 := n4_; have GW203 := n5_; have GE203 := n6_; clear n0_ n1_ n2_ n3_ n4_ n5_ n6_; clear hb hbox hg; have hcz43_0 : w42.cell? ⟨gb203, 0, none⟩ = some (.int .i64 0) := (blk_cell BK203.out 0).trans rfl; have hcz43_1 : w42.cell? ⟨gb203, 1, none⟩ = some (.string (⟨#[]⟩ : ByteArray)) := (blk_cell BK203.out 1).trans rfl; have hfz43_0 := blk_frozen BK203.out 0; have hfz43_1 := blk_frozen BK203.out 1; obtain ⟨Ao44, co44, eo44⟩ := Kd.R_slice HO_6.out; subst eo44; have p204 : 0 ≤ (x65_3 : Int) := of_decide_eq_true (by first | (with_reducible assumption) | assumption); have q204 : x65_3 < (t196.length : Int) := of_decide_eq_true (by first | (with_reducible assumption) | assumption); obtain ⟨ad204, e204, hx204_0⟩ := Kd.at_int (Kd.R_reads' HO_6.out).2.2 x65_3 p204 q204; cases e204; have hn204_0 : ad204.block ≠ gb203 := Kd.own_blk (Kd.R_ne HO_6.out BK203.out (by decide)); have hn204_1 : ad204.block ≠ gb203 := Kd.own_blk (Kd.R_ne HO_6.out BK203.out (by decide)); replace hx204_0 := (cell_far (p := ⟨gb203, 0, none⟩) (by first | (rw [add_block]; exact hn204_0) | (show (Addr.add _ _).block ≠ _; rw [add_block]; exact hn204_0) | exact hn204_0) (.int .i64 ((rd_T26 t191 x65_3).f0))).trans hx204_0; replace hx204_0 := (cell_far (p := ⟨gb203, 1, none⟩) (by first | (rw [add_block]; exact hn204_1) | (show (Addr.add _ _).block ≠ _; rw [add_block]; exact hn204_1) | exact hn204_1) (.string ((rd_T26 t191 x65_3).f1))).trans hx204_0; (try have hy204_0 := fun (n_ : Nat) => (show ((((w42.drewN n_).setCell ⟨gb203, 0, none⟩ (.int .i64 ((rd_T26 t191 x65_3).f0))).setCell ⟨gb203, 1, none⟩ (.string ((rd_T26 t191 x65_3).f1)))).cell? _ = some _ from hx204_0)); clear hn204_0; clear hn204_1; replace p204 := eq_true p204; replace q204 := eq_true q204; obtain ⟨Ao45, co45, eo45⟩ := Kd.R_slice HO_7.out; subst eo45; have p205 : 0 ≤ (x65_3 : Int) := of_decide_eq_true (by first | (with_reducible assumption) | assumption); have q205 : x65_3 < (t197.length : Int) := of_decide_eq_true (by first | (with_reducible assumption) | assumption); obtain ⟨ad205, e205, hx205_0⟩ := Kd.at_string (Kd.R_reads' HO_7.out).2.2 x65_3 p205 q205; cases e205; have hn205_0 : ad205.block ≠ gb203 := Kd.own_blk (Kd.R_ne HO_7.out BK203.out (by decide)); have hn205_1 : ad205.block ≠ gb203 := Kd.own_blk (Kd.R_ne HO_7.out BK203.out (by decide)); replace hx205_0 := (cell_far (p := ⟨gb203, 0, none⟩) (by first | (rw [add_block]; exact hn205_0) | (show (Addr.add _ _).block ≠ _; rw [add_block]; exact hn205_0) | exact hn205_0) (.int .i64 ((rd_T26 t191 x65_3).f0))).trans hx205_0; replace hx205_0 := (cell_far (p := ⟨gb203, 1, none⟩) (by first | (rw [add_block]; exact hn205_1) | (show (Addr.add _ _).block ≠ _; rw [add_block]; exact hn205_1) | exact hn205_1) (.string ((rd_T26 t191 x65_3).f1))).trans hx205_0; (try have hy205_0 := fun (n_ : Nat) => (show ((((w42.drewN n_).setCell ⟨gb203, 0, none⟩ (.int .i64 ((rd_T26 t191 x65_3).f0))).setCell ⟨gb203, 1, none⟩ (.string ((rd_T26 t191 x65_3).f1)))).cell? _ = some _ from hx205_0)); clear hn205_0; clear hn205_1; replace p205 := eq_true p205; replace q205 := eq_true q205))
                   repeat (go_quiet (first | ((with_reducible refine gate_dst (N := 9) rfl ?_); (try (refine gate_guard (by rfl) ?_; dsimp only)); refine box_event ?hg (N := 9) ?hd (cs := #[.int .i64 0, .string (⟨#[]⟩ : ByteArray)]) (t := 26) ?hr ?_; (case hd => rfl); (case hg => rfl); (case hr => first | (go_simp; done) | (go_simp; rfl)); intro gb203 hg w42 hbox hb; have n0_ := Aside0.mk (Kd.R_below (by (with_reducible repeat (first | apply Kd.R_alloc | apply Kd.R_drewN | apply Kd.R_drew)); exact HO_6.out) hb); have n1_ := Aside0.mk (Kd.R_below (by (with_reducible repeat (first | apply Kd.R_alloc | apply Kd.R_drewN | apply Kd.R_drew)); exact HO_7.out) hb); have n2_ := Aside0.mk (Kd.R_below (Kd.R_elderB (by (with_reducible repeat (first | apply Kd.R_alloc | apply Kd.R_drewN | apply Kd.R_drew)); exact HO_63.out) gb203 (Nat.le_of_eq hg.symm)) hb); have n3_ := Aside0.mk (below_step (by repeat (first | (with_reducible first | exact HB.out | apply below_alloc | apply pw_below_drewN | apply below_drew1) | exact HB.out)) hb); have n4_ := Aside0.mk (hbox); have n5_ := Aside0.mk ((by rw [hg]; exact (below_size (by repeat (first | (with_reducible first | exact HB.out | apply below_alloc | apply pw_below_drewN | apply below_drew1) | exact HB.out))) : w.heap.size ≤ gb203)); have n6_ := Aside0.mk ((by rw [hg]; exact (below_size (by repeat (first | (with_reducible first | exact HB.out | apply below_alloc | apply pw_below_drewN | apply below_drew1) | exact HB.out))) : w.heap.size ≤ gb203)); clear HO_6; clear HO_7; clear HO_63; clear HB; have HO_6 := n0_; have HO_7 := n1_; have HO_63 := n2_; have HB := n3_; have BK203 := n4_; have GW203 := n5_; have GE203 := n6_; clear n0_ n1_ n2_ n3_ n4_ n5_ n6_; clear hb hbox hg; have hcz43_0 : w42.cell? ⟨gb203, 0, none⟩ = some (.int .i64 0) := (blk_cell BK203.out 0).trans rfl; have hcz43_1 : w42.cell? ⟨gb203, 1, none⟩ = some (.string (⟨#[]⟩ : ByteArray)) := (blk_cell BK203.out 1).trans rfl; have hfz43_0 := blk_frozen BK203.out 0; have hfz43_1 := blk_frozen BK203.out 1; obtain ⟨Ao44, co44, eo44⟩ := Kd.R_slice HO_6.out; subst eo44; have p204 : 0 ≤ (x65_3 : Int) := of_decide_eq_true (by first | (with_reducible assumption) | assumption); have q204 : x65_3 < (t196.length : Int) := of_decide_eq_true (by first | (with_reducible assumption) | assumption); obtain ⟨ad204, e204, hx204_0⟩ := Kd.at_int (Kd.R_reads' HO_6.out).2.2 x65_3 p204 q204; cases e204; have hn204_0 : ad204.block ≠ gb203 := Kd.own_blk (Kd.R_ne HO_6.out BK203.out (by decide)); have hn204_1 : ad204.block ≠ gb203 := Kd.own_blk (Kd.R_ne HO_6.out BK203.out (by decide)); replace hx204_0 := (cell_far (p := ⟨gb203, 0, none⟩) (by first | (rw [add_block]; exact hn204_0) | (show (Addr.add _ _).block ≠ _; rw [add_block]; exact hn204_0) | exact hn204_0) (.int .i64 ((rd_T26 t191 x65_3).f0))).trans hx204_0; replace hx204_0 := (cell_far (p := ⟨gb203, 1, none⟩) (by first | (rw [add_block]; exact hn204_1) | (show (Addr.add _ _).block ≠ _; rw [add_block]; exact hn204_1) | exact hn204_1) (.string ((rd_T26 t191 x65_3).f1))).trans hx204_0; (try have hy204_0 := fun (n_ : Nat) => (show ((((w42.drewN n_).setCell ⟨gb203, 0, none⟩ (.int .i64 ((rd_T26 t191 x65_3).f0))).setCell ⟨gb203, 1, none⟩ (.string ((rd_T26 t191 x65_3).f1)))).cell? _ = some _ from hx204_0)); clear hn204_0; clear hn204_1; replace p204 := eq_true p204; replace q204 := eq_true q204; obtain ⟨Ao45, co45, eo45⟩ := Kd.R_slice HO_7.out; subst eo45; have p205 : 0 ≤ (x65_3 : Int) := of_decide_eq_true (by first | (with_reducible assumption) | assumption); have q205 : x65_3 < (t197.length : Int) := of_decide_eq_true (by first | (with_reducible assumption) | assumption); obtain ⟨ad205, e205, hx205_0⟩ := Kd.at_string (Kd.R_reads' HO_7.out).2.2 x65_3 p205 q205; cases e205; have hn205_0 : ad205.block ≠ gb203 := Kd.own_blk (Kd.R_ne HO_7.out BK203.out (by decide)); have hn205_1 : ad205.block ≠ gb203 := Kd.own_blk (Kd.R_ne HO_7.out BK203.out (by decide)); replace hx205_0 := (cell_far (p := ⟨gb203, 0, none⟩) (by first | (rw [add_block]; exact hn205_0) | (show (Addr.add _ _).block ≠ _; rw [add_block]; exact hn205_0) | exact hn205_0) (.int .i64 ((rd_T26 t191 x65_3).f0))).trans hx205_0; replace hx205_0 := (cell_far (p := ⟨gb203, 1, none⟩) (by first | (rw [add_block]; exact hn205_1) | (show (Addr.add _ _).block ≠ _; rw [add_block]; exact hn205_1) | exact hn205_1) (.string ((rd_T26 t191 x65_3).f1))).trans hx205_0; (try have hy205_0 := fun (n_ : Nat) => (show ((((w42.drewN n_).setCell ⟨gb203, 0, none⟩ (.int .i64 ((rd_T26 t191 x65_3).f0))).setCell ⟨gb203, 1, none⟩ (.string ((rd_T26 t191 x65_3).f1)))).cell? _ = some _ from hx205_0)); clear hn205_0; clear hn205_1; replace p205 := eq_true p205; replace q205 := eq_true q205)); try go_wp2_with (first | ((with_reducible refine gate_dst (N := 9) rfl ?_); (try (refine gate_guard (by rfl) ?_; dsimp only)); refine box_event ?hg (N := 9) ?hd (cs := #[.int .i64 0, .string (⟨#[]⟩ : ByteArray)]) (t := 26) ?hr ?_; (case hd => rfl); (case hg => rfl); (case hr => first | (go_simp; done) | (go_simp; rfl)); intro gb203 hg w42 hbox hb; have n0_ := Aside0.mk (Kd.R_below (by (with_reducible repeat (first | apply Kd.R_alloc | apply Kd.R_drewN | apply Kd.R_drew)); exact HO_6.out) hb); have n1_ := Aside0.mk (Kd.R_below (by (with_reducible repeat (first | apply Kd.R_alloc | apply Kd.R_drewN | apply Kd.R_drew)); exact HO_7.out) hb); have n2_ := Aside0.mk (Kd.R_below (Kd.R_elderB (by (with_reducible repeat (first | apply Kd.R_alloc | apply Kd.R_drewN | apply Kd.R_drew)); exact HO_63.out) gb203 (Nat.le_of_eq hg.symm)) hb); have n3_ := Aside0.mk (below_step (by repeat (first | (with_reducible first | exact HB.out | apply below_alloc | apply pw_below_drewN | apply below_drew1) | exact HB.out)) hb); have n4_ := Aside0.mk (hbox); have n5_ := Aside0.mk ((by rw [hg]; exact (below_size (by repeat (first | (with_reducible first | exact HB.out | apply below_alloc | apply pw_below_drewN | apply below_drew1) | exact HB.out))) : w.heap.size ≤ gb203)); have n6_ := Aside0.mk ((by rw [hg]; exact (below_size (by repeat (first | (with_reducible first | exact HB.out | apply below_alloc | apply pw_below_drewN | apply below_drew1) | exact HB.out))) : w.heap.size ≤ gb203)); clear HO_6; clear HO_7; clear HO_63; clear HB; have HO_6 := n0_; have HO_7 := n1_; have HO_63 := n2_; have HB := n3_; have BK203 := n4_; have GW203 := n5_; have GE203 := n6_; clear n0_ n1_ n2_ n3_ n4_ n5_ n6_; clear hb hbox hg; have hcz43_0 : w42.cell? ⟨gb203, 0, none⟩ = some (.int .i64 0) := (blk_cell BK203.out 0).trans rfl; have hcz43_1 : w42.cell? ⟨gb203, 1, none⟩ = some (.string (⟨#[]⟩ : ByteArray)) := (blk_cell BK203.out 1).trans rfl; have hfz43_0 := blk_frozen BK203.out 0; have hfz43_1 := blk_frozen BK203.out 1; obtain ⟨Ao44, co44, eo44⟩ := Kd.R_slice HO_6.out; subst eo44; have p204 : 0 ≤ (x65_3 : Int) := of_decide_eq_true (by first | (with_reducible assumption) | assumption); have q204 : x65_3 < (t196.length : Int) := of_decide_eq_true (by first | (with_reducible assumption) | assumption); obtain ⟨ad204, e204, hx204_0⟩ := Kd.at_int (Kd.R_reads' HO_6.out).2.2 x65_3 p204 q204; cases e204; have hn204_0 : ad204.block ≠ gb203 := Kd.own_blk (Kd.R_ne HO_6.out BK203.out (by decide)); have hn204_1 : ad204.block ≠ gb203 := Kd.own_blk (Kd.R_ne HO_6.out BK203.out (by decide)); replace hx204_0 := (cell_far (p := ⟨gb203, 0, none⟩) (by first | (rw [add_block]; exact hn204_0) | (show (Addr.add _ _).block ≠ _; rw [add_block]; exact hn204_0) | exact hn204_0) (.int .i64 ((rd_T26 t191 x65_3).f0))).trans hx204_0; replace hx204_0 := (cell_far (p := ⟨gb203, 1, none⟩) (by first | (rw [add_block]; exact hn204_1) | (show (Addr.add _ _).block ≠ _; rw [add_block]; exact hn204_1) | exact hn204_1) (.string ((rd_T26 t191 x65_3).f1))).trans hx204_0; (try have hy204_0 := fun (n_ : Nat) => (show ((((w42.drewN n_).setCell ⟨gb203, 0, none⟩ (.int .i64 ((rd_T26 t191 x65_3).f0))).setCell ⟨gb203, 1, none⟩ (.string ((rd_T26 t191 x65_3).f1)))).cell? _ = some _ from hx204_0)); clear hn204_0; clear hn204_1; replace p204 := eq_true p204; replace q204 := eq_true q204; obtain ⟨Ao45, co45, eo45⟩ := Kd.R_slice HO_7.out; subst eo45; have p205 : 0 ≤ (x65_3 : Int) := of_decide_eq_true (by first | (with_reducible assumption) | assumption); have q205 : x65_3 < (t197.length : Int) := of_decide_eq_true (by first | (with_reducible assumption) | assumption); obtain ⟨ad205, e205, hx205_0⟩ := Kd.at_string (Kd.R_reads' HO_7.out).2.2 x65_3 p205 q205; cases e205; have hn205_0 : ad205.block ≠ gb203 := Kd.own_blk (Kd.R_ne HO_7.out BK203.out (by decide)); have hn205_1 : ad205.block ≠ gb203 := Kd.own_blk (Kd.R_ne HO_7.out BK203.out (by decide)); replace hx205_0 := (cell_far (p := ⟨gb203, 0, none⟩) (by first | (rw [add_block]; exact hn205_0) | (show (Addr.add _ _).block ≠ _; rw [add_block]; exact hn205_0) | exact hn205_0) (.int .i64 ((rd_T26 t191 x65_3).f0))).trans hx205_0; replace hx205_0 := (cell_far (p := ⟨gb203, 1, none⟩) (by first | (rw [add_block]; exact hn205_1) | (show (Addr.add _ _).block ≠ _; rw [add_block]; exact hn205_1) | exact hn205_1) (.string ((rd_T26 t191 x65_3).f1))).trans hx205_0; (try have hy205_0 := fun (n_ : Nat) => (show ((((w42.drewN n_).setCell ⟨gb203, 0, none⟩ (.int .i64 ((rd_T26 t191 x65_3).f0))).setCell ⟨gb203, 1, none⟩ (.string ((rd_T26 t191 x65_3).f1)))).cell? _ = some _ from hx205_0)); clear hn205_0; clear hn205_1; replace p205 := eq_true p205; replace q205 := eq_true q205)))
                   go_ret
                   exact ⟨by first | rfl | (simp [errW_none, errW_some] <;> rfl) | (simp [*, errW_none, errW_some] <;> rfl) | (simp (disch := omega) only [wrap64_id] <;> rfl), by repeat (first | (with_reducible first | exact HB.out | apply below_alloc | apply pw_below_drewN | apply below_drew1 | refine below_set ?_ GE203.out) | exact HB.out)⟩
                 ·rw [if_neg c36] at H
                  exact absurd H (by simp)
               ·rw [if_neg c31] at H
                have c31b0 : ((rd t196 x65_3) == ((rd_T26 t191 x65_3).f0)) = false := beq_eq_false_iff_ne.mpr c31
                have c31b1 : ((rd t196 x65_3) != ((rd_T26 t191 x65_3).f0)) = true := bne_iff_ne.mpr c31
                obtain rfl := Option.some.inj H
                have p202 : 0 ≤ (x65_3 : Int) := of_decide_eq_true (by first | (with_reducible assumption) | assumption)
                have q202 : x65_3 < (t191.length : Int) := of_decide_eq_true (by first | (with_reducible assumption) | assumption)
                obtain ⟨ad202, e202, hx202_0, hx202_1⟩ := at_T26 (Kd.R_reads' HO_63.out).2.2 x65_3 p202 q202
                cases e202
                replace p202 := eq_true p202
                replace q202 := eq_true q202
                go_wp2_with (first | ((with_reducible refine gate_dst (N := 9) rfl ?_); (try (refine gate_guard (by rfl) ?_; dsimp only)); refine box_event ?hg (N := 9) ?hd (cs := #[.int .i64 0, .string (⟨#[]⟩ : ByteArray)]) (t := 26) ?hr ?_; (case hd => rfl); (case hg => rfl); (case hr => first | (go_simp; done) | (go_simp; rfl)); intro gb203 hg w46 hbox hb; have n0_ := Aside0.mk (Kd.R_below (by (with_reducible repeat (first | apply Kd.R_alloc | apply Kd.R_drewN | apply Kd.R_drew)); exact HO_6.out) hb); have n1_ := Aside0.mk (Kd.R_below (by (with_reducible repeat (first | apply Kd.R_alloc | apply Kd.R_drewN | apply Kd.R_drew)); exact HO_7.out) hb); have n2_ := Aside0.mk (Kd.R_below (Kd.R_elderB (by (with_reducible repeat (first | apply Kd.R_alloc | apply Kd.R_drewN | apply Kd.R_drew)); exact HO_63.out) gb203 (Nat.le_of_eq hg.symm)) hb); have n3_ := Aside0.mk (below_step (by repeat (first | (with_reducible first | exact HB.out | apply below_alloc | apply pw_below_drewN | apply below_drew1) | exact HB.out)) hb); have n4_ := Aside0.mk (hbox); have n5_ := Aside0.mk ((by rw [hg]; exact (below_size (by repeat (first | (with_reducible first | exact HB.out | apply below_alloc | apply pw_below_drewN | apply below_drew1) | exact HB.out))) : w.heap.size ≤ gb203)); have n6_ := Aside0.mk ((by rw [hg]; exact (below_size (by repeat (first | (with_reducible first | exact HB.out | apply below_alloc | apply pw_below_drewN | apply below_drew1) | exact HB.out))) : w.heap.size ≤ gb203)); clear HO_6; clear HO_7; clear HO_63; clear HB; have HO_6 := n0_; have HO_7 := n1_; have HO_63 := n2_; have HB := n3_; have BK203 := n4_; have GW203 := n5_; have GE203 := n6_; clear n0_ n1_ n2_ n3_ n4_ n5_ n6_; clear hb hbox hg; have hcz47_0 : w46.cell? ⟨gb203, 0, none⟩ = some (.int .i64 0) := (blk_cell BK203.out 0).trans rfl; have hcz47_1 : w46.cell? ⟨gb203, 1, none⟩ = some (.string (⟨#[]⟩ : ByteArray)) := (blk_cell BK203.out 1).trans rfl; have hfz47_0 := blk_frozen BK203.out 0; have hfz47_1 := blk_frozen BK203.out 1; obtain ⟨Ao48, co48, eo48⟩ := Kd.R_slice HO_6.out; subst eo48; have p204 : 0 ≤ (x65_3 : Int) := of_decide_eq_true (by first | (with_reducible assumption) | assumption); have q204 : x65_3 < (t196.length : Int) := of_decide_eq_true (by first | (with_reducible assumption) | assumption); obtain ⟨ad204, e204, hx204_0⟩ := Kd.at_int (Kd.R_reads' HO_6.out).2.2 x65_3 p204 q204; cases e204; have hn204_0 : ad204.block ≠ gb203 := Kd.own_blk (Kd.R_ne HO_6.out BK203.out (by decide)); have hn204_1 : ad204.block ≠ gb203 := Kd.own_blk (Kd.R_ne HO_6.out BK203.out (by decide)); replace hx204_0 := (cell_far (p := ⟨gb203, 0, none⟩) (by first | (rw [add_block]; exact hn204_0) | (show (Addr.add _ _).block ≠ _; rw [add_block]; exact hn204_0) | exact hn204_0) (.int .i64 ((rd_T26 t191 x65_3).f0))).trans hx204_0; replace hx204_0 := (cell_far (p := ⟨gb203, 1, none⟩) (by first | (rw [add_block]; exact hn204_1) | (show (Addr.add _ _).block ≠ _; rw [add_block]; exact hn204_1) | exact hn204_1) (.string ((rd_T26 t191 x65_3).f1))).trans hx204_0; (try have hy204_0 := fun (n_ : Nat) => (show ((((w46.drewN n_).setCell ⟨gb203, 0, none⟩ (.int .i64 ((rd_T26 t191 x65_3).f0))).setCell ⟨gb203, 1, none⟩ (.string ((rd_T26 t191 x65_3).f1)))).cell? _ = some _ from hx204_0)); clear hn204_0; clear hn204_1; replace p204 := eq_true p204; replace q204 := eq_true q204))
                repeat (go_quiet (first | ((with_reducible refine gate_dst (N := 9) rfl ?_); (try (refine gate_guard (by rfl) ?_; dsimp only)); refine box_event ?hg (N := 9) ?hd (cs := #[.int .i64 0, .string (⟨#[]⟩ : ByteArray)]) (t := 26) ?hr ?_; (case hd => rfl); (case hg => rfl); (case hr => first | (go_simp; done) | (go_simp; rfl)); intro gb203 hg w46 hbox hb; have n0_ := Aside0.mk (Kd.R_below (by (with_reducible repeat (first | apply Kd.R_alloc | apply Kd.R_drewN | apply Kd.R_drew)); exact HO_6.out) hb); have n1_ := Aside0.mk (Kd.R_below (by (with_reducible repeat (first | apply Kd.R_alloc | apply Kd.R_drewN | apply Kd.R_drew)); exact HO_7.out) hb); have n2_ := Aside0.mk (Kd.R_below (Kd.R_elderB (by (with_reducible repeat (first | apply Kd.R_alloc | apply Kd.R_drewN | apply Kd.R_drew)); exact HO_63.out) gb203 (Nat.le_of_eq hg.symm)) hb); have n3_ := Aside0.mk (below_step (by repeat (first | (with_reducible first | exact HB.out | apply below_alloc | apply pw_below_drewN | apply below_drew1) | exact HB.out)) hb); have n4_ := Aside0.mk (hbox); have n5_ := Aside0.mk ((by rw [hg]; exact (below_size (by repeat (first | (with_reducible first | exact HB.out | apply below_alloc | apply pw_below_drewN | apply below_drew1) | exact HB.out))) : w.heap.size ≤ gb203)); have n6_ := Aside0.mk ((by rw [hg]; exact (below_size (by repeat (first | (with_reducible first | exact HB.out | apply below_alloc | apply pw_below_drewN | apply below_drew1) | exact HB.out))) : w.heap.size ≤ gb203)); clear HO_6; clear HO_7; clear HO_63; clear HB; have HO_6 := n0_; have HO_7 := n1_; have HO_63 := n2_; have HB := n3_; have BK203 := n4_; have GW203 := n5_; have GE203 := n6_; clear n0_ n1_ n2_ n3_ n4_ n5_ n6_; clear hb hbox hg; have hcz47_0 : w46.cell? ⟨gb203, 0, none⟩ = some (.int .i64 0) := (blk_cell BK203.out 0).trans rfl; have hcz47_1 : w46.cell? ⟨gb203, 1, none⟩ = some (.string (⟨#[]⟩ : ByteArray)) := (blk_cell BK203.out 1).trans rfl; have hfz47_0 := blk_frozen BK203.out 0; have hfz47_1 := blk_frozen BK203.out 1; obtain ⟨Ao48, co48, eo48⟩ := Kd.R_slice HO_6.out; subst eo48; have p204 : 0 ≤ (x65_3 : Int) := of_decide_eq_true (by first | (with_reducible assumption) | assumption); have q204 : x65_3 < (t196.length : Int) := of_decide_eq_true (by first | (with_reducible assumption) | assumption); obtain ⟨ad204, e204, hx204_0⟩ := Kd.at_int (Kd.R_reads' HO_6.out).2.2 x65_3 p204 q204; cases e204; have hn204_0 : ad204.block ≠ gb203 := Kd.own_blk (Kd.R_ne HO_6.out BK203.out (by decide)); have hn204_1 : ad204.block ≠ gb203 := Kd.own_blk (Kd.R_ne HO_6.out BK203.out (by decide)); replace hx204_0 := (cell_far (p := ⟨gb203, 0, none⟩) (by first | (rw [add_block]; exact hn204_0) | (show (Addr.add _ _).block ≠ _; rw [add_block]; exact hn204_0) | exact hn204_0) (.int .i64 ((rd_T26 t191 x65_3).f0))).trans hx204_0; replace hx204_0 := (cell_far (p := ⟨gb203, 1, none⟩) (by first | (rw [add_block]; exact hn204_1) | (show (Addr.add _ _).block ≠ _; rw [add_block]; exact hn204_1) | exact hn204_1) (.string ((rd_T26 t191 x65_3).f1))).trans hx204_0; (try have hy204_0 := fun (n_ : Nat) => (show ((((w46.drewN n_).setCell ⟨gb203, 0, none⟩ (.int .i64 ((rd_T26 t191 x65_3).f0))).setCell ⟨gb203, 1, none⟩ (.string ((rd_T26 t191 x65_3).f1)))).cell? _ = some _ from hx204_0)); clear hn204_0; clear hn204_1; replace p204 := eq_true p204; replace q204 := eq_true q204)); try go_wp2_with (first | ((with_reducible refine gate_dst (N := 9) rfl ?_); (try (refine gate_guard (by rfl) ?_; dsimp only)); refine box_event ?hg (N := 9) ?hd (cs := #[.int .i64 0, .string (⟨#[]⟩ : ByteArray)]) (t := 26) ?hr ?_; (case hd => rfl); (case hg => rfl); (case hr => first | (go_simp; done) | (go_simp; rfl)); intro gb203 hg w46 hbox hb; have n0_ := Aside0.mk (Kd.R_below (by (with_reducible repeat (first | apply Kd.R_alloc | apply Kd.R_drewN | apply Kd.R_drew)); exact HO_6.out) hb); have n1_ := Aside0.mk (Kd.R_below (by (with_reducible repeat (first | apply Kd.R_alloc | apply Kd.R_drewN | apply Kd.R_drew)); exact HO_7.out) hb); have n2_ := Aside0.mk (Kd.R_below (Kd.R_elderB (by (with_reducible repeat (first | apply Kd.R_alloc | apply Kd.R_drewN | apply Kd.R_drew)); exact HO_63.out) gb203 (Nat.le_of_eq hg.symm)) hb); have n3_ := Aside0.mk (below_step (by repeat (first | (with_reducible first | exact HB.out | apply below_alloc | apply pw_below_drewN | apply below_drew1) | exact HB.out)) hb); have n4_ := Aside0.mk (hbox); have n5_ := Aside0.mk ((by rw [hg]; exact (below_size (by repeat (first | (with_reducible first | exact HB.out | apply below_alloc | apply pw_below_drewN | apply below_drew1) | exact HB.out))) : w.heap.size ≤ gb203)); have n6_ := Aside0.mk ((by rw [hg]; exact (below_size (by repeat (first | (with_reducible first | exact HB.out | apply below_alloc | apply pw_below_drewN | apply below_drew1) | exact HB.out))) : w.heap.size ≤ gb203)); clear HO_6; clear HO_7; clear HO_63; clear HB; have HO_6 := n0_; have HO_7 := n1_; have HO_63 := n2_; have HB := n3_; have BK203 := n4_; have GW203 := n5_; have GE203 := n6_; clear n0_ n1_ n2_ n3_ n4_ n5_ n6_; clear hb hbox hg; have hcz47_0 : w46.cell? ⟨gb203, 0, none⟩ = some (.int .i64 0) := (blk_cell BK203.out 0).trans rfl; have hcz47_1 : w46.cell? ⟨gb203, 1, none⟩ = some (.string (⟨#[]⟩ : ByteArray)) := (blk_cell BK203.out 1).trans rfl; have hfz47_0 := blk_frozen BK203.out 0; have hfz47_1 := blk_frozen BK203.out 1; obtain ⟨Ao48, co48, eo48⟩ := Kd.R_slice HO_6.out; subst eo48; have p204 : 0 ≤ (x65_3 : Int) := of_decide_eq_true (by first | (with_reducible assumption) | assumption); have q204 : x65_3 < (t196.length : Int) := of_decide_eq_true (by first | (with_reducible assumption) | assumption); obtain ⟨ad204, e204, hx204_0⟩ := Kd.at_int (Kd.R_reads' HO_6.out).2.2 x65_3 p204 q204; cases e204; have hn204_0 : ad204.block ≠ gb203 := Kd.own_blk (Kd.R_ne HO_6.out BK203.out (by decide)); have hn204_1 : ad204.block ≠ gb203 := Kd.own_blk (Kd.R_ne HO_6.out BK203.out (by decide)); replace hx204_0 := (cell_far (p := ⟨gb203, 0, none⟩) (by first | (rw [add_block]; exact hn204_0) | (show (Addr.add _ _).block ≠ _; rw [add_block]; exact hn204_0) | exact hn204_0) (.int .i64 ((rd_T26 t191 x65_3).f0))).trans hx204_0; replace hx204_0 := (cell_far (p := ⟨gb203, 1, none⟩) (by first | (rw [add_block]; exact hn204_1) | (show (Addr.add _ _).block ≠ _; rw [add_block]; exact hn204_1) | exact hn204_1) (.string ((rd_T26 t191 x65_3).f1))).trans hx204_0; (try have hy204_0 := fun (n_ : Nat) => (show ((((w46.drewN n_).setCell ⟨gb203, 0, none⟩ (.int .i64 ((rd_T26 t191 x65_3).f0))).setCell ⟨gb203, 1, none⟩ (.string ((rd_T26 t191 x65_3).f1)))).cell? _ = some _ from hx204_0)); clear hn204_0; clear hn204_1; replace p204 := eq_true p204; replace q204 := eq_true q204)))
                go_ret
                exact ⟨by first | rfl | (simp [errW_none, errW_some] <;> rfl) | (simp [*, errW_none, errW_some] <;> rfl) | (simp (disch := omega) only [wrap64_id] <;> rfl), by repeat (first | (with_reducible first | exact HB.out | apply below_alloc | apply pw_below_drewN | apply below_drew1 | refine below_set ?_ GE203.out) | exact HB.out)⟩
              ·rw [if_neg c30] at H
               exact absurd H (by simp)
             ·rw [if_neg c29] at H
              exact absurd H (by simp)
            ·rw [if_neg c28] at H
             exact absurd H (by simp)
           ·rw [if_neg c27] at H
            have c27b0 : decide (x65_3 < (t191.length : Int)) = false := decide_eq_false c27
            clear c27
            obtain rfl := Option.some.inj H
            go_wp2
            repeat (go_quiet (fail); try go_wp2)
            go_ret
            exact ⟨by first | rfl | (simp [errW_none, errW_some] <;> rfl) | (simp [*, errW_none, errW_some] <;> rfl) | (simp (disch := omega) only [wrap64_id] <;> rfl), by repeat (first | (with_reducible first | exact HB.out | apply below_alloc | apply pw_below_drewN | apply below_drew1) | exact HB.out)⟩

/-- THE ONE PURE STATEMENT of laws_FnVtTokens: yours. -/
def laws_FnVtTokens.Pure : Prop := ∀ (a0 : ByteArray), a0.size ≤ 140737488351232 → ∃ k, laws_FnVtTokens.f k a0 = some true
theorem laws_FnVtTokens.walk (P : laws_FnVtTokens.Pure) (a0 : ByteArray) (w : World) (hT : Lib.Utf8Tabs 0 1 w) (w0 : a0.size ≤ 140737488351232) :
  Calls Tryd.prog 3 #[.string a0] w fun e w' => e = .returned (.bool true) ∧ Below w.heap.size w w' := by
 obtain ⟨k, h⟩ := P a0 w0
 refine (laws_FnVtTokens.calls k a0 true w hT h).mono ?_
 rintro e w' ⟨rfl, hd⟩
 exact ⟨rfl, hd⟩

end Go.Proofs.YthcafnmagidpiaaDoor.MFnVtTokens
