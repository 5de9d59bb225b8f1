-- Written by a program of this session (myprint.py, out of the translation). Not trusted: Lean checks it.
import Derived.Test.YtbemkokigpcmdaaMFnMtRuleDropx0
import Derived.Test.YtbemkokigpcmdaaMFnMtRuleDropx1
import Derived.Test.YtbemkokigpcmdaaMFnMtRuleDropx3
import Derived.Test.YtbemkokigpcmdaaMFnMtRuleDropx5
import Derived.Test.YtbemkokigpcmdaaMFnMtRuleDropx6
namespace Go.Proofs.Ytbemkokigpcmdaa.MFnMtRuleDrop
open Go.RowKit Go.Proofs.YtbemkokigpcmdaaW.PrintWords Go.Proofs.YtbemkokigpcmdaaW.PrintLast Go.Proofs.YtbemkokigpcmdaaW.PrintMore
attribute [local go_sem] max2_int min2_int max_two min_two max_three min_three max_four min_four   -- for this text's walks alone
set_option linter.unusedVariables false
set_option linter.unusedSimpArgs false

attribute [local go_sem high] eqA32
/-! ### laws_FnMtRuleDrop: function 4 -/
mutual
def laws_FnMtRuleDrop.j0 : Nat → List (S28) → Int → Bool → Option (Bool)
  | 0, _, _, _ => none
  | k + 1, x0, x1, x23 => if x23 = true then (some true) else (if (x0.length : Int) = 0 then (none) else ((impl_MtRule.f k x0).bind fun t128 => ((spec_ReadRule.f k t128).bind fun bt129 => ((some (([] : List (S28)) : List (S28))).bind fun y133 => (if 0 ≤ (Int.tmod (wrap64 (x1)) (x0.length : Int)) then (if (Int.tmod (wrap64 (x1)) (x0.length : Int)) ≤ (x0.length : Int) then ((some (x0.take ((Int.tmod (wrap64 (x1)) (x0.length : Int)) : Int).toNat : List (S28))).bind fun y136 => (if y133.length + y136.length < 4398046511104 then ((some (y133 ++ y136 : List (S28))).bind fun y140 => (if 0 ≤ (wrap64 ((Int.tmod (wrap64 (x1)) (x0.length : Int)) + 1)) then (if (wrap64 ((Int.tmod (wrap64 (x1)) (x0.length : Int)) + 1)) ≤ (x0.length : Int) then ((some (x0.drop ((wrap64 ((Int.tmod (wrap64 (x1)) (x0.length : Int)) + 1)) : Int).toNat : List (S28))).bind fun y143 => (if y140.length + y143.length < 4398046511104 then ((impl_MtRule.f k (y140 ++ y143)).bind fun t150 => ((spec_ReadRule.f k t150).bind fun bt151 => (if bt129.2 = true then (if bt151.2 = true then (if (bt129.1.length : Int) = (x0.length : Int) then (laws_FnMtRuleDrop.j1 k (Int.tmod (wrap64 (x1)) (x0.length : Int)) bt129.1 bt151.1 ((bt151.1.length : Int) != (wrap64 ((x0.length : Int) - 1)))) else (laws_FnMtRuleDrop.j1 k (Int.tmod (wrap64 (x1)) (x0.length : Int)) bt129.1 bt151.1 true)) else (laws_FnMtRuleDrop.j1 k (Int.tmod (wrap64 (x1)) (x0.length : Int)) bt129.1 bt151.1 true)) else (laws_FnMtRuleDrop.j1 k (Int.tmod (wrap64 (x1)) (x0.length : Int)) bt129.1 bt151.1 true)))) else (none))) else (none)) else (none))) else (none))) else (none)) else (none))))))
def laws_FnMtRuleDrop.j1 : Nat → Int → List (S32) → List (S32) → Bool → Option (Bool)
  | 0, _, _, _, _ => none
  | k + 1, x5, x6, x8, x70 => if x70 = true then (some false) else (laws_FnMtRuleDrop.l0 k x5 x6 x8 (x8.length : Int) 0)
def laws_FnMtRuleDrop.l0 : Nat → Int → List (S32) → List (S32) → Int → Int → Option (Bool)
  | 0, _, _, _, _, _ => none
  | k + 1, x5, x6, x71, x72, x73 => if x73 < x72 then (if 0 ≤ x73 then (if x73 < (x71.length : Int) then (if x73 ≥ x5 then (if 0 ≤ (wrap64 (x73 + 1)) then (if (wrap64 (x73 + 1)) < (x6.length : Int) then (if (!((((rd_T32 x71 x73).f0).toList) == (((rd_T32 x6 (wrap64 (x73 + 1))).f0).toList)) || (!((((rd_T32 x71 x73).f1).toList) == (((rd_T32 x6 (wrap64 (x73 + 1))).f1).toList)))) = true then (some false) else (laws_FnMtRuleDrop.l0 k x5 x6 x71 x72 (wrap64 (x73 + 1)))) else (none)) else (none)) else (if x73 < (x6.length : Int) then (if (!((((rd_T32 x71 x73).f0).toList) == (((rd_T32 x6 x73).f0).toList)) || (!((((rd_T32 x71 x73).f1).toList) == (((rd_T32 x6 x73).f1).toList)))) = true then (some false) else (laws_FnMtRuleDrop.l0 k x5 x6 x71 x72 (wrap64 (x73 + 1)))) else (none))) else (none)) else (none)) else (some true)
end
def laws_FnMtRuleDrop.f (k : Nat) (l0 : List (S28)) (a1 : Int) : Option (Bool) := (laws_zzFits3.f k l0).bind fun t126 => (if t126 = true then (if (l0.length : Int) = 0 then (laws_FnMtRuleDrop.j0 k l0 a1 true) else ((laws_mtPlain.f k l0).bind fun t127 => (laws_FnMtRuleDrop.j0 k l0 a1 (!t127)))) else (some true))
theorem laws_FnMtRuleDrop.mono_l : ∀ k, (∀ y0 y1 y2, LeO (laws_FnMtRuleDrop.j0 k y0 y1 y2) (laws_FnMtRuleDrop.j0 (k + 1) y0 y1 y2)) ∧ (∀ y0 y1 y2 y3, LeO (laws_FnMtRuleDrop.j1 k y0 y1 y2 y3) (laws_FnMtRuleDrop.j1 (k + 1) y0 y1 y2 y3)) ∧ (∀ y0 y1 y2 y3 y4, LeO (laws_FnMtRuleDrop.l0 k y0 y1 y2 y3 y4) (laws_FnMtRuleDrop.l0 (k + 1) y0 y1 y2 y3 y4))
  | 0 => ⟨fun _ _ _ r h => by simp [laws_FnMtRuleDrop.j0] at h, fun _ _ _ _ r h => by simp [laws_FnMtRuleDrop.j1] at h, fun _ _ _ _ _ r h => by simp [laws_FnMtRuleDrop.l0] at h⟩
  | k + 1 => by
    obtain ⟨ih0, ih1, ih2⟩ := laws_FnMtRuleDrop.mono_l k
    refine ⟨?_, ?_, ?_⟩
    · intro y0 y1 y2
      unfold laws_FnMtRuleDrop.j0
      repeat' first
      | (with_reducible exact ih0 _ _ _)
      | (with_reducible exact ih1 _ _ _ _)
      | (with_reducible exact ih2 _ _ _ _ _)
      | (with_reducible exact impl_MtRule.mono _ _)
      | (with_reducible exact laws_mtPlain.mono _ _)
      | (with_reducible exact laws_zzFits3.mono _ _)
      | (with_reducible exact spec_ReadRule.mono _ _)
      | (with_reducible exact LeO.refl _)
      | (with_reducible exact LeO.none _)
      | (with_reducible refine LeO.ite ?_ ?_)
      | (with_reducible refine LeO.bind ?_ (fun _ => ?_))
      | exact ih0 _ _ _
      | exact ih1 _ _ _ _
      | exact ih2 _ _ _ _ _
      | exact impl_MtRule.mono _ _
      | exact laws_mtPlain.mono _ _
      | exact laws_zzFits3.mono _ _
      | exact spec_ReadRule.mono _ _
      | exact LeO.none _
      | refine LeO.ite ?_ ?_
      | refine LeO.bind ?_ (fun _ => ?_)
    · intro y0 y1 y2 y3
      unfold laws_FnMtRuleDrop.j1
      repeat' first
      | (with_reducible exact ih0 _ _ _)
      | (with_reducible exact ih1 _ _ _ _)
      | (with_reducible exact ih2 _ _ _ _ _)
      | (with_reducible exact impl_MtRule.mono _ _)
      | (with_reducible exact laws_mtPlain.mono _ _)
      | (with_reducible exact laws_zzFits3.mono _ _)
      | (with_reducible exact spec_ReadRule.mono _ _)
      | (with_reducible exact LeO.refl _)
      | (with_reducible exact LeO.none _)
      | (with_reducible refine LeO.ite ?_ ?_)
      | (with_reducible refine LeO.bind ?_ (fun _ => ?_))
      | exact ih0 _ _ _
      | exact ih1 _ _ _ _
      | exact ih2 _ _ _ _ _
      | exact impl_MtRule.mono _ _
      | exact laws_mtPlain.mono _ _
      | exact laws_zzFits3.mono _ _
      | exact spec_ReadRule.mono _ _
      | exact LeO.none _
      | refine LeO.ite ?_ ?_
      | refine LeO.bind ?_ (fun _ => ?_)
    · intro y0 y1 y2 y3 y4
      unfold laws_FnMtRuleDrop.l0
      repeat' first
      | (with_reducible exact ih0 _ _ _)
      | (with_reducible exact ih1 _ _ _ _)
      | (with_reducible exact ih2 _ _ _ _ _)
      | (with_reducible exact impl_MtRule.mono _ _)
      | (with_reducible exact laws_mtPlain.mono _ _)
      | (with_reducible exact laws_zzFits3.mono _ _)
      | (with_reducible exact spec_ReadRule.mono _ _)
      | (with_reducible exact LeO.refl _)
      | (with_reducible exact LeO.none _)
      | (with_reducible refine LeO.ite ?_ ?_)
      | (with_reducible refine LeO.bind ?_ (fun _ => ?_))
      | exact ih0 _ _ _
      | exact ih1 _ _ _ _
      | exact ih2 _ _ _ _ _
      | exact impl_MtRule.mono _ _
      | exact laws_mtPlain.mono _ _
      | exact laws_zzFits3.mono _ _
      | exact spec_ReadRule.mono _ _
      | exact LeO.none _
      | refine LeO.ite ?_ ?_
      | refine LeO.bind ?_ (fun _ => ?_)
theorem laws_FnMtRuleDrop.mono : ∀ a0 a1 k, LeO (laws_FnMtRuleDrop.f k a0 a1) (laws_FnMtRuleDrop.f (k + 1) a0 a1) := by
  intro a0 a1 k
  obtain ⟨ih0, ih1, ih2⟩ := laws_FnMtRuleDrop.mono_l k
  unfold laws_FnMtRuleDrop.f
  repeat' first
      | (with_reducible exact ih0 _ _ _)
      | (with_reducible exact ih1 _ _ _ _)
      | (with_reducible exact ih2 _ _ _ _ _)
      | (with_reducible exact impl_MtRule.mono _ _)
      | (with_reducible exact laws_mtPlain.mono _ _)
      | (with_reducible exact laws_zzFits3.mono _ _)
      | (with_reducible exact spec_ReadRule.mono _ _)
      | (with_reducible exact LeO.refl _)
      | (with_reducible exact LeO.none _)
      | (with_reducible refine LeO.ite ?_ ?_)
      | (with_reducible refine LeO.bind ?_ (fun _ => ?_))
      | exact ih0 _ _ _
      | exact ih1 _ _ _ _
      | exact ih2 _ _ _ _ _
      | exact impl_MtRule.mono _ _
      | exact laws_mtPlain.mono _ _
      | exact laws_zzFits3.mono _ _
      | exact spec_ReadRule.mono _ _
      | exact LeO.none _
      | refine LeO.ite ?_ ?_
      | refine LeO.bind ?_ (fun _ => ?_)
def laws_FnMtRuleDrop.T7 : Bool × List (List Nat × List Nat) := (true, [([], []), ([], []), ([], []), ([1, 2], [1, 2]), ([0, 3], [0, 3]), ([], []), ([], []), ([6], [6]), ([5, 7], [5, 7]), ([4, 8, 4], [4, 8]), ([9, 9], [9]), ([10, 10], [10]), ([11], [11]), ([12], [12]), ([12], [12]), ([13, 11, 0, 1, 2, 3, 4, 5, 6, 7, 8, 9, 10, 11, 12, 13], [13]), ([14, 15, 0, 1, 2, 3, 4, 5, 6, 7, 8, 9, 10, 11, 12, 13, 14, 15], [14])])
def laws_FnMtRuleDrop.B7 : List Nat := [0, 0, 0, 6, 15, 0, 0, 64, 224, 511, 1023, 2047, 4095, 8191, 8191, 16383, 65535]
theorem laws_FnMtRuleDrop.tab7 : rtab .any (opsOf Try.f4 7) = laws_FnMtRuleDrop.T7 := by kernel_rfl
theorem laws_FnMtRuleDrop.bits7 : waitsOk laws_FnMtRuleDrop.T7.2 laws_FnMtRuleDrop.B7 = true := by kernel_rfl
set_option maxHeartbeats 8000000 in
set_option maxRecDepth 100000 in
theorem laws_FnMtRuleDrop.calls (k : Nat) (A0 : Option Addr) (c0 : Nat) (l0 : List (S28)) (a1 : Int) (r : Bool) (w : World) (hr0 : Kd.C k28 w A0 l0.length l0) (hc0 : l0.length ≤ c0) (h : laws_FnMtRuleDrop.f k l0 a1 = some r) :
    Calls Try.prog 4 #[.slice A0 l0.length c0, .int .u8 a1] w fun e w' => e = .returned (.bool r) ∧ Below w.heap.size w w' := by
  have hu32 := Try.underlying32
  have HR0 := Aside0.mk hr0
  have HC0 := Aside0.mk hc0
  clear hr0 hc0
  have HB := Aside0.mk (Below.refl w.heap.size w)
  have H : ((laws_zzFits3.f k l0).bind fun t126 => (if t126 = true then (if (l0.length : Int) = 0 then (laws_FnMtRuleDrop.j0 k l0 a1 true) else ((laws_mtPlain.f k l0).bind fun t127 => (laws_FnMtRuleDrop.j0 k l0 a1 (!t127)))) else (some true))) = some r := h
  clear h
  replace H := Option.bind_eq_some_iff.mp H
  obtain ⟨t126, A30, H⟩ := H
  replace H : (if t126 = true then (if (l0.length : Int) = 0 then (laws_FnMtRuleDrop.j0 k l0 a1 true) else ((laws_mtPlain.f k l0).bind fun t127 => (laws_FnMtRuleDrop.j0 k l0 a1 (!t127)))) else (some true)) = some r := H
  have A3 := Aside0.mk A30
  clear A30
  by_cases c4 : t126 = true
  · subst c4
    have H1 : (if (l0.length : Int) = 0 then (laws_FnMtRuleDrop.j0 k l0 a1 true) else ((laws_mtPlain.f k l0).bind fun t127 => (laws_FnMtRuleDrop.j0 k l0 a1 (!t127)))) = some r := by rw [if_pos rfl] at H; exact H
    clear H
    have H := H1
    clear H1
    have HC5 := Aside0.mk H
    clear H
    go_enter Try.func4, Try.ntmps4
    go_upto_region 3 with (first | ((with_reducible refine gate_callee (f := 5) rfl ?_); refine goesL_ (some 14) rfl rfl Try.func5 (by kernel_rfl) rfl #[.slice A0 l0.length c0] rfl (by (try simp only [List.map_toArray, List.map_cons, List.map_nil]); first | done | rfl | (simp only [List.length_drop, List.length_take]; rfl)) ?_; (with_reducible refine (laws_zzFits3.calls k _ _ l0 true _ ?side1 ?side2 A3.out).mono ?_); (case side1 => repeat (first | exact HR0.out | (with_reducible refine Kd.C_alloc ?_ _) | (with_reducible refine Kd.C_drewN ?_ _) | (with_reducible refine Kd.C_drew ?_))); (case side2 => exact HC0.out); rintro e w6 ⟨rfl, hb⟩; refine ⟨_, rfl, ?_⟩; have n0_ := Aside0.mk (below_step (by repeat (first | (with_reducible first | exact HB.out | apply below_alloc | apply pw_below_drewN | apply below_drew1) | exact HB.out)) hb); clear HB; have HB := n0_; clear n0_; (try clear hb); (try clear hb2); (try clear hk); (try clear hi)))
    (try simp only [Act.put, List.setIfInBounds_toArray, List.set_cons_zero, List.set_cons_succ])
    go_cut [23] (fun v23 wc => ∃ (kq : Nat) (x23_4 : Bool), v23 = .bool x23_4 ∧ Aside0 (laws_FnMtRuleDrop.j0 kq l0 a1 x23_4 = some r) ∧ Aside0 (kq ≤ k) ∧ Aside0 (Below w.heap.size w wc))
    case first =>
      have H := HC5.out
      clear HC5
      by_cases c7 : (l0.length : Int) = 0
      · rw [if_pos c7] at H
        have c7b0 : ((l0.length : Int) == 0) = true := beq_iff_eq.mpr c7
        have c7b1 : ((l0.length : Int) != 0) = false := bne_eq_false_iff_eq.mpr c7
        clear c7
        (first | rw [c7b0] | (simp only [i64_w, i32_w]; rw [c7b0]) | skip)
        have H' := Aside0.mk H
        clear H
        go_wp2
        go_meet
        case rel => exact ⟨_, (true), (by first | rfl | (simp; done) | (simp [*]; done)), H', ⟨by first | omega | exact Nat.le_refl _⟩, ⟨by repeat (first | (with_reducible first | exact HB.out | apply below_alloc | apply pw_below_drewN | apply below_drew1) | exact HB.out)⟩⟩
      · rw [if_neg c7] at H
        have c7b0 : ((l0.length : Int) == 0) = false := beq_eq_false_iff_ne.mpr c7
        have c7b1 : ((l0.length : Int) != 0) = true := bne_iff_ne.mpr c7
        have c7b2 : ¬ (l0 = []) := fun h_ => c7 (by rw [h_]; rfl)
        (first | rw [c7b0] | (simp only [i64_w, i32_w]; rw [c7b0]) | skip)
        replace H := Option.bind_eq_some_iff.mp H
        obtain ⟨t127, A80, H⟩ := H
        replace H : (laws_FnMtRuleDrop.j0 k l0 a1 (!t127)) = some r := H
        have A8 := Aside0.mk A80
        clear A80
        have H' := Aside0.mk H
        clear H
        go_wp2_with (first | (go_at_call 6; (with_reducible refine (laws_mtPlain.calls k _ _ l0 t127 _ ?side1 ?side2 A8.out).mono ?_); (case side1 => repeat (first | exact (Kd.C_below HR0.out HB.out) | (with_reducible refine Kd.C_alloc ?_ _) | (with_reducible refine Kd.C_drewN ?_ _) | (with_reducible refine Kd.C_drew ?_))); (case side2 => exact HC0.out); rintro e w9 ⟨rfl, hb⟩; have n0_ := Aside0.mk (below_step (by repeat (first | (with_reducible first | exact HB.out | apply below_alloc | apply pw_below_drewN | apply below_drew1) | exact HB.out)) hb); clear HB; have HB := n0_; clear n0_; (try clear hb); (try clear hb2); (try clear hk); (try clear hi)))
        go_meet
        case rel => exact ⟨_, (!t127), (by first | rfl | (simp; done) | (simp [*]; done)), H', ⟨by first | omega | exact Nat.le_refl _⟩, ⟨by repeat (first | (with_reducible first | exact HB.out | apply below_alloc | apply pw_below_drewN | apply below_drew1) | exact HB.out)⟩⟩
    case rest =>
      clear HC5
      try clear p2
      try clear c4
      try clear c5
      try clear c7
      try clear c7b0
      try clear c7b1
      try clear c7b2
      obtain ⟨kq, x23_4, rfl, HA, HJ4, HB⟩ := hcut
      cases kq with
      | zero => exact absurd HA.out (by simp [laws_FnMtRuleDrop.j0])
      | succ kj4 =>
        have H := HA.out
        clear HA
        simp only [laws_FnMtRuleDrop.j0] at H
        by_cases c10 : x23_4 = true
        · subst c10
          have H1 : (some true) = some r := by rw [if_pos rfl] at H; exact H
          clear H
          have H := H1
          clear H1
          obtain rfl := Option.some.inj H
          go_wp2
          go_ret
          exact ⟨by first | rfl | (simp [errW_none, errW_some] <;> rfl) | (simp [*, errW_none, errW_some] <;> rfl) | (simp (disch := omega) only [wrap64_id] <;> rfl), by repeat (first | (with_reducible first | exact HB.out | apply below_alloc | apply pw_below_drewN | apply below_drew1) | exact HB.out)⟩
        · replace c10 := Bool.eq_false_iff.mpr c10
          subst c10
          have H1 : (if (l0.length : Int) = 0 then (none) else ((impl_MtRule.f kj4 l0).bind fun t128 => ((spec_ReadRule.f kj4 t128).bind fun bt129 => ((some (([] : List (S28)) : List (S28))).bind fun y133 => (if 0 ≤ (Int.tmod (wrap64 (a1)) (l0.length : Int)) then (if (Int.tmod (wrap64 (a1)) (l0.length : Int)) ≤ (l0.length : Int) then ((some (l0.take ((Int.tmod (wrap64 (a1)) (l0.length : Int)) : Int).toNat : List (S28))).bind fun y136 => (if y133.length + y136.length < 4398046511104 then ((some (y133 ++ y136 : List (S28))).bind fun y140 => (if 0 ≤ (wrap64 ((Int.tmod (wrap64 (a1)) (l0.length : Int)) + 1)) then (if (wrap64 ((Int.tmod (wrap64 (a1)) (l0.length : Int)) + 1)) ≤ (l0.length : Int) then ((some (l0.drop ((wrap64 ((Int.tmod (wrap64 (a1)) (l0.length : Int)) + 1)) : Int).toNat : List (S28))).bind fun y143 => (if y140.length + y143.length < 4398046511104 then ((impl_MtRule.f kj4 (y140 ++ y143)).bind fun t150 => ((spec_ReadRule.f kj4 t150).bind fun bt151 => (if bt129.2 = true then (if bt151.2 = true then (if (bt129.1.length : Int) = (l0.length : Int) then (laws_FnMtRuleDrop.j1 kj4 (Int.tmod (wrap64 (a1)) (l0.length : Int)) bt129.1 bt151.1 ((bt151.1.length : Int) != (wrap64 ((l0.length : Int) - 1)))) else (laws_FnMtRuleDrop.j1 kj4 (Int.tmod (wrap64 (a1)) (l0.length : Int)) bt129.1 bt151.1 true)) else (laws_FnMtRuleDrop.j1 kj4 (Int.tmod (wrap64 (a1)) (l0.length : Int)) bt129.1 bt151.1 true)) else (laws_FnMtRuleDrop.j1 kj4 (Int.tmod (wrap64 (a1)) (l0.length : Int)) bt129.1 bt151.1 true)))) else (none))) else (none)) else (none))) else (none))) else (none)) else (none)))))) = some r := by rw [if_neg (show ¬ (false = true) by decide)] at H; exact H
          clear H
          have H := H1
          clear H1
          by_cases c11 : (l0.length : Int) = 0
          · rw [if_pos c11] at H
            exact absurd H (by simp)
          · rw [if_neg c11] at H
            have c11b0 : ((l0.length : Int) == 0) = false := beq_eq_false_iff_ne.mpr c11
            have c11b1 : ((l0.length : Int) != 0) = true := bne_iff_ne.mpr c11
            have c11b2 : ¬ (l0 = []) := fun h_ => c11 (by rw [h_]; rfl)
            replace H := Option.bind_eq_some_iff.mp H
            obtain ⟨t128, A120, H⟩ := H
            replace H : ((spec_ReadRule.f kj4 t128).bind fun bt129 => ((some (([] : List (S28)) : List (S28))).bind fun y133 => (if 0 ≤ (Int.tmod (wrap64 (a1)) (l0.length : Int)) then (if (Int.tmod (wrap64 (a1)) (l0.length : Int)) ≤ (l0.length : Int) then ((some (l0.take ((Int.tmod (wrap64 (a1)) (l0.length : Int)) : Int).toNat : List (S28))).bind fun y136 => (if y133.length + y136.length < 4398046511104 then ((some (y133 ++ y136 : List (S28))).bind fun y140 => (if 0 ≤ (wrap64 ((Int.tmod (wrap64 (a1)) (l0.length : Int)) + 1)) then (if (wrap64 ((Int.tmod (wrap64 (a1)) (l0.length : Int)) + 1)) ≤ (l0.length : Int) then ((some (l0.drop ((wrap64 ((Int.tmod (wrap64 (a1)) (l0.length : Int)) + 1)) : Int).toNat : List (S28))).bind fun y143 => (if y140.length + y143.length < 4398046511104 then ((impl_MtRule.f kj4 (y140 ++ y143)).bind fun t150 => ((spec_ReadRule.f kj4 t150).bind fun bt151 => (if bt129.2 = true then (if bt151.2 = true then (if (bt129.1.length : Int) = (l0.length : Int) then (laws_FnMtRuleDrop.j1 kj4 (Int.tmod (wrap64 (a1)) (l0.length : Int)) bt129.1 bt151.1 ((bt151.1.length : Int) != (wrap64 ((l0.length : Int) - 1)))) else (laws_FnMtRuleDrop.j1 kj4 (Int.tmod (wrap64 (a1)) (l0.length : Int)) bt129.1 bt151.1 true)) else (laws_FnMtRuleDrop.j1 kj4 (Int.tmod (wrap64 (a1)) (l0.length : Int)) bt129.1 bt151.1 true)) else (laws_FnMtRuleDrop.j1 kj4 (Int.tmod (wrap64 (a1)) (l0.length : Int)) bt129.1 bt151.1 true)))) else (none))) else (none)) else (none))) else (none))) else (none)) else (none)))) = some r := H
            have A12 := Aside0.mk A120
            clear A120
            replace H := Option.bind_eq_some_iff.mp H
            obtain ⟨⟨t129, t130⟩, A130, H⟩ := H
            replace H : ((some (([] : List (S28)) : List (S28))).bind fun y133 => (if 0 ≤ (Int.tmod (wrap64 (a1)) (l0.length : Int)) then (if (Int.tmod (wrap64 (a1)) (l0.length : Int)) ≤ (l0.length : Int) then ((some (l0.take ((Int.tmod (wrap64 (a1)) (l0.length : Int)) : Int).toNat : List (S28))).bind fun y136 => (if y133.length + y136.length < 4398046511104 then ((some (y133 ++ y136 : List (S28))).bind fun y140 => (if 0 ≤ (wrap64 ((Int.tmod (wrap64 (a1)) (l0.length : Int)) + 1)) then (if (wrap64 ((Int.tmod (wrap64 (a1)) (l0.length : Int)) + 1)) ≤ (l0.length : Int) then ((some (l0.drop ((wrap64 ((Int.tmod (wrap64 (a1)) (l0.length : Int)) + 1)) : Int).toNat : List (S28))).bind fun y143 => (if y140.length + y143.length < 4398046511104 then ((impl_MtRule.f kj4 (y140 ++ y143)).bind fun t150 => ((spec_ReadRule.f kj4 t150).bind fun bt151 => (if t130 = true then (if bt151.2 = true then (if (t129.length : Int) = (l0.length : Int) then (laws_FnMtRuleDrop.j1 kj4 (Int.tmod (wrap64 (a1)) (l0.length : Int)) t129 bt151.1 ((bt151.1.length : Int) != (wrap64 ((l0.length : Int) - 1)))) else (laws_FnMtRuleDrop.j1 kj4 (Int.tmod (wrap64 (a1)) (l0.length : Int)) t129 bt151.1 true)) else (laws_FnMtRuleDrop.j1 kj4 (Int.tmod (wrap64 (a1)) (l0.length : Int)) t129 bt151.1 true)) else (laws_FnMtRuleDrop.j1 kj4 (Int.tmod (wrap64 (a1)) (l0.length : Int)) t129 bt151.1 true)))) else (none))) else (none)) else (none))) else (none))) else (none)) else (none))) = some r := H
            have A13 := Aside0.mk A130
            clear A130
            obtain ⟨y133, hy133⟩ : ∃ y_ : List (S28), y_ = (([] : List (S28))) := ⟨_, rfl⟩
            replace H : (if 0 ≤ (Int.tmod (wrap64 (a1)) (l0.length : Int)) then (if (Int.tmod (wrap64 (a1)) (l0.length : Int)) ≤ (l0.length : Int) then ((some (l0.take ((Int.tmod (wrap64 (a1)) (l0.length : Int)) : Int).toNat : List (S28))).bind fun y136 => (if y133.length + y136.length < 4398046511104 then ((some (y133 ++ y136 : List (S28))).bind fun y140 => (if 0 ≤ (wrap64 ((Int.tmod (wrap64 (a1)) (l0.length : Int)) + 1)) then (if (wrap64 ((Int.tmod (wrap64 (a1)) (l0.length : Int)) + 1)) ≤ (l0.length : Int) then ((some (l0.drop ((wrap64 ((Int.tmod (wrap64 (a1)) (l0.length : Int)) + 1)) : Int).toNat : List (S28))).bind fun y143 => (if y140.length + y143.length < 4398046511104 then ((impl_MtRule.f kj4 (y140 ++ y143)).bind fun t150 => ((spec_ReadRule.f kj4 t150).bind fun bt151 => (if t130 = true then (if bt151.2 = true then (if (t129.length : Int) = (l0.length : Int) then (laws_FnMtRuleDrop.j1 kj4 (Int.tmod (wrap64 (a1)) (l0.length : Int)) t129 bt151.1 ((bt151.1.length : Int) != (wrap64 ((l0.length : Int) - 1)))) else (laws_FnMtRuleDrop.j1 kj4 (Int.tmod (wrap64 (a1)) (l0.length : Int)) t129 bt151.1 true)) else (laws_FnMtRuleDrop.j1 kj4 (Int.tmod (wrap64 (a1)) (l0.length : Int)) t129 bt151.1 true)) else (laws_FnMtRuleDrop.j1 kj4 (Int.tmod (wrap64 (a1)) (l0.length : Int)) t129 bt151.1 true)))) else (none))) else (none)) else (none))) else (none))) else (none)) else (none)) = some r := by first | (rw [hy133]; with_reducible exact H) | (have H2_ := (Option.bind_some _ _).symm.trans H; rw [hy133]; with_reducible exact H2_) | (have H2_ := (Option.bind_some _ _).symm.trans H; with_reducible exact H2_) | with_reducible exact H | (rw [hy133]; exact H) | exact H
            have Ny133 := Aside0.mk hy133
            clear hy133
            obtain ⟨ji14, hji14⟩ : ∃ j_ : Int, (Int.tmod (wrap64 (a1)) (l0.length : Int)) = j_ := ⟨_, rfl⟩
            replace H : (if 0 ≤ (ji14) then (if (ji14) ≤ (l0.length : Int) then ((some (l0.take ((ji14) : Int).toNat : List (S28))).bind fun y136 => (if y133.length + y136.length < 4398046511104 then ((some (y133 ++ y136 : List (S28))).bind fun y140 => (if 0 ≤ (wrap64 ((ji14) + 1)) then (if (wrap64 ((ji14) + 1)) ≤ (l0.length : Int) then ((some (l0.drop ((wrap64 ((ji14) + 1)) : Int).toNat : List (S28))).bind fun y143 => (if y140.length + y143.length < 4398046511104 then ((impl_MtRule.f kj4 (y140 ++ y143)).bind fun t150 => ((spec_ReadRule.f kj4 t150).bind fun bt151 => (if t130 = true then (if bt151.2 = true then (if (t129.length : Int) = (l0.length : Int) then (laws_FnMtRuleDrop.j1 kj4 ji14 t129 bt151.1 ((bt151.1.length : Int) != (wrap64 ((l0.length : Int) - 1)))) else (laws_FnMtRuleDrop.j1 kj4 ji14 t129 bt151.1 true)) else (laws_FnMtRuleDrop.j1 kj4 ji14 t129 bt151.1 true)) else (laws_FnMtRuleDrop.j1 kj4 ji14 t129 bt151.1 true)))) else (none))) else (none)) else (none))) else (none))) else (none)) else (none)) = some r := by first | (rw [hji14] at H; exact H) | (simp only [hji14] at H ⊢; exact H)
            (try rw [hji14] at A12)
            (try rw [hji14] at A13)
            by_cases c15 : 0 ≤ (ji14)
            · rw [if_pos c15] at H
              have c15b0 := eq_true c15
              have c15b1 : decide (0 ≤ (ji14)) = true := decide_eq_true c15
              clear c15
              by_cases c16 : (ji14) ≤ (l0.length : Int)
              · rw [if_pos c16] at H
                have c16b0 := eq_true c16
                have c16b1 : decide ((ji14) ≤ (l0.length : Int)) = true := decide_eq_true c16
                clear c16
                obtain ⟨y136, hy136⟩ : ∃ y_ : List (S28), y_ = (l0.take ((ji14) : Int).toNat) := ⟨_, rfl⟩
                replace H : (if y133.length + y136.length < 4398046511104 then ((some (y133 ++ y136 : List (S28))).bind fun y140 => (if 0 ≤ (wrap64 ((ji14) + 1)) then (if (wrap64 ((ji14) + 1)) ≤ (l0.length : Int) then ((some (l0.drop ((wrap64 ((ji14) + 1)) : Int).toNat : List (S28))).bind fun y143 => (if y140.length + y143.length < 4398046511104 then ((impl_MtRule.f kj4 (y140 ++ y143)).bind fun t150 => ((spec_ReadRule.f kj4 t150).bind fun bt151 => (if t130 = true then (if bt151.2 = true then (if (t129.length : Int) = (l0.length : Int) then (laws_FnMtRuleDrop.j1 kj4 ji14 t129 bt151.1 ((bt151.1.length : Int) != (wrap64 ((l0.length : Int) - 1)))) else (laws_FnMtRuleDrop.j1 kj4 ji14 t129 bt151.1 true)) else (laws_FnMtRuleDrop.j1 kj4 ji14 t129 bt151.1 true)) else (laws_FnMtRuleDrop.j1 kj4 ji14 t129 bt151.1 true)))) else (none))) else (none)) else (none))) else (none)) = some r := by first | (rw [hy136]; with_reducible exact H) | (have H2_ := (Option.bind_some _ _).symm.trans H; rw [hy136]; with_reducible exact H2_) | (have H2_ := (Option.bind_some _ _).symm.trans H; with_reducible exact H2_) | with_reducible exact H | (rw [hy136]; exact H) | exact H
                have Ny136 := Aside0.mk hy136
                clear hy136
                by_cases c17 : y133.length + y136.length < 4398046511104
                · rw [if_pos c17] at H
                  have LMc17 := Aside0.mk c17
                  clear c17
                  obtain ⟨y140, hy140⟩ : ∃ y_ : List (S28), y_ = (y133 ++ y136) := ⟨_, rfl⟩
                  replace H : (if 0 ≤ (wrap64 ((ji14) + 1)) then (if (wrap64 ((ji14) + 1)) ≤ (l0.length : Int) then ((some (l0.drop ((wrap64 ((ji14) + 1)) : Int).toNat : List (S28))).bind fun y143 => (if y140.length + y143.length < 4398046511104 then ((impl_MtRule.f kj4 (y140 ++ y143)).bind fun t150 => ((spec_ReadRule.f kj4 t150).bind fun bt151 => (if t130 = true then (if bt151.2 = true then (if (t129.length : Int) = (l0.length : Int) then (laws_FnMtRuleDrop.j1 kj4 ji14 t129 bt151.1 ((bt151.1.length : Int) != (wrap64 ((l0.length : Int) - 1)))) else (laws_FnMtRuleDrop.j1 kj4 ji14 t129 bt151.1 true)) else (laws_FnMtRuleDrop.j1 kj4 ji14 t129 bt151.1 true)) else (laws_FnMtRuleDrop.j1 kj4 ji14 t129 bt151.1 true)))) else (none))) else (none)) else (none)) = some r := by first | (rw [hy140]; with_reducible exact H) | (have H2_ := (Option.bind_some _ _).symm.trans H; rw [hy140]; with_reducible exact H2_) | (have H2_ := (Option.bind_some _ _).symm.trans H; with_reducible exact H2_) | with_reducible exact H | (rw [hy140]; exact H) | exact H
                  have Ny140 := Aside0.mk hy140
                  clear hy140
                  obtain ⟨ji18, hji18⟩ : ∃ j_ : Int, (wrap64 ((ji14) + 1)) = j_ := ⟨_, rfl⟩
                  replace H : (if 0 ≤ (ji18) then (if (ji18) ≤ (l0.length : Int) then ((some (l0.drop ((ji18) : Int).toNat : List (S28))).bind fun y143 => (if y140.length + y143.length < 4398046511104 then ((impl_MtRule.f kj4 (y140 ++ y143)).bind fun t150 => ((spec_ReadRule.f kj4 t150).bind fun bt151 => (if t130 = true then (if bt151.2 = true then (if (t129.length : Int) = (l0.length : Int) then (laws_FnMtRuleDrop.j1 kj4 ji14 t129 bt151.1 ((bt151.1.length : Int) != (wrap64 ((l0.length : Int) - 1)))) else (laws_FnMtRuleDrop.j1 kj4 ji14 t129 bt151.1 true)) else (laws_FnMtRuleDrop.j1 kj4 ji14 t129 bt151.1 true)) else (laws_FnMtRuleDrop.j1 kj4 ji14 t129 bt151.1 true)))) else (none))) else (none)) else (none)) = some r := by first | (rw [hji18] at H; exact H) | (simp only [hji18] at H ⊢; exact H)
                  (try rw [hji18] at A12)
                  (try rw [hji18] at A13)
                  have hji18w : (IntKind.i64.wrap ((ji14) + 1)) = ji18 := (i64_w _).trans hji18
                  by_cases c19 : 0 ≤ (ji18)
                  · rw [if_pos c19] at H
                    have c19b0 := eq_true c19
                    have c19b1 : decide (0 ≤ (ji18)) = true := decide_eq_true c19
                    clear c19
                    by_cases c20 : (ji18) ≤ (l0.length : Int)
                    · rw [if_pos c20] at H
                      have c20b0 := eq_true c20
                      have c20b1 : decide ((ji18) ≤ (l0.length : Int)) = true := decide_eq_true c20
                      clear c20
                      obtain ⟨y143, hy143⟩ : ∃ y_ : List (S28), y_ = (l0.drop ((ji18) : Int).toNat) := ⟨_, rfl⟩
                      replace H : (if y140.length + y143.length < 4398046511104 then ((impl_MtRule.f kj4 (y140 ++ y143)).bind fun t150 => ((spec_ReadRule.f kj4 t150).bind fun bt151 => (if t130 = true then (if bt151.2 = true then (if (t129.length : Int) = (l0.length : Int) then (laws_FnMtRuleDrop.j1 kj4 ji14 t129 bt151.1 ((bt151.1.length : Int) != (wrap64 ((l0.length : Int) - 1)))) else (laws_FnMtRuleDrop.j1 kj4 ji14 t129 bt151.1 true)) else (laws_FnMtRuleDrop.j1 kj4 ji14 t129 bt151.1 true)) else (laws_FnMtRuleDrop.j1 kj4 ji14 t129 bt151.1 true)))) else (none)) = some r := by first | (rw [hy143]; with_reducible exact H) | (have H2_ := (Option.bind_some _ _).symm.trans H; rw [hy143]; with_reducible exact H2_) | (have H2_ := (Option.bind_some _ _).symm.trans H; with_reducible exact H2_) | with_reducible exact H | (rw [hy143]; exact H) | exact H
                      have Ny143 := Aside0.mk hy143
                      clear hy143
                      by_cases c21 : y140.length + y143.length < 4398046511104
                      · rw [if_pos c21] at H
                        have LMc21 := Aside0.mk c21
                        clear c21
                        obtain ⟨y147, hy147⟩ : ∃ y_ : List (S28), y_ = (y140 ++ y143) := ⟨_, rfl⟩
                        replace H : ((impl_MtRule.f kj4 y147).bind fun t150 => ((spec_ReadRule.f kj4 t150).bind fun bt151 => (if t130 = true then (if bt151.2 = true then (if (t129.length : Int) = (l0.length : Int) then (laws_FnMtRuleDrop.j1 kj4 ji14 t129 bt151.1 ((bt151.1.length : Int) != (wrap64 ((l0.length : Int) - 1)))) else (laws_FnMtRuleDrop.j1 kj4 ji14 t129 bt151.1 true)) else (laws_FnMtRuleDrop.j1 kj4 ji14 t129 bt151.1 true)) else (laws_FnMtRuleDrop.j1 kj4 ji14 t129 bt151.1 true)))) = some r := by first | (rw [hy147]; with_reducible exact H) | (have H2_ := (Option.bind_some _ _).symm.trans H; rw [hy147]; with_reducible exact H2_) | (have H2_ := (Option.bind_some _ _).symm.trans H; with_reducible exact H2_) | with_reducible exact H | (rw [hy147]; exact H) | exact H
                        have Ny147 := Aside0.mk hy147
                        clear hy147
                        replace H := Option.bind_eq_some_iff.mp H
                        obtain ⟨t150, A220, H⟩ := H
                        replace H : ((spec_ReadRule.f kj4 t150).bind fun bt151 => (if t130 = true then (if bt151.2 = true then (if (t129.length : Int) = (l0.length : Int) then (laws_FnMtRuleDrop.j1 kj4 ji14 t129 bt151.1 ((bt151.1.length : Int) != (wrap64 ((l0.length : Int) - 1)))) else (laws_FnMtRuleDrop.j1 kj4 ji14 t129 bt151.1 true)) else (laws_FnMtRuleDrop.j1 kj4 ji14 t129 bt151.1 true)) else (laws_FnMtRuleDrop.j1 kj4 ji14 t129 bt151.1 true))) = some r := H
                        have A22 := Aside0.mk A220
                        clear A220
                        replace H := Option.bind_eq_some_iff.mp H
                        obtain ⟨⟨t151, t152⟩, A230, H⟩ := H
                        replace H : (if t130 = true then (if t152 = true then (if (t129.length : Int) = (l0.length : Int) then (laws_FnMtRuleDrop.j1 kj4 ji14 t129 t151 ((t151.length : Int) != (wrap64 ((l0.length : Int) - 1)))) else (laws_FnMtRuleDrop.j1 kj4 ji14 t129 t151 true)) else (laws_FnMtRuleDrop.j1 kj4 ji14 t129 t151 true)) else (laws_FnMtRuleDrop.j1 kj4 ji14 t129 t151 true)) = some r := H
                        have A23 := Aside0.mk A230
                        clear A230
                        have HC24 := Aside0.mk H
                        clear H
                        try go_wp2_with (first | ((with_reducible refine gate_callee (f := 7) rfl ?_); refine goesL_ (some 31) rfl rfl Try.func7 (by kernel_rfl) rfl #[.slice A0 l0.length c0] rfl (by (try simp only [List.map_toArray, List.map_cons, List.map_nil]); first | done | rfl | (simp only [List.length_drop, List.length_take]; rfl)) ?_; (with_reducible refine (impl_MtRule.calls kj4 _ _ l0 t128 _ ?side1 ?side2 A12.out).mono ?_); (case side1 => repeat (first | exact (Kd.C_below HR0.out HB.out) | (with_reducible refine Kd.C_alloc ?_ _) | (with_reducible refine Kd.C_drewN ?_ _) | (with_reducible refine Kd.C_drew ?_))); (case side2 => exact HC0.out); rintro e w25 ⟨rfl, hb⟩; refine ⟨_, rfl, ?_⟩; have n0_ := Aside0.mk (below_step (by repeat (first | (with_reducible first | exact HB.out | apply below_alloc | apply pw_below_drewN | apply below_drew1) | exact HB.out)) hb); clear HB; have HB := n0_; clear n0_; (try clear hb); (try clear hb2); (try clear hk); (try clear hi)) | ((with_reducible refine gate_callee (f := 10) rfl ?_); refine goesL_ (some 32) rfl rfl Try.func10 (by kernel_rfl) rfl #[.string t128] rfl (by (try simp only [List.map_toArray, List.map_cons, List.map_nil]); first | done | rfl | (simp only [List.length_drop, List.length_take]; rfl)) ?_; (with_reducible refine (spec_ReadRule.calls kj4 t128 t129 t130 _ A13.out).mono ?_); rintro e w26 ⟨v131, rfl, ho0, hb⟩; refine ⟨_, rfl, ?_⟩; have n0_ := Aside0.mk (Kd.R_lower ho0 (below_size (by repeat (first | (with_reducible first | exact HB.out | apply below_alloc | apply pw_below_drewN | apply below_drew1) | exact HB.out)))); have n1_ := Aside0.mk (below_step (by repeat (first | (with_reducible first | exact HB.out | apply below_alloc | apply pw_below_drewN | apply below_drew1) | exact HB.out)) hb); clear HB; have HO132 := n0_; have HB := n1_; clear n0_ n1_; (try clear hb); (try clear hb2); (try clear hk); (try clear hi); (try clear ho0)))
                        have n0_ := Aside0.mk (Kd.R_drew HO132.out)
                        have n1_ := Aside0.mk (below_drew1 HB.out)
                        clear HO132
                        clear HB
                        have HO132 := n0_
                        have HB := n1_
                        clear n0_ n1_
                        have q28 : ((ji14) : Int) ≤ ((l0.length : Int) : Int) := of_decide_eq_true (by first | (with_reducible assumption) | assumption)
                        obtain ⟨i028, hi028, _, hsz28, _⟩ := info_parts info28
                        have hroom28 : l0.length ≤ c0 := HC0.out
                        have hC28 : Kd.C k28 _ A0 l0.length l0 := HR0.out
                        have hcut28 := cut_to (P := Try.prog) 22 28 .i64 Try.underlying22 hi028 A0 l0.length c0 (ji14) (of_decide_eq_true (by first | (with_reducible assumption) | assumption)) q28 hroom28
                        have hr28 := Kd.C_take (m := ((ji14) : Int).toNat) hC28 (by omega)
                        have hy28 : y136.length = ((ji14) : Int).toNat := (by rw [Ny136.out, List.length_take]; omega)
                        rw [← Ny136.out] at hr28
                        rw [← hy28] at hcut28
                        have HR139 := Aside0.mk hr28
                        have HC139 := Aside0.mk (show y136.length ≤ c0 from by omega)
                        clear hr28 hC28 hroom28 hi028 hsz28
                        have KY28 := Aside0.mk hy28
                        clear hy28
                        replace q28 := eq_true q28
                        have q29 : ((ji18) : Int) ≤ ((l0.length : Int) : Int) := of_decide_eq_true (by first | (with_reducible assumption) | assumption)
                        obtain ⟨i029, hi029, _, hsz29, _⟩ := info_parts info28
                        have hroom29 : l0.length ≤ c0 := HC0.out
                        have hC29 : Kd.C k28 _ A0 l0.length l0 := HR0.out
                        have q029 : (0 : Int) ≤ ((ji18) : Int) := of_decide_eq_true (by first | (with_reducible assumption) | assumption)
                        have hcut29 := cut_from (P := Try.prog) 22 28 .i64 Try.underlying22 hi029 2 hsz29 A0 l0.length c0 (ji18) q029 q29
                        have hr29 := Kd.C_drop (m := ((ji18) : Int).toNat) (c := c0) hC29 (by omega) hroom29
                        obtain ⟨A29, hA29⟩ : ∃ A1, A1 = (if c0 = ((ji18) : Int).toNat then A0 else (A0 : Option Addr).map (·.add (((ji18) : Int).toNat * 2))) := ⟨_, rfl⟩
                        obtain ⟨c29, hc29⟩ : ∃ c1, c1 = c0 - ((ji18) : Int).toNat := ⟨_, rfl⟩
                        have hy29 : y143.length = l0.length - ((ji18) : Int).toNat := (by rw [Ny143.out, List.length_drop] <;> omega)
                        rw [show (l0).drop ((ji18) : Int).toNat = y143 from Ny143.out.symm] at hr29
                        replace hr29 : Kd.C k28 _ A29 y143.length y143 := (by rw [hA29]; exact hr29)
                        rw [← hy29, ← hA29, ← hc29] at hcut29
                        have HR146 := Aside0.mk hr29
                        have HC146 := Aside0.mk (show y143.length ≤ c29 from by rw [hy29, hc29]; exact Nat.sub_le_sub_right hroom29 _)
                        clear hr29 hC29 hroom29 hi029 hsz29 hc29
                        have KY29 := Aside0.mk hy29
                        have KA29 := Aside0.mk hA29
                        clear hy29 hA29
                        replace q29 := eq_true q29
                        refine start_ (n := 17) (S := fun w' => True) (ds := []) #[false, false, false, false, false, false, false, false, false, false, false, false, false, false, false, false, false] (by kernel_rfl) rfl rfl trivial (fun hHeld => ?_); refine with_tabW laws_FnMtRuleDrop.tab7 laws_FnMtRuleDrop.bits7 (fun HT_ HW_ => ?_)
                        generalize w26.drew = w27 at HO132 HB HR139 HR146 hHeld ⊢
                        refine pure_ (i := 1) (N := some 37) (v := ?_) (a' := ?_) #[false, true, false, false, false, false, false, false, false, false, false, false, false, false, false, false, false] rfl rfl (any_of HT_.out (by kernel_rfl)) (fun _ _ _ h => h) (Or.inl ⟨by rfl, ?_⟩) ?_ ?_
                        rotate_left
                        · intro w'
                          go_simp
                          with_reducible rfl
                        rotate_left
                        · simp only [Act.put, List.setIfInBounds_toArray, List.set_cons_zero, List.set_cons_succ, i64_w, i32_w]
                          rfl
                        refine pure_ (i := 2) (N := some 38) (v := ?_) (a' := ?_) #[false, true, true, false, false, false, false, false, false, false, false, false, false, false, false, false, false] rfl rfl (any_of HT_.out (by kernel_rfl)) (fun _ _ _ h => h) (Or.inl ⟨by rfl, ?_⟩) ?_ ?_
                        rotate_left
                        · intro w'
                          go_simp
                          with_reducible rfl
                        rotate_left
                        · simp only [Act.put, List.setIfInBounds_toArray, List.set_cons_zero, List.set_cons_succ, i64_w, i32_w]
                          rfl
                        refine pure_ (i := 3) (N := some 39) (v := ?_) (a' := ?_) #[false, true, true, true, false, false, false, false, false, false, false, false, false, false, false, false, false] rfl rfl (any_of HT_.out (by kernel_rfl)) (fun _ _ _ h => h) (Or.inl ⟨by rfl, ?_⟩) ?_ ?_
                        rotate_left
                        · intro w'
                          go_simp
                          with_reducible rfl
                        rotate_left
                        · simp only [Act.put, List.setIfInBounds_toArray, List.set_cons_zero, List.set_cons_succ, i64_w, i32_w]
                          rfl
                        refine pure_ (i := 5) (N := some 41) (v := ?_) (a' := ?_) #[false, true, true, true, false, true, false, false, false, false, false, false, false, false, false, false, false] rfl rfl (any_of HT_.out (by kernel_rfl)) (fun _ _ _ h => h) (Or.inl ⟨by rfl, ?_⟩) ?_ ?_
                        rotate_left
                        · intro w'
                          go_simp
                          with_reducible rfl
                        rotate_left
                        · simp only [Act.put, List.setIfInBounds_toArray, List.set_cons_zero, List.set_cons_succ, i64_w, i32_w]
                          rfl
                        refine pure_ (i := 6) (N := some 42) (v := ?_) (a' := ?_) #[false, true, true, true, false, true, true, false, false, false, false, false, false, false, false, false, false] rfl rfl (any_of HT_.out (by kernel_rfl)) (fun _ _ _ h => h) (Or.inl ⟨by rfl, ?_⟩) ?_ ?_
                        rotate_left
                        · intro w'
                          go_simp
                          with_reducible rfl
                        rotate_left
                        · simp only [Act.put, List.setIfInBounds_toArray, List.set_cons_zero, List.set_cons_succ, i64_w, i32_w]
                          rfl
                        refine pure_ (i := 7) (N := some 43) (v := ?_) (a' := ?_) #[false, true, true, true, false, true, true, true, false, false, false, false, false, false, false, false, false] rfl rfl (any_of HT_.out (by kernel_rfl)) (fun _ _ _ h => h) (Or.inl ⟨by rfl, ?_⟩) ?_ ?_
                        rotate_left
                        · intro w'
                          go_simp
                          with_reducible rfl
                        rotate_left
                        · simp only [Act.put, List.setIfInBounds_toArray, List.set_cons_zero, List.set_cons_succ, i64_w, i32_w]
                          rfl
                        refine pure_ (i := 8) (N := some 44) (v := ?_) (a' := ?_) #[false, true, true, true, false, true, true, true, true, false, false, false, false, false, false, false, false] rfl rfl (any_of HT_.out (by kernel_rfl)) (fun _ _ _ h => h) (Or.inl ⟨by rfl, ?_⟩) ?_ ?_
                        rotate_left
                        · intro w'
                          go_simp
                          with_reducible rfl
                        rotate_left
                        · simp only [Act.put, List.setIfInBounds_toArray, List.set_cons_zero, List.set_cons_succ, i64_w, i32_w]
                          rfl
                        refine one_ (i := 0) (N := some 36) #[true, true, true, true, false, true, true, true, true, false, false, false, false, false, false, false, false] rfl rfl (one_of HT_.out (by kernel_rfl)) (by decide) (fun K hK => ?_)
                        refine Kd.R_lit_step k28 _ 28 ?hg (N := 36) ?hd (xs := ([] : List (S28))) (inner := []) (ok := fun _ => True) (okp := fun _ => True) ?hr ?hp (fun _ hk => hk) trivial (Below.refl _ _) (Nat.le_refl _) (by simp) ?_; (case hd => rfl); (case hg => rfl); (case hr => first | (go_simp; done) | (go_simp; rfl)); (case hp => exact (Reps.none _ _))
                        intro v134 w30 ho31 hb hg_ hnew_
                        clear hg_ hnew_
                        (first | rw [← Ny133.out] at ho31 | (simp only [Int.reduceToNat] at ho31; rw [← Ny133.out] at ho31))
                        have n0_ := Aside0.mk (Kd.R_below (by (with_reducible repeat (first | apply Kd.R_alloc | apply Kd.R_drewN | apply Kd.R_drew)); exact HO132.out) hb)
                        have n1_ := Aside0.mk (Kd.R_lower ho31 (below_size (by repeat (first | (with_reducible first | exact HB.out | apply below_alloc | apply pw_below_drewN | apply below_drew1) | exact HB.out))))
                        have n2_ := Aside0.mk (below_step (by repeat (first | (with_reducible first | exact HB.out | apply below_alloc | apply pw_below_drewN | apply below_drew1) | exact HB.out)) hb)
                        clear HO132
                        clear HB
                        have HO132 := n0_
                        have HO135 := n1_
                        have HB := n2_
                        clear n0_ n1_ n2_
                        clear hb ho31
                        refine hK.out _ _ trivial (fun hHeld => ?_)
                        clear hK K
                        refine norm_ (a' := ?_) ?_ ?_
                        rotate_left
                        · show Act.put _ (some 36) _ = _
                          simp only [Act.put, List.setIfInBounds_toArray, List.set_cons_zero, List.set_cons_succ, i64_w, i32_w]
                          rfl
                        refine one_ (i := 4) (N := some 40) #[true, true, true, true, true, true, true, true, true, false, false, false, false, false, false, false, false] rfl rfl (one_of HT_.out (by kernel_rfl)) (by decide) (fun K hK => ?_)
                        refine Kd.R_append_rows_step k28 (w0 := w) w.heap.size (by rfl) (.tmp 36) (.tmp 39) 22 28 (.agg #[(.string ⟨#[]⟩), (.string ⟨#[]⟩)]) 32 rfl Try.underlying22 info28 rfl (by decide) (by omega) v134 y133 y136 _ _ _ (fun _ => True) (fun _ => False) rfl rfl ?aO ?aR (fun _ _ h => h) (fun _ h => h.elim) ?aF ?aB ?aS ?aL ?_
                        (case aR => repeat (first | exact (Kd.C_below HR139.out HB.out) | (with_reducible refine Kd.C_alloc ?_ _) | (with_reducible refine Kd.C_drewN ?_ _) | (with_reducible refine Kd.C_drew ?_)))
                        (case aB => exact (by repeat (first | (with_reducible first | exact HB.out | apply below_alloc | apply pw_below_drewN | apply below_drew1) | exact HB.out)))
                        (case aF => exact (fun _ _ => trivial))
                        (case aO => exact (by (with_reducible repeat (first | apply Kd.R_alloc | apply Kd.R_drewN | apply Kd.R_drew)); exact HO135.out))
                        (case aS => exact (below_size (by repeat (first | (with_reducible first | exact HB.out | apply below_alloc | apply pw_below_drewN | apply below_drew1) | exact HB.out))))
                        (case aL => have := LMc17.out; omega)
                        intro v141 w32 ho hb hg hat
                        rw [← Ny140.out] at ho
                        have n0_ := Aside0.mk (Kd.R_over' (by (with_reducible repeat (first | apply Kd.R_alloc | apply Kd.R_drewN | apply Kd.R_drew)); exact HO132.out) (Kd.R_typed (by (with_reducible repeat (first | apply Kd.R_alloc | apply Kd.R_drewN | apply Kd.R_drew)); exact HO135.out)) (by decide) hg)
                        have n1_ := Aside0.mk (hb)
                        have n2_ := Aside0.mk (ho)
                        clear HO132
                        clear HB
                        clear HO135
                        have HO132 := n0_
                        have HB := n1_
                        have HO142 := n2_
                        clear n0_ n1_ n2_
                        clear ho hb hg hat
                        refine hK.out _ _ trivial (fun hHeld => ?_)
                        clear hK K
                        refine norm_ (a' := ?_) ?_ ?_
                        rotate_left
                        · show Act.put _ (some 40) _ = _
                          simp only [Act.put, List.setIfInBounds_toArray, List.set_cons_zero, List.set_cons_succ, i64_w, i32_w]
                          rfl
                        refine one_ (i := 9) (N := some 45) #[true, true, true, true, true, true, true, true, true, true, false, false, false, false, false, false, false] rfl rfl (one_of HT_.out (by kernel_rfl)) (by decide) (fun K hK => ?_)
                        refine Kd.R_append_rows_step k28 (w0 := w) w.heap.size (by rfl) (.tmp 40) (.tmp 44) 22 28 (.agg #[(.string ⟨#[]⟩), (.string ⟨#[]⟩)]) 32 rfl Try.underlying22 info28 rfl (by decide) (by omega) v141 y140 y143 _ _ _ (fun _ => True) (fun _ => False) rfl rfl ?aO ?aR (fun _ _ h => h) (fun _ h => h.elim) ?aF ?aB ?aS ?aL ?_
                        (case aR => repeat (first | exact (Kd.C_below HR146.out HB.out) | (with_reducible refine Kd.C_alloc ?_ _) | (with_reducible refine Kd.C_drewN ?_ _) | (with_reducible refine Kd.C_drew ?_)))
                        (case aB => exact (by repeat (first | (with_reducible first | exact HB.out | apply below_alloc | apply pw_below_drewN | apply below_drew1) | exact HB.out)))
                        (case aF => exact (fun _ _ => trivial))
                        (case aO => exact (by (with_reducible repeat (first | apply Kd.R_alloc | apply Kd.R_drewN | apply Kd.R_drew)); exact HO142.out))
                        (case aS => exact (below_size (by repeat (first | (with_reducible first | exact HB.out | apply below_alloc | apply pw_below_drewN | apply below_drew1) | exact HB.out))))
                        (case aL => have := LMc21.out; omega)
                        intro v148 w33 ho hb hg hat
                        rw [← Ny147.out] at ho
                        have n0_ := Aside0.mk (Kd.R_over' (by (with_reducible repeat (first | apply Kd.R_alloc | apply Kd.R_drewN | apply Kd.R_drew)); exact HO132.out) (Kd.R_typed (by (with_reducible repeat (first | apply Kd.R_alloc | apply Kd.R_drewN | apply Kd.R_drew)); exact HO142.out)) (by decide) hg)
                        have n1_ := Aside0.mk (hb)
                        have n2_ := Aside0.mk (ho)
                        clear HO132
                        clear HB
                        clear HO142
                        have HO132 := n0_
                        have HB := n1_
                        have HO149 := n2_
                        clear n0_ n1_ n2_
                        clear ho hb hg hat
                        obtain ⟨Ao34, co34, eo34⟩ := Kd.R_slice HO149.out
                        (first | subst eo34 | (injection eo34 with f1_ f2_ f3_; have f4_ := f1_.symm; have f5_ := f3_.symm; clear f1_ f2_ f3_; subst f4_; subst f5_))
                        refine hK.out _ _ trivial (fun hHeld => ?_)
                        clear hK K
                        refine norm_ (a' := ?_) ?_ ?_
                        rotate_left
                        · show Act.put _ (some 45) _ = _
                          simp only [Act.put, List.setIfInBounds_toArray, List.set_cons_zero, List.set_cons_succ, i64_w, i32_w]
                          rfl
                        refine one_ (i := 10) (N := some 46) #[true, true, true, true, true, true, true, true, true, true, true, false, false, false, false, false, false] rfl rfl (one_of HT_.out (by kernel_rfl)) (by decide) (fun K hK => ?_)
                        refine goes_ Try.func7 (by kernel_rfl) rfl #[.slice Ao34 y147.length co34] (by rfl) rfl rfl (by (try simp only [List.map_toArray, List.map_cons, List.map_nil]); first | done | rfl | (simp only [List.length_drop, List.length_take]; rfl)) ?_
                        with_reducible refine (impl_MtRule.calls kj4 _ _ y147 t150 _ ?side1 ?side2 A22.out).mono ?_
                        (case side1 => repeat (first | exact (Kd.R_reads' HO149.out).2.2 | (with_reducible refine Kd.C_alloc ?_ _) | (with_reducible refine Kd.C_drewN ?_ _) | (with_reducible refine Kd.C_drew ?_)))
                        (case side2 => exact (Kd.R_reads' HO149.out).2.1)
                        rintro e w35 ⟨rfl, hb⟩
                        refine ⟨_, rfl, ?_⟩
                        have n0_ := Aside0.mk (Kd.R_below (by (with_reducible repeat (first | apply Kd.R_alloc | apply Kd.R_drewN | apply Kd.R_drew)); exact HO132.out) hb)
                        have n1_ := Aside0.mk (Kd.R_below (by (with_reducible repeat (first | apply Kd.R_alloc | apply Kd.R_drewN | apply Kd.R_drew)); exact HO149.out) hb)
                        have n2_ := Aside0.mk (below_step (by repeat (first | (with_reducible first | exact HB.out | apply below_alloc | apply pw_below_drewN | apply below_drew1) | exact HB.out)) hb)
                        clear HO132
                        clear HO149
                        clear HB
                        have HO132 := n0_
                        have HO149 := n1_
                        have HB := n2_
                        clear n0_ n1_ n2_
                        (try clear hb)
                        (try clear hb2)
                        (try clear hk)
                        (try clear hi)
                        refine hK.out _ _ trivial (fun hHeld => ?_)
                        clear hK K
                        refine norm_ (a' := ?_) ?_ ?_
                        rotate_left
                        · show Act.put _ (some 46) _ = _
                          simp only [Act.put, List.setIfInBounds_toArray, List.set_cons_zero, List.set_cons_succ, i64_w, i32_w]
                          rfl
                        refine one_ (i := 11) (N := some 47) #[true, true, true, true, true, true, true, true, true, true, true, true, false, false, false, false, false] rfl rfl (one_of HT_.out (by kernel_rfl)) (by decide) (fun K hK => ?_)
                        refine goes_ Try.func10 (by kernel_rfl) rfl #[.string t150] (by rfl) rfl rfl (by (try simp only [List.map_toArray, List.map_cons, List.map_nil]); first | done | rfl | (simp only [List.length_drop, List.length_take]; rfl)) ?_
                        with_reducible refine (spec_ReadRule.calls kj4 t150 t151 t152 _ A23.out).mono ?_
                        rintro e w36 ⟨v153, rfl, ho0, hb⟩
                        refine ⟨_, rfl, ?_⟩
                        have n0_ := Aside0.mk (Kd.R_elder' (by (with_reducible repeat (first | apply Kd.R_alloc | apply Kd.R_drewN | apply Kd.R_drew)); exact HO132.out) (Kd.R_base ho0) hb)
                        have n1_ := Aside0.mk (Kd.R_below (by (with_reducible repeat (first | apply Kd.R_alloc | apply Kd.R_drewN | apply Kd.R_drew)); exact HO149.out) hb)
                        have n2_ := Aside0.mk (Kd.R_lower (Kd.R_new' ho0 (Kd.R_lt (by (with_reducible repeat (first | apply Kd.R_alloc | apply Kd.R_drewN | apply Kd.R_drew)); exact HO132.out))) (below_size (by repeat (first | (with_reducible first | exact HB.out | apply below_alloc | apply pw_below_drewN | apply below_drew1) | exact HB.out))))
                        have n3_ := Aside0.mk (below_step (by repeat (first | (with_reducible first | exact HB.out | apply below_alloc | apply pw_below_drewN | apply below_drew1) | exact HB.out)) hb)
                        clear HO132
                        clear HO149
                        clear HB
                        have HO132 := n0_
                        have HO149 := n1_
                        have HO154 := n2_
                        have HB := n3_
                        clear n0_ n1_ n2_ n3_
                        (try clear hb)
                        (try clear hb2)
                        (try clear hk)
                        (try clear hi)
                        (try clear ho0)
                        refine hK.out _ _ trivial (fun hHeld => ?_)
                        clear hK K
                        refine norm_ (a' := ?_) ?_ ?_
                        rotate_left
                        · show Act.put _ (some 47) _ = _
                          simp only [Act.put, List.setIfInBounds_toArray, List.set_cons_zero, List.set_cons_succ, i64_w, i32_w]
                          rfl
                        refine pure_ (i := 12) (N := some 35) (v := ?_) (a' := ?_) #[true, true, true, true, true, true, true, true, true, true, true, true, true, false, false, false, false] rfl rfl (any_of HT_.out (by kernel_rfl)) (fun _ _ _ h => h) (Or.inl ⟨by rfl, ?_⟩) ?_ ?_
                        rotate_left
                        · intro w'
                          go_simp
                          with_reducible rfl
                        rotate_left
                        · simp only [Act.put, List.setIfInBounds_toArray, List.set_cons_zero, List.set_cons_succ, i64_w, i32_w]
                          rfl
                        refine pure_ (i := 13) (N := some 48) (v := ?_) (a' := ?_) #[true, true, true, true, true, true, true, true, true, true, true, true, true, true, false, false, false] rfl rfl (any_of HT_.out (by kernel_rfl)) (fun _ _ _ h => h) (Or.inl ⟨by rfl, ?_⟩) ?_ ?_
                        rotate_left
                        · intro w'
                          go_simp
                          with_reducible rfl
                        rotate_left
                        · simp only [Act.put, List.setIfInBounds_toArray, List.set_cons_zero, List.set_cons_succ, i64_w, i32_w]
                          rfl
                        refine pure_ (i := 14) (N := some 49) (v := ?_) (a' := ?_) #[true, true, true, true, true, true, true, true, true, true, true, true, true, true, true, false, false] rfl rfl (any_of HT_.out (by kernel_rfl)) (fun _ _ _ h => h) (Or.inl ⟨by rfl, ?_⟩) ?_ ?_
                        rotate_left
                        · intro w'
                          go_simp
                          with_reducible rfl
                        rotate_left
                        · simp only [Act.put, List.setIfInBounds_toArray, List.set_cons_zero, List.set_cons_succ, i64_w, i32_w]
                          rfl
                        refine pure_ (i := 15) (N := some 8) (v := ?_) (a' := ?_) #[true, true, true, true, true, true, true, true, true, true, true, true, true, true, true, true, false] rfl rfl (any_of HT_.out (by kernel_rfl)) (fun _ _ _ h => h) (Or.inl ⟨by rfl, ?_⟩) ?_ ?_
                        rotate_left
                        · intro w'
                          go_simp
                          with_reducible rfl
                        rotate_left
                        · simp only [Act.put, List.setIfInBounds_toArray, List.set_cons_zero, List.set_cons_succ, i64_w, i32_w]
                          rfl
                        refine pure_ (i := 16) (N := some 9) (v := ?_) (a' := ?_) #[true, true, true, true, true, true, true, true, true, true, true, true, true, true, true, true, true] rfl rfl (any_of HT_.out (by kernel_rfl)) (fun _ _ _ h => h) (Or.inl ⟨by rfl, ?_⟩) ?_ ?_
                        rotate_left
                        · intro w'
                          go_simp
                          with_reducible rfl
                        rotate_left
                        · simp only [Act.put, List.setIfInBounds_toArray, List.set_cons_zero, List.set_cons_succ, i64_w, i32_w]
                          rfl
                        refine done_ (done_of HT_.out (by kernel_rfl)) ?_
                        go_upto_region 8 with (fail)
                        go_cut [70] (fun v70 wc => ∃ (kq : Nat) (x70_23 : Bool), v70 = .bool x70_23 ∧ Aside0 (laws_FnMtRuleDrop.j1 kq ji14 t129 t151 x70_23 = some r) ∧ Aside0 (kq ≤ kj4) ∧ Aside0 (Kd.R k32 32 wc w.heap.size (fun k_ => some k_ ≠ (v153 : Value).ownBlock) v131 t129) ∧ Aside0 (Kd.R k32 32 wc w.heap.size (fun k_ => some k_ ≠ (v131 : Value).ownBlock) v153 t151) ∧ Aside0 (Below w.heap.size w wc))
                        case first =>
                          have H := HC24.out
                          clear HC24
                          by_cases c37 : t130 = true
                          · subst c37
                            have H1 : (if t152 = true then (if (t129.length : Int) = (l0.length : Int) then (laws_FnMtRuleDrop.j1 kj4 ji14 t129 t151 ((t151.length : Int) != (wrap64 ((l0.length : Int) - 1)))) else (laws_FnMtRuleDrop.j1 kj4 ji14 t129 t151 true)) else (laws_FnMtRuleDrop.j1 kj4 ji14 t129 t151 true)) = some r := by rw [if_pos rfl] at H; exact H
                            clear H
                            have H := H1
                            clear H1
                            by_cases c38 : t152 = true
                            · subst c38
                              have H1 : (if (t129.length : Int) = (l0.length : Int) then (laws_FnMtRuleDrop.j1 kj4 ji14 t129 t151 ((t151.length : Int) != (wrap64 ((l0.length : Int) - 1)))) else (laws_FnMtRuleDrop.j1 kj4 ji14 t129 t151 true)) = some r := by rw [if_pos rfl] at H; exact H
                              clear H
                              have H := H1
                              clear H1
                              by_cases c39 : (t129.length : Int) = (l0.length : Int)
                              · rw [if_pos c39] at H
                                have c39b0 : ((t129.length : Int) == (l0.length : Int)) = true := beq_iff_eq.mpr c39
                                have c39b1 : ((t129.length : Int) != (l0.length : Int)) = false := bne_eq_false_iff_eq.mpr c39
                                have c39b2 : (t129.length == l0.length) = true := by first | simpa using c39 | (simp at c39 ⊢; omega)
                                clear c39
                                (first | rw [c39b0] | (simp only [i64_w, i32_w]; rw [c39b0]) | skip)
                                have H' := Aside0.mk H
                                clear H
                                obtain ⟨Ao40, co40, eo40⟩ := Kd.R_slice HO132.out
                                subst eo40
                                obtain ⟨Ao41, co41, eo41⟩ := Kd.R_slice HO154.out
                                subst eo41
                                go_wp2
                                go_meet
                                case rel => exact ⟨_, (((t151.length : Int) != (wrap64 ((l0.length : Int) - 1)))), (by first | rfl | (simp; done) | (simp [*]; done)), H', ⟨by have := HJ4.out; first | omega | exact Nat.le_refl _⟩, ⟨by (with_reducible repeat (first | apply Kd.R_alloc | apply Kd.R_drewN | apply Kd.R_drew)); exact Kd.R_mono HO132.out (fun _ hk => hk.2)⟩, ⟨by (with_reducible repeat (first | apply Kd.R_alloc | apply Kd.R_drewN | apply Kd.R_drew)); exact Kd.R_mono HO154.out (fun _ hk => hk.2)⟩, ⟨by repeat (first | (with_reducible first | exact HB.out | apply below_alloc | apply pw_below_drewN | apply below_drew1) | exact HB.out)⟩⟩
                              · rw [if_neg c39] at H
                                have c39b0 : ((t129.length : Int) == (l0.length : Int)) = false := beq_eq_false_iff_ne.mpr c39
                                have c39b1 : ((t129.length : Int) != (l0.length : Int)) = true := bne_iff_ne.mpr c39
                                have c39b2 : (t129.length == l0.length) = false := by first | simpa using c39 | (simp at c39 ⊢; omega)
                                (first | rw [c39b0] | (simp only [i64_w, i32_w]; rw [c39b0]) | skip)
                                have H' := Aside0.mk H
                                clear H
                                obtain ⟨Ao42, co42, eo42⟩ := Kd.R_slice HO132.out
                                subst eo42
                                go_wp2
                                go_meet
                                case rel => exact ⟨_, (true), (by first | rfl | (simp; done) | (simp [*]; done)), H', ⟨by have := HJ4.out; first | omega | exact Nat.le_refl _⟩, ⟨by (with_reducible repeat (first | apply Kd.R_alloc | apply Kd.R_drewN | apply Kd.R_drew)); exact Kd.R_mono HO132.out (fun _ hk => hk.2)⟩, ⟨by (with_reducible repeat (first | apply Kd.R_alloc | apply Kd.R_drewN | apply Kd.R_drew)); exact Kd.R_mono HO154.out (fun _ hk => hk.2)⟩, ⟨by repeat (first | (with_reducible first | exact HB.out | apply below_alloc | apply pw_below_drewN | apply below_drew1) | exact HB.out)⟩⟩
                            · replace c38 := Bool.eq_false_iff.mpr c38
                              subst c38
                              have H1 : (laws_FnMtRuleDrop.j1 kj4 ji14 t129 t151 true) = some r := by rw [if_neg (show ¬ (false = true) by decide)] at H; exact H
                              clear H
                              have H := H1
                              clear H1
                              have H' := Aside0.mk H
                              clear H
                              go_wp2
                              go_meet
                              case rel => exact ⟨_, (true), (by first | rfl | (simp; done) | (simp [*]; done)), H', ⟨by have := HJ4.out; first | omega | exact Nat.le_refl _⟩, ⟨by (with_reducible repeat (first | apply Kd.R_alloc | apply Kd.R_drewN | apply Kd.R_drew)); exact Kd.R_mono HO132.out (fun _ hk => hk.2)⟩, ⟨by (with_reducible repeat (first | apply Kd.R_alloc | apply Kd.R_drewN | apply Kd.R_drew)); exact Kd.R_mono HO154.out (fun _ hk => hk.2)⟩, ⟨by repeat (first | (with_reducible first | exact HB.out | apply below_alloc | apply pw_below_drewN | apply below_drew1) | exact HB.out)⟩⟩
                          · replace c37 := Bool.eq_false_iff.mpr c37
                            subst c37
                            have H1 : (laws_FnMtRuleDrop.j1 kj4 ji14 t129 t151 true) = some r := by rw [if_neg (show ¬ (false = true) by decide)] at H; exact H
                            clear H
                            have H := H1
                            clear H1
                            have H' := Aside0.mk H
                            clear H
                            go_wp2
                            go_meet
                            case rel => exact ⟨_, (true), (by first | rfl | (simp; done) | (simp [*]; done)), H', ⟨by have := HJ4.out; first | omega | exact Nat.le_refl _⟩, ⟨by (with_reducible repeat (first | apply Kd.R_alloc | apply Kd.R_drewN | apply Kd.R_drew)); exact Kd.R_mono HO132.out (fun _ hk => hk.2)⟩, ⟨by (with_reducible repeat (first | apply Kd.R_alloc | apply Kd.R_drewN | apply Kd.R_drew)); exact Kd.R_mono HO154.out (fun _ hk => hk.2)⟩, ⟨by repeat (first | (with_reducible first | exact HB.out | apply below_alloc | apply pw_below_drewN | apply below_drew1) | exact HB.out)⟩⟩
                        case rest =>
                          clear HC24
                          try clear c1
                          try clear c2
                          try clear p2
                          try clear q2
                          try clear c3
                          try clear c4
                          try clear c5
                          try clear p6
                          try clear c7
                          try clear c7b0
                          try clear c7b1
                          try clear c7b2
                          try clear c10
                          try clear c11
                          try clear c11b0
                          try clear c11b1
                          try clear c11b2
                          try clear c15
                          try clear c15b0
                          try clear c15b1
                          try clear c16
                          try clear c16b0
                          try clear c16b1
                          try clear c17
                          try clear c19
                          try clear c19b0
                          try clear c19b1
                          try clear c20
                          try clear c20b0
                          try clear c20b1
                          try clear c21
                          try clear q28
                          try clear c29
                          try clear q29
                          try clear c37
                          try clear c38
                          try clear c39
                          try clear c39b0
                          try clear c39b1
                          try clear c39b2
                          try clear p2
                          try clear q029
                          try clear q28
                          try clear q29
                          obtain ⟨kq, x70_23, rfl, HA, HJ23, HO_6, HO_8, HB⟩ := hcut
                          cases kq with
                          | zero => exact absurd HA.out (by simp [laws_FnMtRuleDrop.j1])
                          | succ kj23 =>
                            have H := HA.out
                            clear HA
                            simp only [laws_FnMtRuleDrop.j1] at H
                            by_cases c43 : x70_23 = true
                            · subst c43
                              have H1 : (some false) = some r := by rw [if_pos rfl] at H; exact H
                              clear H
                              have H := H1
                              clear H1
                              obtain rfl := Option.some.inj H
                              go_wp2
                              go_ret
                              exact ⟨by first | rfl | (simp [errW_none, errW_some] <;> rfl) | (simp only [← hji14, ← hji18]; first | rfl | (simp [errW_none, errW_some] <;> rfl)) | (simp [*, errW_none, errW_some] <;> rfl) | (simp (disch := omega) only [wrap64_id] <;> rfl), by repeat (first | (with_reducible first | exact HB.out | apply below_alloc | apply pw_below_drewN | apply below_drew1) | exact HB.out)⟩
                            · replace c43 := Bool.eq_false_iff.mpr c43
                              subst c43
                              have H1 : (laws_FnMtRuleDrop.l0 kj23 ji14 t129 t151 (t151.length : Int) 0) = some r := by rw [if_neg (show ¬ (false = true) by decide)] at H; exact H
                              clear H
                              have H := H1
                              clear H1
                              have H' := Aside0.mk H
                              clear H
                              obtain ⟨Ao44, co44, eo44⟩ := Kd.R_slice HO_8.out
                              subst eo44
                              go_wp2
                              go_loopg [73] kj23 (fun kq v73 w' => ∃ (x73_3 : Int), v73 = .int .i64 x73_3 ∧ Aside0 (laws_FnMtRuleDrop.l0 kq ji14 t129 t151 (t151.length : Int) x73_3 = some r) ∧ Aside0 (kq ≤ kj23) ∧ Aside0 (Kd.R k32 32 w' w.heap.size (fun k_ => some k_ ≠ ((.slice Ao44 t151.length co44) : Value).ownBlock) v131 t129) ∧ Aside0 (Kd.R k32 32 w' w.heap.size (fun k_ => some k_ ≠ (v131 : Value).ownBlock) (.slice Ao44 t151.length co44) t151) ∧ Aside0 (Below w.heap.size w w'))
                              case atStart => exact ⟨(0), (by first | rfl | (simp; done) | (simp [*]; done)), H', ⟨Nat.le_refl _⟩, ⟨by (with_reducible repeat (first | apply Kd.R_alloc | apply Kd.R_drewN | apply Kd.R_drew)); exact HO_6.out⟩, ⟨by (with_reducible repeat (first | apply Kd.R_alloc | apply Kd.R_drewN | apply Kd.R_drew)); exact HO_8.out⟩, ⟨by repeat (first | (with_reducible first | exact HB.out | apply below_alloc | apply pw_below_drewN | apply below_drew1) | exact HB.out)⟩⟩
                              case round =>
                                clear H'
                                try clear c1
                                try clear c2
                                try clear p2
                                try clear q2
                                try clear c3
                                try clear c4
                                try clear c5
                                try clear p6
                                try clear c7
                                try clear c7b0
                                try clear c7b1
                                try clear c7b2
                                try clear c10
                                try clear c11
                                try clear c11b0
                                try clear c11b1
                                try clear c11b2
                                try clear c15
                                try clear c15b0
                                try clear c15b1
                                try clear c16
                                try clear c16b0
                                try clear c16b1
                                try clear c17
                                try clear c19
                                try clear c19b0
                                try clear c19b1
                                try clear c20
                                try clear c20b0
                                try clear c20b1
                                try clear c21
                                try clear q28
                                try clear c29
                                try clear q29
                                try clear c37
                                try clear c38
                                try clear c39
                                try clear c39b0
                                try clear c39b1
                                try clear c39b2
                                try clear c43
                                try clear p2
                                try clear p6
                                try clear q029
                                try clear q2
                                try clear q28
                                try clear q29
                                obtain ⟨x73_3, rfl, HA, HK3, HO_6, HO_71, HB⟩ := hrel
                                cases gk with
                                | zero => exact absurd HA.out (by simp [laws_FnMtRuleDrop.l0])
                                | succ k3 =>
                                  have H := HA.out
                                  clear HA
                                  simp only [laws_FnMtRuleDrop.l0] at H
                                  by_cases c45 : x73_3 < (t151.length : Int)
                                  · rw [if_pos c45] at H
                                    have c45b0 : decide (x73_3 < (t151.length : Int)) = true := decide_eq_true c45
                                    clear c45
                                    by_cases c46 : 0 ≤ x73_3
                                    · rw [if_pos c46] at H
                                      have c46b0 : decide (0 ≤ x73_3) = true := decide_eq_true c46
                                      clear c46
                                      by_cases c47 : x73_3 < (t151.length : Int)
                                      · rw [if_pos c47] at H
                                        have c47b0 : decide (x73_3 < (t151.length : Int)) = true := decide_eq_true c47
                                        clear c47
                                        by_cases c48 : x73_3 ≥ ji14
                                        · rw [if_pos c48] at H
                                          have c48b0 : decide (ji14 ≤ x73_3) = true := decide_eq_true c48
                                          clear c48
                                          obtain ⟨ji49, hji49⟩ : ∃ j_ : Int, (wrap64 (x73_3 + 1)) = j_ := ⟨_, rfl⟩
                                          replace H : (if 0 ≤ (ji49) then (if (ji49) < (t129.length : Int) then (if (!((((rd_T32 t151 x73_3).f0).toList) == (((rd_T32 t129 (ji49)).f0).toList)) || (!((((rd_T32 t151 x73_3).f1).toList) == (((rd_T32 t129 (ji49)).f1).toList)))) = true then (some false) else (laws_FnMtRuleDrop.l0 k3 ji14 t129 t151 (t151.length : Int) ji49)) else (none)) else (none)) = some r := by first | (rw [hji49] at H; exact H) | (simp only [hji49] at H ⊢; exact H)
                                          have hji49w : (IntKind.i64.wrap (x73_3 + 1)) = ji49 := (i64_w _).trans hji49
                                          by_cases c50 : 0 ≤ (ji49)
                                          · rw [if_pos c50] at H
                                            have c50b0 : decide (0 ≤ (ji49)) = true := decide_eq_true c50
                                            clear c50
                                            by_cases c51 : (ji49) < (t129.length : Int)
                                            · rw [if_pos c51] at H
                                              have c51b0 : decide ((ji49) < (t129.length : Int)) = true := decide_eq_true c51
                                              clear c51
                                              by_cases c52 : (!((((rd_T32 t151 x73_3).f0).toList) == (((rd_T32 t129 (ji49)).f0).toList)) || (!((((rd_T32 t151 x73_3).f1).toList) == (((rd_T32 t129 (ji49)).f1).toList)))) = true
                                              · rw [if_pos c52] at H
                                                have c52b0 : (!((((rd_T32 t151 x73_3).f0).toList) == (((rd_T32 t129 (ji49)).f0).toList)) || (!((((rd_T32 t151 x73_3).f1).toList) == (((rd_T32 t129 (ji49)).f1).toList)))) = true := c52
                                                clear c52
                                                obtain rfl := Option.some.inj H
                                                have p155 : 0 ≤ (x73_3 : Int) := of_decide_eq_true (by first | (with_reducible assumption) | assumption)
                                                have q155 : x73_3 < (t151.length : Int) := of_decide_eq_true (by first | (with_reducible assumption) | assumption)
                                                obtain ⟨ad155, e155, hx155_0, hx155_1⟩ := at_T32 (Kd.R_reads' HO_71.out).2.2 x73_3 p155 q155
                                                cases e155
                                                replace p155 := eq_true p155
                                                replace q155 := eq_true q155
                                                try go_wp2_with (first | ((with_reducible refine gate_dst (N := 11) rfl ?_); (try (refine gate_guard (by rfl) ?_; dsimp only)); refine box_event ?hg (N := 11) ?hd (cs := #[.string (⟨#[]⟩ : ByteArray), .string (⟨#[]⟩ : ByteArray)]) (t := 32) ?hr ?_; (case hd => rfl); (case hg => rfl); (case hr => first | (go_simp; done) | (go_simp; rfl)); intro gb156 hg w53 hbox hb; have n0_ := Aside0.mk (Kd.R_below (Kd.R_elderB (by (with_reducible repeat (first | apply Kd.R_alloc | apply Kd.R_drewN | apply Kd.R_drew)); exact HO_6.out) gb156 (Nat.le_of_eq hg.symm)) hb); have n1_ := Aside0.mk (Kd.R_below (Kd.R_elderB (by (with_reducible repeat (first | apply Kd.R_alloc | apply Kd.R_drewN | apply Kd.R_drew)); exact HO_71.out) gb156 (Nat.le_of_eq hg.symm)) hb); have n2_ := Aside0.mk (below_step (by repeat (first | (with_reducible first | exact HB.out | apply below_alloc | apply pw_below_drewN | apply below_drew1) | exact HB.out)) hb); have n3_ := Aside0.mk (hbox); have n4_ := Aside0.mk ((by rw [hg]; exact (below_size (by repeat (first | (with_reducible first | exact HB.out | apply below_alloc | apply pw_below_drewN | apply below_drew1) | exact HB.out))) : w.heap.size ≤ gb156)); have n5_ := Aside0.mk ((by rw [hg]; exact (below_size (by repeat (first | (with_reducible first | exact HB.out | apply below_alloc | apply pw_below_drewN | apply below_drew1) | exact HB.out))) : w.heap.size ≤ gb156)); clear HO_6; clear HO_71; clear HB; have HO_6 := n0_; have HO_71 := n1_; have HB := n2_; have BK156 := n3_; have GW156 := n4_; have GE156 := n5_; clear n0_ n1_ n2_ n3_ n4_ n5_; clear hb hbox hg; have hcz54_0 : w53.cell? ⟨gb156, 0, none⟩ = some (.string (⟨#[]⟩ : ByteArray)) := (blk_cell BK156.out 0).trans rfl; have hcz54_1 : w53.cell? ⟨gb156, 1, none⟩ = some (.string (⟨#[]⟩ : ByteArray)) := (blk_cell BK156.out 1).trans rfl; have hfz54_0 := blk_frozen BK156.out 0; have hfz54_1 := blk_frozen BK156.out 1))
                                                have n0_ : Aside0 (Kd.R k32 32 ((w53.setCell ⟨gb156, 0, none⟩ (.string ((rd_T32 t151 x73_3).f0))).setCell ⟨gb156, 1, none⟩ (.string ((rd_T32 t151 x73_3).f1))) w.heap.size (fun k_ => some k_ ≠ (.slice (some ad155) t151.length co44 : Value).ownBlock ∧ k_ ≠ gb156) v131 t129) := ⟨by (with_reducible repeat (first | apply Kd.R_alloc | apply Kd.R_drewN | apply Kd.R_drew)); exact Kd.R_mono (Kd.R_far (p := ⟨gb156, 1, none⟩) (Kd.R_far (p := ⟨gb156, 0, none⟩) (Kd.R_mono HO_6.out (fun k_ hk => (⟨hk, hk.2⟩ : _ ∧ k_ ≠ gb156))) (fun _ hk => hk.2) (.string ((rd_T32 t151 x73_3).f0))) (fun _ hk => hk.2) (.string ((rd_T32 t151 x73_3).f1))) (fun _ hk => ⟨hk.1.1, hk.1.2⟩)⟩
                                                have n1_ : Aside0 (Kd.R k32 32 ((w53.setCell ⟨gb156, 0, none⟩ (.string ((rd_T32 t151 x73_3).f0))).setCell ⟨gb156, 1, none⟩ (.string ((rd_T32 t151 x73_3).f1))) w.heap.size (fun k_ => some k_ ≠ (v131 : Value).ownBlock ∧ k_ ≠ gb156) (.slice (some ad155) t151.length co44) t151) := ⟨by (with_reducible repeat (first | apply Kd.R_alloc | apply Kd.R_drewN | apply Kd.R_drew)); exact Kd.R_mono (Kd.R_far (p := ⟨gb156, 1, none⟩) (Kd.R_far (p := ⟨gb156, 0, none⟩) (Kd.R_mono HO_71.out (fun k_ hk => (⟨hk, hk.2⟩ : _ ∧ k_ ≠ gb156))) (fun _ hk => hk.2) (.string ((rd_T32 t151 x73_3).f0))) (fun _ hk => hk.2) (.string ((rd_T32 t151 x73_3).f1))) (fun _ hk => ⟨hk.1.1, hk.1.2⟩)⟩
                                                have n2_ : Aside0 (((w53.setCell ⟨gb156, 0, none⟩ (.string ((rd_T32 t151 x73_3).f0))).setCell ⟨gb156, 1, none⟩ (.string ((rd_T32 t151 x73_3).f1))).heap[gb156]? = some (.cells #[.string ((rd_T32 t151 x73_3).f0), .string ((rd_T32 t151 x73_3).f1)] 32 (0, 0))) := ⟨by (with_reducible repeat (first | refine blk_drewN ?_ _ | refine blk_drew ?_ | refine blk_alloc ?_ _)); refine blk_put (cs := #[.string ((rd_T32 t151 x73_3).f0), .string (⟨#[]⟩ : ByteArray)]) ?_ 1 _ rfl; (with_reducible repeat (first | refine blk_drewN ?_ _ | refine blk_drew ?_ | refine blk_alloc ?_ _)); refine blk_put (cs := #[.string (⟨#[]⟩ : ByteArray), .string (⟨#[]⟩ : ByteArray)]) ?_ 0 _ rfl; (with_reducible repeat (first | refine blk_drewN ?_ _ | refine blk_drew ?_ | refine blk_alloc ?_ _)); exact BK156.out⟩
                                                have n3_ : Aside0 (Below w.heap.size w ((w53.setCell ⟨gb156, 0, none⟩ (.string ((rd_T32 t151 x73_3).f0))).setCell ⟨gb156, 1, none⟩ (.string ((rd_T32 t151 x73_3).f1)))) := ⟨by repeat (first | (with_reducible first | exact HB.out | apply below_alloc | apply pw_below_drewN | apply below_drew1 | refine below_set ?_ GE156.out) | exact HB.out)⟩
                                                (try clear HO_6)
                                                (try clear HO_71)
                                                (try clear BK156)
                                                (try clear HB)
                                                generalize ((w53.setCell ⟨gb156, 0, none⟩ (.string ((rd_T32 t151 x73_3).f0))).setCell ⟨gb156, 1, none⟩ (.string ((rd_T32 t151 x73_3).f1))) = w55 at n0_ n1_ n2_ n3_ ⊢
                                                have HO_6 := n0_
                                                have HO_71 := n1_
                                                have BK156 := n2_
                                                have HB := n3_
                                                clear n0_ n1_ n2_ n3_
                                                have n0_ := Aside0.mk (Kd.R_drew HO_6.out)
                                                have n1_ := Aside0.mk (Kd.R_drew HO_71.out)
                                                have n2_ := Aside0.mk (blk_drew BK156.out)
                                                have n3_ := Aside0.mk (below_drew1 HB.out)
                                                clear HO_6
                                                clear HO_71
                                                clear BK156
                                                clear HB
                                                have HO_6 := n0_
                                                have HO_71 := n1_
                                                have BK156 := n2_
                                                have HB := n3_
                                                clear n0_ n1_ n2_ n3_
                                                obtain ⟨Ao57, co57, eo57⟩ := Kd.R_slice HO_6.out
                                                (first | subst eo57 | (injection eo57 with f1_ f2_ f3_; have f4_ := f1_.symm; have f5_ := f3_.symm; clear f1_ f2_ f3_; subst f4_; subst f5_))
                                                have p157 : 0 ≤ ((ji49) : Int) := of_decide_eq_true (by first | (with_reducible assumption) | assumption)
                                                have q157 : (ji49) < (t129.length : Int) := of_decide_eq_true (by first | (with_reducible assumption) | assumption)
                                                obtain ⟨ad157, e157, hx157_0, hx157_1⟩ := at_T32 (Kd.R_reads' HO_6.out).2.2 (ji49) p157 q157
                                                cases e157
                                                replace p157 := eq_true p157
                                                replace q157 := eq_true q157
                                                refine start_ (n := 6) (S := fun w' => w'.cell? ⟨gb156, 0, none⟩ = some (.string ((rd_T32 t151 x73_3).f0)) ∧ w'.cell? ⟨gb156, 1, none⟩ = some (.string ((rd_T32 t151 x73_3).f1)) ∧ w'.cell? (ad157.add (((ji49)).toNat * 2)) = some (.string ((rd_T32 t129 (ji49)).f0)) ∧ w'.cell? ⟨(ad157.add (((ji49)).toNat * 2)).block, (ad157.add (((ji49)).toNat * 2)).off + 1, none⟩ = some (.string ((rd_T32 t129 (ji49)).f1))) (ds := []) #[false, false, false, false, false, false] (by kernel_rfl) rfl rfl ⟨(blk_cell BK156.out 0).trans rfl, (blk_cell BK156.out 1).trans rfl, hx157_0, hx157_1⟩ (fun hHeld => ?_)
                                                generalize w55.drew = w56 at HO_6 HO_71 BK156 HB hx157_0 hx157_1 hHeld ⊢
                                                refine pure_ (i := 1) (N := some 85) (v := ?_) (a' := ?_) #[false, true, false, false, false, false] rfl rfl (by kernel_rfl) (fun _ _ _ h => h) (Or.inl ⟨by rfl, ?_⟩) ?_ ?_
                                                rotate_left
                                                · intro w'
                                                  go_simp
                                                  with_reducible rfl
                                                rotate_left
                                                · simp only [Act.put, List.setIfInBounds_toArray, List.set_cons_zero, List.set_cons_succ, i64_w, i32_w]
                                                  rfl
                                                refine pure_ (i := 2) (N := some 86) (v := ?_) (a' := ?_) #[false, true, true, false, false, false] rfl rfl (by kernel_rfl) (fun _ _ _ h => h) (Or.inl ⟨by rfl, ?_⟩) ?_ ?_
                                                rotate_left
                                                · intro w'
                                                  go_simp
                                                  with_reducible rfl
                                                rotate_left
                                                · simp only [Act.put, List.setIfInBounds_toArray, List.set_cons_zero, List.set_cons_succ, i64_w, i32_w]
                                                  rfl
                                                refine pure_ (i := 3) (N := some 87) (v := ?_) (a' := ?_) #[false, true, true, true, false, false] rfl rfl (by kernel_rfl) (fun _ _ _ h => h) (Or.inl ⟨by rfl, ?_⟩) ?_ ?_
                                                rotate_left
                                                · intro w'
                                                  go_simp
                                                  with_reducible rfl
                                                rotate_left
                                                · simp only [Act.put, List.setIfInBounds_toArray, List.set_cons_zero, List.set_cons_succ, i64_w, i32_w]
                                                  rfl
                                                refine take_ (i := 0) (N := some 84) (v := ?_) (a' := ?_) #[true, true, true, true, false, false] rfl rfl (by kernel_rfl) (fun _ _ _ h => h) (Or.inl ⟨by rfl, ?_⟩) hHeld ?_ ?_
                                                rotate_left
                                                · rintro w' ⟨s0, s1, s2, s3⟩
                                                  go_simp
                                                  with_reducible rfl
                                                rotate_left
                                                · simp only [Act.put, List.setIfInBounds_toArray, List.set_cons_zero, List.set_cons_succ, i64_w, i32_w]
                                                  rfl
                                                refine take_ (i := 4) (N := some 88) (v := ?_) (a' := ?_) #[true, true, true, true, true, false] rfl rfl (by kernel_rfl) (fun _ _ _ h => h) (Or.inl ⟨by rfl, ?_⟩) hHeld ?_ ?_
                                                rotate_left
                                                · rintro w' ⟨s0, s1, s2, s3⟩
                                                  go_simp
                                                  with_reducible rfl
                                                rotate_left
                                                · simp only [Act.put, List.setIfInBounds_toArray, List.set_cons_zero, List.set_cons_succ, i64_w, i32_w]
                                                  rfl
                                                refine pure_ (i := 5) (N := some 89) (v := ?_) (a' := ?_) #[true, true, true, true, true, true] rfl rfl (by kernel_rfl) (fun _ _ _ h => h) (Or.inl ⟨by rfl, ?_⟩) ?_ ?_
                                                rotate_left
                                                · intro w'
                                                  go_simp
                                                  with_reducible rfl
                                                rotate_left
                                                · simp only [Act.put, List.setIfInBounds_toArray, List.set_cons_zero, List.set_cons_succ, i64_w, i32_w]
                                                  rfl
                                                refine done_ (by kernel_rfl) ?_
                                                try go_wp2
                                                go_ret
                                                exact ⟨by first | rfl | (simp [errW_none, errW_some] <;> rfl) | (simp only [← hji14, ← hji18, ← hji49]; first | rfl | (simp [errW_none, errW_some] <;> rfl)) | (simp [*, errW_none, errW_some] <;> rfl) | (simp (disch := omega) only [wrap64_id] <;> rfl), by repeat (first | (with_reducible first | exact HB.out | apply below_alloc | apply pw_below_drewN | apply below_drew1 | refine below_set ?_ GE156.out) | exact HB.out)⟩
                                              · rw [if_neg c52] at H
                                                have c52b0 : (!((((rd_T32 t151 x73_3).f0).toList) == (((rd_T32 t129 (ji49)).f0).toList)) || (!((((rd_T32 t151 x73_3).f1).toList) == (((rd_T32 t129 (ji49)).f1).toList)))) = false := by simpa using c52
                                                clear c52
                                                have H' := Aside0.mk H
                                                clear H
                                                have p155 : 0 ≤ (x73_3 : Int) := of_decide_eq_true (by first | (with_reducible assumption) | assumption)
                                                have q155 : x73_3 < (t151.length : Int) := of_decide_eq_true (by first | (with_reducible assumption) | assumption)
                                                obtain ⟨ad155, e155, hx155_0, hx155_1⟩ := at_T32 (Kd.R_reads' HO_71.out).2.2 x73_3 p155 q155
                                                cases e155
                                                replace p155 := eq_true p155
                                                replace q155 := eq_true q155
                                                try go_wp2_with (first | ((with_reducible refine gate_dst (N := 11) rfl ?_); (try (refine gate_guard (by rfl) ?_; dsimp only)); refine box_event ?hg (N := 11) ?hd (cs := #[.string (⟨#[]⟩ : ByteArray), .string (⟨#[]⟩ : ByteArray)]) (t := 32) ?hr ?_; (case hd => rfl); (case hg => rfl); (case hr => first | (go_simp; done) | (go_simp; rfl)); intro gb156 hg w58 hbox hb; have n0_ := Aside0.mk (Kd.R_below (Kd.R_elderB (by (with_reducible repeat (first | apply Kd.R_alloc | apply Kd.R_drewN | apply Kd.R_drew)); exact HO_6.out) gb156 (Nat.le_of_eq hg.symm)) hb); have n1_ := Aside0.mk (Kd.R_below (Kd.R_elderB (by (with_reducible repeat (first | apply Kd.R_alloc | apply Kd.R_drewN | apply Kd.R_drew)); exact HO_71.out) gb156 (Nat.le_of_eq hg.symm)) hb); have n2_ := Aside0.mk (below_step (by repeat (first | (with_reducible first | exact HB.out | apply below_alloc | apply pw_below_drewN | apply below_drew1) | exact HB.out)) hb); have n3_ := Aside0.mk (hbox); have n4_ := Aside0.mk ((by rw [hg]; exact (below_size (by repeat (first | (with_reducible first | exact HB.out | apply below_alloc | apply pw_below_drewN | apply below_drew1) | exact HB.out))) : w.heap.size ≤ gb156)); have n5_ := Aside0.mk ((by rw [hg]; exact (below_size (by repeat (first | (with_reducible first | exact HB.out | apply below_alloc | apply pw_below_drewN | apply below_drew1) | exact HB.out))) : w.heap.size ≤ gb156)); clear HO_6; clear HO_71; clear HB; have HO_6 := n0_; have HO_71 := n1_; have HB := n2_; have BK156 := n3_; have GW156 := n4_; have GE156 := n5_; clear n0_ n1_ n2_ n3_ n4_ n5_; clear hb hbox hg; have hcz59_0 : w58.cell? ⟨gb156, 0, none⟩ = some (.string (⟨#[]⟩ : ByteArray)) := (blk_cell BK156.out 0).trans rfl; have hcz59_1 : w58.cell? ⟨gb156, 1, none⟩ = some (.string (⟨#[]⟩ : ByteArray)) := (blk_cell BK156.out 1).trans rfl; have hfz59_0 := blk_frozen BK156.out 0; have hfz59_1 := blk_frozen BK156.out 1))
                                                have n0_ : Aside0 (Kd.R k32 32 ((w58.setCell ⟨gb156, 0, none⟩ (.string ((rd_T32 t151 x73_3).f0))).setCell ⟨gb156, 1, none⟩ (.string ((rd_T32 t151 x73_3).f1))) w.heap.size (fun k_ => some k_ ≠ (.slice (some ad155) t151.length co44 : Value).ownBlock ∧ k_ ≠ gb156) v131 t129) := ⟨by (with_reducible repeat (first | apply Kd.R_alloc | apply Kd.R_drewN | apply Kd.R_drew)); exact Kd.R_mono (Kd.R_far (p := ⟨gb156, 1, none⟩) (Kd.R_far (p := ⟨gb156, 0, none⟩) (Kd.R_mono HO_6.out (fun k_ hk => (⟨hk, hk.2⟩ : _ ∧ k_ ≠ gb156))) (fun _ hk => hk.2) (.string ((rd_T32 t151 x73_3).f0))) (fun _ hk => hk.2) (.string ((rd_T32 t151 x73_3).f1))) (fun _ hk => ⟨hk.1.1, hk.1.2⟩)⟩
                                                have n1_ : Aside0 (Kd.R k32 32 ((w58.setCell ⟨gb156, 0, none⟩ (.string ((rd_T32 t151 x73_3).f0))).setCell ⟨gb156, 1, none⟩ (.string ((rd_T32 t151 x73_3).f1))) w.heap.size (fun k_ => some k_ ≠ (v131 : Value).ownBlock ∧ k_ ≠ gb156) (.slice (some ad155) t151.length co44) t151) := ⟨by (with_reducible repeat (first | apply Kd.R_alloc | apply Kd.R_drewN | apply Kd.R_drew)); exact Kd.R_mono (Kd.R_far (p := ⟨gb156, 1, none⟩) (Kd.R_far (p := ⟨gb156, 0, none⟩) (Kd.R_mono HO_71.out (fun k_ hk => (⟨hk, hk.2⟩ : _ ∧ k_ ≠ gb156))) (fun _ hk => hk.2) (.string ((rd_T32 t151 x73_3).f0))) (fun _ hk => hk.2) (.string ((rd_T32 t151 x73_3).f1))) (fun _ hk => ⟨hk.1.1, hk.1.2⟩)⟩
                                                have n2_ : Aside0 (((w58.setCell ⟨gb156, 0, none⟩ (.string ((rd_T32 t151 x73_3).f0))).setCell ⟨gb156, 1, none⟩ (.string ((rd_T32 t151 x73_3).f1))).heap[gb156]? = some (.cells #[.string ((rd_T32 t151 x73_3).f0), .string ((rd_T32 t151 x73_3).f1)] 32 (0, 0))) := ⟨by (with_reducible repeat (first | refine blk_drewN ?_ _ | refine blk_drew ?_ | refine blk_alloc ?_ _)); refine blk_put (cs := #[.string ((rd_T32 t151 x73_3).f0), .string (⟨#[]⟩ : ByteArray)]) ?_ 1 _ rfl; (with_reducible repeat (first | refine blk_drewN ?_ _ | refine blk_drew ?_ | refine blk_alloc ?_ _)); refine blk_put (cs := #[.string (⟨#[]⟩ : ByteArray), .string (⟨#[]⟩ : ByteArray)]) ?_ 0 _ rfl; (with_reducible repeat (first | refine blk_drewN ?_ _ | refine blk_drew ?_ | refine blk_alloc ?_ _)); exact BK156.out⟩
                                                have n3_ : Aside0 (Below w.heap.size w ((w58.setCell ⟨gb156, 0, none⟩ (.string ((rd_T32 t151 x73_3).f0))).setCell ⟨gb156, 1, none⟩ (.string ((rd_T32 t151 x73_3).f1)))) := ⟨by repeat (first | (with_reducible first | exact HB.out | apply below_alloc | apply pw_below_drewN | apply below_drew1 | refine below_set ?_ GE156.out) | exact HB.out)⟩
                                                (try clear HO_6)
                                                (try clear HO_71)
                                                (try clear BK156)
                                                (try clear HB)
                                                generalize ((w58.setCell ⟨gb156, 0, none⟩ (.string ((rd_T32 t151 x73_3).f0))).setCell ⟨gb156, 1, none⟩ (.string ((rd_T32 t151 x73_3).f1))) = w60 at n0_ n1_ n2_ n3_ ⊢
                                                have HO_6 := n0_
                                                have HO_71 := n1_
                                                have BK156 := n2_
                                                have HB := n3_
                                                clear n0_ n1_ n2_ n3_
                                                have n0_ := Aside0.mk (Kd.R_drew HO_6.out)
                                                have n1_ := Aside0.mk (Kd.R_drew HO_71.out)
                                                have n2_ := Aside0.mk (blk_drew BK156.out)
                                                have n3_ := Aside0.mk (below_drew1 HB.out)
                                                clear HO_6
                                                clear HO_71
                                                clear BK156
                                                clear HB
                                                have HO_6 := n0_
                                                have HO_71 := n1_
                                                have BK156 := n2_
                                                have HB := n3_
                                                clear n0_ n1_ n2_ n3_
                                                obtain ⟨Ao62, co62, eo62⟩ := Kd.R_slice HO_6.out
                                                (first | subst eo62 | (injection eo62 with f1_ f2_ f3_; have f4_ := f1_.symm; have f5_ := f3_.symm; clear f1_ f2_ f3_; subst f4_; subst f5_))
                                                have p157 : 0 ≤ ((ji49) : Int) := of_decide_eq_true (by first | (with_reducible assumption) | assumption)
                                                have q157 : (ji49) < (t129.length : Int) := of_decide_eq_true (by first | (with_reducible assumption) | assumption)
                                                obtain ⟨ad157, e157, hx157_0, hx157_1⟩ := at_T32 (Kd.R_reads' HO_6.out).2.2 (ji49) p157 q157
                                                cases e157
                                                replace p157 := eq_true p157
                                                replace q157 := eq_true q157
                                                refine start_ (n := 6) (S := fun w' => w'.cell? ⟨gb156, 0, none⟩ = some (.string ((rd_T32 t151 x73_3).f0)) ∧ w'.cell? ⟨gb156, 1, none⟩ = some (.string ((rd_T32 t151 x73_3).f1)) ∧ w'.cell? (ad157.add (((ji49)).toNat * 2)) = some (.string ((rd_T32 t129 (ji49)).f0)) ∧ w'.cell? ⟨(ad157.add (((ji49)).toNat * 2)).block, (ad157.add (((ji49)).toNat * 2)).off + 1, none⟩ = some (.string ((rd_T32 t129 (ji49)).f1))) (ds := []) #[false, false, false, false, false, false] (by kernel_rfl) rfl rfl ⟨(blk_cell BK156.out 0).trans rfl, (blk_cell BK156.out 1).trans rfl, hx157_0, hx157_1⟩ (fun hHeld => ?_)
                                                generalize w60.drew = w61 at HO_6 HO_71 BK156 HB hx157_0 hx157_1 hHeld ⊢
                                                refine pure_ (i := 1) (N := some 85) (v := ?_) (a' := ?_) #[false, true, false, false, false, false] rfl rfl (by kernel_rfl) (fun _ _ _ h => h) (Or.inl ⟨by rfl, ?_⟩) ?_ ?_
                                                rotate_left
                                                · intro w'
                                                  go_simp
                                                  with_reducible rfl
                                                rotate_left
                                                · simp only [Act.put, List.setIfInBounds_toArray, List.set_cons_zero, List.set_cons_succ, i64_w, i32_w]
                                                  rfl
                                                refine pure_ (i := 2) (N := some 86) (v := ?_) (a' := ?_) #[false, true, true, false, false, false] rfl rfl (by kernel_rfl) (fun _ _ _ h => h) (Or.inl ⟨by rfl, ?_⟩) ?_ ?_
                                                rotate_left
                                                · intro w'
                                                  go_simp
                                                  with_reducible rfl
                                                rotate_left
                                                · simp only [Act.put, List.setIfInBounds_toArray, List.set_cons_zero, List.set_cons_succ, i64_w, i32_w]
                                                  rfl
                                                refine pure_ (i := 3) (N := some 87) (v := ?_) (a' := ?_) #[false, true, true, true, false, false] rfl rfl (by kernel_rfl) (fun _ _ _ h => h) (Or.inl ⟨by rfl, ?_⟩) ?_ ?_
                                                rotate_left
                                                · intro w'
                                                  go_simp
                                                  with_reducible rfl
                                                rotate_left
                                                · simp only [Act.put, List.setIfInBounds_toArray, List.set_cons_zero, List.set_cons_succ, i64_w, i32_w]
                                                  rfl
                                                refine take_ (i := 0) (N := some 84) (v := ?_) (a' := ?_) #[true, true, true, true, false, false] rfl rfl (by kernel_rfl) (fun _ _ _ h => h) (Or.inl ⟨by rfl, ?_⟩) hHeld ?_ ?_
                                                rotate_left
                                                · rintro w' ⟨s0, s1, s2, s3⟩
                                                  go_simp
                                                  with_reducible rfl
                                                rotate_left
                                                · simp only [Act.put, List.setIfInBounds_toArray, List.set_cons_zero, List.set_cons_succ, i64_w, i32_w]
                                                  rfl
                                                refine take_ (i := 4) (N := some 88) (v := ?_) (a' := ?_) #[true, true, true, true, true, false] rfl rfl (by kernel_rfl) (fun _ _ _ h => h) (Or.inl ⟨by rfl, ?_⟩) hHeld ?_ ?_
                                                rotate_left
                                                · rintro w' ⟨s0, s1, s2, s3⟩
                                                  go_simp
                                                  with_reducible rfl
                                                rotate_left
                                                · simp only [Act.put, List.setIfInBounds_toArray, List.set_cons_zero, List.set_cons_succ, i64_w, i32_w]
                                                  rfl
                                                refine pure_ (i := 5) (N := some 89) (v := ?_) (a' := ?_) #[true, true, true, true, true, true] rfl rfl (by kernel_rfl) (fun _ _ _ h => h) (Or.inl ⟨by rfl, ?_⟩) ?_ ?_
                                                rotate_left
                                                · intro w'
                                                  go_simp
                                                  with_reducible rfl
                                                rotate_left
                                                · simp only [Act.put, List.setIfInBounds_toArray, List.set_cons_zero, List.set_cons_succ, i64_w, i32_w]
                                                  rfl
                                                refine done_ (by kernel_rfl) ?_
                                                try go_wp2
                                                go_roundg k3
                                                case measure => have := HJ4.out; have := HJ23.out; have := HK3.out; omega
                                                case rel => exact ⟨(ji49), (by first | rfl | (simp; done) | (simp only [← hji49] <;> (first | rfl | simp)) | (simp [*]; done)), H', ⟨by have := HJ4.out; have := HJ23.out; have := HK3.out; omega⟩, ⟨by (with_reducible repeat (first | apply Kd.R_alloc | apply Kd.R_drewN | apply Kd.R_drew)); exact Kd.R_mono HO_6.out (fun _ hk => hk.1)⟩, ⟨by (with_reducible repeat (first | apply Kd.R_alloc | apply Kd.R_drewN | apply Kd.R_drew)); exact Kd.R_mono HO_71.out (fun _ hk => hk.1)⟩, ⟨by repeat (first | (with_reducible first | exact HB.out | apply below_alloc | apply pw_below_drewN | apply below_drew1 | refine below_set ?_ GE156.out) | exact HB.out)⟩⟩
                                            · rw [if_neg c51] at H
                                              exact absurd H (by simp)
                                          · rw [if_neg c50] at H
                                            exact absurd H (by simp)
                                        · rw [if_neg c48] at H
                                          have c48b0 : decide (ji14 ≤ x73_3) = false := decide_eq_false c48
                                          clear c48
                                          by_cases c63 : x73_3 < (t129.length : Int)
                                          · rw [if_pos c63] at H
                                            have c63b0 : decide (x73_3 < (t129.length : Int)) = true := decide_eq_true c63
                                            clear c63
                                            by_cases c64 : (!((((rd_T32 t151 x73_3).f0).toList) == (((rd_T32 t129 x73_3).f0).toList)) || (!((((rd_T32 t151 x73_3).f1).toList) == (((rd_T32 t129 x73_3).f1).toList)))) = true
                                            · rw [if_pos c64] at H
                                              have c64b0 : (!((((rd_T32 t151 x73_3).f0).toList) == (((rd_T32 t129 x73_3).f0).toList)) || (!((((rd_T32 t151 x73_3).f1).toList) == (((rd_T32 t129 x73_3).f1).toList)))) = true := c64
                                              clear c64
                                              obtain rfl := Option.some.inj H
                                              have p155 : 0 ≤ (x73_3 : Int) := of_decide_eq_true (by first | (with_reducible assumption) | assumption)
                                              have q155 : x73_3 < (t151.length : Int) := of_decide_eq_true (by first | (with_reducible assumption) | assumption)
                                              obtain ⟨ad155, e155, hx155_0, hx155_1⟩ := at_T32 (Kd.R_reads' HO_71.out).2.2 x73_3 p155 q155
                                              cases e155
                                              replace p155 := eq_true p155
                                              replace q155 := eq_true q155
                                              try go_wp2_with (first | ((with_reducible refine gate_dst (N := 11) rfl ?_); (try (refine gate_guard (by rfl) ?_; dsimp only)); refine box_event ?hg (N := 11) ?hd (cs := #[.string (⟨#[]⟩ : ByteArray), .string (⟨#[]⟩ : ByteArray)]) (t := 32) ?hr ?_; (case hd => rfl); (case hg => rfl); (case hr => first | (go_simp; done) | (go_simp; rfl)); intro gb156 hg w65 hbox hb; have n0_ := Aside0.mk (Kd.R_below (Kd.R_elderB (by (with_reducible repeat (first | apply Kd.R_alloc | apply Kd.R_drewN | apply Kd.R_drew)); exact HO_6.out) gb156 (Nat.le_of_eq hg.symm)) hb); have n1_ := Aside0.mk (Kd.R_below (Kd.R_elderB (by (with_reducible repeat (first | apply Kd.R_alloc | apply Kd.R_drewN | apply Kd.R_drew)); exact HO_71.out) gb156 (Nat.le_of_eq hg.symm)) hb); have n2_ := Aside0.mk (below_step (by repeat (first | (with_reducible first | exact HB.out | apply below_alloc | apply pw_below_drewN | apply below_drew1) | exact HB.out)) hb); have n3_ := Aside0.mk (hbox); have n4_ := Aside0.mk ((by rw [hg]; exact (below_size (by repeat (first | (with_reducible first | exact HB.out | apply below_alloc | apply pw_below_drewN | apply below_drew1) | exact HB.out))) : w.heap.size ≤ gb156)); have n5_ := Aside0.mk ((by rw [hg]; exact (below_size (by repeat (first | (with_reducible first | exact HB.out | apply below_alloc | apply pw_below_drewN | apply below_drew1) | exact HB.out))) : w.heap.size ≤ gb156)); clear HO_6; clear HO_71; clear HB; have HO_6 := n0_; have HO_71 := n1_; have HB := n2_; have BK156 := n3_; have GW156 := n4_; have GE156 := n5_; clear n0_ n1_ n2_ n3_ n4_ n5_; clear hb hbox hg; have hcz66_0 : w65.cell? ⟨gb156, 0, none⟩ = some (.string (⟨#[]⟩ : ByteArray)) := (blk_cell BK156.out 0).trans rfl; have hcz66_1 : w65.cell? ⟨gb156, 1, none⟩ = some (.string (⟨#[]⟩ : ByteArray)) := (blk_cell BK156.out 1).trans rfl; have hfz66_0 := blk_frozen BK156.out 0; have hfz66_1 := blk_frozen BK156.out 1))
                                              have n0_ : Aside0 (Kd.R k32 32 ((w65.setCell ⟨gb156, 0, none⟩ (.string ((rd_T32 t151 x73_3).f0))).setCell ⟨gb156, 1, none⟩ (.string ((rd_T32 t151 x73_3).f1))) w.heap.size (fun k_ => some k_ ≠ (.slice (some ad155) t151.length co44 : Value).ownBlock ∧ k_ ≠ gb156) v131 t129) := ⟨by (with_reducible repeat (first | apply Kd.R_alloc | apply Kd.R_drewN | apply Kd.R_drew)); exact Kd.R_mono (Kd.R_far (p := ⟨gb156, 1, none⟩) (Kd.R_far (p := ⟨gb156, 0, none⟩) (Kd.R_mono HO_6.out (fun k_ hk => (⟨hk, hk.2⟩ : _ ∧ k_ ≠ gb156))) (fun _ hk => hk.2) (.string ((rd_T32 t151 x73_3).f0))) (fun _ hk => hk.2) (.string ((rd_T32 t151 x73_3).f1))) (fun _ hk => ⟨hk.1.1, hk.1.2⟩)⟩
                                              have n1_ : Aside0 (Kd.R k32 32 ((w65.setCell ⟨gb156, 0, none⟩ (.string ((rd_T32 t151 x73_3).f0))).setCell ⟨gb156, 1, none⟩ (.string ((rd_T32 t151 x73_3).f1))) w.heap.size (fun k_ => some k_ ≠ (v131 : Value).ownBlock ∧ k_ ≠ gb156) (.slice (some ad155) t151.length co44) t151) := ⟨by (with_reducible repeat (first | apply Kd.R_alloc | apply Kd.R_drewN | apply Kd.R_drew)); exact Kd.R_mono (Kd.R_far (p := ⟨gb156, 1, none⟩) (Kd.R_far (p := ⟨gb156, 0, none⟩) (Kd.R_mono HO_71.out (fun k_ hk => (⟨hk, hk.2⟩ : _ ∧ k_ ≠ gb156))) (fun _ hk => hk.2) (.string ((rd_T32 t151 x73_3).f0))) (fun _ hk => hk.2) (.string ((rd_T32 t151 x73_3).f1))) (fun _ hk => ⟨hk.1.1, hk.1.2⟩)⟩
                                              have n2_ : Aside0 (((w65.setCell ⟨gb156, 0, none⟩ (.string ((rd_T32 t151 x73_3).f0))).setCell ⟨gb156, 1, none⟩ (.string ((rd_T32 t151 x73_3).f1))).heap[gb156]? = some (.cells #[.string ((rd_T32 t151 x73_3).f0), .string ((rd_T32 t151 x73_3).f1)] 32 (0, 0))) := ⟨by (with_reducible repeat (first | refine blk_drewN ?_ _ | refine blk_drew ?_ | refine blk_alloc ?_ _)); refine blk_put (cs := #[.string ((rd_T32 t151 x73_3).f0), .string (⟨#[]⟩ : ByteArray)]) ?_ 1 _ rfl; (with_reducible repeat (first | refine blk_drewN ?_ _ | refine blk_drew ?_ | refine blk_alloc ?_ _)); refine blk_put (cs := #[.string (⟨#[]⟩ : ByteArray), .string (⟨#[]⟩ : ByteArray)]) ?_ 0 _ rfl; (with_reducible repeat (first | refine blk_drewN ?_ _ | refine blk_drew ?_ | refine blk_alloc ?_ _)); exact BK156.out⟩
                                              have n3_ : Aside0 (Below w.heap.size w ((w65.setCell ⟨gb156, 0, none⟩ (.string ((rd_T32 t151 x73_3).f0))).setCell ⟨gb156, 1, none⟩ (.string ((rd_T32 t151 x73_3).f1)))) := ⟨by repeat (first | (with_reducible first | exact HB.out | apply below_alloc | apply pw_below_drewN | apply below_drew1 | refine below_set ?_ GE156.out) | exact HB.out)⟩
                                              (try clear HO_6)
                                              (try clear HO_71)
                                              (try clear BK156)
                                              (try clear HB)
                                              generalize ((w65.setCell ⟨gb156, 0, none⟩ (.string ((rd_T32 t151 x73_3).f0))).setCell ⟨gb156, 1, none⟩ (.string ((rd_T32 t151 x73_3).f1))) = w67 at n0_ n1_ n2_ n3_ ⊢
                                              have HO_6 := n0_
                                              have HO_71 := n1_
                                              have BK156 := n2_
                                              have HB := n3_
                                              clear n0_ n1_ n2_ n3_
                                              have n0_ := Aside0.mk (Kd.R_drew HO_6.out)
                                              have n1_ := Aside0.mk (Kd.R_drew HO_71.out)
                                              have n2_ := Aside0.mk (blk_drew BK156.out)
                                              have n3_ := Aside0.mk (below_drew1 HB.out)
                                              clear HO_6
                                              clear HO_71
                                              clear BK156
                                              clear HB
                                              have HO_6 := n0_
                                              have HO_71 := n1_
                                              have BK156 := n2_
                                              have HB := n3_
                                              clear n0_ n1_ n2_ n3_
                                              obtain ⟨Ao69, co69, eo69⟩ := Kd.R_slice HO_6.out
                                              (first | subst eo69 | (injection eo69 with f1_ f2_ f3_; have f4_ := f1_.symm; have f5_ := f3_.symm; clear f1_ f2_ f3_; subst f4_; subst f5_))
                                              have p158 : 0 ≤ (x73_3 : Int) := of_decide_eq_true (by first | (with_reducible assumption) | assumption)
                                              have q158 : x73_3 < (t129.length : Int) := of_decide_eq_true (by first | (with_reducible assumption) | assumption)
                                              obtain ⟨ad158, e158, hx158_0, hx158_1⟩ := at_T32 (Kd.R_reads' HO_6.out).2.2 x73_3 p158 q158
                                              cases e158
                                              replace p158 := eq_true p158
                                              replace q158 := eq_true q158
                                              refine start_ (n := 6) (S := fun w' => w'.cell? ⟨gb156, 0, none⟩ = some (.string ((rd_T32 t151 x73_3).f0)) ∧ w'.cell? ⟨gb156, 1, none⟩ = some (.string ((rd_T32 t151 x73_3).f1)) ∧ w'.cell? (ad158.add ((x73_3).toNat * 2)) = some (.string ((rd_T32 t129 x73_3).f0)) ∧ w'.cell? ⟨(ad158.add ((x73_3).toNat * 2)).block, (ad158.add ((x73_3).toNat * 2)).off + 1, none⟩ = some (.string ((rd_T32 t129 x73_3).f1))) (ds := []) #[false, false, false, false, false, false] (by kernel_rfl) rfl rfl ⟨(blk_cell BK156.out 0).trans rfl, (blk_cell BK156.out 1).trans rfl, hx158_0, hx158_1⟩ (fun hHeld => ?_)
                                              generalize w67.drew = w68 at HO_6 HO_71 BK156 HB hx158_0 hx158_1 hHeld ⊢
                                              refine pure_ (i := 1) (N := some 85) (v := ?_) (a' := ?_) #[false, true, false, false, false, false] rfl rfl (by kernel_rfl) (fun _ _ _ h => h) (Or.inl ⟨by rfl, ?_⟩) ?_ ?_
                                              rotate_left
                                              · intro w'
                                                go_simp
                                                with_reducible rfl
                                              rotate_left
                                              · simp only [Act.put, List.setIfInBounds_toArray, List.set_cons_zero, List.set_cons_succ, i64_w, i32_w]
                                                rfl
                                              refine pure_ (i := 2) (N := some 86) (v := ?_) (a' := ?_) #[false, true, true, false, false, false] rfl rfl (by kernel_rfl) (fun _ _ _ h => h) (Or.inl ⟨by rfl, ?_⟩) ?_ ?_
                                              rotate_left
                                              · intro w'
                                                go_simp
                                                with_reducible rfl
                                              rotate_left
                                              · simp only [Act.put, List.setIfInBounds_toArray, List.set_cons_zero, List.set_cons_succ, i64_w, i32_w]
                                                rfl
                                              refine pure_ (i := 3) (N := some 87) (v := ?_) (a' := ?_) #[false, true, true, true, false, false] rfl rfl (by kernel_rfl) (fun _ _ _ h => h) (Or.inl ⟨by rfl, ?_⟩) ?_ ?_
                                              rotate_left
                                              · intro w'
                                                go_simp
                                                with_reducible rfl
                                              rotate_left
                                              · simp only [Act.put, List.setIfInBounds_toArray, List.set_cons_zero, List.set_cons_succ, i64_w, i32_w]
                                                rfl
                                              refine take_ (i := 0) (N := some 84) (v := ?_) (a' := ?_) #[true, true, true, true, false, false] rfl rfl (by kernel_rfl) (fun _ _ _ h => h) (Or.inl ⟨by rfl, ?_⟩) hHeld ?_ ?_
                                              rotate_left
                                              · rintro w' ⟨s0, s1, s2, s3⟩
                                                go_simp
                                                with_reducible rfl
                                              rotate_left
                                              · simp only [Act.put, List.setIfInBounds_toArray, List.set_cons_zero, List.set_cons_succ, i64_w, i32_w]
                                                rfl
                                              refine take_ (i := 4) (N := some 88) (v := ?_) (a' := ?_) #[true, true, true, true, true, false] rfl rfl (by kernel_rfl) (fun _ _ _ h => h) (Or.inl ⟨by rfl, ?_⟩) hHeld ?_ ?_
                                              rotate_left
                                              · rintro w' ⟨s0, s1, s2, s3⟩
                                                go_simp
                                                with_reducible rfl
                                              rotate_left
                                              · simp only [Act.put, List.setIfInBounds_toArray, List.set_cons_zero, List.set_cons_succ, i64_w, i32_w]
                                                rfl
                                              refine pure_ (i := 5) (N := some 89) (v := ?_) (a' := ?_) #[true, true, true, true, true, true] rfl rfl (by kernel_rfl) (fun _ _ _ h => h) (Or.inl ⟨by rfl, ?_⟩) ?_ ?_
                                              rotate_left
                                              · intro w'
                                                go_simp
                                                with_reducible rfl
                                              rotate_left
                                              · simp only [Act.put, List.setIfInBounds_toArray, List.set_cons_zero, List.set_cons_succ, i64_w, i32_w]
                                                rfl
                                              refine done_ (by kernel_rfl) ?_
                                              try go_wp2
                                              go_ret
                                              exact ⟨by first | rfl | (simp [errW_none, errW_some] <;> rfl) | (simp only [← hji14, ← hji18]; first | rfl | (simp [errW_none, errW_some] <;> rfl)) | (simp [*, errW_none, errW_some] <;> rfl) | (simp (disch := omega) only [wrap64_id] <;> rfl), by repeat (first | (with_reducible first | exact HB.out | apply below_alloc | apply pw_below_drewN | apply below_drew1 | refine below_set ?_ GE156.out) | exact HB.out)⟩
                                            · rw [if_neg c64] at H
                                              have c64b0 : (!((((rd_T32 t151 x73_3).f0).toList) == (((rd_T32 t129 x73_3).f0).toList)) || (!((((rd_T32 t151 x73_3).f1).toList) == (((rd_T32 t129 x73_3).f1).toList)))) = false := by simpa using c64
                                              clear c64
                                              have H' := Aside0.mk H
                                              clear H
                                              have p155 : 0 ≤ (x73_3 : Int) := of_decide_eq_true (by first | (with_reducible assumption) | assumption)
                                              have q155 : x73_3 < (t151.length : Int) := of_decide_eq_true (by first | (with_reducible assumption) | assumption)
                                              obtain ⟨ad155, e155, hx155_0, hx155_1⟩ := at_T32 (Kd.R_reads' HO_71.out).2.2 x73_3 p155 q155
                                              cases e155
                                              replace p155 := eq_true p155
                                              replace q155 := eq_true q155
                                              try go_wp2_with (first | ((with_reducible refine gate_dst (N := 11) rfl ?_); (try (refine gate_guard (by rfl) ?_; dsimp only)); refine box_event ?hg (N := 11) ?hd (cs := #[.string (⟨#[]⟩ : ByteArray), .string (⟨#[]⟩ : ByteArray)]) (t := 32) ?hr ?_; (case hd => rfl); (case hg => rfl); (case hr => first | (go_simp; done) | (go_simp; rfl)); intro gb156 hg w70 hbox hb; have n0_ := Aside0.mk (Kd.R_below (Kd.R_elderB (by (with_reducible repeat (first | apply Kd.R_alloc | apply Kd.R_drewN | apply Kd.R_drew)); exact HO_6.out) gb156 (Nat.le_of_eq hg.symm)) hb); have n1_ := Aside0.mk (Kd.R_below (Kd.R_elderB (by (with_reducible repeat (first | apply Kd.R_alloc | apply Kd.R_drewN | apply Kd.R_drew)); exact HO_71.out) gb156 (Nat.le_of_eq hg.symm)) hb); have n2_ := Aside0.mk (below_step (by repeat (first | (with_reducible first | exact HB.out | apply below_alloc | apply pw_below_drewN | apply below_drew1) | exact HB.out)) hb); have n3_ := Aside0.mk (hbox); have n4_ := Aside0.mk ((by rw [hg]; exact (below_size (by repeat (first | (with_reducible first | exact HB.out | apply below_alloc | apply pw_below_drewN | apply below_drew1) | exact HB.out))) : w.heap.size ≤ gb156)); have n5_ := Aside0.mk ((by rw [hg]; exact (below_size (by repeat (first | (with_reducible first | exact HB.out | apply below_alloc | apply pw_below_drewN | apply below_drew1) | exact HB.out))) : w.heap.size ≤ gb156)); clear HO_6; clear HO_71; clear HB; have HO_6 := n0_; have HO_71 := n1_; have HB := n2_; have BK156 := n3_; have GW156 := n4_; have GE156 := n5_; clear n0_ n1_ n2_ n3_ n4_ n5_; clear hb hbox hg; have hcz71_0 : w70.cell? ⟨gb156, 0, none⟩ = some (.string (⟨#[]⟩ : ByteArray)) := (blk_cell BK156.out 0).trans rfl; have hcz71_1 : w70.cell? ⟨gb156, 1, none⟩ = some (.string (⟨#[]⟩ : ByteArray)) := (blk_cell BK156.out 1).trans rfl; have hfz71_0 := blk_frozen BK156.out 0; have hfz71_1 := blk_frozen BK156.out 1))
                                              have n0_ : Aside0 (Kd.R k32 32 ((w70.setCell ⟨gb156, 0, none⟩ (.string ((rd_T32 t151 x73_3).f0))).setCell ⟨gb156, 1, none⟩ (.string ((rd_T32 t151 x73_3).f1))) w.heap.size (fun k_ => some k_ ≠ (.slice (some ad155) t151.length co44 : Value).ownBlock ∧ k_ ≠ gb156) v131 t129) := ⟨by (with_reducible repeat (first | apply Kd.R_alloc | apply Kd.R_drewN | apply Kd.R_drew)); exact Kd.R_mono (Kd.R_far (p := ⟨gb156, 1, none⟩) (Kd.R_far (p := ⟨gb156, 0, none⟩) (Kd.R_mono HO_6.out (fun k_ hk => (⟨hk, hk.2⟩ : _ ∧ k_ ≠ gb156))) (fun _ hk => hk.2) (.string ((rd_T32 t151 x73_3).f0))) (fun _ hk => hk.2) (.string ((rd_T32 t151 x73_3).f1))) (fun _ hk => ⟨hk.1.1, hk.1.2⟩)⟩
                                              have n1_ : Aside0 (Kd.R k32 32 ((w70.setCell ⟨gb156, 0, none⟩ (.string ((rd_T32 t151 x73_3).f0))).setCell ⟨gb156, 1, none⟩ (.string ((rd_T32 t151 x73_3).f1))) w.heap.size (fun k_ => some k_ ≠ (v131 : Value).ownBlock ∧ k_ ≠ gb156) (.slice (some ad155) t151.length co44) t151) := ⟨by (with_reducible repeat (first | apply Kd.R_alloc | apply Kd.R_drewN | apply Kd.R_drew)); exact Kd.R_mono (Kd.R_far (p := ⟨gb156, 1, none⟩) (Kd.R_far (p := ⟨gb156, 0, none⟩) (Kd.R_mono HO_71.out (fun k_ hk => (⟨hk, hk.2⟩ : _ ∧ k_ ≠ gb156))) (fun _ hk => hk.2) (.string ((rd_T32 t151 x73_3).f0))) (fun _ hk => hk.2) (.string ((rd_T32 t151 x73_3).f1))) (fun _ hk => ⟨hk.1.1, hk.1.2⟩)⟩
                                              have n2_ : Aside0 (((w70.setCell ⟨gb156, 0, none⟩ (.string ((rd_T32 t151 x73_3).f0))).setCell ⟨gb156, 1, none⟩ (.string ((rd_T32 t151 x73_3).f1))).heap[gb156]? = some (.cells #[.string ((rd_T32 t151 x73_3).f0), .string ((rd_T32 t151 x73_3).f1)] 32 (0, 0))) := ⟨by (with_reducible repeat (first | refine blk_drewN ?_ _ | refine blk_drew ?_ | refine blk_alloc ?_ _)); refine blk_put (cs := #[.string ((rd_T32 t151 x73_3).f0), .string (⟨#[]⟩ : ByteArray)]) ?_ 1 _ rfl; (with_reducible repeat (first | refine blk_drewN ?_ _ | refine blk_drew ?_ | refine blk_alloc ?_ _)); refine blk_put (cs := #[.string (⟨#[]⟩ : ByteArray), .string (⟨#[]⟩ : ByteArray)]) ?_ 0 _ rfl; (with_reducible repeat (first | refine blk_drewN ?_ _ | refine blk_drew ?_ | refine blk_alloc ?_ _)); exact BK156.out⟩
                                              have n3_ : Aside0 (Below w.heap.size w ((w70.setCell ⟨gb156, 0, none⟩ (.string ((rd_T32 t151 x73_3).f0))).setCell ⟨gb156, 1, none⟩ (.string ((rd_T32 t151 x73_3).f1)))) := ⟨by repeat (first | (with_reducible first | exact HB.out | apply below_alloc | apply pw_below_drewN | apply below_drew1 | refine below_set ?_ GE156.out) | exact HB.out)⟩
                                              (try clear HO_6)
                                              (try clear HO_71)
                                              (try clear BK156)
                                              (try clear HB)
                                              generalize ((w70.setCell ⟨gb156, 0, none⟩ (.string ((rd_T32 t151 x73_3).f0))).setCell ⟨gb156, 1, none⟩ (.string ((rd_T32 t151 x73_3).f1))) = w72 at n0_ n1_ n2_ n3_ ⊢
                                              have HO_6 := n0_
                                              have HO_71 := n1_
                                              have BK156 := n2_
                                              have HB := n3_
                                              clear n0_ n1_ n2_ n3_
                                              have n0_ := Aside0.mk (Kd.R_drew HO_6.out)
                                              have n1_ := Aside0.mk (Kd.R_drew HO_71.out)
                                              have n2_ := Aside0.mk (blk_drew BK156.out)
                                              have n3_ := Aside0.mk (below_drew1 HB.out)
                                              clear HO_6
                                              clear HO_71
                                              clear BK156
                                              clear HB
                                              have HO_6 := n0_
                                              have HO_71 := n1_
                                              have BK156 := n2_
                                              have HB := n3_
                                              clear n0_ n1_ n2_ n3_
                                              obtain ⟨Ao74, co74, eo74⟩ := Kd.R_slice HO_6.out
                                              (first | subst eo74 | (injection eo74 with f1_ f2_ f3_; have f4_ := f1_.symm; have f5_ := f3_.symm; clear f1_ f2_ f3_; subst f4_; subst f5_))
                                              have p158 : 0 ≤ (x73_3 : Int) := of_decide_eq_true (by first | (with_reducible assumption) | assumption)
                                              have q158 : x73_3 < (t129.length : Int) := of_decide_eq_true (by first | (with_reducible assumption) | assumption)
                                              obtain ⟨ad158, e158, hx158_0, hx158_1⟩ := at_T32 (Kd.R_reads' HO_6.out).2.2 x73_3 p158 q158
                                              cases e158
                                              replace p158 := eq_true p158
                                              replace q158 := eq_true q158
                                              refine start_ (n := 6) (S := fun w' => w'.cell? ⟨gb156, 0, none⟩ = some (.string ((rd_T32 t151 x73_3).f0)) ∧ w'.cell? ⟨gb156, 1, none⟩ = some (.string ((rd_T32 t151 x73_3).f1)) ∧ w'.cell? (ad158.add ((x73_3).toNat * 2)) = some (.string ((rd_T32 t129 x73_3).f0)) ∧ w'.cell? ⟨(ad158.add ((x73_3).toNat * 2)).block, (ad158.add ((x73_3).toNat * 2)).off + 1, none⟩ = some (.string ((rd_T32 t129 x73_3).f1))) (ds := []) #[false, false, false, false, false, false] (by kernel_rfl) rfl rfl ⟨(blk_cell BK156.out 0).trans rfl, (blk_cell BK156.out 1).trans rfl, hx158_0, hx158_1⟩ (fun hHeld => ?_)
                                              generalize w72.drew = w73 at HO_6 HO_71 BK156 HB hx158_0 hx158_1 hHeld ⊢
                                              refine pure_ (i := 1) (N := some 85) (v := ?_) (a' := ?_) #[false, true, false, false, false, false] rfl rfl (by kernel_rfl) (fun _ _ _ h => h) (Or.inl ⟨by rfl, ?_⟩) ?_ ?_
                                              rotate_left
                                              · intro w'
                                                go_simp
                                                with_reducible rfl
                                              rotate_left
                                              · simp only [Act.put, List.setIfInBounds_toArray, List.set_cons_zero, List.set_cons_succ, i64_w, i32_w]
                                                rfl
                                              refine pure_ (i := 2) (N := some 86) (v := ?_) (a' := ?_) #[false, true, true, false, false, false] rfl rfl (by kernel_rfl) (fun _ _ _ h => h) (Or.inl ⟨by rfl, ?_⟩) ?_ ?_
                                              rotate_left
                                              · intro w'
                                                go_simp
                                                with_reducible rfl
                                              rotate_left
                                              · simp only [Act.put, List.setIfInBounds_toArray, List.set_cons_zero, List.set_cons_succ, i64_w, i32_w]
                                                rfl
                                              refine pure_ (i := 3) (N := some 87) (v := ?_) (a' := ?_) #[false, true, true, true, false, false] rfl rfl (by kernel_rfl) (fun _ _ _ h => h) (Or.inl ⟨by rfl, ?_⟩) ?_ ?_
                                              rotate_left
                                              · intro w'
                                                go_simp
                                                with_reducible rfl
                                              rotate_left
                                              · simp only [Act.put, List.setIfInBounds_toArray, List.set_cons_zero, List.set_cons_succ, i64_w, i32_w]
                                                rfl
                                              refine take_ (i := 0) (N := some 84) (v := ?_) (a' := ?_) #[true, true, true, true, false, false] rfl rfl (by kernel_rfl) (fun _ _ _ h => h) (Or.inl ⟨by rfl, ?_⟩) hHeld ?_ ?_
                                              rotate_left
                                              · rintro w' ⟨s0, s1, s2, s3⟩
                                                go_simp
                                                with_reducible rfl
                                              rotate_left
                                              · simp only [Act.put, List.setIfInBounds_toArray, List.set_cons_zero, List.set_cons_succ, i64_w, i32_w]
                                                rfl
                                              refine take_ (i := 4) (N := some 88) (v := ?_) (a' := ?_) #[true, true, true, true, true, false] rfl rfl (by kernel_rfl) (fun _ _ _ h => h) (Or.inl ⟨by rfl, ?_⟩) hHeld ?_ ?_
                                              rotate_left
                                              · rintro w' ⟨s0, s1, s2, s3⟩
                                                go_simp
                                                with_reducible rfl
                                              rotate_left
                                              · simp only [Act.put, List.setIfInBounds_toArray, List.set_cons_zero, List.set_cons_succ, i64_w, i32_w]
                                                rfl
                                              refine pure_ (i := 5) (N := some 89) (v := ?_) (a' := ?_) #[true, true, true, true, true, true] rfl rfl (by kernel_rfl) (fun _ _ _ h => h) (Or.inl ⟨by rfl, ?_⟩) ?_ ?_
                                              rotate_left
                                              · intro w'
                                                go_simp
                                                with_reducible rfl
                                              rotate_left
                                              · simp only [Act.put, List.setIfInBounds_toArray, List.set_cons_zero, List.set_cons_succ, i64_w, i32_w]
                                                rfl
                                              refine done_ (by kernel_rfl) ?_
                                              try go_wp2
                                              go_roundg k3
                                              case measure => have := HJ4.out; have := HJ23.out; have := HK3.out; omega
                                              case rel => exact ⟨(wrap64 (x73_3 + 1)), (by first | rfl | (simp; done) | (simp [*]; done)), H', ⟨by have := HJ4.out; have := HJ23.out; have := HK3.out; omega⟩, ⟨by (with_reducible repeat (first | apply Kd.R_alloc | apply Kd.R_drewN | apply Kd.R_drew)); exact Kd.R_mono HO_6.out (fun _ hk => hk.1)⟩, ⟨by (with_reducible repeat (first | apply Kd.R_alloc | apply Kd.R_drewN | apply Kd.R_drew)); exact Kd.R_mono HO_71.out (fun _ hk => hk.1)⟩, ⟨by repeat (first | (with_reducible first | exact HB.out | apply below_alloc | apply pw_below_drewN | apply below_drew1 | refine below_set ?_ GE156.out) | exact HB.out)⟩⟩
                                          · rw [if_neg c63] at H
                                            exact absurd H (by simp)
                                      · rw [if_neg c47] at H
                                        exact absurd H (by simp)
                                    · rw [if_neg c46] at H
                                      exact absurd H (by simp)
                                  · rw [if_neg c45] at H
                                    have c45b0 : decide (x73_3 < (t151.length : Int)) = false := decide_eq_false c45
                                    clear c45
                                    obtain rfl := Option.some.inj H
                                    go_wp2
                                    go_ret
                                    exact ⟨by first | rfl | (simp [errW_none, errW_some] <;> rfl) | (simp only [← hji14, ← hji18]; first | rfl | (simp [errW_none, errW_some] <;> rfl)) | (simp [*, errW_none, errW_some] <;> rfl) | (simp (disch := omega) only [wrap64_id] <;> rfl), by repeat (first | (with_reducible first | exact HB.out | apply below_alloc | apply pw_below_drewN | apply below_drew1) | exact HB.out)⟩
                      · rw [if_neg c21] at H
                        exact absurd H (by simp)
                    · rw [if_neg c20] at H
                      exact absurd H (by simp)
                  · rw [if_neg c19] at H
                    exact absurd H (by simp)
                · rw [if_neg c17] at H
                  exact absurd H (by simp)
              · rw [if_neg c16] at H
                exact absurd H (by simp)
            · rw [if_neg c15] at H
              exact absurd H (by simp)
  · replace c4 := Bool.eq_false_iff.mpr c4
    subst c4
    have H1 : (some true) = some r := by rw [if_neg (show ¬ (false = true) by decide)] at H; exact H
    clear H
    have H := H1
    clear H1
    obtain rfl := Option.some.inj H
    go_enter Try.func4, Try.ntmps4
    go_wp2_with (first | ((with_reducible refine gate_callee (f := 5) rfl ?_); refine goesL_ (some 14) rfl rfl Try.func5 (by kernel_rfl) rfl #[.slice A0 l0.length c0] rfl (by (try simp only [List.map_toArray, List.map_cons, List.map_nil]); first | done | rfl | (simp only [List.length_drop, List.length_take]; rfl)) ?_; (with_reducible refine (laws_zzFits3.calls k _ _ l0 false _ ?side1 ?side2 A3.out).mono ?_); (case side1 => repeat (first | exact HR0.out | (with_reducible refine Kd.C_alloc ?_ _) | (with_reducible refine Kd.C_drewN ?_ _) | (with_reducible refine Kd.C_drew ?_))); (case side2 => exact HC0.out); rintro e w75 ⟨rfl, hb⟩; refine ⟨_, rfl, ?_⟩; have n0_ := Aside0.mk (below_step (by repeat (first | (with_reducible first | exact HB.out | apply below_alloc | apply pw_below_drewN | apply below_drew1) | exact HB.out)) hb); clear HB; have HB := n0_; clear n0_; (try clear hb); (try clear hb2); (try clear hk); (try clear hi)))
    go_ret
    exact ⟨by first | rfl | (simp [errW_none, errW_some] <;> rfl) | (simp [*, errW_none, errW_some] <;> rfl) | (simp (disch := omega) only [wrap64_id] <;> rfl), by repeat (first | (with_reducible first | exact HB.out | apply below_alloc | apply pw_below_drewN | apply below_drew1) | exact HB.out)⟩

end Go.Proofs.Ytbemkokigpcmdaa.MFnMtRuleDrop
