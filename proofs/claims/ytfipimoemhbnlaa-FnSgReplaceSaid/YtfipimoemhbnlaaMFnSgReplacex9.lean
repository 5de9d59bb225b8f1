-- Written by a program of this session (myprint.py, out of the translation). Not trusted: Lean checks it.
import Derived.Test.YtfipimoemhbnlaaMFnSgReplacex0
import Derived.Test.YtfipimoemhbnlaaMFnSgReplacex1
import Derived.Test.YtfipimoemhbnlaaMFnSgReplacex3
import Derived.Test.YtfipimoemhbnlaaMFnSgReplacex8
namespace Go.Proofs.Ytfipimoemhbnlaa.MFnSgReplace
open Go.RowKit Go.Proofs.YtfipimoemhbnlaaW.PrintWords Go.Proofs.YtfipimoemhbnlaaW.PrintLast Go.Proofs.YtfipimoemhbnlaaW.PrintMore
attribute [local go_sem] max2_int min2_int max_two min_two max_three min_three max_four min_four   -- for this text's walks alone
set_option linter.unusedVariables false
set_option linter.unusedSimpArgs false

/-! ### laws_FnSgReplace: function 5 -/
def laws_FnSgReplace.j0 : Nat → ByteArray → Int → Int → Bool → Option (Bool)
  | 0, _, _, _, _ => none
  | k + 1, x0, x1, x2, x31 => if x31 = true then (some true) else ((laws_sgSpans.f k x0 0).bind fun t152 => (if (t152.length : Int) = 0 then (none) else (if 0 ≤ (Int.tmod (wrap64 (x1)) (t152.length : Int)) then (if (Int.tmod (wrap64 (x1)) (t152.length : Int)) < (t152.length : Int) then (if 0 ≤ ((rd_T32 t152 (Int.tmod (wrap64 (x1)) (t152.length : Int))).f0) then (if ((rd_T32 t152 (Int.tmod (wrap64 (x1)) (t152.length : Int))).f0) ≤ (x0.size : Int) then ((some (([x2] : List Int) : List Int)).bind fun y157 => (if (x0.extract 0 (((rd_T32 t152 (Int.tmod (wrap64 (x1)) (t152.length : Int))).f0) : Int).toNat).size + (strOfNums y157).size ≤ 9223372036854775807 then (if 0 ≤ ((rd_T32 t152 (Int.tmod (wrap64 (x1)) (t152.length : Int))).f1) then (if ((rd_T32 t152 (Int.tmod (wrap64 (x1)) (t152.length : Int))).f1) ≤ (x0.size : Int) then (if ((x0.extract 0 (((rd_T32 t152 (Int.tmod (wrap64 (x1)) (t152.length : Int))).f0) : Int).toNat) ++ (strOfNums y157)).size + (x0.extract (((rd_T32 t152 (Int.tmod (wrap64 (x1)) (t152.length : Int))).f1) : Int).toNat x0.size).size ≤ 9223372036854775807 then ((impl_SgParse.f k (((x0.extract 0 (((rd_T32 t152 (Int.tmod (wrap64 (x1)) (t152.length : Int))).f0) : Int).toNat) ++ (strOfNums y157)) ++ (x0.extract (((rd_T32 t152 (Int.tmod (wrap64 (x1)) (t152.length : Int))).f1) : Int).toNat x0.size))).bind fun bt160 => (if ((rd_T32 t152 (Int.tmod (wrap64 (x1)) (t152.length : Int))).f0) ≤ ((rd_T32 t152 (Int.tmod (wrap64 (x1)) (t152.length : Int))).f1) then ((impl_SgParse.f k (x0.extract (((rd_T32 t152 (Int.tmod (wrap64 (x1)) (t152.length : Int))).f0) : Int).toNat (((rd_T32 t152 (Int.tmod (wrap64 (x1)) (t152.length : Int))).f1) : Int).toNat)).bind fun bt162 => (if bt160.2 = true then (some bt162.2) else (some false))) else (none))) else (none)) else (none)) else (none)) else (none))) else (none)) else (none)) else (none)) else (none))))
def laws_FnSgReplace.f (k : Nat) (a0 : ByteArray) (a1 : Int) (a2 : Int) : Option (Bool) := if (a0.size : Int) > 2147483647 then (some true) else ((spec_Valid.f k a0).bind fun t150 => (if t150 = true then (if a0.toList = ([] : List UInt8) then (laws_FnSgReplace.j0 k a0 a1 a2 true) else ((spec_Basic.f a2).bind fun t151 => (if t151 = true then (laws_FnSgReplace.j0 k a0 a1 a2 false) else (laws_FnSgReplace.j0 k a0 a1 a2 (a2 != 118))))) else (laws_FnSgReplace.j0 k a0 a1 a2 true)))
theorem laws_FnSgReplace.mono_l : ∀ k, (∀ y0 y1 y2 y3, LeO (laws_FnSgReplace.j0 k y0 y1 y2 y3) (laws_FnSgReplace.j0 (k + 1) y0 y1 y2 y3))
  | 0 => fun _ _ _ _ r h => by simp [laws_FnSgReplace.j0] at h
  | k + 1 => by
    have ih0 := laws_FnSgReplace.mono_l k
    · intro y0 y1 y2 y3
      unfold laws_FnSgReplace.j0
      repeat' first
      | (with_reducible exact ih0 _ _ _ _)
      | (with_reducible exact impl_SgParse.mono _ _)
      | (with_reducible exact laws_sgSpans.mono _ _ _)
      | (with_reducible exact spec_Valid.mono _ _)
      | (with_reducible exact LeO.refl _)
      | (with_reducible exact LeO.none _)
      | (with_reducible refine LeO.ite ?_ ?_)
      | (with_reducible refine LeO.bind ?_ (fun _ => ?_))
      | exact ih0 _ _ _ _
      | exact impl_SgParse.mono _ _
      | exact laws_sgSpans.mono _ _ _
      | exact spec_Valid.mono _ _
      | exact LeO.none _
      | refine LeO.ite ?_ ?_
      | refine LeO.bind ?_ (fun _ => ?_)
theorem laws_FnSgReplace.mono : ∀ a0 a1 a2 k, LeO (laws_FnSgReplace.f k a0 a1 a2) (laws_FnSgReplace.f (k + 1) a0 a1 a2) := by
  intro a0 a1 a2 k
  have ih0 := laws_FnSgReplace.mono_l k
  unfold laws_FnSgReplace.f
  repeat' first
      | (with_reducible exact ih0 _ _ _ _)
      | (with_reducible exact impl_SgParse.mono _ _)
      | (with_reducible exact laws_sgSpans.mono _ _ _)
      | (with_reducible exact spec_Valid.mono _ _)
      | (with_reducible exact LeO.refl _)
      | (with_reducible exact LeO.none _)
      | (with_reducible refine LeO.ite ?_ ?_)
      | (with_reducible refine LeO.bind ?_ (fun _ => ?_))
      | exact ih0 _ _ _ _
      | exact impl_SgParse.mono _ _
      | exact laws_sgSpans.mono _ _ _
      | exact spec_Valid.mono _ _
      | exact LeO.none _
      | refine LeO.ite ?_ ?_
      | refine LeO.bind ?_ (fun _ => ?_)
def laws_FnSgReplace.T7 : Bool × List (List Nat × List Nat) := (true, [([], []), ([], []), ([1], [1]), ([0, 2], [0, 2]), ([], []), ([4], [4]), ([5], [5]), ([3, 6], [3, 6]), ([], []), ([], []), ([9], [9]), ([8, 10], [8, 10]), ([7, 11], [7, 11]), ([12], [12]), ([13], [13]), ([14], [14]), ([14], [14]), ([15, 13, 0, 1, 2, 3, 4, 5, 6, 7, 8, 9, 10, 11, 12, 13, 14, 15], [15]), ([16, 17, 0, 1, 2, 3, 4, 5, 6, 7, 8, 9, 10, 11, 12, 13, 14, 15, 16, 17], [16])])
def laws_FnSgReplace.B7 : List Nat := [0, 0, 2, 7, 0, 16, 48, 127, 0, 0, 512, 1792, 4095, 8191, 16383, 32767, 32767, 65535, 262143]
theorem laws_FnSgReplace.tab7 : rtab .any (opsOf Try.f5 7) = laws_FnSgReplace.T7 := by kernel_rfl
theorem laws_FnSgReplace.bits7 : waitsOk laws_FnSgReplace.T7.2 laws_FnSgReplace.B7 = true := by kernel_rfl
set_option maxHeartbeats 8000000 in
set_option maxRecDepth 100000 in
theorem laws_FnSgReplace.calls (k : Nat) (a0 : ByteArray) (a1 : Int) (a2 : Int) (r : Bool) (w : World) (h : laws_FnSgReplace.f k a0 a1 a2 = some r) :
    Calls Try.prog 5 #[.string a0, .int .u16 a1, .int .u8 a2] w fun e w' => e = .returned (.bool r) ∧ Below w.heap.size w w' := by
  have hu32 := Try.underlying32
  have HB := Aside0.mk (Below.refl w.heap.size w)
  have H : (if (a0.size : Int) > 2147483647 then (some true) else ((spec_Valid.f k a0).bind fun t150 => (if t150 = true then (if a0.toList = ([] : List UInt8) then (laws_FnSgReplace.j0 k a0 a1 a2 true) else ((spec_Basic.f a2).bind fun t151 => (if t151 = true then (laws_FnSgReplace.j0 k a0 a1 a2 false) else (laws_FnSgReplace.j0 k a0 a1 a2 (a2 != 118))))) else (laws_FnSgReplace.j0 k a0 a1 a2 true)))) = some r := h
  clear h
  by_cases c4 : (a0.size : Int) > 2147483647
  · rw [if_pos c4] at H
    have c4b0 : decide (2147483647 < (a0.size : Int)) = true := decide_eq_true c4
    have c4b1 : decide (2147483647 < a0.size) = true := decide_eq_true (by omega)
    clear c4
    obtain rfl := Option.some.inj H
    go_enter Try.func5, Try.ntmps5
    go_wp2
    go_ret
    exact ⟨by first | rfl | (simp [errW_none, errW_some] <;> rfl) | (simp [*, errW_none, errW_some] <;> rfl) | (simp (disch := omega) only [wrap64_id] <;> rfl), by repeat (first | (with_reducible first | exact HB.out | apply below_alloc | apply pw_below_drewN | apply below_drew1) | exact HB.out)⟩
  · rw [if_neg c4] at H
    have c4b0 : decide (2147483647 < (a0.size : Int)) = false := decide_eq_false c4
    have c4b1 : decide (2147483647 < a0.size) = false := decide_eq_false (by omega)
    clear c4
    have HC5 := Aside0.mk H
    clear H
    go_enter Try.func5, Try.ntmps5
    go_upto_region 3 with (fail)
    go_cut [31] (fun v31 wc => ∃ (kq : Nat) (x31_4 : Bool), v31 = .bool x31_4 ∧ Aside0 (laws_FnSgReplace.j0 kq a0 a1 a2 x31_4 = some r) ∧ Aside0 (kq ≤ k) ∧ Aside0 (Below w.heap.size w wc))
    case first =>
      have H := HC5.out
      clear HC5
      replace H := Option.bind_eq_some_iff.mp H
      obtain ⟨t150, A60, H⟩ := H
      replace H : (if t150 = true then (if a0.toList = ([] : List UInt8) then (laws_FnSgReplace.j0 k a0 a1 a2 true) else ((spec_Basic.f a2).bind fun t151 => (if t151 = true then (laws_FnSgReplace.j0 k a0 a1 a2 false) else (laws_FnSgReplace.j0 k a0 a1 a2 (a2 != 118))))) else (laws_FnSgReplace.j0 k a0 a1 a2 true)) = some r := H
      have A6 := Aside0.mk A60
      clear A60
      by_cases c7 : t150 = true
      · subst c7
        have H1 : (if a0.toList = ([] : List UInt8) then (laws_FnSgReplace.j0 k a0 a1 a2 true) else ((spec_Basic.f a2).bind fun t151 => (if t151 = true then (laws_FnSgReplace.j0 k a0 a1 a2 false) else (laws_FnSgReplace.j0 k a0 a1 a2 (a2 != 118))))) = some r := by rw [if_pos rfl] at H; exact H
        clear H
        have H := H1
        clear H1
        by_cases c8 : a0.toList = ([] : List UInt8)
        · rw [if_pos c8] at H
          have c8b0 : (a0.toList == ([] : List UInt8)) = true := beq_iff_eq.mpr c8
          have c8b1 : (a0.toList != ([] : List UInt8)) = false := bne_eq_false_iff_eq.mpr c8
          clear c8
          (first | rw [c8b0] | (simp only [i64_w, i32_w]; rw [c8b0]) | skip)
          have H' := Aside0.mk H
          clear H
          go_wp2_with (first | ((with_reducible refine gate_callee (f := 12) rfl ?_); refine goesL_ (some 17) rfl rfl Try.func12 (by kernel_rfl) rfl #[.string a0] rfl (by (try simp only [List.map_toArray, List.map_cons, List.map_nil]); first | done | rfl | (simp only [List.length_drop, List.length_take]; rfl)) ?_; (with_reducible refine (spec_Valid.calls k a0 true _ A6.out).mono ?_); rintro e w9 ⟨rfl, hb⟩; refine ⟨_, rfl, ?_⟩; have n0_ := Aside0.mk (below_step (by repeat (first | (with_reducible first | exact HB.out | apply below_alloc | apply pw_below_drewN | apply below_drew1) | exact HB.out)) hb); clear HB; have HB := n0_; clear n0_; (try clear hb); (try clear hb2); (try clear hk); (try clear hi)))
          go_meet
          case rel => exact ⟨_, (true), (by first | rfl | (simp; done) | (simp [*]; done)), H', ⟨by first | omega | exact Nat.le_refl _⟩, ⟨by repeat (first | (with_reducible first | exact HB.out | apply below_alloc | apply pw_below_drewN | apply below_drew1) | exact HB.out)⟩⟩
        · rw [if_neg c8] at H
          have c8b0 : (a0.toList == ([] : List UInt8)) = false := beq_eq_false_iff_ne.mpr c8
          have c8b1 : (a0.toList != ([] : List UInt8)) = true := bne_iff_ne.mpr c8
          (first | rw [c8b0] | (simp only [i64_w, i32_w]; rw [c8b0]) | skip)
          replace H := Option.bind_eq_some_iff.mp H
          obtain ⟨t151, A100, H⟩ := H
          replace H : (if t151 = true then (laws_FnSgReplace.j0 k a0 a1 a2 false) else (laws_FnSgReplace.j0 k a0 a1 a2 (a2 != 118))) = some r := H
          have A10 := Aside0.mk A100
          clear A100
          by_cases c11 : t151 = true
          · subst c11
            have H1 : (laws_FnSgReplace.j0 k a0 a1 a2 false) = some r := by rw [if_pos rfl] at H; exact H
            clear H
            have H := H1
            clear H1
            have H' := Aside0.mk H
            clear H
            go_wp2_with (first | ((with_reducible refine gate_callee (f := 12) rfl ?_); refine goesL_ (some 17) rfl rfl Try.func12 (by kernel_rfl) rfl #[.string a0] rfl (by (try simp only [List.map_toArray, List.map_cons, List.map_nil]); first | done | rfl | (simp only [List.length_drop, List.length_take]; rfl)) ?_; (with_reducible refine (spec_Valid.calls k a0 true _ A6.out).mono ?_); rintro e w12 ⟨rfl, hb⟩; refine ⟨_, rfl, ?_⟩; have n0_ := Aside0.mk (below_step (by repeat (first | (with_reducible first | exact HB.out | apply below_alloc | apply pw_below_drewN | apply below_drew1) | exact HB.out)) hb); clear HB; have HB := n0_; clear n0_; (try clear hb); (try clear hb2); (try clear hk); (try clear hi)) | (go_at_call 10; (with_reducible refine (spec_Basic.calls a2 true _ A10.out).mono ?_); rintro e w' ⟨rfl, ⟨nd, rfl⟩⟩))
            go_meet
            case rel => exact ⟨_, (false), (by first | rfl | (simp; done) | (simp [*]; done)), H', ⟨by first | omega | exact Nat.le_refl _⟩, ⟨by repeat (first | (with_reducible first | exact HB.out | apply below_alloc | apply pw_below_drewN | apply below_drew1) | exact HB.out)⟩⟩
          · replace c11 := Bool.eq_false_iff.mpr c11
            subst c11
            have H1 : (laws_FnSgReplace.j0 k a0 a1 a2 (a2 != 118)) = some r := by rw [if_neg (show ¬ (false = true) by decide)] at H; exact H
            clear H
            have H := H1
            clear H1
            have H' := Aside0.mk H
            clear H
            go_wp2_with (first | ((with_reducible refine gate_callee (f := 12) rfl ?_); refine goesL_ (some 17) rfl rfl Try.func12 (by kernel_rfl) rfl #[.string a0] rfl (by (try simp only [List.map_toArray, List.map_cons, List.map_nil]); first | done | rfl | (simp only [List.length_drop, List.length_take]; rfl)) ?_; (with_reducible refine (spec_Valid.calls k a0 true _ A6.out).mono ?_); rintro e w13 ⟨rfl, hb⟩; refine ⟨_, rfl, ?_⟩; have n0_ := Aside0.mk (below_step (by repeat (first | (with_reducible first | exact HB.out | apply below_alloc | apply pw_below_drewN | apply below_drew1) | exact HB.out)) hb); clear HB; have HB := n0_; clear n0_; (try clear hb); (try clear hb2); (try clear hk); (try clear hi)) | (go_at_call 10; (with_reducible refine (spec_Basic.calls a2 false _ A10.out).mono ?_); rintro e w' ⟨rfl, ⟨nd, rfl⟩⟩))
            go_meet
            case rel => exact ⟨_, ((a2 != 118)), (by first | rfl | (simp; done) | (simp [*]; done)), H', ⟨by first | omega | exact Nat.le_refl _⟩, ⟨by repeat (first | (with_reducible first | exact HB.out | apply below_alloc | apply pw_below_drewN | apply below_drew1) | exact HB.out)⟩⟩
      · replace c7 := Bool.eq_false_iff.mpr c7
        subst c7
        have H1 : (laws_FnSgReplace.j0 k a0 a1 a2 true) = some r := by rw [if_neg (show ¬ (false = true) by decide)] at H; exact H
        clear H
        have H := H1
        clear H1
        have H' := Aside0.mk H
        clear H
        go_wp2_with (first | ((with_reducible refine gate_callee (f := 12) rfl ?_); refine goesL_ (some 17) rfl rfl Try.func12 (by kernel_rfl) rfl #[.string a0] rfl (by (try simp only [List.map_toArray, List.map_cons, List.map_nil]); first | done | rfl | (simp only [List.length_drop, List.length_take]; rfl)) ?_; (with_reducible refine (spec_Valid.calls k a0 false _ A6.out).mono ?_); rintro e w14 ⟨rfl, hb⟩; refine ⟨_, rfl, ?_⟩; have n0_ := Aside0.mk (below_step (by repeat (first | (with_reducible first | exact HB.out | apply below_alloc | apply pw_below_drewN | apply below_drew1) | exact HB.out)) hb); clear HB; have HB := n0_; clear n0_; (try clear hb); (try clear hb2); (try clear hk); (try clear hi)))
        go_meet
        case rel => exact ⟨_, (true), (by first | rfl | (simp; done) | (simp [*]; done)), H', ⟨by first | omega | exact Nat.le_refl _⟩, ⟨by repeat (first | (with_reducible first | exact HB.out | apply below_alloc | apply pw_below_drewN | apply below_drew1) | exact HB.out)⟩⟩
    case rest =>
      clear HC5
      try clear c1
      try clear p2
      try clear c4
      try clear c4b0
      try clear c4b1
      try clear c5
      try clear p6
      try clear c7
      try clear c8
      try clear c8b0
      try clear c8b1
      try clear c11
      try clear c12
      obtain ⟨kq, x31_4, rfl, HA, HJ4, HB⟩ := hcut
      cases kq with
      | zero => exact absurd HA.out (by simp [laws_FnSgReplace.j0])
      | succ kj4 =>
        have H := HA.out
        clear HA
        simp only [laws_FnSgReplace.j0] at H
        by_cases c15 : x31_4 = true
        · subst c15
          have H1 : (some true) = some r := by rw [if_pos rfl] at H; exact H
          clear H
          have H := H1
          clear H1
          obtain rfl := Option.some.inj H
          go_wp2
          go_ret
          exact ⟨by first | rfl | (simp [errW_none, errW_some] <;> rfl) | (simp [*, errW_none, errW_some] <;> rfl) | (simp (disch := omega) only [wrap64_id] <;> rfl), by repeat (first | (with_reducible first | exact HB.out | apply below_alloc | apply pw_below_drewN | apply below_drew1) | exact HB.out)⟩
        · replace c15 := Bool.eq_false_iff.mpr c15
          subst c15
          have H1 : ((laws_sgSpans.f kj4 a0 0).bind fun t152 => (if (t152.length : Int) = 0 then (none) else (if 0 ≤ (Int.tmod (wrap64 (a1)) (t152.length : Int)) then (if (Int.tmod (wrap64 (a1)) (t152.length : Int)) < (t152.length : Int) then (if 0 ≤ ((rd_T32 t152 (Int.tmod (wrap64 (a1)) (t152.length : Int))).f0) then (if ((rd_T32 t152 (Int.tmod (wrap64 (a1)) (t152.length : Int))).f0) ≤ (a0.size : Int) then ((some (([a2] : List Int) : List Int)).bind fun y157 => (if (a0.extract 0 (((rd_T32 t152 (Int.tmod (wrap64 (a1)) (t152.length : Int))).f0) : Int).toNat).size + (strOfNums y157).size ≤ 9223372036854775807 then (if 0 ≤ ((rd_T32 t152 (Int.tmod (wrap64 (a1)) (t152.length : Int))).f1) then (if ((rd_T32 t152 (Int.tmod (wrap64 (a1)) (t152.length : Int))).f1) ≤ (a0.size : Int) then (if ((a0.extract 0 (((rd_T32 t152 (Int.tmod (wrap64 (a1)) (t152.length : Int))).f0) : Int).toNat) ++ (strOfNums y157)).size + (a0.extract (((rd_T32 t152 (Int.tmod (wrap64 (a1)) (t152.length : Int))).f1) : Int).toNat a0.size).size ≤ 9223372036854775807 then ((impl_SgParse.f kj4 (((a0.extract 0 (((rd_T32 t152 (Int.tmod (wrap64 (a1)) (t152.length : Int))).f0) : Int).toNat) ++ (strOfNums y157)) ++ (a0.extract (((rd_T32 t152 (Int.tmod (wrap64 (a1)) (t152.length : Int))).f1) : Int).toNat a0.size))).bind fun bt160 => (if ((rd_T32 t152 (Int.tmod (wrap64 (a1)) (t152.length : Int))).f0) ≤ ((rd_T32 t152 (Int.tmod (wrap64 (a1)) (t152.length : Int))).f1) then ((impl_SgParse.f kj4 (a0.extract (((rd_T32 t152 (Int.tmod (wrap64 (a1)) (t152.length : Int))).f0) : Int).toNat (((rd_T32 t152 (Int.tmod (wrap64 (a1)) (t152.length : Int))).f1) : Int).toNat)).bind fun bt162 => (if bt160.2 = true then (some bt162.2) else (some false))) else (none))) else (none)) else (none)) else (none)) else (none))) else (none)) else (none)) else (none)) else (none)))) = some r := by rw [if_neg (show ¬ (false = true) by decide)] at H; exact H
          clear H
          have H := H1
          clear H1
          replace H := Option.bind_eq_some_iff.mp H
          obtain ⟨t152, A160, H⟩ := H
          replace H : (if (t152.length : Int) = 0 then (none) else (if 0 ≤ (Int.tmod (wrap64 (a1)) (t152.length : Int)) then (if (Int.tmod (wrap64 (a1)) (t152.length : Int)) < (t152.length : Int) then (if 0 ≤ ((rd_T32 t152 (Int.tmod (wrap64 (a1)) (t152.length : Int))).f0) then (if ((rd_T32 t152 (Int.tmod (wrap64 (a1)) (t152.length : Int))).f0) ≤ (a0.size : Int) then ((some (([a2] : List Int) : List Int)).bind fun y157 => (if (a0.extract 0 (((rd_T32 t152 (Int.tmod (wrap64 (a1)) (t152.length : Int))).f0) : Int).toNat).size + (strOfNums y157).size ≤ 9223372036854775807 then (if 0 ≤ ((rd_T32 t152 (Int.tmod (wrap64 (a1)) (t152.length : Int))).f1) then (if ((rd_T32 t152 (Int.tmod (wrap64 (a1)) (t152.length : Int))).f1) ≤ (a0.size : Int) then (if ((a0.extract 0 (((rd_T32 t152 (Int.tmod (wrap64 (a1)) (t152.length : Int))).f0) : Int).toNat) ++ (strOfNums y157)).size + (a0.extract (((rd_T32 t152 (Int.tmod (wrap64 (a1)) (t152.length : Int))).f1) : Int).toNat a0.size).size ≤ 9223372036854775807 then ((impl_SgParse.f kj4 (((a0.extract 0 (((rd_T32 t152 (Int.tmod (wrap64 (a1)) (t152.length : Int))).f0) : Int).toNat) ++ (strOfNums y157)) ++ (a0.extract (((rd_T32 t152 (Int.tmod (wrap64 (a1)) (t152.length : Int))).f1) : Int).toNat a0.size))).bind fun bt160 => (if ((rd_T32 t152 (Int.tmod (wrap64 (a1)) (t152.length : Int))).f0) ≤ ((rd_T32 t152 (Int.tmod (wrap64 (a1)) (t152.length : Int))).f1) then ((impl_SgParse.f kj4 (a0.extract (((rd_T32 t152 (Int.tmod (wrap64 (a1)) (t152.length : Int))).f0) : Int).toNat (((rd_T32 t152 (Int.tmod (wrap64 (a1)) (t152.length : Int))).f1) : Int).toNat)).bind fun bt162 => (if bt160.2 = true then (some bt162.2) else (some false))) else (none))) else (none)) else (none)) else (none)) else (none))) else (none)) else (none)) else (none)) else (none))) = some r := H
          have A16 := Aside0.mk A160
          clear A160
          by_cases c17 : (t152.length : Int) = 0
          · rw [if_pos c17] at H
            exact absurd H (by simp)
          · rw [if_neg c17] at H
            have c17b0 : ((t152.length : Int) == 0) = false := beq_eq_false_iff_ne.mpr c17
            have c17b1 : ((t152.length : Int) != 0) = true := bne_iff_ne.mpr c17
            have c17b2 : ¬ (t152 = []) := fun h_ => c17 (by rw [h_]; rfl)
            obtain ⟨ji18, hji18⟩ : ∃ j_ : Int, (Int.tmod (wrap64 (a1)) (t152.length : Int)) = j_ := ⟨_, rfl⟩
            replace H : (if 0 ≤ (ji18) then (if (ji18) < (t152.length : Int) then (if 0 ≤ ((rd_T32 t152 (ji18)).f0) then (if ((rd_T32 t152 (ji18)).f0) ≤ (a0.size : Int) then ((some (([a2] : List Int) : List Int)).bind fun y157 => (if (a0.extract 0 (((rd_T32 t152 (ji18)).f0) : Int).toNat).size + (strOfNums y157).size ≤ 9223372036854775807 then (if 0 ≤ ((rd_T32 t152 (ji18)).f1) then (if ((rd_T32 t152 (ji18)).f1) ≤ (a0.size : Int) then (if ((a0.extract 0 (((rd_T32 t152 (ji18)).f0) : Int).toNat) ++ (strOfNums y157)).size + (a0.extract (((rd_T32 t152 (ji18)).f1) : Int).toNat a0.size).size ≤ 9223372036854775807 then ((impl_SgParse.f kj4 (((a0.extract 0 (((rd_T32 t152 (ji18)).f0) : Int).toNat) ++ (strOfNums y157)) ++ (a0.extract (((rd_T32 t152 (ji18)).f1) : Int).toNat a0.size))).bind fun bt160 => (if ((rd_T32 t152 (ji18)).f0) ≤ ((rd_T32 t152 (ji18)).f1) then ((impl_SgParse.f kj4 (a0.extract (((rd_T32 t152 (ji18)).f0) : Int).toNat (((rd_T32 t152 (ji18)).f1) : Int).toNat)).bind fun bt162 => (if bt160.2 = true then (some bt162.2) else (some false))) else (none))) else (none)) else (none)) else (none)) else (none))) else (none)) else (none)) else (none)) else (none)) = some r := by first | (rw [hji18] at H; exact H) | (simp only [hji18] at H ⊢; exact H)
            (try rw [hji18] at A16)
            by_cases c19 : 0 ≤ (ji18)
            · rw [if_pos c19] at H
              have c19b0 : decide (0 ≤ (ji18)) = true := decide_eq_true c19
              clear c19
              by_cases c20 : (ji18) < (t152.length : Int)
              · rw [if_pos c20] at H
                have c20b0 : decide ((ji18) < (t152.length : Int)) = true := decide_eq_true c20
                clear c20
                by_cases c21 : 0 ≤ ((rd_T32 t152 (ji18)).f0)
                · rw [if_pos c21] at H
                  have c21b0 := eq_true c21
                  have c21b1 : decide (0 ≤ ((rd_T32 t152 (ji18)).f0)) = true := decide_eq_true c21
                  clear c21
                  by_cases c22 : ((rd_T32 t152 (ji18)).f0) ≤ (a0.size : Int)
                  · rw [if_pos c22] at H
                    have c22b0 := eq_true c22
                    have c22b1 : decide (((rd_T32 t152 (ji18)).f0) ≤ (a0.size : Int)) = true := decide_eq_true c22
                    clear c22
                    obtain ⟨y157, hy157⟩ : ∃ y_ : List Int, y_ = (([a2] : List Int)) := ⟨_, rfl⟩
                    replace H : (if (a0.extract 0 (((rd_T32 t152 (ji18)).f0) : Int).toNat).size + (strOfNums y157).size ≤ 9223372036854775807 then (if 0 ≤ ((rd_T32 t152 (ji18)).f1) then (if ((rd_T32 t152 (ji18)).f1) ≤ (a0.size : Int) then (if ((a0.extract 0 (((rd_T32 t152 (ji18)).f0) : Int).toNat) ++ (strOfNums y157)).size + (a0.extract (((rd_T32 t152 (ji18)).f1) : Int).toNat a0.size).size ≤ 9223372036854775807 then ((impl_SgParse.f kj4 (((a0.extract 0 (((rd_T32 t152 (ji18)).f0) : Int).toNat) ++ (strOfNums y157)) ++ (a0.extract (((rd_T32 t152 (ji18)).f1) : Int).toNat a0.size))).bind fun bt160 => (if ((rd_T32 t152 (ji18)).f0) ≤ ((rd_T32 t152 (ji18)).f1) then ((impl_SgParse.f kj4 (a0.extract (((rd_T32 t152 (ji18)).f0) : Int).toNat (((rd_T32 t152 (ji18)).f1) : Int).toNat)).bind fun bt162 => (if bt160.2 = true then (some bt162.2) else (some false))) else (none))) else (none)) else (none)) else (none)) else (none)) = some r := by first | (rw [hy157]; with_reducible exact H) | (have H2_ := (Option.bind_some _ _).symm.trans H; rw [hy157]; with_reducible exact H2_) | (have H2_ := (Option.bind_some _ _).symm.trans H; with_reducible exact H2_) | with_reducible exact H | (rw [hy157]; exact H) | exact H
                    have Ny157 := Aside0.mk hy157
                    clear hy157
                    by_cases c23 : (a0.extract 0 (((rd_T32 t152 (ji18)).f0) : Int).toNat).size + (strOfNums y157).size ≤ 9223372036854775807
                    · rw [if_pos c23] at H
                      have c23b0 := eq_true c23
                      have c23b1 : decide ((a0.extract 0 (((rd_T32 t152 (ji18)).f0) : Int).toNat).size + (strOfNums y157).size ≤ 9223372036854775807) = true := decide_eq_true c23
                      try have c23b2 : (9223372036854775807 < (a0.extract 0 (((rd_T32 t152 (ji18)).f0) : Int).toNat).size + (strOfNums y157).size) = False := eq_false (Nat.not_lt.2 c23)
                      (try have c23f : (9223372036854775807 < (((rd_T32 t152 (ji18)).f0)).toNat + (strOfNums y157).size) = False := eq_false (Nat.not_lt.2 (by (have h_ := c23); (simp only [ByteArray.size_append, ByteArray.size_extract] at h_); (have hx0 := of_decide_eq_true c21b1); (have hx1 := of_decide_eq_true c22b1); omega)))
                      by_cases c24 : 0 ≤ ((rd_T32 t152 (ji18)).f1)
                      · rw [if_pos c24] at H
                        have c24b0 := eq_true c24
                        have c24b1 : decide (0 ≤ ((rd_T32 t152 (ji18)).f1)) = true := decide_eq_true c24
                        clear c24
                        by_cases c25 : ((rd_T32 t152 (ji18)).f1) ≤ (a0.size : Int)
                        · rw [if_pos c25] at H
                          have c25b0 := eq_true c25
                          have c25b1 : decide (((rd_T32 t152 (ji18)).f1) ≤ (a0.size : Int)) = true := decide_eq_true c25
                          clear c25
                          by_cases c26 : ((a0.extract 0 (((rd_T32 t152 (ji18)).f0) : Int).toNat) ++ (strOfNums y157)).size + (a0.extract (((rd_T32 t152 (ji18)).f1) : Int).toNat a0.size).size ≤ 9223372036854775807
                          · rw [if_pos c26] at H
                            have c26b0 := eq_true c26
                            have c26b1 : decide (((a0.extract 0 (((rd_T32 t152 (ji18)).f0) : Int).toNat) ++ (strOfNums y157)).size + (a0.extract (((rd_T32 t152 (ji18)).f1) : Int).toNat a0.size).size ≤ 9223372036854775807) = true := decide_eq_true c26
                            try have c26b2 : (9223372036854775807 < ((a0.extract 0 (((rd_T32 t152 (ji18)).f0) : Int).toNat) ++ (strOfNums y157)).size + (a0.extract (((rd_T32 t152 (ji18)).f1) : Int).toNat a0.size).size) = False := eq_false (Nat.not_lt.2 c26)
                            (try have c26e : (a0.extract 0 (((rd_T32 t152 (ji18)).f0) : Int).toNat).size + (strOfNums y157).size + (a0.extract (((rd_T32 t152 (ji18)).f1) : Int).toNat a0.size).size ≤ 9223372036854775807 := by (have h_ := c26; simp only [ByteArray.size_append] at h_; exact h_))
                            (try have c26e0 := eq_true c26e)
                            (try have c26e1 : decide ((a0.extract 0 (((rd_T32 t152 (ji18)).f0) : Int).toNat).size + (strOfNums y157).size + (a0.extract (((rd_T32 t152 (ji18)).f1) : Int).toNat a0.size).size ≤ 9223372036854775807) = true := decide_eq_true c26e)
                            (try have c26e2 : (9223372036854775807 < (a0.extract 0 (((rd_T32 t152 (ji18)).f0) : Int).toNat).size + (strOfNums y157).size + (a0.extract (((rd_T32 t152 (ji18)).f1) : Int).toNat a0.size).size) = False := eq_false (Nat.not_lt.2 c26e))
                            (try have c26f : (9223372036854775807 < (((rd_T32 t152 (ji18)).f0)).toNat + (strOfNums y157).size + (a0.size - (((rd_T32 t152 (ji18)).f1)).toNat)) = False := eq_false (Nat.not_lt.2 (by (have h_ := c26); (simp only [ByteArray.size_append, ByteArray.size_extract] at h_); (have hx0 := of_decide_eq_true c21b1); (have hx1 := of_decide_eq_true c22b1); (have hx2 := of_decide_eq_true c24b1); (have hx3 := of_decide_eq_true c25b1); omega)))
                            replace H := Option.bind_eq_some_iff.mp H
                            obtain ⟨⟨t160, t161⟩, A270, H⟩ := H
                            replace H : (if ((rd_T32 t152 (ji18)).f0) ≤ ((rd_T32 t152 (ji18)).f1) then ((impl_SgParse.f kj4 (a0.extract (((rd_T32 t152 (ji18)).f0) : Int).toNat (((rd_T32 t152 (ji18)).f1) : Int).toNat)).bind fun bt162 => (if t161 = true then (some bt162.2) else (some false))) else (none)) = some r := H
                            have A27 := Aside0.mk A270
                            clear A270
                            have c28b0 := eq_true (of_decide_eq_true (by first | (with_reducible assumption) | assumption) : 0 ≤ ((rd_T32 t152 (ji18)).f0))
                            by_cases c29 : ((rd_T32 t152 (ji18)).f0) ≤ ((rd_T32 t152 (ji18)).f1)
                            · rw [if_pos c29] at H
                              have c29b0 := eq_true c29
                              have c29b1 : decide (((rd_T32 t152 (ji18)).f0) ≤ ((rd_T32 t152 (ji18)).f1)) = true := decide_eq_true c29
                              clear c29
                              have c30b0 := eq_true (of_decide_eq_true (by first | (with_reducible assumption) | assumption) : ((rd_T32 t152 (ji18)).f1) ≤ (a0.size : Int))
                              replace H := Option.bind_eq_some_iff.mp H
                              obtain ⟨⟨t162, t163⟩, A310, H⟩ := H
                              replace H : (if t161 = true then (some t163) else (some false)) = some r := H
                              have A31 := Aside0.mk A310
                              clear A310
                              by_cases c32 : t161 = true
                              · subst c32
                                have H1 : (some t163) = some r := by rw [if_pos rfl] at H; exact H
                                clear H
                                have H := H1
                                clear H1
                                obtain rfl := Option.some.inj H
                                try go_wp2_with (first | ((with_reducible refine gate_callee (f := 14) rfl ?_); refine goesL_ (some 33) rfl rfl Try.func14 (by kernel_rfl) rfl #[.string a0, .int .i64 0] rfl (by (try simp only [List.map_toArray, List.map_cons, List.map_nil]); first | done | rfl | (simp only [List.length_drop, List.length_take]; rfl)) ?_; (with_reducible refine (laws_sgSpans.calls kj4 a0 0 t152 _ A16.out).mono ?_); rintro e w33 ⟨v153, rfl, ho0, hb⟩; refine ⟨_, rfl, ?_⟩; have n0_ := Aside0.mk (Kd.R_lower ho0 (below_size (by repeat (first | (with_reducible first | exact HB.out | apply below_alloc | apply pw_below_drewN | apply below_drew1) | exact HB.out)))); have n1_ := Aside0.mk (below_step (by repeat (first | (with_reducible first | exact HB.out | apply below_alloc | apply pw_below_drewN | apply below_drew1) | exact HB.out)) hb); clear HB; have HO154 := n0_; have HB := n1_; clear n0_ n1_; (try clear hb); (try clear hb2); (try clear hk); (try clear hi); (try clear ho0); obtain ⟨Ao34, co34, eo34⟩ := Kd.R_slice HO154.out; subst eo34; have p155 : 0 ≤ ((ji18) : Int) := of_decide_eq_true (by first | (with_reducible assumption) | assumption); have q155 : (ji18) < (t152.length : Int) := of_decide_eq_true (by first | (with_reducible assumption) | assumption); obtain ⟨ad155, e155, hx155_0, hx155_1⟩ := at_T32 (Kd.R_reads' HO154.out).2.2 (ji18) p155 q155; cases e155; replace p155 := eq_true p155; replace q155 := eq_true q155) | ((with_reducible refine gate_dst (N := 8) rfl ?_); refine box_event ?hg (N := 8) ?hd (cs := #[.int .i64 0, .int .i64 0]) (t := 32) ?hr ?_; (case hd => rfl); (case hg => rfl); (case hr => first | (go_simp; done) | (go_simp; rfl)); intro gb156 hg w35 hbox hb; have n0_ := Aside0.mk (Kd.R_below (Kd.R_elderB (by (with_reducible repeat (first | apply Kd.R_alloc | apply Kd.R_drewN | apply Kd.R_drew)); exact HO154.out) gb156 (Nat.le_of_eq hg.symm)) hb); have n1_ := Aside0.mk (below_step (by repeat (first | (with_reducible first | exact HB.out | apply below_alloc | apply pw_below_drewN | apply below_drew1) | exact HB.out)) hb); have n2_ := Aside0.mk (hbox); have n3_ := Aside0.mk ((by rw [hg]; exact (below_size (by repeat (first | (with_reducible first | exact HB.out | apply below_alloc | apply pw_below_drewN | apply below_drew1) | exact HB.out))) : w.heap.size ≤ gb156)); have n4_ := Aside0.mk ((by rw [hg]; exact (below_size (by repeat (first | (with_reducible first | exact HB.out | apply below_alloc | apply pw_below_drewN | apply below_drew1) | exact HB.out))) : w.heap.size ≤ gb156)); clear HO154; clear HB; have HO154 := n0_; have HB := n1_; have BK156 := n2_; have GW156 := n3_; have GE156 := n4_; clear n0_ n1_ n2_ n3_ n4_; clear hb hbox hg; have hcz36_0 : w35.cell? ⟨gb156, 0, none⟩ = some (.int .i64 0) := (blk_cell BK156.out 0).trans rfl; have hcz36_1 : w35.cell? ⟨gb156, 1, none⟩ = some (.int .i64 0) := (blk_cell BK156.out 1).trans rfl; have hfz36_0 := blk_frozen BK156.out 0; have hfz36_1 := blk_frozen BK156.out 1))
                                have n0_ : Aside0 (Kd.R k32 32 ((w35.setCell ⟨gb156, 0, none⟩ (.int .i64 ((rd_T32 t152 (ji18)).f0))).setCell ⟨gb156, 1, none⟩ (.int .i64 ((rd_T32 t152 (ji18)).f1))) w.heap.size (fun k_ => k_ ≠ gb156) (.slice (some ad155) t152.length co34) t152) := ⟨by (with_reducible repeat (first | apply Kd.R_alloc | apply Kd.R_drewN | apply Kd.R_drew)); exact Kd.R_mono (Kd.R_far (p := ⟨gb156, 1, none⟩) (Kd.R_far (p := ⟨gb156, 0, none⟩) (Kd.R_mono HO154.out (fun k_ hk => (⟨hk, hk.2⟩ : _ ∧ k_ ≠ gb156))) (fun _ hk => hk.2) (.int .i64 ((rd_T32 t152 (ji18)).f0))) (fun _ hk => hk.2) (.int .i64 ((rd_T32 t152 (ji18)).f1))) (fun _ hk => hk.1.2)⟩
                                have n1_ : Aside0 (((w35.setCell ⟨gb156, 0, none⟩ (.int .i64 ((rd_T32 t152 (ji18)).f0))).setCell ⟨gb156, 1, none⟩ (.int .i64 ((rd_T32 t152 (ji18)).f1))).heap[gb156]? = some (.cells #[.int .i64 ((rd_T32 t152 (ji18)).f0), .int .i64 ((rd_T32 t152 (ji18)).f1)] 32 (0, 0))) := ⟨by (with_reducible repeat (first | refine blk_drewN ?_ _ | refine blk_drew ?_ | refine blk_alloc ?_ _)); refine blk_put (cs := #[.int .i64 ((rd_T32 t152 (ji18)).f0), .int .i64 0]) ?_ 1 _ rfl; (with_reducible repeat (first | refine blk_drewN ?_ _ | refine blk_drew ?_ | refine blk_alloc ?_ _)); refine blk_put (cs := #[.int .i64 0, .int .i64 0]) ?_ 0 _ rfl; (with_reducible repeat (first | refine blk_drewN ?_ _ | refine blk_drew ?_ | refine blk_alloc ?_ _)); exact BK156.out⟩
                                have n2_ : Aside0 (Below w.heap.size w ((w35.setCell ⟨gb156, 0, none⟩ (.int .i64 ((rd_T32 t152 (ji18)).f0))).setCell ⟨gb156, 1, none⟩ (.int .i64 ((rd_T32 t152 (ji18)).f1)))) := ⟨by repeat (first | (with_reducible first | exact HB.out | apply below_alloc | apply pw_below_drewN | apply below_drew1 | refine below_set ?_ GE156.out) | exact HB.out)⟩
                                (try clear HO154)
                                (try clear BK156)
                                (try clear HB)
                                generalize ((w35.setCell ⟨gb156, 0, none⟩ (.int .i64 ((rd_T32 t152 (ji18)).f0))).setCell ⟨gb156, 1, none⟩ (.int .i64 ((rd_T32 t152 (ji18)).f1))) = w37 at n0_ n1_ n2_ ⊢
                                have HO154 := n0_
                                have BK156 := n1_
                                have HB := n2_
                                clear n0_ n1_ n2_
                                have n0_ := Aside0.mk (Kd.R_drew HO154.out)
                                have n1_ := Aside0.mk (blk_drew BK156.out)
                                have n2_ := Aside0.mk (below_drew1 HB.out)
                                clear HO154
                                clear BK156
                                clear HB
                                have HO154 := n0_
                                have BK156 := n1_
                                have HB := n2_
                                clear n0_ n1_ n2_
                                refine start_ (n := 19) (S := fun w' => w'.cell? ⟨gb156, 0, none⟩ = some (.int .i64 ((rd_T32 t152 (ji18)).f0)) ∧ w'.cell? ⟨gb156, 1, none⟩ = some (.int .i64 ((rd_T32 t152 (ji18)).f1))) (ds := []) #[false, false, false, false, false, false, false, false, false, false, false, false, false, false, false, false, false, false, false] (by kernel_rfl) rfl rfl ⟨(blk_cell BK156.out 0).trans rfl, (blk_cell BK156.out 1).trans rfl⟩ (fun hHeld => ?_); refine with_tabW laws_FnSgReplace.tab7 laws_FnSgReplace.bits7 (fun HT_ HW_ => ?_)
                                generalize w37.drew = w38 at HO154 BK156 HB hHeld ⊢
                                refine pure_ (i := 0) (N := some 43) (v := ?_) (a' := ?_) #[true, false, false, false, false, false, false, false, false, false, false, false, false, false, false, false, false, false, false] rfl rfl (any_of HT_.out (by kernel_rfl)) (fun _ _ _ h => h) (Or.inl ⟨by rfl, ?_⟩) ?_ ?_
                                rotate_left
                                · intro w'
                                  go_simp
                                  with_reducible rfl
                                rotate_left
                                · simp only [Act.put, List.setIfInBounds_toArray, List.set_cons_zero, List.set_cons_succ, i64_w, i32_w]
                                  rfl
                                refine pure_ (i := 1) (N := some 44) (v := ?_) (a' := ?_) #[true, true, false, false, false, false, false, false, false, false, false, false, false, false, false, false, false, false, false] rfl rfl (any_of HT_.out (by kernel_rfl)) (fun _ _ _ h => h) (Or.inl ⟨by rfl, ?_⟩) ?_ ?_
                                rotate_left
                                · intro w'
                                  go_simp
                                  with_reducible rfl
                                rotate_left
                                · simp only [Act.put, List.setIfInBounds_toArray, List.set_cons_zero, List.set_cons_succ, i64_w, i32_w]
                                  rfl
                                refine pure_ (i := 4) (N := some 47) (v := ?_) (a' := ?_) #[true, true, false, false, true, false, false, false, false, false, false, false, false, false, false, false, false, false, false] rfl rfl (any_of HT_.out (by kernel_rfl)) (fun _ _ _ h => h) (Or.inl ⟨by rfl, ?_⟩) ?_ ?_
                                rotate_left
                                · intro w'
                                  go_simp
                                  with_reducible rfl
                                rotate_left
                                · simp only [Act.put, List.setIfInBounds_toArray, List.set_cons_zero, List.set_cons_succ, i64_w, i32_w]
                                  rfl
                                refine pure_ (i := 8) (N := some 51) (v := ?_) (a' := ?_) #[true, true, false, false, true, false, false, false, true, false, false, false, false, false, false, false, false, false, false] rfl rfl (any_of HT_.out (by kernel_rfl)) (fun _ _ _ h => h) (Or.inl ⟨by rfl, ?_⟩) ?_ ?_
                                rotate_left
                                · intro w'
                                  go_simp
                                  with_reducible rfl
                                rotate_left
                                · simp only [Act.put, List.setIfInBounds_toArray, List.set_cons_zero, List.set_cons_succ, i64_w, i32_w]
                                  rfl
                                refine pure_ (i := 9) (N := some 52) (v := ?_) (a' := ?_) #[true, true, false, false, true, false, false, false, true, true, false, false, false, false, false, false, false, false, false] rfl rfl (any_of HT_.out (by kernel_rfl)) (fun _ _ _ h => h) (Or.inl ⟨by rfl, ?_⟩) ?_ ?_
                                rotate_left
                                · intro w'
                                  go_simp
                                  with_reducible rfl
                                rotate_left
                                · simp only [Act.put, List.setIfInBounds_toArray, List.set_cons_zero, List.set_cons_succ, i64_w, i32_w]
                                  rfl
                                refine take_ (i := 2) (N := some 45) (v := ?_) (a' := ?_) #[true, true, true, false, true, false, false, false, true, true, false, false, false, false, false, false, false, false, false] rfl rfl (take_ofW HT_.out HW_.out (by kernel_rfl)) (fun _ _ _ h => h) (Or.inl ⟨by rfl, ?_⟩) hHeld ?_ ?_
                                rotate_left
                                · rintro w' ⟨s0, s1⟩
                                  go_simp
                                  with_reducible rfl
                                rotate_left
                                · simp only [Act.put, List.setIfInBounds_toArray, List.set_cons_zero, List.set_cons_succ, i64_w, i32_w]
                                  rfl
                                refine pure_ (i := 3) (N := some 46) (v := ?_) (a' := ?_) #[true, true, true, true, true, false, false, false, true, true, false, false, false, false, false, false, false, false, false] rfl rfl (any_of HT_.out (by kernel_rfl)) (fun _ _ _ h => h) (Or.inl ⟨by rfl, ?_⟩) ?_ ?_
                                rotate_left
                                · intro w'
                                  go_simp
                                  with_reducible rfl
                                rotate_left
                                · simp only [Act.put, List.setIfInBounds_toArray, List.set_cons_zero, List.set_cons_succ, i64_w, i32_w]
                                  rfl
                                refine take_ (i := 10) (N := some 53) (v := ?_) (a' := ?_) #[true, true, true, true, true, false, false, false, true, true, true, false, false, false, false, false, false, false, false] rfl rfl (take_ofW HT_.out HW_.out (by kernel_rfl)) (fun _ _ _ h => h) (Or.inl ⟨by rfl, ?_⟩) hHeld ?_ ?_
                                rotate_left
                                · rintro w' ⟨s0, s1⟩
                                  go_simp
                                  with_reducible rfl
                                rotate_left
                                · simp only [Act.put, List.setIfInBounds_toArray, List.set_cons_zero, List.set_cons_succ, i64_w, i32_w]
                                  rfl
                                refine pure_ (i := 11) (N := some 54) (v := ?_) (a' := ?_) #[true, true, true, true, true, false, false, false, true, true, true, true, false, false, false, false, false, false, false] rfl rfl (any_of HT_.out (by kernel_rfl)) (fun _ _ _ h => h) (Or.inl ⟨by rfl, ?_⟩) ?_ ?_
                                rotate_left
                                · intro w'
                                  go_simp
                                  with_reducible rfl
                                rotate_left
                                · simp only [Act.put, List.setIfInBounds_toArray, List.set_cons_zero, List.set_cons_succ, i64_w, i32_w]
                                  rfl
                                refine one_ (i := 5) (N := some 48) #[true, true, true, true, true, true, false, false, true, true, true, true, false, false, false, false, false, false, false] rfl rfl (one_of HT_.out (by kernel_rfl)) (by decide) (fun K hK => ?_)
                                refine Kd.R_lit_step (Kd.int .u8) _ 5 ?hg (N := 48) ?hd (xs := ([a2] : List Int)) (inner := [.int .u8 a2]) (ok := fun _ => True) (okp := fun _ => True) ?hr ?hp (fun _ hk => hk) trivial (Below.refl _ _) (Nat.le_refl _) (by simp) ?_; (case hd => rfl); (case hg => rfl); (case hr => first | (go_simp; done) | (go_simp; rfl)); (case hp => exact (Reps.one (show Kd.M (Kd.int .u8) _ _ _ a2 [.int .u8 a2] from rfl) (Reps.none _ _)))
                                intro v158 w39 ho40 hb hg_ hnew_
                                clear hg_ hnew_
                                (first | rw [← Ny157.out] at ho40 | (simp only [Int.reduceToNat] at ho40; rw [← Ny157.out] at ho40))
                                have n0_ := Aside0.mk (Kd.R_below (by (with_reducible repeat (first | apply Kd.R_alloc | apply Kd.R_drewN | apply Kd.R_drew)); exact HO154.out) hb)
                                have n1_ := Aside0.mk (Kd.R_lower ho40 (below_size (by repeat (first | (with_reducible first | exact HB.out | apply below_alloc | apply pw_below_drewN | apply below_drew1 | refine below_set ?_ GE156.out) | exact HB.out))))
                                have n2_ := Aside0.mk (blk_below (g := gb156) (o := .cells #[.int .i64 ((rd_T32 t152 (ji18)).f0), .int .i64 ((rd_T32 t152 (ji18)).f1)] 32 (0, 0)) (by (with_reducible repeat (first | refine blk_drewN ?_ _ | refine blk_drew ?_ | refine blk_alloc ?_ _)); exact BK156.out) hb)
                                have n3_ := Aside0.mk (below_step (by repeat (first | (with_reducible first | exact HB.out | apply below_alloc | apply pw_below_drewN | apply below_drew1 | refine below_set ?_ GE156.out) | exact HB.out)) hb)
                                clear HO154
                                clear BK156
                                clear HB
                                have HO154 := n0_
                                have HO159 := n1_
                                have BK156 := n2_
                                have HB := n3_
                                clear n0_ n1_ n2_ n3_
                                clear hb ho40
                                refine hK.out _ _ ⟨(blk_cell BK156.out 0).trans rfl, (blk_cell BK156.out 1).trans rfl⟩ (fun hHeld => ?_)
                                clear hK K
                                refine norm_ (a' := ?_) ?_ ?_
                                rotate_left
                                · show Act.put _ (some 48) _ = _
                                  simp only [Act.put, List.setIfInBounds_toArray, List.set_cons_zero, List.set_cons_succ, i64_w, i32_w]
                                  rfl
                                refine one_ (i := 6) (N := some 49) #[true, true, true, true, true, true, true, false, true, true, true, true, false, false, false, false, false, false, false] rfl rfl (one_of HT_.out (by kernel_rfl)) (by decide) (fun K hK => ?_)
                                have hcv41 := own_string (P := Try.prog) Try.underlying22 Try.underlying5 Try.underlying9 (Kd.own_of_R HO159.out)
                                refine value_ (w1 := ?_) (v := ?_) (by rfl) rfl ?_ ?_
                                rotate_left 2
                                · go_simp
                                  constructor
                                  · rfl
                                  · rfl
                                clear hcv41
                                refine hK.out _ _ ⟨(blk_cell BK156.out 0).trans rfl, (blk_cell BK156.out 1).trans rfl⟩ (fun hHeld => ?_)
                                clear hK K
                                refine norm_ (a' := ?_) ?_ ?_
                                rotate_left
                                · show Act.put _ (some 49) _ = _
                                  simp only [Act.put, List.setIfInBounds_toArray, List.set_cons_zero, List.set_cons_succ, i64_w, i32_w]
                                  rfl
                                refine pure_ (i := 7) (N := some 50) (v := ?_) (a' := ?_) #[true, true, true, true, true, true, true, true, true, true, true, true, false, false, false, false, false, false, false] rfl rfl (any_of HT_.out (by kernel_rfl)) (fun _ _ _ h => h) (Or.inl ⟨by rfl, ?_⟩) ?_ ?_
                                rotate_left
                                · intro w'
                                  go_simp
                                  with_reducible rfl
                                rotate_left
                                · simp only [Act.put, List.setIfInBounds_toArray, List.set_cons_zero, List.set_cons_succ, i64_w, i32_w]
                                  rfl
                                refine pure_ (i := 12) (N := some 55) (v := ?_) (a' := ?_) #[true, true, true, true, true, true, true, true, true, true, true, true, true, false, false, false, false, false, false] rfl rfl (any_of HT_.out (by kernel_rfl)) (fun _ _ _ h => h) (Or.inl ⟨by rfl, ?_⟩) ?_ ?_
                                rotate_left
                                · intro w'
                                  go_simp
                                  with_reducible rfl
                                rotate_left
                                · simp only [Act.put, List.setIfInBounds_toArray, List.set_cons_zero, List.set_cons_succ, i64_w, i32_w]
                                  rfl
                                refine one_ (i := 13) (N := some 56) #[true, true, true, true, true, true, true, true, true, true, true, true, true, true, false, false, false, false, false] rfl rfl (one_of HT_.out (by kernel_rfl)) (by decide) (fun K hK => ?_)
                                refine goes_ Try.func13 (by kernel_rfl) rfl #[.string (((a0.extract 0 (((rd_T32 t152 (ji18)).f0) : Int).toNat) ++ (strOfNums y157)) ++ (a0.extract (((rd_T32 t152 (ji18)).f1) : Int).toNat a0.size))] (by rfl) rfl rfl (by (try simp only [List.map_toArray, List.map_cons, List.map_nil]); first | done | (simp only [hji18]; rfl) | rfl | (simp only [List.length_drop, List.length_take]; rfl)) ?_
                                with_reducible refine (impl_SgParse.calls kj4 (((a0.extract 0 (((rd_T32 t152 (ji18)).f0) : Int).toNat) ++ (strOfNums y157)) ++ (a0.extract (((rd_T32 t152 (ji18)).f1) : Int).toNat a0.size)) t160 true _ A27.out).mono ?_
                                rintro e w42 ⟨rfl, hb⟩
                                refine ⟨_, rfl, ?_⟩
                                have n0_ := Aside0.mk (Kd.R_below (by (with_reducible repeat (first | apply Kd.R_alloc | apply Kd.R_drewN | apply Kd.R_drew)); exact HO154.out) hb)
                                have n1_ := Aside0.mk (Kd.R_below (by (with_reducible repeat (first | apply Kd.R_alloc | apply Kd.R_drewN | apply Kd.R_drew)); exact HO159.out) hb)
                                have n2_ := Aside0.mk (blk_below (g := gb156) (o := .cells #[.int .i64 ((rd_T32 t152 (ji18)).f0), .int .i64 ((rd_T32 t152 (ji18)).f1)] 32 (0, 0)) (by (with_reducible repeat (first | refine blk_drewN ?_ _ | refine blk_drew ?_ | refine blk_alloc ?_ _)); exact BK156.out) hb)
                                have n3_ := Aside0.mk (below_step (by repeat (first | (with_reducible first | exact HB.out | apply below_alloc | apply pw_below_drewN | apply below_drew1 | refine below_set ?_ GE156.out) | exact HB.out)) hb)
                                clear HO154
                                clear HO159
                                clear BK156
                                clear HB
                                have HO154 := n0_
                                have HO159 := n1_
                                have BK156 := n2_
                                have HB := n3_
                                clear n0_ n1_ n2_ n3_
                                (try clear hb)
                                (try clear hb2)
                                (try clear hk)
                                (try clear hi)
                                refine hK.out _ _ ⟨(blk_cell BK156.out 0).trans rfl, (blk_cell BK156.out 1).trans rfl⟩ (fun hHeld => ?_)
                                clear hK K
                                refine norm_ (a' := ?_) ?_ ?_
                                rotate_left
                                · show Act.put _ (some 56) _ = _
                                  simp only [Act.put, List.setIfInBounds_toArray, List.set_cons_zero, List.set_cons_succ, i64_w, i32_w]
                                  rfl
                                refine pure_ (i := 14) (N := some 42) (v := ?_) (a' := ?_) #[true, true, true, true, true, true, true, true, true, true, true, true, true, true, true, false, false, false, false] rfl rfl (any_of HT_.out (by kernel_rfl)) (fun _ _ _ h => h) (Or.inl ⟨by rfl, ?_⟩) ?_ ?_
                                rotate_left
                                · intro w'
                                  go_simp
                                  with_reducible rfl
                                rotate_left
                                · simp only [Act.put, List.setIfInBounds_toArray, List.set_cons_zero, List.set_cons_succ, i64_w, i32_w]
                                  rfl
                                refine pure_ (i := 15) (N := some 57) (v := ?_) (a' := ?_) #[true, true, true, true, true, true, true, true, true, true, true, true, true, true, true, true, false, false, false] rfl rfl (any_of HT_.out (by kernel_rfl)) (fun _ _ _ h => h) (Or.inl ⟨by rfl, ?_⟩) ?_ ?_
                                rotate_left
                                · intro w'
                                  go_simp
                                  with_reducible rfl
                                rotate_left
                                · simp only [Act.put, List.setIfInBounds_toArray, List.set_cons_zero, List.set_cons_succ, i64_w, i32_w]
                                  rfl
                                refine pure_ (i := 16) (N := some 58) (v := ?_) (a' := ?_) #[true, true, true, true, true, true, true, true, true, true, true, true, true, true, true, true, true, false, false] rfl rfl (any_of HT_.out (by kernel_rfl)) (fun _ _ _ h => h) (Or.inl ⟨by rfl, ?_⟩) ?_ ?_
                                rotate_left
                                · intro w'
                                  go_simp
                                  with_reducible rfl
                                rotate_left
                                · simp only [Act.put, List.setIfInBounds_toArray, List.set_cons_zero, List.set_cons_succ, i64_w, i32_w]
                                  rfl
                                refine pure_ (i := 17) (N := some 9) (v := ?_) (a' := ?_) #[true, true, true, true, true, true, true, true, true, true, true, true, true, true, true, true, true, true, false] rfl rfl (any_of HT_.out (by kernel_rfl)) (fun _ _ _ h => h) (Or.inl ⟨by rfl, ?_⟩) ?_ ?_
                                rotate_left
                                · intro w'
                                  go_simp
                                  with_reducible rfl
                                rotate_left
                                · simp only [Act.put, List.setIfInBounds_toArray, List.set_cons_zero, List.set_cons_succ, i64_w, i32_w]
                                  rfl
                                refine pure_ (i := 18) (N := some 10) (v := ?_) (a' := ?_) #[true, true, true, true, true, true, true, true, true, true, true, true, true, true, true, true, true, true, true] rfl rfl (any_of HT_.out (by kernel_rfl)) (fun _ _ _ h => h) (Or.inl ⟨by rfl, ?_⟩) ?_ ?_
                                rotate_left
                                · intro w'
                                  go_simp
                                  with_reducible rfl
                                rotate_left
                                · simp only [Act.put, List.setIfInBounds_toArray, List.set_cons_zero, List.set_cons_succ, i64_w, i32_w]
                                  rfl
                                refine done_ (done_of HT_.out (by kernel_rfl)) ?_
                                have hcz43_0 : w42.cell? ⟨gb156, 0, none⟩ = some (.int .i64 ((rd_T32 t152 (ji18)).f0)) := (blk_cell BK156.out 0).trans rfl
                                have hcz43_1 : w42.cell? ⟨gb156, 1, none⟩ = some (.int .i64 ((rd_T32 t152 (ji18)).f1)) := (blk_cell BK156.out 1).trans rfl
                                have hfz43_0 := blk_frozen BK156.out 0
                                have hfz43_1 := blk_frozen BK156.out 1
                                try go_wp2_with (first | ((with_reducible refine gate_callee (f := 13) rfl ?_); refine goesL_ (some 66) rfl rfl Try.func13 (by kernel_rfl) rfl #[.string (a0.extract (((rd_T32 t152 (ji18)).f0) : Int).toNat (((rd_T32 t152 (ji18)).f1) : Int).toNat)] rfl (by (try simp only [List.map_toArray, List.map_cons, List.map_nil]); first | done | (simp only [hji18]; rfl) | rfl | (simp only [List.length_drop, List.length_take]; rfl)) ?_; (with_reducible refine (impl_SgParse.calls kj4 (a0.extract (((rd_T32 t152 (ji18)).f0) : Int).toNat (((rd_T32 t152 (ji18)).f1) : Int).toNat) t162 t163 _ A31.out).mono ?_); rintro e w44 ⟨rfl, hb⟩; refine ⟨_, rfl, ?_⟩; have n0_ := Aside0.mk (Kd.R_below (by (with_reducible repeat (first | apply Kd.R_alloc | apply Kd.R_drewN | apply Kd.R_drew)); exact HO154.out) hb); have n1_ := Aside0.mk (Kd.R_below (by (with_reducible repeat (first | apply Kd.R_alloc | apply Kd.R_drewN | apply Kd.R_drew)); exact HO159.out) hb); have n2_ := Aside0.mk (blk_below (g := gb156) (o := .cells #[.int .i64 ((rd_T32 t152 (ji18)).f0), .int .i64 ((rd_T32 t152 (ji18)).f1)] 32 (0, 0)) (by (with_reducible repeat (first | refine blk_drewN ?_ _ | refine blk_drew ?_ | refine blk_alloc ?_ _)); exact BK156.out) hb); have n3_ := Aside0.mk (below_step (by repeat (first | (with_reducible first | exact HB.out | apply below_alloc | apply pw_below_drewN | apply below_drew1 | refine below_set ?_ GE156.out) | exact HB.out)) hb); clear HO154; clear HO159; clear BK156; clear HB; have HO154 := n0_; have HO159 := n1_; have BK156 := n2_; have HB := n3_; clear n0_ n1_ n2_ n3_; (try clear hb); (try clear hb2); (try clear hk); (try clear hi)))
                                go_ret
                                exact ⟨by first | rfl | (simp [errW_none, errW_some] <;> rfl) | (simp only [← hji18]; first | rfl | (simp [errW_none, errW_some] <;> rfl)) | (simp [*, errW_none, errW_some] <;> rfl) | (simp (disch := omega) only [wrap64_id] <;> rfl), by repeat (first | (with_reducible first | exact HB.out | apply below_alloc | apply pw_below_drewN | apply below_drew1 | refine below_set ?_ GE156.out) | exact HB.out)⟩
                              · replace c32 := Bool.eq_false_iff.mpr c32
                                subst c32
                                have H1 : (some false) = some r := by rw [if_neg (show ¬ (false = true) by decide)] at H; exact H
                                clear H
                                have H := H1
                                clear H1
                                obtain rfl := Option.some.inj H
                                try go_wp2_with (first | ((with_reducible refine gate_callee (f := 14) rfl ?_); refine goesL_ (some 33) rfl rfl Try.func14 (by kernel_rfl) rfl #[.string a0, .int .i64 0] rfl (by (try simp only [List.map_toArray, List.map_cons, List.map_nil]); first | done | rfl | (simp only [List.length_drop, List.length_take]; rfl)) ?_; (with_reducible refine (laws_sgSpans.calls kj4 a0 0 t152 _ A16.out).mono ?_); rintro e w45 ⟨v153, rfl, ho0, hb⟩; refine ⟨_, rfl, ?_⟩; have n0_ := Aside0.mk (Kd.R_lower ho0 (below_size (by repeat (first | (with_reducible first | exact HB.out | apply below_alloc | apply pw_below_drewN | apply below_drew1) | exact HB.out)))); have n1_ := Aside0.mk (below_step (by repeat (first | (with_reducible first | exact HB.out | apply below_alloc | apply pw_below_drewN | apply below_drew1) | exact HB.out)) hb); clear HB; have HO154 := n0_; have HB := n1_; clear n0_ n1_; (try clear hb); (try clear hb2); (try clear hk); (try clear hi); (try clear ho0); obtain ⟨Ao46, co46, eo46⟩ := Kd.R_slice HO154.out; subst eo46; have p155 : 0 ≤ ((ji18) : Int) := of_decide_eq_true (by first | (with_reducible assumption) | assumption); have q155 : (ji18) < (t152.length : Int) := of_decide_eq_true (by first | (with_reducible assumption) | assumption); obtain ⟨ad155, e155, hx155_0, hx155_1⟩ := at_T32 (Kd.R_reads' HO154.out).2.2 (ji18) p155 q155; cases e155; replace p155 := eq_true p155; replace q155 := eq_true q155) | ((with_reducible refine gate_dst (N := 8) rfl ?_); refine box_event ?hg (N := 8) ?hd (cs := #[.int .i64 0, .int .i64 0]) (t := 32) ?hr ?_; (case hd => rfl); (case hg => rfl); (case hr => first | (go_simp; done) | (go_simp; rfl)); intro gb156 hg w47 hbox hb; have n0_ := Aside0.mk (Kd.R_below (Kd.R_elderB (by (with_reducible repeat (first | apply Kd.R_alloc | apply Kd.R_drewN | apply Kd.R_drew)); exact HO154.out) gb156 (Nat.le_of_eq hg.symm)) hb); have n1_ := Aside0.mk (below_step (by repeat (first | (with_reducible first | exact HB.out | apply below_alloc | apply pw_below_drewN | apply below_drew1) | exact HB.out)) hb); have n2_ := Aside0.mk (hbox); have n3_ := Aside0.mk ((by rw [hg]; exact (below_size (by repeat (first | (with_reducible first | exact HB.out | apply below_alloc | apply pw_below_drewN | apply below_drew1) | exact HB.out))) : w.heap.size ≤ gb156)); have n4_ := Aside0.mk ((by rw [hg]; exact (below_size (by repeat (first | (with_reducible first | exact HB.out | apply below_alloc | apply pw_below_drewN | apply below_drew1) | exact HB.out))) : w.heap.size ≤ gb156)); clear HO154; clear HB; have HO154 := n0_; have HB := n1_; have BK156 := n2_; have GW156 := n3_; have GE156 := n4_; clear n0_ n1_ n2_ n3_ n4_; clear hb hbox hg; have hcz48_0 : w47.cell? ⟨gb156, 0, none⟩ = some (.int .i64 0) := (blk_cell BK156.out 0).trans rfl; have hcz48_1 : w47.cell? ⟨gb156, 1, none⟩ = some (.int .i64 0) := (blk_cell BK156.out 1).trans rfl; have hfz48_0 := blk_frozen BK156.out 0; have hfz48_1 := blk_frozen BK156.out 1))
                                have n0_ : Aside0 (Kd.R k32 32 ((w47.setCell ⟨gb156, 0, none⟩ (.int .i64 ((rd_T32 t152 (ji18)).f0))).setCell ⟨gb156, 1, none⟩ (.int .i64 ((rd_T32 t152 (ji18)).f1))) w.heap.size (fun k_ => k_ ≠ gb156) (.slice (some ad155) t152.length co46) t152) := ⟨by (with_reducible repeat (first | apply Kd.R_alloc | apply Kd.R_drewN | apply Kd.R_drew)); exact Kd.R_mono (Kd.R_far (p := ⟨gb156, 1, none⟩) (Kd.R_far (p := ⟨gb156, 0, none⟩) (Kd.R_mono HO154.out (fun k_ hk => (⟨hk, hk.2⟩ : _ ∧ k_ ≠ gb156))) (fun _ hk => hk.2) (.int .i64 ((rd_T32 t152 (ji18)).f0))) (fun _ hk => hk.2) (.int .i64 ((rd_T32 t152 (ji18)).f1))) (fun _ hk => hk.1.2)⟩
                                have n1_ : Aside0 (((w47.setCell ⟨gb156, 0, none⟩ (.int .i64 ((rd_T32 t152 (ji18)).f0))).setCell ⟨gb156, 1, none⟩ (.int .i64 ((rd_T32 t152 (ji18)).f1))).heap[gb156]? = some (.cells #[.int .i64 ((rd_T32 t152 (ji18)).f0), .int .i64 ((rd_T32 t152 (ji18)).f1)] 32 (0, 0))) := ⟨by (with_reducible repeat (first | refine blk_drewN ?_ _ | refine blk_drew ?_ | refine blk_alloc ?_ _)); refine blk_put (cs := #[.int .i64 ((rd_T32 t152 (ji18)).f0), .int .i64 0]) ?_ 1 _ rfl; (with_reducible repeat (first | refine blk_drewN ?_ _ | refine blk_drew ?_ | refine blk_alloc ?_ _)); refine blk_put (cs := #[.int .i64 0, .int .i64 0]) ?_ 0 _ rfl; (with_reducible repeat (first | refine blk_drewN ?_ _ | refine blk_drew ?_ | refine blk_alloc ?_ _)); exact BK156.out⟩
                                have n2_ : Aside0 (Below w.heap.size w ((w47.setCell ⟨gb156, 0, none⟩ (.int .i64 ((rd_T32 t152 (ji18)).f0))).setCell ⟨gb156, 1, none⟩ (.int .i64 ((rd_T32 t152 (ji18)).f1)))) := ⟨by repeat (first | (with_reducible first | exact HB.out | apply below_alloc | apply pw_below_drewN | apply below_drew1 | refine below_set ?_ GE156.out) | exact HB.out)⟩
                                (try clear HO154)
                                (try clear BK156)
                                (try clear HB)
                                generalize ((w47.setCell ⟨gb156, 0, none⟩ (.int .i64 ((rd_T32 t152 (ji18)).f0))).setCell ⟨gb156, 1, none⟩ (.int .i64 ((rd_T32 t152 (ji18)).f1))) = w49 at n0_ n1_ n2_ ⊢
                                have HO154 := n0_
                                have BK156 := n1_
                                have HB := n2_
                                clear n0_ n1_ n2_
                                have n0_ := Aside0.mk (Kd.R_drew HO154.out)
                                have n1_ := Aside0.mk (blk_drew BK156.out)
                                have n2_ := Aside0.mk (below_drew1 HB.out)
                                clear HO154
                                clear BK156
                                clear HB
                                have HO154 := n0_
                                have BK156 := n1_
                                have HB := n2_
                                clear n0_ n1_ n2_
                                refine start_ (n := 19) (S := fun w' => w'.cell? ⟨gb156, 0, none⟩ = some (.int .i64 ((rd_T32 t152 (ji18)).f0)) ∧ w'.cell? ⟨gb156, 1, none⟩ = some (.int .i64 ((rd_T32 t152 (ji18)).f1))) (ds := []) #[false, false, false, false, false, false, false, false, false, false, false, false, false, false, false, false, false, false, false] (by kernel_rfl) rfl rfl ⟨(blk_cell BK156.out 0).trans rfl, (blk_cell BK156.out 1).trans rfl⟩ (fun hHeld => ?_); refine with_tabW laws_FnSgReplace.tab7 laws_FnSgReplace.bits7 (fun HT_ HW_ => ?_)
                                generalize w49.drew = w50 at HO154 BK156 HB hHeld ⊢
                                refine pure_ (i := 0) (N := some 43) (v := ?_) (a' := ?_) #[true, false, false, false, false, false, false, false, false, false, false, false, false, false, false, false, false, false, false] rfl rfl (any_of HT_.out (by kernel_rfl)) (fun _ _ _ h => h) (Or.inl ⟨by rfl, ?_⟩) ?_ ?_
                                rotate_left
                                · intro w'
                                  go_simp
                                  with_reducible rfl
                                rotate_left
                                · simp only [Act.put, List.setIfInBounds_toArray, List.set_cons_zero, List.set_cons_succ, i64_w, i32_w]
                                  rfl
                                refine pure_ (i := 1) (N := some 44) (v := ?_) (a' := ?_) #[true, true, false, false, false, false, false, false, false, false, false, false, false, false, false, false, false, false, false] rfl rfl (any_of HT_.out (by kernel_rfl)) (fun _ _ _ h => h) (Or.inl ⟨by rfl, ?_⟩) ?_ ?_
                                rotate_left
                                · intro w'
                                  go_simp
                                  with_reducible rfl
                                rotate_left
                                · simp only [Act.put, List.setIfInBounds_toArray, List.set_cons_zero, List.set_cons_succ, i64_w, i32_w]
                                  rfl
                                refine pure_ (i := 4) (N := some 47) (v := ?_) (a' := ?_) #[true, true, false, false, true, false, false, false, false, false, false, false, false, false, false, false, false, false, false] rfl rfl (any_of HT_.out (by kernel_rfl)) (fun _ _ _ h => h) (Or.inl ⟨by rfl, ?_⟩) ?_ ?_
                                rotate_left
                                · intro w'
                                  go_simp
                                  with_reducible rfl
                                rotate_left
                                · simp only [Act.put, List.setIfInBounds_toArray, List.set_cons_zero, List.set_cons_succ, i64_w, i32_w]
                                  rfl
                                refine pure_ (i := 8) (N := some 51) (v := ?_) (a' := ?_) #[true, true, false, false, true, false, false, false, true, false, false, false, false, false, false, false, false, false, false] rfl rfl (any_of HT_.out (by kernel_rfl)) (fun _ _ _ h => h) (Or.inl ⟨by rfl, ?_⟩) ?_ ?_
                                rotate_left
                                · intro w'
                                  go_simp
                                  with_reducible rfl
                                rotate_left
                                · simp only [Act.put, List.setIfInBounds_toArray, List.set_cons_zero, List.set_cons_succ, i64_w, i32_w]
                                  rfl
                                refine pure_ (i := 9) (N := some 52) (v := ?_) (a' := ?_) #[true, true, false, false, true, false, false, false, true, true, false, false, false, false, false, false, false, false, false] rfl rfl (any_of HT_.out (by kernel_rfl)) (fun _ _ _ h => h) (Or.inl ⟨by rfl, ?_⟩) ?_ ?_
                                rotate_left
                                · intro w'
                                  go_simp
                                  with_reducible rfl
                                rotate_left
                                · simp only [Act.put, List.setIfInBounds_toArray, List.set_cons_zero, List.set_cons_succ, i64_w, i32_w]
                                  rfl
                                refine take_ (i := 2) (N := some 45) (v := ?_) (a' := ?_) #[true, true, true, false, true, false, false, false, true, true, false, false, false, false, false, false, false, false, false] rfl rfl (take_ofW HT_.out HW_.out (by kernel_rfl)) (fun _ _ _ h => h) (Or.inl ⟨by rfl, ?_⟩) hHeld ?_ ?_
                                rotate_left
                                · rintro w' ⟨s0, s1⟩
                                  go_simp
                                  with_reducible rfl
                                rotate_left
                                · simp only [Act.put, List.setIfInBounds_toArray, List.set_cons_zero, List.set_cons_succ, i64_w, i32_w]
                                  rfl
                                refine pure_ (i := 3) (N := some 46) (v := ?_) (a' := ?_) #[true, true, true, true, true, false, false, false, true, true, false, false, false, false, false, false, false, false, false] rfl rfl (any_of HT_.out (by kernel_rfl)) (fun _ _ _ h => h) (Or.inl ⟨by rfl, ?_⟩) ?_ ?_
                                rotate_left
                                · intro w'
                                  go_simp
                                  with_reducible rfl
                                rotate_left
                                · simp only [Act.put, List.setIfInBounds_toArray, List.set_cons_zero, List.set_cons_succ, i64_w, i32_w]
                                  rfl
                                refine take_ (i := 10) (N := some 53) (v := ?_) (a' := ?_) #[true, true, true, true, true, false, false, false, true, true, true, false, false, false, false, false, false, false, false] rfl rfl (take_ofW HT_.out HW_.out (by kernel_rfl)) (fun _ _ _ h => h) (Or.inl ⟨by rfl, ?_⟩) hHeld ?_ ?_
                                rotate_left
                                · rintro w' ⟨s0, s1⟩
                                  go_simp
                                  with_reducible rfl
                                rotate_left
                                · simp only [Act.put, List.setIfInBounds_toArray, List.set_cons_zero, List.set_cons_succ, i64_w, i32_w]
                                  rfl
                                refine pure_ (i := 11) (N := some 54) (v := ?_) (a' := ?_) #[true, true, true, true, true, false, false, false, true, true, true, true, false, false, false, false, false, false, false] rfl rfl (any_of HT_.out (by kernel_rfl)) (fun _ _ _ h => h) (Or.inl ⟨by rfl, ?_⟩) ?_ ?_
                                rotate_left
                                · intro w'
                                  go_simp
                                  with_reducible rfl
                                rotate_left
                                · simp only [Act.put, List.setIfInBounds_toArray, List.set_cons_zero, List.set_cons_succ, i64_w, i32_w]
                                  rfl
                                refine one_ (i := 5) (N := some 48) #[true, true, true, true, true, true, false, false, true, true, true, true, false, false, false, false, false, false, false] rfl rfl (one_of HT_.out (by kernel_rfl)) (by decide) (fun K hK => ?_)
                                refine Kd.R_lit_step (Kd.int .u8) _ 5 ?hg (N := 48) ?hd (xs := ([a2] : List Int)) (inner := [.int .u8 a2]) (ok := fun _ => True) (okp := fun _ => True) ?hr ?hp (fun _ hk => hk) trivial (Below.refl _ _) (Nat.le_refl _) (by simp) ?_; (case hd => rfl); (case hg => rfl); (case hr => first | (go_simp; done) | (go_simp; rfl)); (case hp => exact (Reps.one (show Kd.M (Kd.int .u8) _ _ _ a2 [.int .u8 a2] from rfl) (Reps.none _ _)))
                                intro v158 w51 ho52 hb hg_ hnew_
                                clear hg_ hnew_
                                (first | rw [← Ny157.out] at ho52 | (simp only [Int.reduceToNat] at ho52; rw [← Ny157.out] at ho52))
                                have n0_ := Aside0.mk (Kd.R_below (by (with_reducible repeat (first | apply Kd.R_alloc | apply Kd.R_drewN | apply Kd.R_drew)); exact HO154.out) hb)
                                have n1_ := Aside0.mk (Kd.R_lower ho52 (below_size (by repeat (first | (with_reducible first | exact HB.out | apply below_alloc | apply pw_below_drewN | apply below_drew1 | refine below_set ?_ GE156.out) | exact HB.out))))
                                have n2_ := Aside0.mk (blk_below (g := gb156) (o := .cells #[.int .i64 ((rd_T32 t152 (ji18)).f0), .int .i64 ((rd_T32 t152 (ji18)).f1)] 32 (0, 0)) (by (with_reducible repeat (first | refine blk_drewN ?_ _ | refine blk_drew ?_ | refine blk_alloc ?_ _)); exact BK156.out) hb)
                                have n3_ := Aside0.mk (below_step (by repeat (first | (with_reducible first | exact HB.out | apply below_alloc | apply pw_below_drewN | apply below_drew1 | refine below_set ?_ GE156.out) | exact HB.out)) hb)
                                clear HO154
                                clear BK156
                                clear HB
                                have HO154 := n0_
                                have HO159 := n1_
                                have BK156 := n2_
                                have HB := n3_
                                clear n0_ n1_ n2_ n3_
                                clear hb ho52
                                refine hK.out _ _ ⟨(blk_cell BK156.out 0).trans rfl, (blk_cell BK156.out 1).trans rfl⟩ (fun hHeld => ?_)
                                clear hK K
                                refine norm_ (a' := ?_) ?_ ?_
                                rotate_left
                                · show Act.put _ (some 48) _ = _
                                  simp only [Act.put, List.setIfInBounds_toArray, List.set_cons_zero, List.set_cons_succ, i64_w, i32_w]
                                  rfl
                                refine one_ (i := 6) (N := some 49) #[true, true, true, true, true, true, true, false, true, true, true, true, false, false, false, false, false, false, false] rfl rfl (one_of HT_.out (by kernel_rfl)) (by decide) (fun K hK => ?_)
                                have hcv53 := own_string (P := Try.prog) Try.underlying22 Try.underlying5 Try.underlying9 (Kd.own_of_R HO159.out)
                                refine value_ (w1 := ?_) (v := ?_) (by rfl) rfl ?_ ?_
                                rotate_left 2
                                · go_simp
                                  constructor
                                  · rfl
                                  · rfl
                                clear hcv53
                                refine hK.out _ _ ⟨(blk_cell BK156.out 0).trans rfl, (blk_cell BK156.out 1).trans rfl⟩ (fun hHeld => ?_)
                                clear hK K
                                refine norm_ (a' := ?_) ?_ ?_
                                rotate_left
                                · show Act.put _ (some 49) _ = _
                                  simp only [Act.put, List.setIfInBounds_toArray, List.set_cons_zero, List.set_cons_succ, i64_w, i32_w]
                                  rfl
                                refine pure_ (i := 7) (N := some 50) (v := ?_) (a' := ?_) #[true, true, true, true, true, true, true, true, true, true, true, true, false, false, false, false, false, false, false] rfl rfl (any_of HT_.out (by kernel_rfl)) (fun _ _ _ h => h) (Or.inl ⟨by rfl, ?_⟩) ?_ ?_
                                rotate_left
                                · intro w'
                                  go_simp
                                  with_reducible rfl
                                rotate_left
                                · simp only [Act.put, List.setIfInBounds_toArray, List.set_cons_zero, List.set_cons_succ, i64_w, i32_w]
                                  rfl
                                refine pure_ (i := 12) (N := some 55) (v := ?_) (a' := ?_) #[true, true, true, true, true, true, true, true, true, true, true, true, true, false, false, false, false, false, false] rfl rfl (any_of HT_.out (by kernel_rfl)) (fun _ _ _ h => h) (Or.inl ⟨by rfl, ?_⟩) ?_ ?_
                                rotate_left
                                · intro w'
                                  go_simp
                                  with_reducible rfl
                                rotate_left
                                · simp only [Act.put, List.setIfInBounds_toArray, List.set_cons_zero, List.set_cons_succ, i64_w, i32_w]
                                  rfl
                                refine one_ (i := 13) (N := some 56) #[true, true, true, true, true, true, true, true, true, true, true, true, true, true, false, false, false, false, false] rfl rfl (one_of HT_.out (by kernel_rfl)) (by decide) (fun K hK => ?_)
                                refine goes_ Try.func13 (by kernel_rfl) rfl #[.string (((a0.extract 0 (((rd_T32 t152 (ji18)).f0) : Int).toNat) ++ (strOfNums y157)) ++ (a0.extract (((rd_T32 t152 (ji18)).f1) : Int).toNat a0.size))] (by rfl) rfl rfl (by (try simp only [List.map_toArray, List.map_cons, List.map_nil]); first | done | (simp only [hji18]; rfl) | rfl | (simp only [List.length_drop, List.length_take]; rfl)) ?_
                                with_reducible refine (impl_SgParse.calls kj4 (((a0.extract 0 (((rd_T32 t152 (ji18)).f0) : Int).toNat) ++ (strOfNums y157)) ++ (a0.extract (((rd_T32 t152 (ji18)).f1) : Int).toNat a0.size)) t160 false _ A27.out).mono ?_
                                rintro e w54 ⟨rfl, hb⟩
                                refine ⟨_, rfl, ?_⟩
                                have n0_ := Aside0.mk (Kd.R_below (by (with_reducible repeat (first | apply Kd.R_alloc | apply Kd.R_drewN | apply Kd.R_drew)); exact HO154.out) hb)
                                have n1_ := Aside0.mk (Kd.R_below (by (with_reducible repeat (first | apply Kd.R_alloc | apply Kd.R_drewN | apply Kd.R_drew)); exact HO159.out) hb)
                                have n2_ := Aside0.mk (blk_below (g := gb156) (o := .cells #[.int .i64 ((rd_T32 t152 (ji18)).f0), .int .i64 ((rd_T32 t152 (ji18)).f1)] 32 (0, 0)) (by (with_reducible repeat (first | refine blk_drewN ?_ _ | refine blk_drew ?_ | refine blk_alloc ?_ _)); exact BK156.out) hb)
                                have n3_ := Aside0.mk (below_step (by repeat (first | (with_reducible first | exact HB.out | apply below_alloc | apply pw_below_drewN | apply below_drew1 | refine below_set ?_ GE156.out) | exact HB.out)) hb)
                                clear HO154
                                clear HO159
                                clear BK156
                                clear HB
                                have HO154 := n0_
                                have HO159 := n1_
                                have BK156 := n2_
                                have HB := n3_
                                clear n0_ n1_ n2_ n3_
                                (try clear hb)
                                (try clear hb2)
                                (try clear hk)
                                (try clear hi)
                                refine hK.out _ _ ⟨(blk_cell BK156.out 0).trans rfl, (blk_cell BK156.out 1).trans rfl⟩ (fun hHeld => ?_)
                                clear hK K
                                refine norm_ (a' := ?_) ?_ ?_
                                rotate_left
                                · show Act.put _ (some 56) _ = _
                                  simp only [Act.put, List.setIfInBounds_toArray, List.set_cons_zero, List.set_cons_succ, i64_w, i32_w]
                                  rfl
                                refine pure_ (i := 14) (N := some 42) (v := ?_) (a' := ?_) #[true, true, true, true, true, true, true, true, true, true, true, true, true, true, true, false, false, false, false] rfl rfl (any_of HT_.out (by kernel_rfl)) (fun _ _ _ h => h) (Or.inl ⟨by rfl, ?_⟩) ?_ ?_
                                rotate_left
                                · intro w'
                                  go_simp
                                  with_reducible rfl
                                rotate_left
                                · simp only [Act.put, List.setIfInBounds_toArray, List.set_cons_zero, List.set_cons_succ, i64_w, i32_w]
                                  rfl
                                refine pure_ (i := 15) (N := some 57) (v := ?_) (a' := ?_) #[true, true, true, true, true, true, true, true, true, true, true, true, true, true, true, true, false, false, false] rfl rfl (any_of HT_.out (by kernel_rfl)) (fun _ _ _ h => h) (Or.inl ⟨by rfl, ?_⟩) ?_ ?_
                                rotate_left
                                · intro w'
                                  go_simp
                                  with_reducible rfl
                                rotate_left
                                · simp only [Act.put, List.setIfInBounds_toArray, List.set_cons_zero, List.set_cons_succ, i64_w, i32_w]
                                  rfl
                                refine pure_ (i := 16) (N := some 58) (v := ?_) (a' := ?_) #[true, true, true, true, true, true, true, true, true, true, true, true, true, true, true, true, true, false, false] rfl rfl (any_of HT_.out (by kernel_rfl)) (fun _ _ _ h => h) (Or.inl ⟨by rfl, ?_⟩) ?_ ?_
                                rotate_left
                                · intro w'
                                  go_simp
                                  with_reducible rfl
                                rotate_left
                                · simp only [Act.put, List.setIfInBounds_toArray, List.set_cons_zero, List.set_cons_succ, i64_w, i32_w]
                                  rfl
                                refine pure_ (i := 17) (N := some 9) (v := ?_) (a' := ?_) #[true, true, true, true, true, true, true, true, true, true, true, true, true, true, true, true, true, true, false] rfl rfl (any_of HT_.out (by kernel_rfl)) (fun _ _ _ h => h) (Or.inl ⟨by rfl, ?_⟩) ?_ ?_
                                rotate_left
                                · intro w'
                                  go_simp
                                  with_reducible rfl
                                rotate_left
                                · simp only [Act.put, List.setIfInBounds_toArray, List.set_cons_zero, List.set_cons_succ, i64_w, i32_w]
                                  rfl
                                refine pure_ (i := 18) (N := some 10) (v := ?_) (a' := ?_) #[true, true, true, true, true, true, true, true, true, true, true, true, true, true, true, true, true, true, true] rfl rfl (any_of HT_.out (by kernel_rfl)) (fun _ _ _ h => h) (Or.inl ⟨by rfl, ?_⟩) ?_ ?_
                                rotate_left
                                · intro w'
                                  go_simp
                                  with_reducible rfl
                                rotate_left
                                · simp only [Act.put, List.setIfInBounds_toArray, List.set_cons_zero, List.set_cons_succ, i64_w, i32_w]
                                  rfl
                                refine done_ (done_of HT_.out (by kernel_rfl)) ?_
                                have hcz55_0 : w54.cell? ⟨gb156, 0, none⟩ = some (.int .i64 ((rd_T32 t152 (ji18)).f0)) := (blk_cell BK156.out 0).trans rfl
                                have hcz55_1 : w54.cell? ⟨gb156, 1, none⟩ = some (.int .i64 ((rd_T32 t152 (ji18)).f1)) := (blk_cell BK156.out 1).trans rfl
                                have hfz55_0 := blk_frozen BK156.out 0
                                have hfz55_1 := blk_frozen BK156.out 1
                                try go_wp2_with (first | ((with_reducible refine gate_callee (f := 13) rfl ?_); refine goesL_ (some 66) rfl rfl Try.func13 (by kernel_rfl) rfl #[.string (a0.extract (((rd_T32 t152 (ji18)).f0) : Int).toNat (((rd_T32 t152 (ji18)).f1) : Int).toNat)] rfl (by (try simp only [List.map_toArray, List.map_cons, List.map_nil]); first | done | (simp only [hji18]; rfl) | rfl | (simp only [List.length_drop, List.length_take]; rfl)) ?_; (with_reducible refine (impl_SgParse.calls kj4 (a0.extract (((rd_T32 t152 (ji18)).f0) : Int).toNat (((rd_T32 t152 (ji18)).f1) : Int).toNat) t162 t163 _ A31.out).mono ?_); rintro e w56 ⟨rfl, hb⟩; refine ⟨_, rfl, ?_⟩; have n0_ := Aside0.mk (Kd.R_below (by (with_reducible repeat (first | apply Kd.R_alloc | apply Kd.R_drewN | apply Kd.R_drew)); exact HO154.out) hb); have n1_ := Aside0.mk (Kd.R_below (by (with_reducible repeat (first | apply Kd.R_alloc | apply Kd.R_drewN | apply Kd.R_drew)); exact HO159.out) hb); have n2_ := Aside0.mk (blk_below (g := gb156) (o := .cells #[.int .i64 ((rd_T32 t152 (ji18)).f0), .int .i64 ((rd_T32 t152 (ji18)).f1)] 32 (0, 0)) (by (with_reducible repeat (first | refine blk_drewN ?_ _ | refine blk_drew ?_ | refine blk_alloc ?_ _)); exact BK156.out) hb); have n3_ := Aside0.mk (below_step (by repeat (first | (with_reducible first | exact HB.out | apply below_alloc | apply pw_below_drewN | apply below_drew1 | refine below_set ?_ GE156.out) | exact HB.out)) hb); clear HO154; clear HO159; clear BK156; clear HB; have HO154 := n0_; have HO159 := n1_; have BK156 := n2_; have HB := n3_; clear n0_ n1_ n2_ n3_; (try clear hb); (try clear hb2); (try clear hk); (try clear hi)))
                                go_ret
                                exact ⟨by first | rfl | (simp [errW_none, errW_some] <;> rfl) | (simp only [← hji18]; first | rfl | (simp [errW_none, errW_some] <;> rfl)) | (simp [*, errW_none, errW_some] <;> rfl) | (simp (disch := omega) only [wrap64_id] <;> rfl), by repeat (first | (with_reducible first | exact HB.out | apply below_alloc | apply pw_below_drewN | apply below_drew1 | refine below_set ?_ GE156.out) | exact HB.out)⟩
                            · rw [if_neg c29] at H
                              exact absurd H (by simp)
                          · rw [if_neg c26] at H
                            exact absurd H (by simp)
                        · rw [if_neg c25] at H
                          exact absurd H (by simp)
                      · rw [if_neg c24] at H
                        exact absurd H (by simp)
                    · rw [if_neg c23] at H
                      exact absurd H (by simp)
                  · rw [if_neg c22] at H
                    exact absurd H (by simp)
                · rw [if_neg c21] at H
                  exact absurd H (by simp)
              · rw [if_neg c20] at H
                exact absurd H (by simp)
            · rw [if_neg c19] at H
              exact absurd H (by simp)

/-- THE ONE PURE STATEMENT of laws_FnSgReplace: yours. -/
def laws_FnSgReplace.Pure : Prop := ∀ (a0 : ByteArray) (a1 : Int) (a2 : Int), a0.size ≤ 140737488351232 → (Lit.int .u16 a1).wf = true → (Lit.int .u8 a2).wf = true → ∃ k, laws_FnSgReplace.f k a0 a1 a2 = some true
theorem laws_FnSgReplace.walk (P : laws_FnSgReplace.Pure) (a0 : ByteArray) (a1 : Int) (a2 : Int) (w : World) (w0 : a0.size ≤ 140737488351232) (w1 : (Lit.int .u16 a1).wf = true) (w2 : (Lit.int .u8 a2).wf = true) :
    Calls Try.prog 5 #[.string a0, .int .u16 a1, .int .u8 a2] w fun e w' => e = .returned (.bool true) ∧ Below w.heap.size w w' := by
  obtain ⟨k, h⟩ := P a0 a1 a2 w0 w1 w2
  refine (laws_FnSgReplace.calls k a0 a1 a2 true w h).mono ?_
  rintro e w' ⟨rfl, hd⟩
  exact ⟨rfl, hd⟩

end Go.Proofs.Ytfipimoemhbnlaa.MFnSgReplace
