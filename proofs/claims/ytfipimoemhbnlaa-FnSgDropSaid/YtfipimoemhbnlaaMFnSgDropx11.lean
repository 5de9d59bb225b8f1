-- Written by a program of this session (myprint.py, out of the translation). Not trusted: Lean checks it.
import Derived.Test.YtfipimoemhbnlaaMFnSgDropx0
import Derived.Test.YtfipimoemhbnlaaMFnSgDropx3
import Derived.Test.YtfipimoemhbnlaaMFnSgDropx10
namespace Go.Proofs.Ytfipimoemhbnlaa.MFnSgDrop
open Go.RowKit Go.Proofs.YtfipimoemhbnlaaW.PrintWords Go.Proofs.YtfipimoemhbnlaaW.PrintLast Go.Proofs.YtfipimoemhbnlaaW.PrintMore
attribute [local go_sem] max2_int min2_int max_two min_two max_three min_three max_four min_four   -- for this text's walks alone
set_option linter.unusedVariables false
set_option linter.unusedSimpArgs false

/-! ### laws_FnSgDrop: function 7 -/
def laws_FnSgDrop.j0 : Nat → Int → List ByteArray → Bool → Option (Bool)
  | 0, _, _, _ => none
  | k + 1, x1, x5, x23 => if x23 = true then (some true) else (if (x5.length : Int) = 0 then (none) else ((some (([] : List ByteArray) : List ByteArray)).bind fun y133 => (if 0 ≤ (Int.tmod (wrap64 (x1)) (x5.length : Int)) then (if (Int.tmod (wrap64 (x1)) (x5.length : Int)) ≤ (x5.length : Int) then ((some (x5.take ((Int.tmod (wrap64 (x1)) (x5.length : Int)) : Int).toNat : List ByteArray)).bind fun y136 => (if y133.length + y136.length < 8796093022208 then ((some (y133 ++ y136 : List ByteArray)).bind fun y140 => (if 0 ≤ (wrap64 ((Int.tmod (wrap64 (x1)) (x5.length : Int)) + 1)) then (if (wrap64 ((Int.tmod (wrap64 (x1)) (x5.length : Int)) + 1)) ≤ (x5.length : Int) then ((some (x5.drop ((wrap64 ((Int.tmod (wrap64 (x1)) (x5.length : Int)) + 1)) : Int).toNat : List ByteArray)).bind fun y143 => (if y140.length + y143.length < 8796093022208 then ((some (y140 ++ y143 : List ByteArray)).bind fun y147 => ((spec_Joined.f k y147 (⟨#[]⟩ : ByteArray)).bind fun t150 => ((laws_sgWalk.f k t150 y147).bind fun t151 => (if t151 = true then ((laws_sgWalk.f k (⟨#[121]⟩ : ByteArray) (([(⟨#[121]⟩ : ByteArray)] : List ByteArray))).bind fun t155 => (some t155)) else (some false))))) else (none))) else (none)) else (none))) else (none))) else (none)) else (none))))
def laws_FnSgDrop.f (k : Nat) (a0 : ByteArray) (a1 : Int) : Option (Bool) := if (a0.size : Int) > 2147483647 then (some true) else ((spec_Types.f k a0).bind fun bt129 => (if bt129.2 = true then (laws_FnSgDrop.j0 k a1 bt129.1 ((bt129.1.length : Int) == 0)) else (laws_FnSgDrop.j0 k a1 bt129.1 true)))
theorem laws_FnSgDrop.mono_l : ∀ k, (∀ y0 y1 y2, LeO (laws_FnSgDrop.j0 k y0 y1 y2) (laws_FnSgDrop.j0 (k + 1) y0 y1 y2))
  | 0 => fun _ _ _ r h => by simp [laws_FnSgDrop.j0] at h
  | k + 1 => by
    have ih0 := laws_FnSgDrop.mono_l k
    · intro y0 y1 y2
      unfold laws_FnSgDrop.j0
      repeat' first
      | (with_reducible exact ih0 _ _ _)
      | (with_reducible exact laws_sgWalk.mono _ _ _)
      | (with_reducible exact spec_Joined.mono _ _ _)
      | (with_reducible exact spec_Types.mono _ _)
      | (with_reducible exact LeO.refl _)
      | (with_reducible exact LeO.none _)
      | (with_reducible refine LeO.ite ?_ ?_)
      | (with_reducible refine LeO.bind ?_ (fun _ => ?_))
      | exact ih0 _ _ _
      | exact laws_sgWalk.mono _ _ _
      | exact spec_Joined.mono _ _ _
      | exact spec_Types.mono _ _
      | exact LeO.none _
      | refine LeO.ite ?_ ?_
      | refine LeO.bind ?_ (fun _ => ?_)
theorem laws_FnSgDrop.mono : ∀ a0 a1 k, LeO (laws_FnSgDrop.f k a0 a1) (laws_FnSgDrop.f (k + 1) a0 a1) := by
  intro a0 a1 k
  have ih0 := laws_FnSgDrop.mono_l k
  unfold laws_FnSgDrop.f
  repeat' first
      | (with_reducible exact ih0 _ _ _)
      | (with_reducible exact laws_sgWalk.mono _ _ _)
      | (with_reducible exact spec_Joined.mono _ _ _)
      | (with_reducible exact spec_Types.mono _ _)
      | (with_reducible exact LeO.refl _)
      | (with_reducible exact LeO.none _)
      | (with_reducible refine LeO.ite ?_ ?_)
      | (with_reducible refine LeO.bind ?_ (fun _ => ?_))
      | exact ih0 _ _ _
      | exact laws_sgWalk.mono _ _ _
      | exact spec_Joined.mono _ _ _
      | exact spec_Types.mono _ _
      | exact LeO.none _
      | refine LeO.ite ?_ ?_
      | refine LeO.bind ?_ (fun _ => ?_)
def laws_FnSgDrop.T7 : Bool × List (List Nat × List Nat) := (true, [([], []), ([], []), ([], []), ([1, 2], [1, 2]), ([0, 3], [0, 3]), ([], []), ([], []), ([6], [6]), ([5, 7], [5, 7]), ([4, 8, 4], [4, 8]), ([9, 9, 0, 1, 2, 3, 4, 5, 6, 7, 8, 9], [9])])
def laws_FnSgDrop.B7 : List Nat := [0, 0, 0, 6, 15, 0, 0, 64, 224, 511, 1023]
theorem laws_FnSgDrop.tab7 : rtab .any (opsOf Try.f7 7) = laws_FnSgDrop.T7 := by kernel_rfl
theorem laws_FnSgDrop.bits7 : waitsOk laws_FnSgDrop.T7.2 laws_FnSgDrop.B7 = true := by kernel_rfl
set_option maxHeartbeats 8000000 in
set_option maxRecDepth 100000 in
theorem laws_FnSgDrop.calls (k : Nat) (a0 : ByteArray) (a1 : Int) (r : Bool) (w : World) (h : laws_FnSgDrop.f k a0 a1 = some r) :
    Calls Try.prog 7 #[.string a0, .int .u8 a1] w fun e w' => e = .returned (.bool r) ∧ Below w.heap.size w w' := by
  have HB := Aside0.mk (Below.refl w.heap.size w)
  have H : (if (a0.size : Int) > 2147483647 then (some true) else ((spec_Types.f k a0).bind fun bt129 => (if bt129.2 = true then (laws_FnSgDrop.j0 k a1 bt129.1 ((bt129.1.length : Int) == 0)) else (laws_FnSgDrop.j0 k a1 bt129.1 true)))) = some r := h
  clear h
  by_cases c3 : (a0.size : Int) > 2147483647
  · rw [if_pos c3] at H
    have c3b0 : decide (2147483647 < (a0.size : Int)) = true := decide_eq_true c3
    have c3b1 : decide (2147483647 < a0.size) = true := decide_eq_true (by omega)
    clear c3
    obtain rfl := Option.some.inj H
    go_enter Try.func7, Try.ntmps7
    go_wp2
    go_ret
    exact ⟨by first | rfl | (simp [errW_none, errW_some] <;> rfl) | (simp [*, errW_none, errW_some] <;> rfl) | (simp (disch := omega) only [wrap64_id] <;> rfl), by repeat (first | (with_reducible first | exact HB.out | apply below_alloc | apply pw_below_drewN | apply below_drew1) | exact HB.out)⟩
  · rw [if_neg c3] at H
    have c3b0 : decide (2147483647 < (a0.size : Int)) = false := decide_eq_false c3
    have c3b1 : decide (2147483647 < a0.size) = false := decide_eq_false (by omega)
    clear c3
    replace H := Option.bind_eq_some_iff.mp H
    obtain ⟨⟨t129, t130⟩, A40, H⟩ := H
    replace H : (if t130 = true then (laws_FnSgDrop.j0 k a1 t129 ((t129.length : Int) == 0)) else (laws_FnSgDrop.j0 k a1 t129 true)) = some r := H
    have A4 := Aside0.mk A40
    clear A40
    have HC5 := Aside0.mk H
    clear H
    go_enter Try.func7, Try.ntmps7
    go_upto_region 4 with (first | ((with_reducible refine gate_callee (f := 15) rfl ?_); refine goesL_ (some 14) rfl rfl Try.func15 (by kernel_rfl) rfl #[.string a0] rfl (by (try simp only [List.map_toArray, List.map_cons, List.map_nil]); first | done | rfl | (simp only [List.length_drop, List.length_take]; rfl)) ?_; (with_reducible refine (spec_Types.calls k a0 t129 t130 _ A4.out).mono ?_); rintro e w6 ⟨v131, rfl, ho0, hb⟩; refine ⟨_, rfl, ?_⟩; have n0_ := Aside0.mk (Kd.R_lower ho0 (below_size (by repeat (first | (with_reducible first | exact HB.out | apply below_alloc | apply pw_below_drewN | apply below_drew1) | exact HB.out)))); have n1_ := Aside0.mk (below_step (by repeat (first | (with_reducible first | exact HB.out | apply below_alloc | apply pw_below_drewN | apply below_drew1) | exact HB.out)) hb); clear HB; have HO132 := n0_; have HB := n1_; clear n0_ n1_; (try clear hb); (try clear hb2); (try clear hk); (try clear hi); (try clear ho0)))
    (try simp only [Act.put, List.setIfInBounds_toArray, List.set_cons_zero, List.set_cons_succ])
    go_cut [23] (fun v23 wc => ∃ (kq : Nat) (x23_4 : Bool), v23 = .bool x23_4 ∧ Aside0 (laws_FnSgDrop.j0 kq a1 t129 x23_4 = some r) ∧ Aside0 (kq ≤ k) ∧ Aside0 (Kd.R Kd.string 9 wc w.heap.size (fun _ => True) v131 t129) ∧ Aside0 (Below w.heap.size w wc))
    case first =>
      have H := HC5.out
      clear HC5
      by_cases c7 : t130 = true
      · subst c7
        have H1 : (laws_FnSgDrop.j0 k a1 t129 ((t129.length : Int) == 0)) = some r := by rw [if_pos rfl] at H; exact H
        clear H
        have H := H1
        clear H1
        have H' := Aside0.mk H
        clear H
        obtain ⟨Ao8, co8, eo8⟩ := Kd.R_slice HO132.out
        subst eo8
        go_wp2
        go_meet
        case rel => exact ⟨_, (((t129.length : Int) == 0)), (by first | rfl | (simp; done) | (simp [*]; done)), H', ⟨by first | omega | exact Nat.le_refl _⟩, ⟨by (with_reducible repeat (first | apply Kd.R_alloc | apply Kd.R_drewN | apply Kd.R_drew)); exact HO132.out⟩, ⟨by repeat (first | (with_reducible first | exact HB.out | apply below_alloc | apply pw_below_drewN | apply below_drew1) | exact HB.out)⟩⟩
      · replace c7 := Bool.eq_false_iff.mpr c7
        subst c7
        have H1 : (laws_FnSgDrop.j0 k a1 t129 true) = some r := by rw [if_neg (show ¬ (false = true) by decide)] at H; exact H
        clear H
        have H := H1
        clear H1
        have H' := Aside0.mk H
        clear H
        go_wp2
        go_meet
        case rel => exact ⟨_, (true), (by first | rfl | (simp; done) | (simp [*]; done)), H', ⟨by first | omega | exact Nat.le_refl _⟩, ⟨by (with_reducible repeat (first | apply Kd.R_alloc | apply Kd.R_drewN | apply Kd.R_drew)); exact HO132.out⟩, ⟨by repeat (first | (with_reducible first | exact HB.out | apply below_alloc | apply pw_below_drewN | apply below_drew1) | exact HB.out)⟩⟩
    case rest =>
      clear HC5
      try clear c1
      try clear p2
      try clear c3
      try clear c3b0
      try clear c3b1
      try clear p6
      try clear c7
      obtain ⟨kq, x23_4, rfl, HA, HJ4, HO_5, HB⟩ := hcut
      cases kq with
      | zero => exact absurd HA.out (by simp [laws_FnSgDrop.j0])
      | succ kj4 =>
        have H := HA.out
        clear HA
        simp only [laws_FnSgDrop.j0] at H
        by_cases c9 : x23_4 = true
        · subst c9
          have H1 : (some true) = some r := by rw [if_pos rfl] at H; exact H
          clear H
          have H := H1
          clear H1
          obtain rfl := Option.some.inj H
          go_wp2
          go_ret
          exact ⟨by first | rfl | (simp [errW_none, errW_some] <;> rfl) | (simp [*, errW_none, errW_some] <;> rfl) | (simp (disch := omega) only [wrap64_id] <;> rfl), by repeat (first | (with_reducible first | exact HB.out | apply below_alloc | apply pw_below_drewN | apply below_drew1) | exact HB.out)⟩
        · replace c9 := Bool.eq_false_iff.mpr c9
          subst c9
          have H1 : (if (t129.length : Int) = 0 then (none) else ((some (([] : List ByteArray) : List ByteArray)).bind fun y133 => (if 0 ≤ (Int.tmod (wrap64 (a1)) (t129.length : Int)) then (if (Int.tmod (wrap64 (a1)) (t129.length : Int)) ≤ (t129.length : Int) then ((some (t129.take ((Int.tmod (wrap64 (a1)) (t129.length : Int)) : Int).toNat : List ByteArray)).bind fun y136 => (if y133.length + y136.length < 8796093022208 then ((some (y133 ++ y136 : List ByteArray)).bind fun y140 => (if 0 ≤ (wrap64 ((Int.tmod (wrap64 (a1)) (t129.length : Int)) + 1)) then (if (wrap64 ((Int.tmod (wrap64 (a1)) (t129.length : Int)) + 1)) ≤ (t129.length : Int) then ((some (t129.drop ((wrap64 ((Int.tmod (wrap64 (a1)) (t129.length : Int)) + 1)) : Int).toNat : List ByteArray)).bind fun y143 => (if y140.length + y143.length < 8796093022208 then ((some (y140 ++ y143 : List ByteArray)).bind fun y147 => ((spec_Joined.f kj4 y147 (⟨#[]⟩ : ByteArray)).bind fun t150 => ((laws_sgWalk.f kj4 t150 y147).bind fun t151 => (if t151 = true then ((laws_sgWalk.f kj4 (⟨#[121]⟩ : ByteArray) (([(⟨#[121]⟩ : ByteArray)] : List ByteArray))).bind fun t155 => (some t155)) else (some false))))) else (none))) else (none)) else (none))) else (none))) else (none)) else (none)))) = some r := by rw [if_neg (show ¬ (false = true) by decide)] at H; exact H
          clear H
          have H := H1
          clear H1
          by_cases c10 : (t129.length : Int) = 0
          · rw [if_pos c10] at H
            exact absurd H (by simp)
          · rw [if_neg c10] at H
            have c10b0 : ((t129.length : Int) == 0) = false := beq_eq_false_iff_ne.mpr c10
            have c10b1 : ((t129.length : Int) != 0) = true := bne_iff_ne.mpr c10
            have c10b2 : ¬ (t129 = []) := fun h_ => c10 (by rw [h_]; rfl)
            obtain ⟨y133, hy133⟩ : ∃ y_ : List ByteArray, y_ = (([] : List ByteArray)) := ⟨_, rfl⟩
            replace H : (if 0 ≤ (Int.tmod (wrap64 (a1)) (t129.length : Int)) then (if (Int.tmod (wrap64 (a1)) (t129.length : Int)) ≤ (t129.length : Int) then ((some (t129.take ((Int.tmod (wrap64 (a1)) (t129.length : Int)) : Int).toNat : List ByteArray)).bind fun y136 => (if y133.length + y136.length < 8796093022208 then ((some (y133 ++ y136 : List ByteArray)).bind fun y140 => (if 0 ≤ (wrap64 ((Int.tmod (wrap64 (a1)) (t129.length : Int)) + 1)) then (if (wrap64 ((Int.tmod (wrap64 (a1)) (t129.length : Int)) + 1)) ≤ (t129.length : Int) then ((some (t129.drop ((wrap64 ((Int.tmod (wrap64 (a1)) (t129.length : Int)) + 1)) : Int).toNat : List ByteArray)).bind fun y143 => (if y140.length + y143.length < 8796093022208 then ((some (y140 ++ y143 : List ByteArray)).bind fun y147 => ((spec_Joined.f kj4 y147 (⟨#[]⟩ : ByteArray)).bind fun t150 => ((laws_sgWalk.f kj4 t150 y147).bind fun t151 => (if t151 = true then ((laws_sgWalk.f kj4 (⟨#[121]⟩ : ByteArray) (([(⟨#[121]⟩ : ByteArray)] : List ByteArray))).bind fun t155 => (some t155)) else (some false))))) else (none))) else (none)) else (none))) else (none))) else (none)) else (none)) = some r := by first | (rw [hy133]; with_reducible exact H) | (have H2_ := (Option.bind_some _ _).symm.trans H; rw [hy133]; with_reducible exact H2_) | (have H2_ := (Option.bind_some _ _).symm.trans H; with_reducible exact H2_) | with_reducible exact H | (rw [hy133]; exact H) | exact H
            have Ny133 := Aside0.mk hy133
            clear hy133
            obtain ⟨ji11, hji11⟩ : ∃ j_ : Int, (Int.tmod (wrap64 (a1)) (t129.length : Int)) = j_ := ⟨_, rfl⟩
            replace H : (if 0 ≤ (ji11) then (if (ji11) ≤ (t129.length : Int) then ((some (t129.take ((ji11) : Int).toNat : List ByteArray)).bind fun y136 => (if y133.length + y136.length < 8796093022208 then ((some (y133 ++ y136 : List ByteArray)).bind fun y140 => (if 0 ≤ (wrap64 ((ji11) + 1)) then (if (wrap64 ((ji11) + 1)) ≤ (t129.length : Int) then ((some (t129.drop ((wrap64 ((ji11) + 1)) : Int).toNat : List ByteArray)).bind fun y143 => (if y140.length + y143.length < 8796093022208 then ((some (y140 ++ y143 : List ByteArray)).bind fun y147 => ((spec_Joined.f kj4 y147 (⟨#[]⟩ : ByteArray)).bind fun t150 => ((laws_sgWalk.f kj4 t150 y147).bind fun t151 => (if t151 = true then ((laws_sgWalk.f kj4 (⟨#[121]⟩ : ByteArray) (([(⟨#[121]⟩ : ByteArray)] : List ByteArray))).bind fun t155 => (some t155)) else (some false))))) else (none))) else (none)) else (none))) else (none))) else (none)) else (none)) = some r := by first | (rw [hji11] at H; exact H) | (simp only [hji11] at H ⊢; exact H)
            by_cases c12 : 0 ≤ (ji11)
            · rw [if_pos c12] at H
              have c12b0 := eq_true c12
              have c12b1 : decide (0 ≤ (ji11)) = true := decide_eq_true c12
              clear c12
              by_cases c13 : (ji11) ≤ (t129.length : Int)
              · rw [if_pos c13] at H
                have c13b0 := eq_true c13
                have c13b1 : decide ((ji11) ≤ (t129.length : Int)) = true := decide_eq_true c13
                clear c13
                obtain ⟨y136, hy136⟩ : ∃ y_ : List ByteArray, y_ = (t129.take ((ji11) : Int).toNat) := ⟨_, rfl⟩
                replace H : (if y133.length + y136.length < 8796093022208 then ((some (y133 ++ y136 : List ByteArray)).bind fun y140 => (if 0 ≤ (wrap64 ((ji11) + 1)) then (if (wrap64 ((ji11) + 1)) ≤ (t129.length : Int) then ((some (t129.drop ((wrap64 ((ji11) + 1)) : Int).toNat : List ByteArray)).bind fun y143 => (if y140.length + y143.length < 8796093022208 then ((some (y140 ++ y143 : List ByteArray)).bind fun y147 => ((spec_Joined.f kj4 y147 (⟨#[]⟩ : ByteArray)).bind fun t150 => ((laws_sgWalk.f kj4 t150 y147).bind fun t151 => (if t151 = true then ((laws_sgWalk.f kj4 (⟨#[121]⟩ : ByteArray) (([(⟨#[121]⟩ : ByteArray)] : List ByteArray))).bind fun t155 => (some t155)) else (some false))))) else (none))) else (none)) else (none))) else (none)) = some r := by first | (rw [hy136]; with_reducible exact H) | (have H2_ := (Option.bind_some _ _).symm.trans H; rw [hy136]; with_reducible exact H2_) | (have H2_ := (Option.bind_some _ _).symm.trans H; with_reducible exact H2_) | with_reducible exact H | (rw [hy136]; exact H) | exact H
                have Ny136 := Aside0.mk hy136
                clear hy136
                by_cases c14 : y133.length + y136.length < 8796093022208
                · rw [if_pos c14] at H
                  have LMc14 := Aside0.mk c14
                  clear c14
                  obtain ⟨y140, hy140⟩ : ∃ y_ : List ByteArray, y_ = (y133 ++ y136) := ⟨_, rfl⟩
                  replace H : (if 0 ≤ (wrap64 ((ji11) + 1)) then (if (wrap64 ((ji11) + 1)) ≤ (t129.length : Int) then ((some (t129.drop ((wrap64 ((ji11) + 1)) : Int).toNat : List ByteArray)).bind fun y143 => (if y140.length + y143.length < 8796093022208 then ((some (y140 ++ y143 : List ByteArray)).bind fun y147 => ((spec_Joined.f kj4 y147 (⟨#[]⟩ : ByteArray)).bind fun t150 => ((laws_sgWalk.f kj4 t150 y147).bind fun t151 => (if t151 = true then ((laws_sgWalk.f kj4 (⟨#[121]⟩ : ByteArray) (([(⟨#[121]⟩ : ByteArray)] : List ByteArray))).bind fun t155 => (some t155)) else (some false))))) else (none))) else (none)) else (none)) = some r := by first | (rw [hy140]; with_reducible exact H) | (have H2_ := (Option.bind_some _ _).symm.trans H; rw [hy140]; with_reducible exact H2_) | (have H2_ := (Option.bind_some _ _).symm.trans H; with_reducible exact H2_) | with_reducible exact H | (rw [hy140]; exact H) | exact H
                  have Ny140 := Aside0.mk hy140
                  clear hy140
                  obtain ⟨ji15, hji15⟩ : ∃ j_ : Int, (wrap64 ((ji11) + 1)) = j_ := ⟨_, rfl⟩
                  replace H : (if 0 ≤ (ji15) then (if (ji15) ≤ (t129.length : Int) then ((some (t129.drop ((ji15) : Int).toNat : List ByteArray)).bind fun y143 => (if y140.length + y143.length < 8796093022208 then ((some (y140 ++ y143 : List ByteArray)).bind fun y147 => ((spec_Joined.f kj4 y147 (⟨#[]⟩ : ByteArray)).bind fun t150 => ((laws_sgWalk.f kj4 t150 y147).bind fun t151 => (if t151 = true then ((laws_sgWalk.f kj4 (⟨#[121]⟩ : ByteArray) (([(⟨#[121]⟩ : ByteArray)] : List ByteArray))).bind fun t155 => (some t155)) else (some false))))) else (none))) else (none)) else (none)) = some r := by first | (rw [hji15] at H; exact H) | (simp only [hji15] at H ⊢; exact H)
                  have hji15w : (IntKind.i64.wrap ((ji11) + 1)) = ji15 := (i64_w _).trans hji15
                  by_cases c16 : 0 ≤ (ji15)
                  · rw [if_pos c16] at H
                    have c16b0 := eq_true c16
                    have c16b1 : decide (0 ≤ (ji15)) = true := decide_eq_true c16
                    clear c16
                    by_cases c17 : (ji15) ≤ (t129.length : Int)
                    · rw [if_pos c17] at H
                      have c17b0 := eq_true c17
                      have c17b1 : decide ((ji15) ≤ (t129.length : Int)) = true := decide_eq_true c17
                      clear c17
                      obtain ⟨y143, hy143⟩ : ∃ y_ : List ByteArray, y_ = (t129.drop ((ji15) : Int).toNat) := ⟨_, rfl⟩
                      replace H : (if y140.length + y143.length < 8796093022208 then ((some (y140 ++ y143 : List ByteArray)).bind fun y147 => ((spec_Joined.f kj4 y147 (⟨#[]⟩ : ByteArray)).bind fun t150 => ((laws_sgWalk.f kj4 t150 y147).bind fun t151 => (if t151 = true then ((laws_sgWalk.f kj4 (⟨#[121]⟩ : ByteArray) (([(⟨#[121]⟩ : ByteArray)] : List ByteArray))).bind fun t155 => (some t155)) else (some false))))) else (none)) = some r := by first | (rw [hy143]; with_reducible exact H) | (have H2_ := (Option.bind_some _ _).symm.trans H; rw [hy143]; with_reducible exact H2_) | (have H2_ := (Option.bind_some _ _).symm.trans H; with_reducible exact H2_) | with_reducible exact H | (rw [hy143]; exact H) | exact H
                      have Ny143 := Aside0.mk hy143
                      clear hy143
                      by_cases c18 : y140.length + y143.length < 8796093022208
                      · rw [if_pos c18] at H
                        have LMc18 := Aside0.mk c18
                        clear c18
                        obtain ⟨y147, hy147⟩ : ∃ y_ : List ByteArray, y_ = (y140 ++ y143) := ⟨_, rfl⟩
                        replace H : ((spec_Joined.f kj4 y147 (⟨#[]⟩ : ByteArray)).bind fun t150 => ((laws_sgWalk.f kj4 t150 y147).bind fun t151 => (if t151 = true then ((laws_sgWalk.f kj4 (⟨#[121]⟩ : ByteArray) (([(⟨#[121]⟩ : ByteArray)] : List ByteArray))).bind fun t155 => (some t155)) else (some false)))) = some r := by first | (rw [hy147]; with_reducible exact H) | (have H2_ := (Option.bind_some _ _).symm.trans H; rw [hy147]; with_reducible exact H2_) | (have H2_ := (Option.bind_some _ _).symm.trans H; with_reducible exact H2_) | with_reducible exact H | (rw [hy147]; exact H) | exact H
                        have Ny147 := Aside0.mk hy147
                        clear hy147
                        replace H := Option.bind_eq_some_iff.mp H
                        obtain ⟨t150, A190, H⟩ := H
                        replace H : ((laws_sgWalk.f kj4 t150 y147).bind fun t151 => (if t151 = true then ((laws_sgWalk.f kj4 (⟨#[121]⟩ : ByteArray) (([(⟨#[121]⟩ : ByteArray)] : List ByteArray))).bind fun t155 => (some t155)) else (some false))) = some r := H
                        have A19 := Aside0.mk A190
                        clear A190
                        replace H := Option.bind_eq_some_iff.mp H
                        obtain ⟨t151, A200, H⟩ := H
                        replace H : (if t151 = true then ((laws_sgWalk.f kj4 (⟨#[121]⟩ : ByteArray) (([(⟨#[121]⟩ : ByteArray)] : List ByteArray))).bind fun t155 => (some t155)) else (some false)) = some r := H
                        have A20 := Aside0.mk A200
                        clear A200
                        by_cases c21 : t151 = true
                        · subst c21
                          have H1 : ((laws_sgWalk.f kj4 (⟨#[121]⟩ : ByteArray) (([(⟨#[121]⟩ : ByteArray)] : List ByteArray))).bind fun t155 => (some t155)) = some r := by rw [if_pos rfl] at H; exact H
                          clear H
                          have H := H1
                          clear H1
                          obtain ⟨y152, hy152⟩ : ∃ y_ : List ByteArray, y_ = (([(⟨#[121]⟩ : ByteArray)] : List ByteArray)) := ⟨_, rfl⟩
                          replace H : ((laws_sgWalk.f kj4 (⟨#[121]⟩ : ByteArray) y152).bind fun t155 => (some t155)) = some r := by first | (rw [hy152]; with_reducible exact H) | (have H2_ := (Option.bind_some _ _).symm.trans H; rw [hy152]; with_reducible exact H2_) | (have H2_ := (Option.bind_some _ _).symm.trans H; with_reducible exact H2_) | with_reducible exact H | (rw [hy152]; exact H) | exact H
                          have Ny152 := Aside0.mk hy152
                          clear hy152
                          replace H := Option.bind_eq_some_iff.mp H
                          obtain ⟨t155, A220, H⟩ := H
                          replace H : (some t155) = some r := H
                          have A22 := Aside0.mk A220
                          clear A220
                          obtain rfl := Option.some.inj H
                          obtain ⟨Ao23, co23, eo23⟩ := Kd.R_slice HO_5.out
                          subst eo23
                          try go_wp2
                          have n0_ := Aside0.mk (Kd.R_drew HO_5.out)
                          have n1_ := Aside0.mk (below_drew1 HB.out)
                          clear HO_5
                          clear HB
                          have HO_5 := n0_
                          have HB := n1_
                          clear n0_ n1_
                          have q25 : ((ji11) : Int) ≤ ((t129.length : Int) : Int) := of_decide_eq_true (by first | (with_reducible assumption) | assumption)
                          obtain ⟨i025, hi025, _, hsz25, _⟩ := info_parts info9
                          have hroom25 : t129.length ≤ co23 := (Kd.R_reads' HO_5.out).2.1
                          have hC25 : Kd.C Kd.string _ Ao23 t129.length t129 := (Kd.R_reads' HO_5.out).2.2
                          have hcut25 := cut_to (P := Try.prog) 34 9 .i64 Try.underlying34 hi025 Ao23 t129.length co23 (ji11) (of_decide_eq_true (by first | (with_reducible assumption) | assumption)) q25 hroom25
                          have hr25 := Kd.C_take (m := ((ji11) : Int).toNat) hC25 (by omega)
                          have hy25 : y136.length = ((ji11) : Int).toNat := (by rw [Ny136.out, List.length_take]; omega)
                          rw [← Ny136.out] at hr25
                          rw [← hy25] at hcut25
                          have HR139 := Aside0.mk hr25
                          have HC139 := Aside0.mk (show y136.length ≤ co23 from by omega)
                          clear hr25 hC25 hroom25 hi025 hsz25
                          have KY25 := Aside0.mk hy25
                          clear hy25
                          have KL25 := Aside0.mk (show ((ji11) : Int).toNat ≤ t129.length from by omega)
                          replace q25 := eq_true q25
                          have q26 : ((ji15) : Int) ≤ ((t129.length : Int) : Int) := of_decide_eq_true (by first | (with_reducible assumption) | assumption)
                          obtain ⟨i026, hi026, _, hsz26, _⟩ := info_parts info9
                          have hroom26 : t129.length ≤ co23 := (Kd.R_reads' HO_5.out).2.1
                          have hC26 : Kd.C Kd.string _ Ao23 t129.length t129 := (Kd.R_reads' HO_5.out).2.2
                          have q026 : (0 : Int) ≤ ((ji15) : Int) := of_decide_eq_true (by first | (with_reducible assumption) | assumption)
                          have hcut26 := cut_from (P := Try.prog) 34 9 .i64 Try.underlying34 hi026 1 hsz26 Ao23 t129.length co23 (ji15) q026 q26
                          have hr26 := Kd.C_drop (m := ((ji15) : Int).toNat) (c := co23) hC26 (by omega) hroom26
                          obtain ⟨A26, hA26⟩ : ∃ A1, A1 = (if co23 = ((ji15) : Int).toNat then Ao23 else (Ao23 : Option Addr).map (·.add (((ji15) : Int).toNat * 1))) := ⟨_, rfl⟩
                          obtain ⟨c26, hc26⟩ : ∃ c1, c1 = co23 - ((ji15) : Int).toNat := ⟨_, rfl⟩
                          have hy26 : y143.length = t129.length - ((ji15) : Int).toNat := (by rw [Ny143.out, List.length_drop] <;> omega)
                          rw [show (t129).drop ((ji15) : Int).toNat = y143 from Ny143.out.symm] at hr26
                          replace hr26 : Kd.C Kd.string _ A26 y143.length y143 := (by rw [hA26]; exact hr26)
                          rw [← hy26, ← hA26, ← hc26] at hcut26
                          have HR146 := Aside0.mk hr26
                          have HC146 := Aside0.mk (show y143.length ≤ c26 from by rw [hy26, hc26]; exact Nat.sub_le_sub_right hroom26 _)
                          clear hr26 hC26 hroom26 hi026 hsz26 hc26
                          have KY26 := Aside0.mk hy26
                          have KA26 := Aside0.mk hA26
                          clear hy26 hA26
                          have KL26 := Aside0.mk (show ((ji15) : Int).toNat ≤ t129.length from by omega)
                          replace q26 := eq_true q26
                          refine start_ (n := 11) (S := fun w' => True) (ds := []) #[false, false, false, false, false, false, false, false, false, false, false] (by kernel_rfl) rfl rfl trivial (fun hHeld => ?_); refine with_tabW laws_FnSgDrop.tab7 laws_FnSgDrop.bits7 (fun HT_ HW_ => ?_)
                          generalize wc.drew = w24 at HO_5 HB HR139 HR146 hHeld ⊢
                          refine pure_ (i := 1) (N := some 30) (v := ?_) (a' := ?_) #[false, true, false, false, false, false, false, false, false, false, false] rfl rfl (any_of HT_.out (by kernel_rfl)) (fun _ _ _ h => h) (Or.inl ⟨by rfl, ?_⟩) ?_ ?_
                          rotate_left
                          · intro w'
                            go_simp
                            with_reducible rfl
                          rotate_left
                          · simp only [Act.put, List.setIfInBounds_toArray, List.set_cons_zero, List.set_cons_succ, i64_w, i32_w]
                            rfl
                          refine pure_ (i := 2) (N := some 31) (v := ?_) (a' := ?_) #[false, true, true, false, false, false, false, false, false, false, false] rfl rfl (any_of HT_.out (by kernel_rfl)) (fun _ _ _ h => h) (Or.inl ⟨by rfl, ?_⟩) ?_ ?_
                          rotate_left
                          · intro w'
                            go_simp
                            with_reducible rfl
                          rotate_left
                          · simp only [Act.put, List.setIfInBounds_toArray, List.set_cons_zero, List.set_cons_succ, i64_w, i32_w]
                            rfl
                          refine pure_ (i := 3) (N := some 32) (v := ?_) (a' := ?_) #[false, true, true, true, false, false, false, false, false, false, false] rfl rfl (any_of HT_.out (by kernel_rfl)) (fun _ _ _ h => h) (Or.inl ⟨by rfl, ?_⟩) ?_ ?_
                          rotate_left
                          · intro w'
                            go_simp
                            with_reducible rfl
                          rotate_left
                          · simp only [Act.put, List.setIfInBounds_toArray, List.set_cons_zero, List.set_cons_succ, i64_w, i32_w]
                            rfl
                          refine pure_ (i := 5) (N := some 34) (v := ?_) (a' := ?_) #[false, true, true, true, false, true, false, false, false, false, false] rfl rfl (any_of HT_.out (by kernel_rfl)) (fun _ _ _ h => h) (Or.inl ⟨by rfl, ?_⟩) ?_ ?_
                          rotate_left
                          · intro w'
                            go_simp
                            with_reducible rfl
                          rotate_left
                          · simp only [Act.put, List.setIfInBounds_toArray, List.set_cons_zero, List.set_cons_succ, i64_w, i32_w]
                            rfl
                          refine pure_ (i := 6) (N := some 35) (v := ?_) (a' := ?_) #[false, true, true, true, false, true, true, false, false, false, false] rfl rfl (any_of HT_.out (by kernel_rfl)) (fun _ _ _ h => h) (Or.inl ⟨by rfl, ?_⟩) ?_ ?_
                          rotate_left
                          · intro w'
                            go_simp
                            with_reducible rfl
                          rotate_left
                          · simp only [Act.put, List.setIfInBounds_toArray, List.set_cons_zero, List.set_cons_succ, i64_w, i32_w]
                            rfl
                          refine pure_ (i := 7) (N := some 36) (v := ?_) (a' := ?_) #[false, true, true, true, false, true, true, true, false, false, false] rfl rfl (any_of HT_.out (by kernel_rfl)) (fun _ _ _ h => h) (Or.inl ⟨by rfl, ?_⟩) ?_ ?_
                          rotate_left
                          · intro w'
                            go_simp
                            with_reducible rfl
                          rotate_left
                          · simp only [Act.put, List.setIfInBounds_toArray, List.set_cons_zero, List.set_cons_succ, i64_w, i32_w]
                            rfl
                          refine pure_ (i := 8) (N := some 37) (v := ?_) (a' := ?_) #[false, true, true, true, false, true, true, true, true, false, false] rfl rfl (any_of HT_.out (by kernel_rfl)) (fun _ _ _ h => h) (Or.inl ⟨by rfl, ?_⟩) ?_ ?_
                          rotate_left
                          · intro w'
                            go_simp
                            with_reducible rfl
                          rotate_left
                          · simp only [Act.put, List.setIfInBounds_toArray, List.set_cons_zero, List.set_cons_succ, i64_w, i32_w]
                            rfl
                          refine one_ (i := 0) (N := some 29) #[true, true, true, true, false, true, true, true, true, false, false] rfl rfl (one_of HT_.out (by kernel_rfl)) (by decide) (fun K hK => ?_)
                          refine Kd.R_lit_step Kd.string _ 9 ?hg (N := 29) ?hd (xs := ([] : List ByteArray)) (inner := []) (ok := fun _ => True) (okp := fun _ => True) ?hr ?hp (fun _ hk => hk) trivial (Below.refl _ _) (Nat.le_refl _) (by simp) ?_; (case hd => rfl); (case hg => rfl); (case hr => first | (go_simp; done) | (go_simp; rfl)); (case hp => exact (Reps.none _ _))
                          intro v134 w27 ho28 hb hg_ hnew_
                          clear hg_ hnew_
                          (first | rw [← Ny133.out] at ho28 | (simp only [Int.reduceToNat] at ho28; rw [← Ny133.out] at ho28))
                          have n0_ := Aside0.mk (Kd.R_elder' (by (with_reducible repeat (first | apply Kd.R_alloc | apply Kd.R_drewN | apply Kd.R_drew)); exact HO_5.out) (Kd.R_base ho28) hb)
                          have n1_ := Aside0.mk (Kd.R_lower (Kd.R_new' ho28 (Kd.R_lt (by (with_reducible repeat (first | apply Kd.R_alloc | apply Kd.R_drewN | apply Kd.R_drew)); exact HO_5.out))) (below_size (by repeat (first | (with_reducible first | exact HB.out | apply below_alloc | apply pw_below_drewN | apply below_drew1) | exact HB.out))))
                          have n2_ := Aside0.mk (Kd.C_below (by repeat (first | (with_reducible exact HR139.out) | (with_reducible refine Kd.C_alloc ?_ _) | (with_reducible refine Kd.C_drewN ?_ _) | (with_reducible refine Kd.C_drew ?_) | exact HR139.out)) hb)
                          have n3_ := Aside0.mk (Kd.C_below (by repeat (first | (with_reducible exact HR146.out) | (with_reducible refine Kd.C_alloc ?_ _) | (with_reducible refine Kd.C_drewN ?_ _) | (with_reducible refine Kd.C_drew ?_) | exact HR146.out)) hb)
                          have n4_ := Aside0.mk (below_step (by repeat (first | (with_reducible first | exact HB.out | apply below_alloc | apply pw_below_drewN | apply below_drew1) | exact HB.out)) hb)
                          clear HO_5
                          clear HR139
                          clear HR146
                          clear HB
                          have HO_5 := n0_
                          have HO135 := n1_
                          have HR139 := n2_
                          have HR146 := n3_
                          have HB := n4_
                          clear n0_ n1_ n2_ n3_ n4_
                          clear hb ho28
                          refine hK.out _ _ trivial (fun hHeld => ?_)
                          clear hK K
                          refine norm_ (a' := ?_) ?_ ?_
                          rotate_left
                          · show Act.put _ (some 29) _ = _
                            simp only [Act.put, List.setIfInBounds_toArray, List.set_cons_zero, List.set_cons_succ, i64_w, i32_w]
                            rfl
                          refine one_ (i := 4) (N := some 33) #[true, true, true, true, true, true, true, true, true, false, false] rfl rfl (one_of HT_.out (by kernel_rfl)) (by decide) (fun K hK => ?_)
                          refine Kd.R_append_rows_step Kd.string (w0 := w) w.heap.size (by rfl) (.tmp 29) (.tmp 32) 34 9 (.string ⟨#[]⟩) 16 rfl Try.underlying34 info9 rfl (by decide) (by omega) v134 y133 y136 _ _ _ (fun k_ => some k_ ≠ (.slice Ao23 t129.length co23 : Value).ownBlock) (fun _ => False) rfl rfl ?aO ?aR (fun _ _ h => h) (fun _ h => h.elim) ?aF ?aB ?aS ?aL ?_
                          (case aR => repeat (first | exact (by repeat (first | (with_reducible exact HR139.out) | (with_reducible refine Kd.C_alloc ?_ _) | (with_reducible refine Kd.C_drewN ?_ _) | (with_reducible refine Kd.C_drew ?_) | exact HR139.out)) | (with_reducible refine Kd.C_alloc ?_ _) | (with_reducible refine Kd.C_drewN ?_ _) | (with_reducible refine Kd.C_drew ?_)))
                          (case aB => exact (by repeat (first | (with_reducible first | exact HB.out | apply below_alloc | apply pw_below_drewN | apply below_drew1) | exact HB.out)))
                          (case aF => exact (fun k_ hk => Kd.fresh' (Kd.R_lt (by (with_reducible repeat (first | apply Kd.R_alloc | apply Kd.R_drewN | apply Kd.R_drew)); exact HO_5.out)) k_ hk))
                          (case aO => exact (by (with_reducible repeat (first | apply Kd.R_alloc | apply Kd.R_drewN | apply Kd.R_drew)); exact Kd.R_mono HO135.out (fun _ hk => hk.2)))
                          (case aS => exact (below_size (by repeat (first | (with_reducible first | exact HB.out | apply below_alloc | apply pw_below_drewN | apply below_drew1) | exact HB.out))))
                          (case aL => have := LMc14.out; omega)
                          intro v141 w29 ho hb hg hat
                          rw [← Ny140.out] at ho
                          have n0_ := Aside0.mk (Kd.R_after (ok := (fun _ => True)) (by (with_reducible repeat (first | apply Kd.R_alloc | apply Kd.R_drewN | apply Kd.R_drew)); exact HO_5.out) hg hat)
                          have n1_ := Aside0.mk (hb)
                          have n2_ := Aside0.mk ((show Kd.C Kd.string w29 Ao23 y136.length y136 from by rw [Ny136.out]; exact Kd.C_take (m := ((ji11) : Int).toNat) ((Kd.R_reads' (Kd.R_after (ok := (fun _ => True)) (by (with_reducible repeat (first | apply Kd.R_alloc | apply Kd.R_drewN | apply Kd.R_drew)); exact HO_5.out) hg hat)).2.2) KL25.out))
                          have n3_ := Aside0.mk ((show Kd.C Kd.string w29 A26 y143.length y143 from by rw [Ny143.out, KA26.out]; exact Kd.C_drop (m := ((ji15) : Int).toNat) (c := co23) ((Kd.R_reads' (Kd.R_after (ok := (fun _ => True)) (by (with_reducible repeat (first | apply Kd.R_alloc | apply Kd.R_drewN | apply Kd.R_drew)); exact HO_5.out) hg hat)).2.2) KL26.out ((Kd.R_reads' (Kd.R_after (ok := (fun _ => True)) (by (with_reducible repeat (first | apply Kd.R_alloc | apply Kd.R_drewN | apply Kd.R_drew)); exact HO_5.out) hg hat)).2.1)))
                          have n4_ := Aside0.mk (ho)
                          clear HO_5
                          clear HB
                          clear HR139
                          clear HR146
                          clear HO135
                          have HO_5 := n0_
                          have HB := n1_
                          have HR139 := n2_
                          have HR146 := n3_
                          have HO142 := n4_
                          clear n0_ n1_ n2_ n3_ n4_
                          clear ho hb hg hat
                          refine hK.out _ _ trivial (fun hHeld => ?_)
                          clear hK K
                          refine norm_ (a' := ?_) ?_ ?_
                          rotate_left
                          · show Act.put _ (some 33) _ = _
                            simp only [Act.put, List.setIfInBounds_toArray, List.set_cons_zero, List.set_cons_succ, i64_w, i32_w]
                            rfl
                          refine one_ (i := 9) (N := some 38) #[true, true, true, true, true, true, true, true, true, true, false] rfl rfl (one_of HT_.out (by kernel_rfl)) (by decide) (fun K hK => ?_)
                          refine Kd.R_append_rows_step Kd.string (w0 := w) w.heap.size (by rfl) (.tmp 33) (.tmp 37) 34 9 (.string ⟨#[]⟩) 16 rfl Try.underlying34 info9 rfl (by decide) (by omega) v141 y140 y143 _ _ _ (fun k_ => some k_ ≠ (.slice Ao23 t129.length co23 : Value).ownBlock) (fun _ => False) rfl rfl ?aO ?aR (fun _ _ h => h) (fun _ h => h.elim) ?aF ?aB ?aS ?aL ?_
                          (case aR => repeat (first | exact (by repeat (first | (with_reducible exact HR146.out) | (with_reducible refine Kd.C_alloc ?_ _) | (with_reducible refine Kd.C_drewN ?_ _) | (with_reducible refine Kd.C_drew ?_) | exact HR146.out)) | (with_reducible refine Kd.C_alloc ?_ _) | (with_reducible refine Kd.C_drewN ?_ _) | (with_reducible refine Kd.C_drew ?_)))
                          (case aB => exact (by repeat (first | (with_reducible first | exact HB.out | apply below_alloc | apply pw_below_drewN | apply below_drew1) | exact HB.out)))
                          (case aF => exact (fun k_ hk => Kd.fresh' (Kd.R_lt (by (with_reducible repeat (first | apply Kd.R_alloc | apply Kd.R_drewN | apply Kd.R_drew)); exact HO_5.out)) k_ hk))
                          (case aO => exact (by (with_reducible repeat (first | apply Kd.R_alloc | apply Kd.R_drewN | apply Kd.R_drew)); exact HO142.out))
                          (case aS => exact (below_size (by repeat (first | (with_reducible first | exact HB.out | apply below_alloc | apply pw_below_drewN | apply below_drew1) | exact HB.out))))
                          (case aL => have := LMc18.out; omega)
                          intro v148 w30 ho hb hg hat
                          rw [← Ny147.out] at ho
                          have n0_ := Aside0.mk (Kd.R_after (ok := (fun _ => True)) (by (with_reducible repeat (first | apply Kd.R_alloc | apply Kd.R_drewN | apply Kd.R_drew)); exact HO_5.out) hg hat)
                          have n1_ := Aside0.mk (hb)
                          have n2_ := Aside0.mk ((show Kd.C Kd.string w30 Ao23 y136.length y136 from by rw [Ny136.out]; exact Kd.C_take (m := ((ji11) : Int).toNat) ((Kd.R_reads' (Kd.R_after (ok := (fun _ => True)) (by (with_reducible repeat (first | apply Kd.R_alloc | apply Kd.R_drewN | apply Kd.R_drew)); exact HO_5.out) hg hat)).2.2) KL25.out))
                          have n3_ := Aside0.mk ((show Kd.C Kd.string w30 A26 y143.length y143 from by rw [Ny143.out, KA26.out]; exact Kd.C_drop (m := ((ji15) : Int).toNat) (c := co23) ((Kd.R_reads' (Kd.R_after (ok := (fun _ => True)) (by (with_reducible repeat (first | apply Kd.R_alloc | apply Kd.R_drewN | apply Kd.R_drew)); exact HO_5.out) hg hat)).2.2) KL26.out ((Kd.R_reads' (Kd.R_after (ok := (fun _ => True)) (by (with_reducible repeat (first | apply Kd.R_alloc | apply Kd.R_drewN | apply Kd.R_drew)); exact HO_5.out) hg hat)).2.1)))
                          have n4_ := Aside0.mk (ho)
                          clear HO_5
                          clear HB
                          clear HR139
                          clear HR146
                          clear HO142
                          have HO_5 := n0_
                          have HB := n1_
                          have HR139 := n2_
                          have HR146 := n3_
                          have HO149 := n4_
                          clear n0_ n1_ n2_ n3_ n4_
                          clear ho hb hg hat
                          refine hK.out _ _ trivial (fun hHeld => ?_)
                          clear hK K
                          refine norm_ (a' := ?_) ?_ ?_
                          rotate_left
                          · show Act.put _ (some 38) _ = _
                            simp only [Act.put, List.setIfInBounds_toArray, List.set_cons_zero, List.set_cons_succ, i64_w, i32_w]
                            rfl
                          refine pure_ (i := 10) (N := some 8) (v := ?_) (a' := ?_) #[true, true, true, true, true, true, true, true, true, true, true] rfl rfl (any_of HT_.out (by kernel_rfl)) (fun _ _ _ h => h) (Or.inl ⟨by rfl, ?_⟩) ?_ ?_
                          rotate_left
                          · intro w'
                            go_simp
                            with_reducible rfl
                          rotate_left
                          · simp only [Act.put, List.setIfInBounds_toArray, List.set_cons_zero, List.set_cons_succ, i64_w, i32_w]
                            rfl
                          refine done_ (done_of HT_.out (by kernel_rfl)) ?_
                          obtain ⟨Ao31, co31, eo31⟩ := Kd.R_slice HO149.out
                          subst eo31
                          try go_wp2_with (first | ((with_reducible refine gate_callee (f := 18) rfl ?_); refine goesL_ (some 40) rfl rfl Try.func18 (by kernel_rfl) rfl #[.slice Ao31 y147.length co31, .string (⟨#[]⟩ : ByteArray)] rfl (by (try simp only [List.map_toArray, List.map_cons, List.map_nil]); first | done | rfl | (simp only [List.length_drop, List.length_take]; rfl)) ?_; (with_reducible refine (spec_Joined.calls kj4 _ _ y147 (⟨#[]⟩ : ByteArray) t150 _ ?side1 ?side2 A19.out).mono ?_); (case side1 => repeat (first | exact (Kd.R_reads' HO149.out).2.2 | (with_reducible refine Kd.C_alloc ?_ _) | (with_reducible refine Kd.C_drewN ?_ _) | (with_reducible refine Kd.C_drew ?_))); (case side2 => exact (Kd.R_reads' HO149.out).2.1); rintro e w' ⟨rfl, ⟨nd, rfl⟩⟩; refine ⟨_, rfl, ?_⟩) | ((with_reducible refine gate_callee (f := 17) rfl ?_); refine goesL_ (some 42) rfl rfl Try.func17 (by kernel_rfl) rfl #[.string t150, .slice Ao31 y147.length co31] rfl (by (try simp only [List.map_toArray, List.map_cons, List.map_nil]); first | done | rfl | (simp only [List.length_drop, List.length_take]; rfl)) ?_; (with_reducible refine (laws_sgWalk.calls kj4 t150 _ _ y147 true _ ?side1 ?side2 A20.out).mono ?_); (case side1 => repeat (first | exact (Kd.R_reads' HO149.out).2.2 | (with_reducible refine Kd.C_alloc ?_ _) | (with_reducible refine Kd.C_drewN ?_ _) | (with_reducible refine Kd.C_drew ?_))); (case side2 => exact (Kd.R_reads' HO149.out).2.1); rintro e w32 ⟨rfl, hb⟩; refine ⟨_, rfl, ?_⟩; have n0_ := Aside0.mk (Kd.R_below (by (with_reducible repeat (first | apply Kd.R_alloc | apply Kd.R_drewN | apply Kd.R_drew)); exact HO_5.out) hb); have n1_ := Aside0.mk (Kd.R_below (by (with_reducible repeat (first | apply Kd.R_alloc | apply Kd.R_drewN | apply Kd.R_drew)); exact HO149.out) hb); have n2_ := Aside0.mk (Kd.C_below (by repeat (first | (with_reducible exact HR139.out) | (with_reducible refine Kd.C_alloc ?_ _) | (with_reducible refine Kd.C_drewN ?_ _) | (with_reducible refine Kd.C_drew ?_) | exact HR139.out)) hb); have n3_ := Aside0.mk (Kd.C_below (by repeat (first | (with_reducible exact HR146.out) | (with_reducible refine Kd.C_alloc ?_ _) | (with_reducible refine Kd.C_drewN ?_ _) | (with_reducible refine Kd.C_drew ?_) | exact HR146.out)) hb); have n4_ := Aside0.mk (below_step (by repeat (first | (with_reducible first | exact HB.out | apply below_alloc | apply pw_below_drewN | apply below_drew1) | exact HB.out)) hb); clear HO_5; clear HO149; clear HR139; clear HR146; clear HB; have HO_5 := n0_; have HO149 := n1_; have HR139 := n2_; have HR146 := n3_; have HB := n4_; clear n0_ n1_ n2_ n3_ n4_; (try clear hb); (try clear hb2); (try clear hk); (try clear hi)) | ((with_reducible refine gate_dst (N := 44) rfl ?_); (try (refine gate_guard (by rfl) ?_; dsimp only)); refine Kd.R_lit Kd.string _ 9 ?hg (N := 44) ?hd (xs := ([(⟨#[121]⟩ : ByteArray)] : List ByteArray)) (inner := [.string (⟨#[121]⟩ : ByteArray)]) (ok := fun _ => True) (okp := fun _ => True) ?hr ?hp (fun _ hk => hk) trivial (Below.refl _ _) (Nat.le_refl _) (by simp) ?_; (case hd => rfl); (case hg => rfl); (case hr => first | (go_simp; done) | (go_simp; rfl)); (case hp => exact (Reps.one (show Kd.M Kd.string _ _ _ (⟨#[121]⟩ : ByteArray) [.string (⟨#[121]⟩ : ByteArray)] from rfl) (Reps.none _ _))); intro v153 w33 ho34 hb hg_ hnew_; clear hg_ hnew_; (first | rw [← Ny152.out] at ho34 | (simp only [Int.reduceToNat] at ho34; rw [← Ny152.out] at ho34)); have n0_ := Aside0.mk (Kd.R_elder' (by (with_reducible repeat (first | apply Kd.R_alloc | apply Kd.R_drewN | apply Kd.R_drew)); exact HO_5.out) (Kd.R_base ho34) hb); have n1_ := Aside0.mk (Kd.R_elder' (by (with_reducible repeat (first | apply Kd.R_alloc | apply Kd.R_drewN | apply Kd.R_drew)); exact HO149.out) (Kd.R_base ho34) hb); have n2_ := Aside0.mk (Kd.R_lower (Kd.R_new' (Kd.R_new' ho34 (Kd.R_lt (by (with_reducible repeat (first | apply Kd.R_alloc | apply Kd.R_drewN | apply Kd.R_drew)); exact HO_5.out))) (Kd.R_lt (by (with_reducible repeat (first | apply Kd.R_alloc | apply Kd.R_drewN | apply Kd.R_drew)); exact HO149.out))) (below_size (by repeat (first | (with_reducible first | exact HB.out | apply below_alloc | apply pw_below_drewN | apply below_drew1) | exact HB.out)))); have n3_ := Aside0.mk (Kd.C_below (by repeat (first | (with_reducible exact HR139.out) | (with_reducible refine Kd.C_alloc ?_ _) | (with_reducible refine Kd.C_drewN ?_ _) | (with_reducible refine Kd.C_drew ?_) | exact HR139.out)) hb); have n4_ := Aside0.mk (Kd.C_below (by repeat (first | (with_reducible exact HR146.out) | (with_reducible refine Kd.C_alloc ?_ _) | (with_reducible refine Kd.C_drewN ?_ _) | (with_reducible refine Kd.C_drew ?_) | exact HR146.out)) hb); have n5_ := Aside0.mk (below_step (by repeat (first | (with_reducible first | exact HB.out | apply below_alloc | apply pw_below_drewN | apply below_drew1) | exact HB.out)) hb); clear HO_5; clear HO149; clear HR139; clear HR146; clear HB; have HO_5 := n0_; have HO149 := n1_; have HO154 := n2_; have HR139 := n3_; have HR146 := n4_; have HB := n5_; clear n0_ n1_ n2_ n3_ n4_ n5_; clear hb ho34; obtain ⟨Ao35, co35, eo35⟩ := Kd.R_slice HO154.out; subst eo35) | (go_at_call 17; (with_reducible refine (laws_sgWalk.calls kj4 (⟨#[121]⟩ : ByteArray) _ _ y152 t155 _ ?side1 ?side2 A22.out).mono ?_); (case side1 => repeat (first | exact (Kd.R_reads' HO154.out).2.2 | (with_reducible refine Kd.C_alloc ?_ _) | (with_reducible refine Kd.C_drewN ?_ _) | (with_reducible refine Kd.C_drew ?_))); (case side2 => exact (Kd.R_reads' HO154.out).2.1); rintro e w36 ⟨rfl, hb⟩; have n0_ := Aside0.mk (Kd.R_below (by (with_reducible repeat (first | apply Kd.R_alloc | apply Kd.R_drewN | apply Kd.R_drew)); exact HO_5.out) hb); have n1_ := Aside0.mk (Kd.R_below (by (with_reducible repeat (first | apply Kd.R_alloc | apply Kd.R_drewN | apply Kd.R_drew)); exact HO149.out) hb); have n2_ := Aside0.mk (Kd.R_below (by (with_reducible repeat (first | apply Kd.R_alloc | apply Kd.R_drewN | apply Kd.R_drew)); exact HO154.out) hb); have n3_ := Aside0.mk (Kd.C_below (by repeat (first | (with_reducible exact HR139.out) | (with_reducible refine Kd.C_alloc ?_ _) | (with_reducible refine Kd.C_drewN ?_ _) | (with_reducible refine Kd.C_drew ?_) | exact HR139.out)) hb); have n4_ := Aside0.mk (Kd.C_below (by repeat (first | (with_reducible exact HR146.out) | (with_reducible refine Kd.C_alloc ?_ _) | (with_reducible refine Kd.C_drewN ?_ _) | (with_reducible refine Kd.C_drew ?_) | exact HR146.out)) hb); have n5_ := Aside0.mk (below_step (by repeat (first | (with_reducible first | exact HB.out | apply below_alloc | apply pw_below_drewN | apply below_drew1) | exact HB.out)) hb); clear HO_5; clear HO149; clear HO154; clear HR139; clear HR146; clear HB; have HO_5 := n0_; have HO149 := n1_; have HO154 := n2_; have HR139 := n3_; have HR146 := n4_; have HB := n5_; clear n0_ n1_ n2_ n3_ n4_ n5_; (try clear hb); (try clear hb2); (try clear hk); (try clear hi)))
                          go_ret
                          exact ⟨by first | rfl | (simp [errW_none, errW_some] <;> rfl) | (simp only [← hji11, ← hji15]; first | rfl | (simp [errW_none, errW_some] <;> rfl)) | (simp [*, errW_none, errW_some] <;> rfl) | (simp (disch := omega) only [wrap64_id] <;> rfl), by repeat (first | (with_reducible first | exact HB.out | apply below_alloc | apply pw_below_drewN | apply below_drew1) | exact HB.out)⟩
                        · replace c21 := Bool.eq_false_iff.mpr c21
                          subst c21
                          have H1 : (some false) = some r := by rw [if_neg (show ¬ (false = true) by decide)] at H; exact H
                          clear H
                          have H := H1
                          clear H1
                          obtain rfl := Option.some.inj H
                          obtain ⟨Ao37, co37, eo37⟩ := Kd.R_slice HO_5.out
                          subst eo37
                          try go_wp2
                          have n0_ := Aside0.mk (Kd.R_drew HO_5.out)
                          have n1_ := Aside0.mk (below_drew1 HB.out)
                          clear HO_5
                          clear HB
                          have HO_5 := n0_
                          have HB := n1_
                          clear n0_ n1_
                          have q39 : ((ji11) : Int) ≤ ((t129.length : Int) : Int) := of_decide_eq_true (by first | (with_reducible assumption) | assumption)
                          obtain ⟨i039, hi039, _, hsz39, _⟩ := info_parts info9
                          have hroom39 : t129.length ≤ co37 := (Kd.R_reads' HO_5.out).2.1
                          have hC39 : Kd.C Kd.string _ Ao37 t129.length t129 := (Kd.R_reads' HO_5.out).2.2
                          have hcut39 := cut_to (P := Try.prog) 34 9 .i64 Try.underlying34 hi039 Ao37 t129.length co37 (ji11) (of_decide_eq_true (by first | (with_reducible assumption) | assumption)) q39 hroom39
                          have hr39 := Kd.C_take (m := ((ji11) : Int).toNat) hC39 (by omega)
                          have hy39 : y136.length = ((ji11) : Int).toNat := (by rw [Ny136.out, List.length_take]; omega)
                          rw [← Ny136.out] at hr39
                          rw [← hy39] at hcut39
                          have HR139 := Aside0.mk hr39
                          have HC139 := Aside0.mk (show y136.length ≤ co37 from by omega)
                          clear hr39 hC39 hroom39 hi039 hsz39
                          have KY39 := Aside0.mk hy39
                          clear hy39
                          have KL39 := Aside0.mk (show ((ji11) : Int).toNat ≤ t129.length from by omega)
                          replace q39 := eq_true q39
                          have q40 : ((ji15) : Int) ≤ ((t129.length : Int) : Int) := of_decide_eq_true (by first | (with_reducible assumption) | assumption)
                          obtain ⟨i040, hi040, _, hsz40, _⟩ := info_parts info9
                          have hroom40 : t129.length ≤ co37 := (Kd.R_reads' HO_5.out).2.1
                          have hC40 : Kd.C Kd.string _ Ao37 t129.length t129 := (Kd.R_reads' HO_5.out).2.2
                          have q040 : (0 : Int) ≤ ((ji15) : Int) := of_decide_eq_true (by first | (with_reducible assumption) | assumption)
                          have hcut40 := cut_from (P := Try.prog) 34 9 .i64 Try.underlying34 hi040 1 hsz40 Ao37 t129.length co37 (ji15) q040 q40
                          have hr40 := Kd.C_drop (m := ((ji15) : Int).toNat) (c := co37) hC40 (by omega) hroom40
                          obtain ⟨A40, hA40⟩ : ∃ A1, A1 = (if co37 = ((ji15) : Int).toNat then Ao37 else (Ao37 : Option Addr).map (·.add (((ji15) : Int).toNat * 1))) := ⟨_, rfl⟩
                          obtain ⟨c40, hc40⟩ : ∃ c1, c1 = co37 - ((ji15) : Int).toNat := ⟨_, rfl⟩
                          have hy40 : y143.length = t129.length - ((ji15) : Int).toNat := (by rw [Ny143.out, List.length_drop] <;> omega)
                          rw [show (t129).drop ((ji15) : Int).toNat = y143 from Ny143.out.symm] at hr40
                          replace hr40 : Kd.C Kd.string _ A40 y143.length y143 := (by rw [hA40]; exact hr40)
                          rw [← hy40, ← hA40, ← hc40] at hcut40
                          have HR146 := Aside0.mk hr40
                          have HC146 := Aside0.mk (show y143.length ≤ c40 from by rw [hy40, hc40]; exact Nat.sub_le_sub_right hroom40 _)
                          clear hr40 hC40 hroom40 hi040 hsz40 hc40
                          have KY40 := Aside0.mk hy40
                          have KA40 := Aside0.mk hA40
                          clear hy40 hA40
                          have KL40 := Aside0.mk (show ((ji15) : Int).toNat ≤ t129.length from by omega)
                          replace q40 := eq_true q40
                          refine start_ (n := 11) (S := fun w' => True) (ds := []) #[false, false, false, false, false, false, false, false, false, false, false] (by kernel_rfl) rfl rfl trivial (fun hHeld => ?_); refine with_tabW laws_FnSgDrop.tab7 laws_FnSgDrop.bits7 (fun HT_ HW_ => ?_)
                          generalize wc.drew = w38 at HO_5 HB HR139 HR146 hHeld ⊢
                          refine pure_ (i := 1) (N := some 30) (v := ?_) (a' := ?_) #[false, true, false, false, false, false, false, false, false, false, false] rfl rfl (any_of HT_.out (by kernel_rfl)) (fun _ _ _ h => h) (Or.inl ⟨by rfl, ?_⟩) ?_ ?_
                          rotate_left
                          · intro w'
                            go_simp
                            with_reducible rfl
                          rotate_left
                          · simp only [Act.put, List.setIfInBounds_toArray, List.set_cons_zero, List.set_cons_succ, i64_w, i32_w]
                            rfl
                          refine pure_ (i := 2) (N := some 31) (v := ?_) (a' := ?_) #[false, true, true, false, false, false, false, false, false, false, false] rfl rfl (any_of HT_.out (by kernel_rfl)) (fun _ _ _ h => h) (Or.inl ⟨by rfl, ?_⟩) ?_ ?_
                          rotate_left
                          · intro w'
                            go_simp
                            with_reducible rfl
                          rotate_left
                          · simp only [Act.put, List.setIfInBounds_toArray, List.set_cons_zero, List.set_cons_succ, i64_w, i32_w]
                            rfl
                          refine pure_ (i := 3) (N := some 32) (v := ?_) (a' := ?_) #[false, true, true, true, false, false, false, false, false, false, false] rfl rfl (any_of HT_.out (by kernel_rfl)) (fun _ _ _ h => h) (Or.inl ⟨by rfl, ?_⟩) ?_ ?_
                          rotate_left
                          · intro w'
                            go_simp
                            with_reducible rfl
                          rotate_left
                          · simp only [Act.put, List.setIfInBounds_toArray, List.set_cons_zero, List.set_cons_succ, i64_w, i32_w]
                            rfl
                          refine pure_ (i := 5) (N := some 34) (v := ?_) (a' := ?_) #[false, true, true, true, false, true, false, false, false, false, false] rfl rfl (any_of HT_.out (by kernel_rfl)) (fun _ _ _ h => h) (Or.inl ⟨by rfl, ?_⟩) ?_ ?_
                          rotate_left
                          · intro w'
                            go_simp
                            with_reducible rfl
                          rotate_left
                          · simp only [Act.put, List.setIfInBounds_toArray, List.set_cons_zero, List.set_cons_succ, i64_w, i32_w]
                            rfl
                          refine pure_ (i := 6) (N := some 35) (v := ?_) (a' := ?_) #[false, true, true, true, false, true, true, false, false, false, false] rfl rfl (any_of HT_.out (by kernel_rfl)) (fun _ _ _ h => h) (Or.inl ⟨by rfl, ?_⟩) ?_ ?_
                          rotate_left
                          · intro w'
                            go_simp
                            with_reducible rfl
                          rotate_left
                          · simp only [Act.put, List.setIfInBounds_toArray, List.set_cons_zero, List.set_cons_succ, i64_w, i32_w]
                            rfl
                          refine pure_ (i := 7) (N := some 36) (v := ?_) (a' := ?_) #[false, true, true, true, false, true, true, true, false, false, false] rfl rfl (any_of HT_.out (by kernel_rfl)) (fun _ _ _ h => h) (Or.inl ⟨by rfl, ?_⟩) ?_ ?_
                          rotate_left
                          · intro w'
                            go_simp
                            with_reducible rfl
                          rotate_left
                          · simp only [Act.put, List.setIfInBounds_toArray, List.set_cons_zero, List.set_cons_succ, i64_w, i32_w]
                            rfl
                          refine pure_ (i := 8) (N := some 37) (v := ?_) (a' := ?_) #[false, true, true, true, false, true, true, true, true, false, false] rfl rfl (any_of HT_.out (by kernel_rfl)) (fun _ _ _ h => h) (Or.inl ⟨by rfl, ?_⟩) ?_ ?_
                          rotate_left
                          · intro w'
                            go_simp
                            with_reducible rfl
                          rotate_left
                          · simp only [Act.put, List.setIfInBounds_toArray, List.set_cons_zero, List.set_cons_succ, i64_w, i32_w]
                            rfl
                          refine one_ (i := 0) (N := some 29) #[true, true, true, true, false, true, true, true, true, false, false] rfl rfl (one_of HT_.out (by kernel_rfl)) (by decide) (fun K hK => ?_)
                          refine Kd.R_lit_step Kd.string _ 9 ?hg (N := 29) ?hd (xs := ([] : List ByteArray)) (inner := []) (ok := fun _ => True) (okp := fun _ => True) ?hr ?hp (fun _ hk => hk) trivial (Below.refl _ _) (Nat.le_refl _) (by simp) ?_; (case hd => rfl); (case hg => rfl); (case hr => first | (go_simp; done) | (go_simp; rfl)); (case hp => exact (Reps.none _ _))
                          intro v134 w41 ho42 hb hg_ hnew_
                          clear hg_ hnew_
                          (first | rw [← Ny133.out] at ho42 | (simp only [Int.reduceToNat] at ho42; rw [← Ny133.out] at ho42))
                          have n0_ := Aside0.mk (Kd.R_elder' (by (with_reducible repeat (first | apply Kd.R_alloc | apply Kd.R_drewN | apply Kd.R_drew)); exact HO_5.out) (Kd.R_base ho42) hb)
                          have n1_ := Aside0.mk (Kd.R_lower (Kd.R_new' ho42 (Kd.R_lt (by (with_reducible repeat (first | apply Kd.R_alloc | apply Kd.R_drewN | apply Kd.R_drew)); exact HO_5.out))) (below_size (by repeat (first | (with_reducible first | exact HB.out | apply below_alloc | apply pw_below_drewN | apply below_drew1) | exact HB.out))))
                          have n2_ := Aside0.mk (Kd.C_below (by repeat (first | (with_reducible exact HR139.out) | (with_reducible refine Kd.C_alloc ?_ _) | (with_reducible refine Kd.C_drewN ?_ _) | (with_reducible refine Kd.C_drew ?_) | exact HR139.out)) hb)
                          have n3_ := Aside0.mk (Kd.C_below (by repeat (first | (with_reducible exact HR146.out) | (with_reducible refine Kd.C_alloc ?_ _) | (with_reducible refine Kd.C_drewN ?_ _) | (with_reducible refine Kd.C_drew ?_) | exact HR146.out)) hb)
                          have n4_ := Aside0.mk (below_step (by repeat (first | (with_reducible first | exact HB.out | apply below_alloc | apply pw_below_drewN | apply below_drew1) | exact HB.out)) hb)
                          clear HO_5
                          clear HR139
                          clear HR146
                          clear HB
                          have HO_5 := n0_
                          have HO135 := n1_
                          have HR139 := n2_
                          have HR146 := n3_
                          have HB := n4_
                          clear n0_ n1_ n2_ n3_ n4_
                          clear hb ho42
                          refine hK.out _ _ trivial (fun hHeld => ?_)
                          clear hK K
                          refine norm_ (a' := ?_) ?_ ?_
                          rotate_left
                          · show Act.put _ (some 29) _ = _
                            simp only [Act.put, List.setIfInBounds_toArray, List.set_cons_zero, List.set_cons_succ, i64_w, i32_w]
                            rfl
                          refine one_ (i := 4) (N := some 33) #[true, true, true, true, true, true, true, true, true, false, false] rfl rfl (one_of HT_.out (by kernel_rfl)) (by decide) (fun K hK => ?_)
                          refine Kd.R_append_rows_step Kd.string (w0 := w) w.heap.size (by rfl) (.tmp 29) (.tmp 32) 34 9 (.string ⟨#[]⟩) 16 rfl Try.underlying34 info9 rfl (by decide) (by omega) v134 y133 y136 _ _ _ (fun k_ => some k_ ≠ (.slice Ao37 t129.length co37 : Value).ownBlock) (fun _ => False) rfl rfl ?aO ?aR (fun _ _ h => h) (fun _ h => h.elim) ?aF ?aB ?aS ?aL ?_
                          (case aR => repeat (first | exact (by repeat (first | (with_reducible exact HR139.out) | (with_reducible refine Kd.C_alloc ?_ _) | (with_reducible refine Kd.C_drewN ?_ _) | (with_reducible refine Kd.C_drew ?_) | exact HR139.out)) | (with_reducible refine Kd.C_alloc ?_ _) | (with_reducible refine Kd.C_drewN ?_ _) | (with_reducible refine Kd.C_drew ?_)))
                          (case aB => exact (by repeat (first | (with_reducible first | exact HB.out | apply below_alloc | apply pw_below_drewN | apply below_drew1) | exact HB.out)))
                          (case aF => exact (fun k_ hk => Kd.fresh' (Kd.R_lt (by (with_reducible repeat (first | apply Kd.R_alloc | apply Kd.R_drewN | apply Kd.R_drew)); exact HO_5.out)) k_ hk))
                          (case aO => exact (by (with_reducible repeat (first | apply Kd.R_alloc | apply Kd.R_drewN | apply Kd.R_drew)); exact Kd.R_mono HO135.out (fun _ hk => hk.2)))
                          (case aS => exact (below_size (by repeat (first | (with_reducible first | exact HB.out | apply below_alloc | apply pw_below_drewN | apply below_drew1) | exact HB.out))))
                          (case aL => have := LMc14.out; omega)
                          intro v141 w43 ho hb hg hat
                          rw [← Ny140.out] at ho
                          have n0_ := Aside0.mk (Kd.R_after (ok := (fun _ => True)) (by (with_reducible repeat (first | apply Kd.R_alloc | apply Kd.R_drewN | apply Kd.R_drew)); exact HO_5.out) hg hat)
                          have n1_ := Aside0.mk (hb)
                          have n2_ := Aside0.mk ((show Kd.C Kd.string w43 Ao37 y136.length y136 from by rw [Ny136.out]; exact Kd.C_take (m := ((ji11) : Int).toNat) ((Kd.R_reads' (Kd.R_after (ok := (fun _ => True)) (by (with_reducible repeat (first | apply Kd.R_alloc | apply Kd.R_drewN | apply Kd.R_drew)); exact HO_5.out) hg hat)).2.2) KL39.out))
                          have n3_ := Aside0.mk ((show Kd.C Kd.string w43 A40 y143.length y143 from by rw [Ny143.out, KA40.out]; exact Kd.C_drop (m := ((ji15) : Int).toNat) (c := co37) ((Kd.R_reads' (Kd.R_after (ok := (fun _ => True)) (by (with_reducible repeat (first | apply Kd.R_alloc | apply Kd.R_drewN | apply Kd.R_drew)); exact HO_5.out) hg hat)).2.2) KL40.out ((Kd.R_reads' (Kd.R_after (ok := (fun _ => True)) (by (with_reducible repeat (first | apply Kd.R_alloc | apply Kd.R_drewN | apply Kd.R_drew)); exact HO_5.out) hg hat)).2.1)))
                          have n4_ := Aside0.mk (ho)
                          clear HO_5
                          clear HB
                          clear HR139
                          clear HR146
                          clear HO135
                          have HO_5 := n0_
                          have HB := n1_
                          have HR139 := n2_
                          have HR146 := n3_
                          have HO142 := n4_
                          clear n0_ n1_ n2_ n3_ n4_
                          clear ho hb hg hat
                          refine hK.out _ _ trivial (fun hHeld => ?_)
                          clear hK K
                          refine norm_ (a' := ?_) ?_ ?_
                          rotate_left
                          · show Act.put _ (some 33) _ = _
                            simp only [Act.put, List.setIfInBounds_toArray, List.set_cons_zero, List.set_cons_succ, i64_w, i32_w]
                            rfl
                          refine one_ (i := 9) (N := some 38) #[true, true, true, true, true, true, true, true, true, true, false] rfl rfl (one_of HT_.out (by kernel_rfl)) (by decide) (fun K hK => ?_)
                          refine Kd.R_append_rows_step Kd.string (w0 := w) w.heap.size (by rfl) (.tmp 33) (.tmp 37) 34 9 (.string ⟨#[]⟩) 16 rfl Try.underlying34 info9 rfl (by decide) (by omega) v141 y140 y143 _ _ _ (fun k_ => some k_ ≠ (.slice Ao37 t129.length co37 : Value).ownBlock) (fun _ => False) rfl rfl ?aO ?aR (fun _ _ h => h) (fun _ h => h.elim) ?aF ?aB ?aS ?aL ?_
                          (case aR => repeat (first | exact (by repeat (first | (with_reducible exact HR146.out) | (with_reducible refine Kd.C_alloc ?_ _) | (with_reducible refine Kd.C_drewN ?_ _) | (with_reducible refine Kd.C_drew ?_) | exact HR146.out)) | (with_reducible refine Kd.C_alloc ?_ _) | (with_reducible refine Kd.C_drewN ?_ _) | (with_reducible refine Kd.C_drew ?_)))
                          (case aB => exact (by repeat (first | (with_reducible first | exact HB.out | apply below_alloc | apply pw_below_drewN | apply below_drew1) | exact HB.out)))
                          (case aF => exact (fun k_ hk => Kd.fresh' (Kd.R_lt (by (with_reducible repeat (first | apply Kd.R_alloc | apply Kd.R_drewN | apply Kd.R_drew)); exact HO_5.out)) k_ hk))
                          (case aO => exact (by (with_reducible repeat (first | apply Kd.R_alloc | apply Kd.R_drewN | apply Kd.R_drew)); exact HO142.out))
                          (case aS => exact (below_size (by repeat (first | (with_reducible first | exact HB.out | apply below_alloc | apply pw_below_drewN | apply below_drew1) | exact HB.out))))
                          (case aL => have := LMc18.out; omega)
                          intro v148 w44 ho hb hg hat
                          rw [← Ny147.out] at ho
                          have n0_ := Aside0.mk (Kd.R_after (ok := (fun _ => True)) (by (with_reducible repeat (first | apply Kd.R_alloc | apply Kd.R_drewN | apply Kd.R_drew)); exact HO_5.out) hg hat)
                          have n1_ := Aside0.mk (hb)
                          have n2_ := Aside0.mk ((show Kd.C Kd.string w44 Ao37 y136.length y136 from by rw [Ny136.out]; exact Kd.C_take (m := ((ji11) : Int).toNat) ((Kd.R_reads' (Kd.R_after (ok := (fun _ => True)) (by (with_reducible repeat (first | apply Kd.R_alloc | apply Kd.R_drewN | apply Kd.R_drew)); exact HO_5.out) hg hat)).2.2) KL39.out))
                          have n3_ := Aside0.mk ((show Kd.C Kd.string w44 A40 y143.length y143 from by rw [Ny143.out, KA40.out]; exact Kd.C_drop (m := ((ji15) : Int).toNat) (c := co37) ((Kd.R_reads' (Kd.R_after (ok := (fun _ => True)) (by (with_reducible repeat (first | apply Kd.R_alloc | apply Kd.R_drewN | apply Kd.R_drew)); exact HO_5.out) hg hat)).2.2) KL40.out ((Kd.R_reads' (Kd.R_after (ok := (fun _ => True)) (by (with_reducible repeat (first | apply Kd.R_alloc | apply Kd.R_drewN | apply Kd.R_drew)); exact HO_5.out) hg hat)).2.1)))
                          have n4_ := Aside0.mk (ho)
                          clear HO_5
                          clear HB
                          clear HR139
                          clear HR146
                          clear HO142
                          have HO_5 := n0_
                          have HB := n1_
                          have HR139 := n2_
                          have HR146 := n3_
                          have HO149 := n4_
                          clear n0_ n1_ n2_ n3_ n4_
                          clear ho hb hg hat
                          refine hK.out _ _ trivial (fun hHeld => ?_)
                          clear hK K
                          refine norm_ (a' := ?_) ?_ ?_
                          rotate_left
                          · show Act.put _ (some 38) _ = _
                            simp only [Act.put, List.setIfInBounds_toArray, List.set_cons_zero, List.set_cons_succ, i64_w, i32_w]
                            rfl
                          refine pure_ (i := 10) (N := some 8) (v := ?_) (a' := ?_) #[true, true, true, true, true, true, true, true, true, true, true] rfl rfl (any_of HT_.out (by kernel_rfl)) (fun _ _ _ h => h) (Or.inl ⟨by rfl, ?_⟩) ?_ ?_
                          rotate_left
                          · intro w'
                            go_simp
                            with_reducible rfl
                          rotate_left
                          · simp only [Act.put, List.setIfInBounds_toArray, List.set_cons_zero, List.set_cons_succ, i64_w, i32_w]
                            rfl
                          refine done_ (done_of HT_.out (by kernel_rfl)) ?_
                          obtain ⟨Ao45, co45, eo45⟩ := Kd.R_slice HO149.out
                          subst eo45
                          try go_wp2_with (first | ((with_reducible refine gate_callee (f := 18) rfl ?_); refine goesL_ (some 40) rfl rfl Try.func18 (by kernel_rfl) rfl #[.slice Ao45 y147.length co45, .string (⟨#[]⟩ : ByteArray)] rfl (by (try simp only [List.map_toArray, List.map_cons, List.map_nil]); first | done | rfl | (simp only [List.length_drop, List.length_take]; rfl)) ?_; (with_reducible refine (spec_Joined.calls kj4 _ _ y147 (⟨#[]⟩ : ByteArray) t150 _ ?side1 ?side2 A19.out).mono ?_); (case side1 => repeat (first | exact (Kd.R_reads' HO149.out).2.2 | (with_reducible refine Kd.C_alloc ?_ _) | (with_reducible refine Kd.C_drewN ?_ _) | (with_reducible refine Kd.C_drew ?_))); (case side2 => exact (Kd.R_reads' HO149.out).2.1); rintro e w' ⟨rfl, ⟨nd, rfl⟩⟩; refine ⟨_, rfl, ?_⟩) | ((with_reducible refine gate_callee (f := 17) rfl ?_); refine goesL_ (some 42) rfl rfl Try.func17 (by kernel_rfl) rfl #[.string t150, .slice Ao45 y147.length co45] rfl (by (try simp only [List.map_toArray, List.map_cons, List.map_nil]); first | done | rfl | (simp only [List.length_drop, List.length_take]; rfl)) ?_; (with_reducible refine (laws_sgWalk.calls kj4 t150 _ _ y147 false _ ?side1 ?side2 A20.out).mono ?_); (case side1 => repeat (first | exact (Kd.R_reads' HO149.out).2.2 | (with_reducible refine Kd.C_alloc ?_ _) | (with_reducible refine Kd.C_drewN ?_ _) | (with_reducible refine Kd.C_drew ?_))); (case side2 => exact (Kd.R_reads' HO149.out).2.1); rintro e w46 ⟨rfl, hb⟩; refine ⟨_, rfl, ?_⟩; have n0_ := Aside0.mk (Kd.R_below (by (with_reducible repeat (first | apply Kd.R_alloc | apply Kd.R_drewN | apply Kd.R_drew)); exact HO_5.out) hb); have n1_ := Aside0.mk (Kd.R_below (by (with_reducible repeat (first | apply Kd.R_alloc | apply Kd.R_drewN | apply Kd.R_drew)); exact HO149.out) hb); have n2_ := Aside0.mk (Kd.C_below (by repeat (first | (with_reducible exact HR139.out) | (with_reducible refine Kd.C_alloc ?_ _) | (with_reducible refine Kd.C_drewN ?_ _) | (with_reducible refine Kd.C_drew ?_) | exact HR139.out)) hb); have n3_ := Aside0.mk (Kd.C_below (by repeat (first | (with_reducible exact HR146.out) | (with_reducible refine Kd.C_alloc ?_ _) | (with_reducible refine Kd.C_drewN ?_ _) | (with_reducible refine Kd.C_drew ?_) | exact HR146.out)) hb); have n4_ := Aside0.mk (below_step (by repeat (first | (with_reducible first | exact HB.out | apply below_alloc | apply pw_below_drewN | apply below_drew1) | exact HB.out)) hb); clear HO_5; clear HO149; clear HR139; clear HR146; clear HB; have HO_5 := n0_; have HO149 := n1_; have HR139 := n2_; have HR146 := n3_; have HB := n4_; clear n0_ n1_ n2_ n3_ n4_; (try clear hb); (try clear hb2); (try clear hk); (try clear hi)))
                          go_ret
                          exact ⟨by first | rfl | (simp [errW_none, errW_some] <;> rfl) | (simp only [← hji11, ← hji15]; first | rfl | (simp [errW_none, errW_some] <;> rfl)) | (simp [*, errW_none, errW_some] <;> rfl) | (simp (disch := omega) only [wrap64_id] <;> rfl), by repeat (first | (with_reducible first | exact HB.out | apply below_alloc | apply pw_below_drewN | apply below_drew1) | exact HB.out)⟩
                      · rw [if_neg c18] at H
                        exact absurd H (by simp)
                    · rw [if_neg c17] at H
                      exact absurd H (by simp)
                  · rw [if_neg c16] at H
                    exact absurd H (by simp)
                · rw [if_neg c14] at H
                  exact absurd H (by simp)
              · rw [if_neg c13] at H
                exact absurd H (by simp)
            · rw [if_neg c12] at H
              exact absurd H (by simp)

/-- THE ONE PURE STATEMENT of laws_FnSgDrop: yours. -/
def laws_FnSgDrop.Pure : Prop := ∀ (a0 : ByteArray) (a1 : Int), a0.size ≤ 140737488351232 → (Lit.int .u8 a1).wf = true → ∃ k, laws_FnSgDrop.f k a0 a1 = some true
theorem laws_FnSgDrop.walk (P : laws_FnSgDrop.Pure) (a0 : ByteArray) (a1 : Int) (w : World) (w0 : a0.size ≤ 140737488351232) (w1 : (Lit.int .u8 a1).wf = true) :
    Calls Try.prog 7 #[.string a0, .int .u8 a1] w fun e w' => e = .returned (.bool true) ∧ Below w.heap.size w w' := by
  obtain ⟨k, h⟩ := P a0 a1 w0 w1
  refine (laws_FnSgDrop.calls k a0 a1 true w h).mono ?_
  rintro e w' ⟨rfl, hd⟩
  exact ⟨rfl, hd⟩

end Go.Proofs.Ytfipimoemhbnlaa.MFnSgDrop
