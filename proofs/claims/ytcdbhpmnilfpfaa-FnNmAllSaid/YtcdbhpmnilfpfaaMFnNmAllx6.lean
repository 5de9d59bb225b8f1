-- Written by a program of this session (myprint.py, out of the translation). Not trusted: Lean checks it.
import Derived.Test.YtcdbhpmnilfpfaaMFnNmAllx0
import Derived.Test.YtcdbhpmnilfpfaaMFnNmAllx1
import Derived.Test.YtcdbhpmnilfpfaaMFnNmAllx5
namespace Go.Proofs.Ytcdbhpmnilfpfaa.MFnNmAll
open Go.RowKit Go.Proofs.YtcdbhpmnilfpfaaW.PrintWords Go.Proofs.YtcdbhpmnilfpfaaW.PrintLast Go.Proofs.YtcdbhpmnilfpfaaW.PrintMore
attribute [local go_sem] max2_int min2_int max_two min_two max_three min_three max_four min_four   -- for this text's walks alone
set_option linter.unusedVariables false
set_option linter.unusedSimpArgs false

/-! ### dbus_ObjectPath_IsValid: function 15 -/
-- GIVENTEXT
theorem dbus_ObjectPath_IsValid.own_iter {w : World} {base : Nat} {e : TypeId} {size n : Nat} {v : Value} {xs : List Value} (h : w.ownsRow base e size v n xs) {k : Nat} {s : ByteArray} {pos : Nat} (hk : w.heap[k]? = some (.stringIter s pos)) (pos' : Nat) : (w.iterAt k s pos').ownsRow base e size v n xs := by
  refine ⟨h.1, ?_⟩
  rcases h.2 with hn | ⟨g, cap, cur, hv, hb, hg, rest⟩
  · exact .inl hn
  · refine .inr ⟨g, cap, cur, hv, hb, ?_, rest⟩
    rw [Lib.iterAt_other _ _ _ _ _ (by intro q; rw [q, hk] at hg; cases hg)]
    exact hg
theorem dbus_ObjectPath_IsValid.r_iter {w : World} {base e : Nat} {v : Value} {xs : List ByteArray} (h : Kd.R Kd.string e w base (fun _ => True) v xs) {k : Nat} {s : ByteArray} {pos : Nat} (hk : w.heap[k]? = some (.stringIter s pos)) (pos' : Nat) : Kd.R Kd.string e (w.iterAt k s pos') base (fun _ => True) v xs :=
  Kd.R_of_own (dbus_ObjectPath_IsValid.own_iter (Kd.own_of_R h) hk pos') (fun _ _ => trivial)
mutual
def dbus_ObjectPath_IsValid.j0 : Nat → ByteArray → Bool → Option (Bool)
  | 0, _, _ => none
  | k + 1, x3, x26 => if x26 = true then (some false) else (if x3.toList = ([47] : List UInt8) then (some true) else (if 1 ≤ (x3.size : Int) then ((dbus_zzSplit.f k (x3.extract 1 x3.size) (⟨#[47]⟩ : ByteArray)).bind fun t114 => (dbus_ObjectPath_IsValid.l0 k t114 (t114.length : Int) 0)) else (none)))
def dbus_ObjectPath_IsValid.l0 : Nat → List ByteArray → Int → Int → Option (Bool)
  | 0, _, _, _ => none
  | k + 1, x32, x33, x34 => if x34 < x33 then (if 0 ≤ x34 then (if x34 < (x32.length : Int) then (if ((rdOf ByteArray.empty x32 x34).size : Int) = 0 then (some false) else (dbus_ObjectPath_IsValid.l1 k x32 x33 x34 (rdOf ByteArray.empty x32 x34) 0)) else (none)) else (none)) else (some true)
def dbus_ObjectPath_IsValid.l1 : Nat → List ByteArray → Int → Int → ByteArray → Int → Option (Bool)
  | 0, _, _, _, _, _ => none
  | k + 1, x32, x33, x34, x41, x42 => if x42.toNat < x41.size then ((dbus_isMemberChar.f ((Utf8.decode x41 x42.toNat).1 : Int)).bind fun t118 => (if t118 = true then (dbus_ObjectPath_IsValid.l1 k x32 x33 x34 x41 ((x42.toNat + (Utf8.decode x41 x42.toNat).2 : Nat) : Int)) else (some false))) else (dbus_ObjectPath_IsValid.l0 k x32 x33 (wrap64 (x34 + 1)))
end
def dbus_ObjectPath_IsValid.f (k : Nat) (a0 : ByteArray) : Option (Bool) := if (a0.size : Int) = 0 then (some false) else (if 0 < (a0.size : Int) then (if (bt a0 0) = 47 then (if 0 ≤ (wrap64 ((a0.size : Int) - 1)) then (if (wrap64 ((a0.size : Int) - 1)) < (a0.size : Int) then (if (bt a0 (wrap64 ((a0.size : Int) - 1))) = 47 then (dbus_ObjectPath_IsValid.j0 k a0 ((a0.size : Int) != 1)) else (dbus_ObjectPath_IsValid.j0 k a0 false)) else (none)) else (none)) else (some false)) else (none))
theorem dbus_ObjectPath_IsValid.mono_l : ∀ k, (∀ y0 y1, LeO (dbus_ObjectPath_IsValid.j0 k y0 y1) (dbus_ObjectPath_IsValid.j0 (k + 1) y0 y1)) ∧ (∀ y0 y1 y2, LeO (dbus_ObjectPath_IsValid.l0 k y0 y1 y2) (dbus_ObjectPath_IsValid.l0 (k + 1) y0 y1 y2)) ∧ (∀ y0 y1 y2 y3 y4, LeO (dbus_ObjectPath_IsValid.l1 k y0 y1 y2 y3 y4) (dbus_ObjectPath_IsValid.l1 (k + 1) y0 y1 y2 y3 y4))
  | 0 => ⟨fun _ _ r h => by simp [dbus_ObjectPath_IsValid.j0] at h, fun _ _ _ r h => by simp [dbus_ObjectPath_IsValid.l0] at h, fun _ _ _ _ _ r h => by simp [dbus_ObjectPath_IsValid.l1] at h⟩
  | k + 1 => by
    obtain ⟨ih0, ih1, ih2⟩ := dbus_ObjectPath_IsValid.mono_l k
    refine ⟨?_, ?_, ?_⟩
    · intro y0 y1
      unfold dbus_ObjectPath_IsValid.j0
      repeat' first
      | (with_reducible exact ih0 _ _)
      | (with_reducible exact ih1 _ _ _)
      | (with_reducible exact ih2 _ _ _ _ _)
      | (with_reducible exact dbus_zzSplit.mono _ _ _)
      | (with_reducible exact LeO.refl _)
      | (with_reducible exact LeO.none _)
      | (with_reducible refine LeO.ite ?_ ?_)
      | (with_reducible refine LeO.bind ?_ (fun _ => ?_))
      | exact ih0 _ _
      | exact ih1 _ _ _
      | exact ih2 _ _ _ _ _
      | exact dbus_zzSplit.mono _ _ _
      | exact LeO.none _
      | refine LeO.ite ?_ ?_
      | refine LeO.bind ?_ (fun _ => ?_)
    · intro y0 y1 y2
      unfold dbus_ObjectPath_IsValid.l0
      repeat' first
      | (with_reducible exact ih0 _ _)
      | (with_reducible exact ih1 _ _ _)
      | (with_reducible exact ih2 _ _ _ _ _)
      | (with_reducible exact dbus_zzSplit.mono _ _ _)
      | (with_reducible exact LeO.refl _)
      | (with_reducible exact LeO.none _)
      | (with_reducible refine LeO.ite ?_ ?_)
      | (with_reducible refine LeO.bind ?_ (fun _ => ?_))
      | exact ih0 _ _
      | exact ih1 _ _ _
      | exact ih2 _ _ _ _ _
      | exact dbus_zzSplit.mono _ _ _
      | exact LeO.none _
      | refine LeO.ite ?_ ?_
      | refine LeO.bind ?_ (fun _ => ?_)
    · intro y0 y1 y2 y3 y4
      unfold dbus_ObjectPath_IsValid.l1
      repeat' first
      | (with_reducible exact ih0 _ _)
      | (with_reducible exact ih1 _ _ _)
      | (with_reducible exact ih2 _ _ _ _ _)
      | (with_reducible exact dbus_zzSplit.mono _ _ _)
      | (with_reducible exact LeO.refl _)
      | (with_reducible exact LeO.none _)
      | (with_reducible refine LeO.ite ?_ ?_)
      | (with_reducible refine LeO.bind ?_ (fun _ => ?_))
      | exact ih0 _ _
      | exact ih1 _ _ _
      | exact ih2 _ _ _ _ _
      | exact dbus_zzSplit.mono _ _ _
      | exact LeO.none _
      | refine LeO.ite ?_ ?_
      | refine LeO.bind ?_ (fun _ => ?_)
theorem dbus_ObjectPath_IsValid.mono : ∀ a0 k, LeO (dbus_ObjectPath_IsValid.f k a0) (dbus_ObjectPath_IsValid.f (k + 1) a0) := by
  intro a0 k
  obtain ⟨ih0, ih1, ih2⟩ := dbus_ObjectPath_IsValid.mono_l k
  unfold dbus_ObjectPath_IsValid.f
  repeat' first
      | (with_reducible exact ih0 _ _)
      | (with_reducible exact ih1 _ _ _)
      | (with_reducible exact ih2 _ _ _ _ _)
      | (with_reducible exact dbus_zzSplit.mono _ _ _)
      | (with_reducible exact LeO.refl _)
      | (with_reducible exact LeO.none _)
      | (with_reducible refine LeO.ite ?_ ?_)
      | (with_reducible refine LeO.bind ?_ (fun _ => ?_))
      | exact ih0 _ _
      | exact ih1 _ _ _
      | exact ih2 _ _ _ _ _
      | exact dbus_zzSplit.mono _ _ _
      | exact LeO.none _
      | refine LeO.ite ?_ ?_
      | refine LeO.bind ?_ (fun _ => ?_)
set_option maxHeartbeats 8000000 in
set_option maxRecDepth 100000 in
theorem dbus_ObjectPath_IsValid.calls (k : Nat) (a0 : ByteArray) (r : Bool) (w : World) (h : dbus_ObjectPath_IsValid.f k a0 = some r) :
    Calls Try.prog 15 #[.string a0] w fun e w' => e = .returned (.bool r) ∧ Below w.heap.size w w' := by
  have HB := Aside0.mk (Below.refl w.heap.size w)
  have H : (if (a0.size : Int) = 0 then (some false) else (if 0 < (a0.size : Int) then (if (bt a0 0) = 47 then (if 0 ≤ (wrap64 ((a0.size : Int) - 1)) then (if (wrap64 ((a0.size : Int) - 1)) < (a0.size : Int) then (if (bt a0 (wrap64 ((a0.size : Int) - 1))) = 47 then (dbus_ObjectPath_IsValid.j0 k a0 ((a0.size : Int) != 1)) else (dbus_ObjectPath_IsValid.j0 k a0 false)) else (none)) else (none)) else (some false)) else (none))) = some r := h
  clear h
  by_cases c2 : (a0.size : Int) = 0
  · rw [if_pos c2] at H
    have c2b0 : ((a0.size : Int) == 0) = true := beq_iff_eq.mpr c2
    have c2b1 : ((a0.size : Int) != 0) = false := bne_eq_false_iff_eq.mpr c2
    clear c2
    obtain rfl := Option.some.inj H
    go_enter Try.func15, Try.ntmps15
    go_wp2
    go_ret
    exact ⟨by first | rfl | (simp [errW_none, errW_some] <;> rfl) | (simp [*, errW_none, errW_some] <;> rfl) | (simp (disch := omega) only [wrap64_id] <;> rfl), by repeat (first | (with_reducible first | exact HB.out | apply below_alloc | apply pw_below_drewN | apply below_drew1) | exact HB.out)⟩
  · rw [if_neg c2] at H
    have c2b0 : ((a0.size : Int) == 0) = false := beq_eq_false_iff_ne.mpr c2
    have c2b1 : ((a0.size : Int) != 0) = true := bne_iff_ne.mpr c2
    by_cases c3 : 0 < (a0.size : Int)
    · rw [if_pos c3] at H
      have c3b0 : decide (0 < (a0.size : Int)) = true := decide_eq_true c3
      have c3b1 : decide (0 < a0.size) = true := decide_eq_true (by omega)
      clear c3
      by_cases c5 : (bt a0 0) = 47
      · rw [if_pos c5] at H
        have c5b0 : ((bt a0 0) == 47) = true := beq_iff_eq.mpr c5
        have c5b1 : ((bt a0 0) != 47) = false := bne_eq_false_iff_eq.mpr c5
        clear c5
        have HC6 := Aside0.mk H
        clear H
        have p4 : 0 ≤ (0 : Int) := (by omega)
        have q4 : 0 < a0.size := (by have : (0 : Int) < (a0.size : Int) := of_decide_eq_true (by first | (with_reducible assumption) | assumption); omega)
        have hx4 : ∀ h : 0 < a0.size, ((a0[0]'h).toNat : Int) = bt a0 0 := bt_at a0 0
        clear p4
        have qi4 : (0 < (a0.size : Int)) = True := eq_true (of_decide_eq_true (by first | (with_reducible assumption) | assumption))
        replace q4 := eq_true q4
        go_enter Try.func15, Try.ntmps15
        go_upto_region 6 with (fail)
        go_cut [26] (fun v26 wc => ∃ (kq : Nat) (x26_5 : Bool), v26 = .bool x26_5 ∧ Aside0 (dbus_ObjectPath_IsValid.j0 kq a0 x26_5 = some r) ∧ Aside0 (kq ≤ k) ∧ Aside0 (Below w.heap.size w wc))
        case first =>
          have H := HC6.out
          clear HC6
          obtain ⟨ji7, hji7⟩ : ∃ j_ : Int, (wrap64 ((a0.size : Int) - 1)) = j_ := ⟨_, rfl⟩
          replace H : (if 0 ≤ (ji7) then (if (ji7) < (a0.size : Int) then (if (bt a0 (ji7)) = 47 then (dbus_ObjectPath_IsValid.j0 k a0 ((a0.size : Int) != 1)) else (dbus_ObjectPath_IsValid.j0 k a0 false)) else (none)) else (none)) = some r := by first | (rw [hji7] at H; exact H) | (simp only [hji7] at H ⊢; exact H)
          have hji7w : (IntKind.i64.wrap ((a0.size : Int) - 1)) = ji7 := (i64_w _).trans hji7
          by_cases c8 : 0 ≤ (ji7)
          · rw [if_pos c8] at H
            have c8b0 : decide (0 ≤ (ji7)) = true := decide_eq_true c8
            clear c8
            (first | rw [c8b0] | (simp only [i64_w, i32_w]; rw [c8b0]) | skip)
            by_cases c9 : (ji7) < (a0.size : Int)
            · rw [if_pos c9] at H
              have c9b0 : decide ((ji7) < (a0.size : Int)) = true := decide_eq_true c9
              clear c9
              by_cases c11 : (bt a0 (ji7)) = 47
              · rw [if_pos c11] at H
                have c11b0 : ((bt a0 (ji7)) == 47) = true := beq_iff_eq.mpr c11
                have c11b1 : ((bt a0 (ji7)) != 47) = false := bne_eq_false_iff_eq.mpr c11
                clear c11
                have H' := Aside0.mk H
                clear H
                have p10 : 0 ≤ ((ji7) : Int) := of_decide_eq_true (by first | (with_reducible assumption) | assumption)
                have q10 : (ji7) < (a0.size : Int) := of_decide_eq_true (by first | (with_reducible assumption) | assumption)
                have hx10 := bt_at a0 (ji7)
                replace p10 := eq_true p10
                replace q10 := eq_true q10
                go_wp2
                go_meet
                case rel => exact ⟨_, (((a0.size : Int) != 1)), (by first | rfl | (simp; done) | (simp [*]; done)), H', ⟨by first | omega | exact Nat.le_refl _⟩, ⟨by repeat (first | (with_reducible first | exact HB.out | apply below_alloc | apply pw_below_drewN | apply below_drew1) | exact HB.out)⟩⟩
              · rw [if_neg c11] at H
                have c11b0 : ((bt a0 (ji7)) == 47) = false := beq_eq_false_iff_ne.mpr c11
                have c11b1 : ((bt a0 (ji7)) != 47) = true := bne_iff_ne.mpr c11
                have H' := Aside0.mk H
                clear H
                have p10 : 0 ≤ ((ji7) : Int) := of_decide_eq_true (by first | (with_reducible assumption) | assumption)
                have q10 : (ji7) < (a0.size : Int) := of_decide_eq_true (by first | (with_reducible assumption) | assumption)
                have hx10 := bt_at a0 (ji7)
                replace p10 := eq_true p10
                replace q10 := eq_true q10
                go_wp2
                go_meet
                case rel => exact ⟨_, (false), (by first | rfl | (simp; done) | (simp [*]; done)), H', ⟨by first | omega | exact Nat.le_refl _⟩, ⟨by repeat (first | (with_reducible first | exact HB.out | apply below_alloc | apply pw_below_drewN | apply below_drew1) | exact HB.out)⟩⟩
            · rw [if_neg c9] at H
              exact absurd H (by simp)
          · rw [if_neg c8] at H
            exact absurd H (by simp)
        case rest =>
          clear HC6
          try clear c1
          try clear p1
          try clear q1
          try clear hx1
          try clear c2
          try clear c2b0
          try clear c2b1
          try clear p2
          try clear c3
          try clear c3b0
          try clear c3b1
          try clear p4
          try clear q4
          try clear hx4
          try clear qi4
          try clear c5
          try clear c5b0
          try clear c5b1
          try clear p6
          try clear c8
          try clear c8b0
          try clear c9
          try clear c9b0
          try clear p10
          try clear q10
          try clear hx10
          try clear c11
          try clear c11b0
          try clear c11b1
          try clear p10
          try clear p4
          try clear q10
          try clear q4
          obtain ⟨kq, x26_5, rfl, HA, HJ5, HB⟩ := hcut
          cases kq with
          | zero => exact absurd HA.out (by simp [dbus_ObjectPath_IsValid.j0])
          | succ kj5 =>
            have H := HA.out
            clear HA
            simp only [dbus_ObjectPath_IsValid.j0] at H
            by_cases c12 : x26_5 = true
            · subst c12
              have H1 : (some false) = some r := by rw [if_pos rfl] at H; exact H
              clear H
              have H := H1
              clear H1
              obtain rfl := Option.some.inj H
              go_wp2
              go_ret
              exact ⟨by first | rfl | (simp [errW_none, errW_some] <;> rfl) | (simp [*, errW_none, errW_some] <;> rfl) | (simp (disch := omega) only [wrap64_id] <;> rfl), by repeat (first | (with_reducible first | exact HB.out | apply below_alloc | apply pw_below_drewN | apply below_drew1) | exact HB.out)⟩
            · replace c12 := Bool.eq_false_iff.mpr c12
              subst c12
              have H1 : (if a0.toList = ([47] : List UInt8) then (some true) else (if 1 ≤ (a0.size : Int) then ((dbus_zzSplit.f kj5 (a0.extract 1 a0.size) (⟨#[47]⟩ : ByteArray)).bind fun t114 => (dbus_ObjectPath_IsValid.l0 kj5 t114 (t114.length : Int) 0)) else (none))) = some r := by rw [if_neg (show ¬ (false = true) by decide)] at H; exact H
              clear H
              have H := H1
              clear H1
              by_cases c13 : a0.toList = ([47] : List UInt8)
              · rw [if_pos c13] at H
                have c13b0 : (a0.toList == ([47] : List UInt8)) = true := beq_iff_eq.mpr c13
                have c13b1 : (a0.toList != ([47] : List UInt8)) = false := bne_eq_false_iff_eq.mpr c13
                clear c13
                obtain rfl := Option.some.inj H
                go_wp2
                go_ret
                exact ⟨by first | rfl | (simp [errW_none, errW_some] <;> rfl) | (simp [*, errW_none, errW_some] <;> rfl) | (simp (disch := omega) only [wrap64_id] <;> rfl), by repeat (first | (with_reducible first | exact HB.out | apply below_alloc | apply pw_below_drewN | apply below_drew1) | exact HB.out)⟩
              · rw [if_neg c13] at H
                have c13b0 : (a0.toList == ([47] : List UInt8)) = false := beq_eq_false_iff_ne.mpr c13
                have c13b1 : (a0.toList != ([47] : List UInt8)) = true := bne_iff_ne.mpr c13
                by_cases c14 : 1 ≤ (a0.size : Int)
                · rw [if_pos c14] at H
                  have c14b0 := eq_true c14
                  have c14b1 : decide (1 ≤ (a0.size : Int)) = true := decide_eq_true c14
                  clear c14
                  replace H := Option.bind_eq_some_iff.mp H
                  obtain ⟨t114, A150, H⟩ := H
                  replace H : (dbus_ObjectPath_IsValid.l0 kj5 t114 (t114.length : Int) 0) = some r := H
                  have A15 := Aside0.mk A150
                  clear A150
                  have H' := Aside0.mk H
                  clear H
                  go_wp2_with (first | ((with_reducible refine gate_callee (f := 20) rfl ?_); refine goesL_ (some 31) rfl rfl Try.func20 (by kernel_rfl) rfl #[.string (a0.extract 1 a0.size), .string (⟨#[47]⟩ : ByteArray)] rfl (by (try simp only [List.map_toArray, List.map_cons, List.map_nil]); first | done | rfl | (simp only [List.length_drop, List.length_take]; rfl)) ?_; (with_reducible refine (dbus_zzSplit.calls kj5 (a0.extract 1 a0.size) (⟨#[47]⟩ : ByteArray) t114 _ A15.out).mono ?_); rintro e w16 ⟨v115, rfl, ho0, hb⟩; refine ⟨_, rfl, ?_⟩; have n0_ := Aside0.mk (Kd.R_lower ho0 (below_size (by repeat (first | (with_reducible first | exact HB.out | apply below_alloc | apply pw_below_drewN | apply below_drew1) | exact HB.out)))); have n1_ := Aside0.mk (below_step (by repeat (first | (with_reducible first | exact HB.out | apply below_alloc | apply pw_below_drewN | apply below_drew1) | exact HB.out)) hb); clear HB; have HO116 := n0_; have HB := n1_; clear n0_ n1_; (try clear hb); (try clear hb2); (try clear hk); (try clear hi); (try clear ho0); obtain ⟨Ao17, co17, eo17⟩ := Kd.R_slice HO116.out; subst eo17))
                  go_loopg [34] kj5 (fun kq v34 w' => ∃ (x34_2 : Int), v34 = .int .i64 x34_2 ∧ Aside0 (dbus_ObjectPath_IsValid.l0 kq t114 (t114.length : Int) x34_2 = some r) ∧ Aside0 (kq ≤ kj5) ∧ Aside0 (Kd.R Kd.string 9 w' w.heap.size (fun _ => True) (.slice Ao17 t114.length co17) t114) ∧ Aside0 (Below w.heap.size w w'))
                  case atStart => exact ⟨(0), (by first | rfl | (simp; done) | (simp [*]; done)), H', ⟨Nat.le_refl _⟩, ⟨by (with_reducible repeat (first | apply Kd.R_alloc | apply Kd.R_drewN | apply Kd.R_drew)); exact HO116.out⟩, ⟨by repeat (first | (with_reducible first | exact HB.out | apply below_alloc | apply pw_below_drewN | apply below_drew1) | exact HB.out)⟩⟩
                  case round =>
                    clear H'
                    try clear c1
                    try clear p1
                    try clear q1
                    try clear hx1
                    try clear c2
                    try clear c2b0
                    try clear c2b1
                    try clear p2
                    try clear c3
                    try clear c3b0
                    try clear c3b1
                    try clear p4
                    try clear q4
                    try clear hx4
                    try clear qi4
                    try clear c5
                    try clear c5b0
                    try clear c5b1
                    try clear p6
                    try clear c8
                    try clear c8b0
                    try clear c9
                    try clear c9b0
                    try clear p10
                    try clear q10
                    try clear hx10
                    try clear c11
                    try clear c11b0
                    try clear c11b1
                    try clear c12
                    try clear c13
                    try clear c13b0
                    try clear c13b1
                    try clear c14
                    try clear c14b0
                    try clear c14b1
                    try clear c15
                    try clear p1
                    try clear p10
                    try clear p2
                    try clear p4
                    try clear p6
                    try clear q1
                    try clear q10
                    try clear q4
                    obtain ⟨x34_2, rfl, HA, HK2, HO_32, HB⟩ := hrel
                    cases gk with
                    | zero => exact absurd HA.out (by simp [dbus_ObjectPath_IsValid.l0])
                    | succ k2 =>
                      have H := HA.out
                      clear HA
                      simp only [dbus_ObjectPath_IsValid.l0] at H
                      by_cases c18 : x34_2 < (t114.length : Int)
                      · rw [if_pos c18] at H
                        have c18b0 : decide (x34_2 < (t114.length : Int)) = true := decide_eq_true c18
                        clear c18
                        by_cases c19 : 0 ≤ x34_2
                        · rw [if_pos c19] at H
                          have c19b0 : decide (0 ≤ x34_2) = true := decide_eq_true c19
                          clear c19
                          by_cases c20 : x34_2 < (t114.length : Int)
                          · rw [if_pos c20] at H
                            have c20b0 : decide (x34_2 < (t114.length : Int)) = true := decide_eq_true c20
                            clear c20
                            by_cases c21 : ((rdOf ByteArray.empty t114 x34_2).size : Int) = 0
                            · rw [if_pos c21] at H
                              have c21b0 : (((rdOf ByteArray.empty t114 x34_2).size : Int) == 0) = true := beq_iff_eq.mpr c21
                              have c21b1 : (((rdOf ByteArray.empty t114 x34_2).size : Int) != 0) = false := bne_eq_false_iff_eq.mpr c21
                              clear c21
                              obtain rfl := Option.some.inj H
                              have p117 : 0 ≤ (x34_2 : Int) := of_decide_eq_true (by first | (with_reducible assumption) | assumption)
                              have q117 : x34_2 < (t114.length : Int) := of_decide_eq_true (by first | (with_reducible assumption) | assumption)
                              obtain ⟨ad117, e117, hx117_0⟩ := Kd.at_string (Kd.R_reads' HO_32.out).2.2 x34_2 p117 q117
                              cases e117
                              replace p117 := eq_true p117
                              replace q117 := eq_true q117
                              go_wp2
                              go_ret
                              exact ⟨by first | rfl | (simp [errW_none, errW_some] <;> rfl) | (simp [*, errW_none, errW_some] <;> rfl) | (simp (disch := omega) only [wrap64_id] <;> rfl), by repeat (first | (with_reducible first | exact HB.out | apply below_alloc | apply pw_below_drewN | apply below_drew1) | exact HB.out)⟩
                            · rw [if_neg c21] at H
                              have c21b0 : (((rdOf ByteArray.empty t114 x34_2).size : Int) == 0) = false := beq_eq_false_iff_ne.mpr c21
                              have c21b1 : (((rdOf ByteArray.empty t114 x34_2).size : Int) != 0) = true := bne_iff_ne.mpr c21
                              have H' := Aside0.mk H
                              clear H
                              have p117 : 0 ≤ (x34_2 : Int) := of_decide_eq_true (by first | (with_reducible assumption) | assumption)
                              have q117 : x34_2 < (t114.length : Int) := of_decide_eq_true (by first | (with_reducible assumption) | assumption)
                              obtain ⟨ad117, e117, hx117_0⟩ := Kd.at_string (Kd.R_reads' HO_32.out).2.2 x34_2 p117 q117
                              cases e117
                              replace p117 := eq_true p117
                              replace q117 := eq_true q117
                              go_wp2
                              generalize hib : wr.heap.size = ib
                              have HSZ : Aside0 (w.heap.size ≤ ib) := ⟨by rw [← hib]; exact below_size HB.out⟩
                              generalize hvv : rdOf ByteArray.empty t114 x34_2 = vv at *
                              go_loopg [] k2 (fun kq w' => ∃ (pos : Nat), Aside0 (dbus_ObjectPath_IsValid.l1 kq t114 (t114.length : Int) x34_2 vv (pos : Int) = some r) ∧ Aside0 (kq ≤ k2) ∧ Aside0 (w'.heap[ib]? = some (.stringIter vv pos)) ∧ Aside0 (Kd.R Kd.string 9 w' w.heap.size (fun _ => True) (.slice (some ad117) t114.length co17) t114) ∧ Aside0 (Below w.heap.size w w'))
                              case atStart => exact ⟨0, H', ⟨Nat.le_refl _⟩, ⟨by rw [← hib]; exact World.iter_heap _ _ _⟩, ⟨by first | exact Kd.R_alloc HO_32.out _ | (apply Kd.R_alloc (w := wr); exact HO_32.out)⟩, ⟨by first | exact below_alloc HB.out _ | exact HB.out.alloc _⟩⟩
                              case round =>
                                clear H' hib hvv
                                try clear c1
                                try clear p1
                                try clear q1
                                try clear hx1
                                try clear c2
                                try clear c2b0
                                try clear c2b1
                                try clear p2
                                try clear c3
                                try clear c3b0
                                try clear c3b1
                                try clear p4
                                try clear q4
                                try clear hx4
                                try clear qi4
                                try clear c5
                                try clear c5b0
                                try clear c5b1
                                try clear p6
                                try clear c8
                                try clear c8b0
                                try clear c9
                                try clear c9b0
                                try clear p10
                                try clear q10
                                try clear hx10
                                try clear c11
                                try clear c11b0
                                try clear c11b1
                                try clear p11
                                try clear q11
                                try clear hx11
                                try clear c12
                                try clear c13
                                try clear c13b0
                                try clear c13b1
                                try clear c14
                                try clear c14b0
                                try clear c14b1
                                try clear c15
                                try clear c18
                                try clear c18b0
                                try clear c19
                                try clear c19b0
                                try clear c20
                                try clear c20b0
                                try clear c21
                                try clear c21b0
                                try clear c21b1
                                try clear hx117_0
                                try clear p1
                                try clear p10
                                try clear p117
                                try clear p2
                                try clear p4
                                try clear p6
                                try clear q1
                                try clear q10
                                try clear q117
                                try clear q4
                                obtain ⟨pos, HA, HK3, HI, HO_32, HB⟩ := hrel
                                cases gk with
                                | zero => exact absurd HA.out (by simp [dbus_ObjectPath_IsValid.l1])
                                | succ k3 =>
                                  have H := HA.out
                                  clear HA
                                  simp only [dbus_ObjectPath_IsValid.l1, Int.toNat_natCast] at H
                                  by_cases hp : pos < vv.size
                                  · rw [if_pos hp] at H
                                    replace H := Option.bind_eq_some_iff.mp H
                                    obtain ⟨tm, A230, H⟩ := H
                                    have A23 := Aside0.mk A230
                                    clear A230
                                    have hnx : ∀ ty, (Instr.next (.pointer (some ⟨ib, 0, none⟩)) true ty).run Try.prog wr = _ := fun ty => Lib.run_next_any_at wr ib vv pos ty HI.out hp
                                    have hit2 := Aside0.mk (Lib.iterAt_heap wr ib vv pos (pos + (Utf8.decode vv pos).2) HI.out)
                                    have hbw2 := Aside0.mk (Lib.below_iterAt HB.out (k := ib) HSZ.out vv (pos + (Utf8.decode vv pos).2))
                                    have hro2 := Aside0.mk (dbus_ObjectPath_IsValid.r_iter HO_32.out HI.out (pos + (Utf8.decode vv pos).2))
                                    obtain ⟨W1, hW1⟩ : ∃ W1, W1 = wr.iterAt ib vv (pos + (Utf8.decode vv pos).2) := ⟨_, rfl⟩
                                    rw [← hW1] at hnx hit2 hbw2 hro2
                                    clear hW1 HI HB HO_32 hp
                                    have HB := hbw2
                                    have HO_32 := hro2
                                    clear hbw2 hro2
                                    generalize ((Utf8.decode vv pos).1 : Int) = c at *
                                    cases tm with
                                    | true =>
                                      simp only [if_true] at H
                                      have H' := Aside0.mk H
                                      clear H
                                      go_wp2_with (first | (go_at_call 21; (with_reducible refine (dbus_isMemberChar.calls c true _ A23.out).mono ?_); rintro e w' ⟨rfl, ⟨nd2, rfl⟩⟩))
                                      go_roundg k3
                                      case measure => have := HJ5.out; have := HK2.out; have := HK3.out; omega
                                      case rel => exact ⟨_, H', ⟨by have := HJ5.out; have := HK2.out; have := HK3.out; omega⟩, ⟨hit2.out⟩, ⟨by (with_reducible repeat (first | apply Kd.R_alloc | apply Kd.R_drewN | apply Kd.R_drew)); exact HO_32.out⟩, ⟨by repeat (first | (with_reducible first | exact HB.out | apply below_alloc | apply pw_below_drewN | apply below_drew1) | exact HB.out)⟩⟩
                                    | false =>
                                      simp only [Bool.false_eq_true, if_false] at H
                                      obtain rfl := Option.some.inj H
                                      clear H
                                      go_wp2_with (first | (go_at_call 21; (with_reducible refine (dbus_isMemberChar.calls c false _ A23.out).mono ?_); rintro e w' ⟨rfl, ⟨nd2, rfl⟩⟩))
                                      go_ret
                                      exact ⟨rfl, by repeat (first | (with_reducible first | exact HB.out | apply below_alloc | apply pw_below_drewN | apply below_drew1) | exact HB.out)⟩
                                  · rw [if_neg hp] at H
                                    have H' := Aside0.mk H
                                    clear H
                                    have hnx : ∀ ty, (Instr.next (.pointer (some ⟨ib, 0, none⟩)) true ty).run Try.prog wr = _ := fun ty => Lib.run_next_end_at wr ib vv pos ty HI.out hp
                                    go_wp2
                                    go_roundg k3
                                    case measure => have := HJ5.out; have := HK2.out; have := HK3.out; omega
                                    case rel => exact ⟨(wrap64 (x34_2 + 1)), (by first | rfl | (simp; done) | (simp [*]; done)), H', ⟨by have := HJ5.out; have := HK2.out; have := HK3.out; omega⟩, ⟨by (with_reducible repeat (first | apply Kd.R_alloc | apply Kd.R_drewN | apply Kd.R_drew)); exact HO_32.out⟩, ⟨by repeat (first | (with_reducible first | exact HB.out | apply below_alloc | apply pw_below_drewN | apply below_drew1) | exact HB.out)⟩⟩
                          · rw [if_neg c20] at H
                            exact absurd H (by simp)
                        · rw [if_neg c19] at H
                          exact absurd H (by simp)
                      · rw [if_neg c18] at H
                        have c18b0 : decide (x34_2 < (t114.length : Int)) = false := decide_eq_false c18
                        clear c18
                        obtain rfl := Option.some.inj H
                        go_wp2
                        go_ret
                        exact ⟨by first | rfl | (simp [errW_none, errW_some] <;> rfl) | (simp [*, errW_none, errW_some] <;> rfl) | (simp (disch := omega) only [wrap64_id] <;> rfl), by repeat (first | (with_reducible first | exact HB.out | apply below_alloc | apply pw_below_drewN | apply below_drew1) | exact HB.out)⟩
                · rw [if_neg c14] at H
                  exact absurd H (by simp)
      · rw [if_neg c5] at H
        have c5b0 : ((bt a0 0) == 47) = false := beq_eq_false_iff_ne.mpr c5
        have c5b1 : ((bt a0 0) != 47) = true := bne_iff_ne.mpr c5
        obtain rfl := Option.some.inj H
        have p4 : 0 ≤ (0 : Int) := (by omega)
        have q4 : 0 < a0.size := (by have : (0 : Int) < (a0.size : Int) := of_decide_eq_true (by first | (with_reducible assumption) | assumption); omega)
        have hx4 : ∀ h : 0 < a0.size, ((a0[0]'h).toNat : Int) = bt a0 0 := bt_at a0 0
        clear p4
        have qi4 : (0 < (a0.size : Int)) = True := eq_true (of_decide_eq_true (by first | (with_reducible assumption) | assumption))
        replace q4 := eq_true q4
        go_enter Try.func15, Try.ntmps15
        go_wp2
        go_ret
        exact ⟨by first | rfl | (simp [errW_none, errW_some] <;> rfl) | (simp [*, errW_none, errW_some] <;> rfl) | (simp (disch := omega) only [wrap64_id] <;> rfl), by repeat (first | (with_reducible first | exact HB.out | apply below_alloc | apply pw_below_drewN | apply below_drew1) | exact HB.out)⟩
    · rw [if_neg c3] at H
      exact absurd H (by simp)

end Go.Proofs.Ytcdbhpmnilfpfaa.MFnNmAll
