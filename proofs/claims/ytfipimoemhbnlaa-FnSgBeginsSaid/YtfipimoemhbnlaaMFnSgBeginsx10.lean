-- Written by a program of this session (myprint.py, out of the translation). Not trusted: Lean checks it.
import Derived.Test.YtfipimoemhbnlaaMFnSgBeginsx0
import Derived.Test.YtfipimoemhbnlaaMFnSgBeginsx6
import Derived.Test.YtfipimoemhbnlaaMFnSgBeginsx8
import Derived.Test.YtfipimoemhbnlaaMFnSgBeginsx9
namespace Go.Proofs.Ytfipimoemhbnlaa.MFnSgBegins
open Go.RowKit Go.Proofs.YtfipimoemhbnlaaW.PrintWords Go.Proofs.YtfipimoemhbnlaaW.PrintLast Go.Proofs.YtfipimoemhbnlaaW.PrintMore
attribute [local go_sem] max2_int min2_int max_two min_two max_three min_three max_four min_four   -- for this text's walks alone
set_option linter.unusedVariables false
set_option linter.unusedSimpArgs false

/-! ### impl_SgBegin: function 16 -/
def impl_SgBegin.f (k : Nat) (a0 : ByteArray) (a1 : Int) (a2 : Int) (a3 : Int) : Option (ByteArray × Bool) := (dbus_DoorBegin.f k a0 a1 a2 a3).bind fun bt120 => (if bt120.2.isNone = true then (some (bt120.1, true)) else (some (bt120.1, false)))
theorem impl_SgBegin.mono : ∀ a0 a1 a2 a3 k, LeO (impl_SgBegin.f k a0 a1 a2 a3) (impl_SgBegin.f (k + 1) a0 a1 a2 a3) := by
  intro a0 a1 a2 a3 k
  unfold impl_SgBegin.f
  repeat' first
      | (with_reducible exact dbus_DoorBegin.mono _ _ _ _ _)
      | (with_reducible exact LeO.refl _)
      | (with_reducible exact LeO.none _)
      | (with_reducible refine LeO.ite ?_ ?_)
      | (with_reducible refine LeO.bind ?_ (fun _ => ?_))
      | exact dbus_DoorBegin.mono _ _ _ _ _
      | exact LeO.none _
      | refine LeO.ite ?_ ?_
      | refine LeO.bind ?_ (fun _ => ?_)
set_option maxHeartbeats 8000000 in
set_option maxRecDepth 100000 in
theorem impl_SgBegin.calls (k : Nat) (a0 : ByteArray) (a1 : Int) (a2 : Int) (a3 : Int) (r1 : ByteArray) (r2 : Bool) (w : World) (h : impl_SgBegin.f k a0 a1 a2 a3 = some (r1, r2)) :
    Calls Try.prog 16 #[.string a0, .int .i64 a1, .int .i64 a2, .int .i64 a3] w fun e w' => e = .returned (.tuple #[.string r1, .bool r2]) ∧ Below w.heap.size w w' := by
  have hu44 := Try.underlying44
  have HB := Aside0.mk (Below.refl w.heap.size w)
  have H : ((dbus_DoorBegin.f k a0 a1 a2 a3).bind fun bt120 => (if bt120.2.isNone = true then (some (bt120.1, true)) else (some (bt120.1, false)))) = some (r1, r2) := h
  clear h
  replace H := Option.bind_eq_some_iff.mp H
  obtain ⟨⟨t120, t121⟩, A50, H⟩ := H
  replace H : (if t121.isNone = true then (some (t120, true)) else (some (t120, false))) = some (r1, r2) := H
  have A5 := Aside0.mk A50
  clear A50
  rcases t121 with _ | q122
  · have H1 : (some (t120, true)) = some (r1, r2) := by rw [if_pos (show (none : Option (TypeId × Value)).isNone = true by rfl)] at H; exact H
    clear H
    have H := H1
    clear H1
    try simp only [errW_none, errW_some]
    simp only [Option.some.injEq, Prod.mk.injEq] at H
    obtain ⟨rfl, rfl⟩ := H
    go_enter Try.func16, Try.ntmps16
    go_wp2_with (first | (go_at_call 23; (with_reducible refine (dbus_DoorBegin.calls k a0 a1 a2 a3 t120 none _ A5.out).mono ?_); rintro e w6 ⟨rfl, hb⟩; have n0_ := Aside0.mk (below_step (by repeat (first | (with_reducible first | exact HB.out | apply below_alloc | apply pw_below_drewN | apply below_drew1) | exact HB.out)) hb); clear HB; have HB := n0_; clear n0_; (try clear hb); (try clear hb2); (try clear hk); (try clear hi); (try simp only [errW_none, errW_some])))
    repeat (go_quiet (first | (go_at_call 23; (with_reducible refine (dbus_DoorBegin.calls k a0 a1 a2 a3 t120 none _ A5.out).mono ?_); rintro e w6 ⟨rfl, hb⟩; have n0_ := Aside0.mk (below_step (by repeat (first | (with_reducible first | exact HB.out | apply below_alloc | apply pw_below_drewN | apply below_drew1) | exact HB.out)) hb); clear HB; have HB := n0_; clear n0_; (try clear hb); (try clear hb2); (try clear hk); (try clear hi); (try simp only [errW_none, errW_some]))); try go_wp2_with (first | (go_at_call 23; (with_reducible refine (dbus_DoorBegin.calls k a0 a1 a2 a3 t120 none _ A5.out).mono ?_); rintro e w6 ⟨rfl, hb⟩; have n0_ := Aside0.mk (below_step (by repeat (first | (with_reducible first | exact HB.out | apply below_alloc | apply pw_below_drewN | apply below_drew1) | exact HB.out)) hb); clear HB; have HB := n0_; clear n0_; (try clear hb); (try clear hb2); (try clear hk); (try clear hi); (try simp only [errW_none, errW_some]))))
    go_ret2
    exact ⟨by first | rfl | (simp [errW_none, errW_some] <;> rfl) | (simp [*, errW_none, errW_some] <;> rfl) | (simp (disch := omega) only [wrap64_id] <;> rfl), by repeat (first | (with_reducible first | exact HB.out | apply below_alloc | apply pw_below_drewN | apply below_drew1) | exact HB.out)⟩
  · have H1 : (some (t120, false)) = some (r1, r2) := by rw [if_neg (show ¬ (some q122).isNone = true by simp)] at H; exact H
    clear H
    have H := H1
    clear H1
    try simp only [errW_none, errW_some]
    simp only [Option.some.injEq, Prod.mk.injEq] at H
    obtain ⟨rfl, rfl⟩ := H
    go_enter Try.func16, Try.ntmps16
    go_wp2_with (first | (go_at_call 23; (with_reducible refine (dbus_DoorBegin.calls k a0 a1 a2 a3 t120 (some q122) _ A5.out).mono ?_); rintro e w7 ⟨rfl, hb⟩; have n0_ := Aside0.mk (below_step (by repeat (first | (with_reducible first | exact HB.out | apply below_alloc | apply pw_below_drewN | apply below_drew1) | exact HB.out)) hb); clear HB; have HB := n0_; clear n0_; (try clear hb); (try clear hb2); (try clear hk); (try clear hi); (try simp only [errW_none, errW_some])))
    repeat (go_quiet (first | (go_at_call 23; (with_reducible refine (dbus_DoorBegin.calls k a0 a1 a2 a3 t120 (some q122) _ A5.out).mono ?_); rintro e w7 ⟨rfl, hb⟩; have n0_ := Aside0.mk (below_step (by repeat (first | (with_reducible first | exact HB.out | apply below_alloc | apply pw_below_drewN | apply below_drew1) | exact HB.out)) hb); clear HB; have HB := n0_; clear n0_; (try clear hb); (try clear hb2); (try clear hk); (try clear hi); (try simp only [errW_none, errW_some]))); try go_wp2_with (first | (go_at_call 23; (with_reducible refine (dbus_DoorBegin.calls k a0 a1 a2 a3 t120 (some q122) _ A5.out).mono ?_); rintro e w7 ⟨rfl, hb⟩; have n0_ := Aside0.mk (below_step (by repeat (first | (with_reducible first | exact HB.out | apply below_alloc | apply pw_below_drewN | apply below_drew1) | exact HB.out)) hb); clear HB; have HB := n0_; clear n0_; (try clear hb); (try clear hb2); (try clear hk); (try clear hi); (try simp only [errW_none, errW_some]))))
    go_ret2
    exact ⟨by first | rfl | (simp [errW_none, errW_some] <;> rfl) | (simp [*, errW_none, errW_some] <;> rfl) | (simp (disch := omega) only [wrap64_id] <;> rfl), by repeat (first | (with_reducible first | exact HB.out | apply below_alloc | apply pw_below_drewN | apply below_drew1) | exact HB.out)⟩

/-! ### laws_FnSgBegins: function 6 -/
mutual
def laws_FnSgBegins.j0 : Nat → ByteArray → List ByteArray → Bool → Option (Bool)
  | 0, _, _, _ => none
  | k + 1, x0, x3, x25 => if x25 = true then (some true) else (laws_FnSgBegins.l0 k x0 x3 (x3.length : Int) 0)
def laws_FnSgBegins.l0 : Nat → ByteArray → List ByteArray → Int → Int → Option (Bool)
  | 0, _, _, _, _ => none
  | k + 1, x5, x27, x28, x29 => if x29 < x28 then (if 0 ≤ x29 then (if x29 < (x27.length : Int) then ((impl_SgBegin.f k x5 0 0 0).bind fun bt128 => (if bt128.2 = true then (if (bt128.1.size : Int) ≥ (x5.size : Int) then (laws_FnSgBegins.j2 k (rdOf ByteArray.empty x27 x29) bt128.1 x27 x28 x29 true) else (if 0 ≤ (wrap64 ((x5.size : Int) - (bt128.1.size : Int))) then (if (wrap64 ((x5.size : Int) - (bt128.1.size : Int))) ≤ (x5.size : Int) then (laws_FnSgBegins.j2 k (rdOf ByteArray.empty x27 x29) bt128.1 x27 x28 x29 ((x5.extract 0 ((wrap64 ((x5.size : Int) - (bt128.1.size : Int))) : Int).toNat).toList != (rdOf ByteArray.empty x27 x29).toList)) else (none)) else (none))) else (laws_FnSgBegins.j2 k (rdOf ByteArray.empty x27 x29) bt128.1 x27 x28 x29 true))) else (none)) else (none)) else (some (x5.toList == ([] : List UInt8)))
def laws_FnSgBegins.j2 : Nat → ByteArray → ByteArray → List ByteArray → Int → Int → Bool → Option (Bool)
  | 0, _, _, _, _, _, _ => none
  | k + 1, x7, x8, x27, x28, x29, x57 => if x57 = true then (some false) else ((impl_SgParse.f k x7).bind fun bt130 => (if bt130.2 = true then (laws_FnSgBegins.l0 k x8 x27 x28 (wrap64 (x29 + 1))) else (some false)))
end
def laws_FnSgBegins.f (k : Nat) (a0 : ByteArray) : Option (Bool) := if (a0.size : Int) > 2147483647 then (some true) else ((spec_Types.f k a0).bind fun bt123 => (if bt123.2 = true then (laws_FnSgBegins.j0 k a0 bt123.1 (a0.toList == ([] : List UInt8))) else (laws_FnSgBegins.j0 k a0 bt123.1 true)))
theorem laws_FnSgBegins.mono_l : ∀ k, (∀ y0 y1 y2, LeO (laws_FnSgBegins.j0 k y0 y1 y2) (laws_FnSgBegins.j0 (k + 1) y0 y1 y2)) ∧ (∀ y0 y1 y2 y3, LeO (laws_FnSgBegins.l0 k y0 y1 y2 y3) (laws_FnSgBegins.l0 (k + 1) y0 y1 y2 y3)) ∧ (∀ y0 y1 y2 y3 y4 y5, LeO (laws_FnSgBegins.j2 k y0 y1 y2 y3 y4 y5) (laws_FnSgBegins.j2 (k + 1) y0 y1 y2 y3 y4 y5))
  | 0 => ⟨fun _ _ _ r h => by simp [laws_FnSgBegins.j0] at h, fun _ _ _ _ r h => by simp [laws_FnSgBegins.l0] at h, fun _ _ _ _ _ _ r h => by simp [laws_FnSgBegins.j2] at h⟩
  | k + 1 => by
    obtain ⟨ih0, ih1, ih2⟩ := laws_FnSgBegins.mono_l k
    refine ⟨?_, ?_, ?_⟩
    · intro y0 y1 y2
      unfold laws_FnSgBegins.j0
      repeat' first
      | (with_reducible exact ih0 _ _ _)
      | (with_reducible exact ih1 _ _ _ _)
      | (with_reducible exact ih2 _ _ _ _ _ _)
      | (with_reducible exact impl_SgBegin.mono _ _ _ _ _)
      | (with_reducible exact impl_SgParse.mono _ _)
      | (with_reducible exact spec_Types.mono _ _)
      | (with_reducible exact LeO.refl _)
      | (with_reducible exact LeO.none _)
      | (with_reducible refine LeO.ite ?_ ?_)
      | (with_reducible refine LeO.bind ?_ (fun _ => ?_))
      | exact ih0 _ _ _
      | exact ih1 _ _ _ _
      | exact ih2 _ _ _ _ _ _
      | exact impl_SgBegin.mono _ _ _ _ _
      | exact impl_SgParse.mono _ _
      | exact spec_Types.mono _ _
      | exact LeO.none _
      | refine LeO.ite ?_ ?_
      | refine LeO.bind ?_ (fun _ => ?_)
    · intro y0 y1 y2 y3
      unfold laws_FnSgBegins.l0
      repeat' first
      | (with_reducible exact ih0 _ _ _)
      | (with_reducible exact ih1 _ _ _ _)
      | (with_reducible exact ih2 _ _ _ _ _ _)
      | (with_reducible exact impl_SgBegin.mono _ _ _ _ _)
      | (with_reducible exact impl_SgParse.mono _ _)
      | (with_reducible exact spec_Types.mono _ _)
      | (with_reducible exact LeO.refl _)
      | (with_reducible exact LeO.none _)
      | (with_reducible refine LeO.ite ?_ ?_)
      | (with_reducible refine LeO.bind ?_ (fun _ => ?_))
      | exact ih0 _ _ _
      | exact ih1 _ _ _ _
      | exact ih2 _ _ _ _ _ _
      | exact impl_SgBegin.mono _ _ _ _ _
      | exact impl_SgParse.mono _ _
      | exact spec_Types.mono _ _
      | exact LeO.none _
      | refine LeO.ite ?_ ?_
      | refine LeO.bind ?_ (fun _ => ?_)
    · intro y0 y1 y2 y3 y4 y5
      unfold laws_FnSgBegins.j2
      repeat' first
      | (with_reducible exact ih0 _ _ _)
      | (with_reducible exact ih1 _ _ _ _)
      | (with_reducible exact ih2 _ _ _ _ _ _)
      | (with_reducible exact impl_SgBegin.mono _ _ _ _ _)
      | (with_reducible exact impl_SgParse.mono _ _)
      | (with_reducible exact spec_Types.mono _ _)
      | (with_reducible exact LeO.refl _)
      | (with_reducible exact LeO.none _)
      | (with_reducible refine LeO.ite ?_ ?_)
      | (with_reducible refine LeO.bind ?_ (fun _ => ?_))
      | exact ih0 _ _ _
      | exact ih1 _ _ _ _
      | exact ih2 _ _ _ _ _ _
      | exact impl_SgBegin.mono _ _ _ _ _
      | exact impl_SgParse.mono _ _
      | exact spec_Types.mono _ _
      | exact LeO.none _
      | refine LeO.ite ?_ ?_
      | refine LeO.bind ?_ (fun _ => ?_)
theorem laws_FnSgBegins.mono : ∀ a0 k, LeO (laws_FnSgBegins.f k a0) (laws_FnSgBegins.f (k + 1) a0) := by
  intro a0 k
  obtain ⟨ih0, ih1, ih2⟩ := laws_FnSgBegins.mono_l k
  unfold laws_FnSgBegins.f
  repeat' first
      | (with_reducible exact ih0 _ _ _)
      | (with_reducible exact ih1 _ _ _ _)
      | (with_reducible exact ih2 _ _ _ _ _ _)
      | (with_reducible exact impl_SgBegin.mono _ _ _ _ _)
      | (with_reducible exact impl_SgParse.mono _ _)
      | (with_reducible exact spec_Types.mono _ _)
      | (with_reducible exact LeO.refl _)
      | (with_reducible exact LeO.none _)
      | (with_reducible refine LeO.ite ?_ ?_)
      | (with_reducible refine LeO.bind ?_ (fun _ => ?_))
      | exact ih0 _ _ _
      | exact ih1 _ _ _ _
      | exact ih2 _ _ _ _ _ _
      | exact impl_SgBegin.mono _ _ _ _ _
      | exact impl_SgParse.mono _ _
      | exact spec_Types.mono _ _
      | exact LeO.none _
      | refine LeO.ite ?_ ?_
      | refine LeO.bind ?_ (fun _ => ?_)
set_option maxHeartbeats 8000000 in
set_option maxRecDepth 100000 in
theorem laws_FnSgBegins.calls (k : Nat) (a0 : ByteArray) (r : Bool) (w : World) (h : laws_FnSgBegins.f k a0 = some r) :
    Calls Try.prog 6 #[.string a0] w fun e w' => e = .returned (.bool r) ∧ Below w.heap.size w w' := by
  have HB := Aside0.mk (Below.refl w.heap.size w)
  have H : (if (a0.size : Int) > 2147483647 then (some true) else ((spec_Types.f k a0).bind fun bt123 => (if bt123.2 = true then (laws_FnSgBegins.j0 k a0 bt123.1 (a0.toList == ([] : List UInt8))) else (laws_FnSgBegins.j0 k a0 bt123.1 true)))) = some r := h
  clear h
  by_cases c2 : (a0.size : Int) > 2147483647
  · rw [if_pos c2] at H
    have c2b0 : decide (2147483647 < (a0.size : Int)) = true := decide_eq_true c2
    have c2b1 : decide (2147483647 < a0.size) = true := decide_eq_true (by omega)
    clear c2
    obtain rfl := Option.some.inj H
    go_enter Try.func6, Try.ntmps6
    go_wp2
    go_ret
    exact ⟨by first | rfl | (simp [errW_none, errW_some] <;> rfl) | (simp [*, errW_none, errW_some] <;> rfl) | (simp (disch := omega) only [wrap64_id] <;> rfl), by repeat (first | (with_reducible first | exact HB.out | apply below_alloc | apply pw_below_drewN | apply below_drew1) | exact HB.out)⟩
  · rw [if_neg c2] at H
    have c2b0 : decide (2147483647 < (a0.size : Int)) = false := decide_eq_false c2
    have c2b1 : decide (2147483647 < a0.size) = false := decide_eq_false (by omega)
    clear c2
    replace H := Option.bind_eq_some_iff.mp H
    obtain ⟨⟨t123, t124⟩, A30, H⟩ := H
    replace H : (if t124 = true then (laws_FnSgBegins.j0 k a0 t123 (a0.toList == ([] : List UInt8))) else (laws_FnSgBegins.j0 k a0 t123 true)) = some r := H
    have A3 := Aside0.mk A30
    clear A30
    have HC4 := Aside0.mk H
    clear H
    go_enter Try.func6, Try.ntmps6
    go_upto_region 4 with (first | ((with_reducible refine gate_callee (f := 15) rfl ?_); refine goesL_ (some 17) rfl rfl Try.func15 (by kernel_rfl) rfl #[.string a0] rfl (by (try simp only [List.map_toArray, List.map_cons, List.map_nil]); first | done | rfl | (simp only [List.length_drop, List.length_take]; rfl)) ?_; (with_reducible refine (spec_Types.calls k a0 t123 t124 _ A3.out).mono ?_); rintro e w5 ⟨v125, rfl, ho0, hb⟩; refine ⟨_, rfl, ?_⟩; have n0_ := Aside0.mk (Kd.R_lower ho0 (below_size (by repeat (first | (with_reducible first | exact HB.out | apply below_alloc | apply pw_below_drewN | apply below_drew1) | exact HB.out)))); have n1_ := Aside0.mk (below_step (by repeat (first | (with_reducible first | exact HB.out | apply below_alloc | apply pw_below_drewN | apply below_drew1) | exact HB.out)) hb); clear HB; have HO126 := n0_; have HB := n1_; clear n0_ n1_; (try clear hb); (try clear hb2); (try clear hk); (try clear hi); (try clear ho0)))
    (try simp only [Act.put, List.setIfInBounds_toArray, List.set_cons_zero, List.set_cons_succ])
    go_cut [25] (fun v25 wc => ∃ (kq : Nat) (x25_3 : Bool), v25 = .bool x25_3 ∧ Aside0 (laws_FnSgBegins.j0 kq a0 t123 x25_3 = some r) ∧ Aside0 (kq ≤ k) ∧ Aside0 (Kd.R Kd.string 9 wc w.heap.size (fun _ => True) v125 t123) ∧ Aside0 (Below w.heap.size w wc))
    case first =>
      have H := HC4.out
      clear HC4
      by_cases c6 : t124 = true
      · subst c6
        have H1 : (laws_FnSgBegins.j0 k a0 t123 (a0.toList == ([] : List UInt8))) = some r := by rw [if_pos rfl] at H; exact H
        clear H
        have H := H1
        clear H1
        have H' := Aside0.mk H
        clear H
        go_wp2
        go_meet
        case rel => exact ⟨_, ((a0.toList == ([] : List UInt8))), (by first | rfl | (simp; done) | (simp [*]; done)), H', ⟨by first | omega | exact Nat.le_refl _⟩, ⟨by (with_reducible repeat (first | apply Kd.R_alloc | apply Kd.R_drewN | apply Kd.R_drew)); exact HO126.out⟩, ⟨by repeat (first | (with_reducible first | exact HB.out | apply below_alloc | apply pw_below_drewN | apply below_drew1) | exact HB.out)⟩⟩
      · replace c6 := Bool.eq_false_iff.mpr c6
        subst c6
        have H1 : (laws_FnSgBegins.j0 k a0 t123 true) = some r := by rw [if_neg (show ¬ (false = true) by decide)] at H; exact H
        clear H
        have H := H1
        clear H1
        have H' := Aside0.mk H
        clear H
        go_wp2
        go_meet
        case rel => exact ⟨_, (true), (by first | rfl | (simp; done) | (simp [*]; done)), H', ⟨by first | omega | exact Nat.le_refl _⟩, ⟨by (with_reducible repeat (first | apply Kd.R_alloc | apply Kd.R_drewN | apply Kd.R_drew)); exact HO126.out⟩, ⟨by repeat (first | (with_reducible first | exact HB.out | apply below_alloc | apply pw_below_drewN | apply below_drew1) | exact HB.out)⟩⟩
    case rest =>
      clear HC4
      try clear c1
      try clear c2
      try clear c2b0
      try clear c2b1
      try clear p2
      try clear c6
      try clear p6
      obtain ⟨kq, x25_3, rfl, HA, HJ3, HO_3, HB⟩ := hcut
      cases kq with
      | zero => exact absurd HA.out (by simp [laws_FnSgBegins.j0])
      | succ kj3 =>
        have H := HA.out
        clear HA
        simp only [laws_FnSgBegins.j0] at H
        by_cases c7 : x25_3 = true
        · subst c7
          have H1 : (some true) = some r := by rw [if_pos rfl] at H; exact H
          clear H
          have H := H1
          clear H1
          obtain rfl := Option.some.inj H
          go_wp2
          go_ret
          exact ⟨by first | rfl | (simp [errW_none, errW_some] <;> rfl) | (simp [*, errW_none, errW_some] <;> rfl) | (simp (disch := omega) only [wrap64_id] <;> rfl), by repeat (first | (with_reducible first | exact HB.out | apply below_alloc | apply pw_below_drewN | apply below_drew1) | exact HB.out)⟩
        · replace c7 := Bool.eq_false_iff.mpr c7
          subst c7
          have H1 : (laws_FnSgBegins.l0 kj3 a0 t123 (t123.length : Int) 0) = some r := by rw [if_neg (show ¬ (false = true) by decide)] at H; exact H
          clear H
          have H := H1
          clear H1
          have H' := Aside0.mk H
          clear H
          obtain ⟨Ao8, co8, eo8⟩ := Kd.R_slice HO_3.out
          subst eo8
          go_wp2
          go_loopg [5, 29] kj3 (fun kq v5 v29 w' => ∃ (x5_2 : ByteArray) (x29_2 : Int), v5 = .string x5_2 ∧ v29 = .int .i64 x29_2 ∧ Aside0 (laws_FnSgBegins.l0 kq x5_2 t123 (t123.length : Int) x29_2 = some r) ∧ Aside0 (kq ≤ kj3) ∧ Aside0 (Kd.R Kd.string 9 w' w.heap.size (fun _ => True) (.slice Ao8 t123.length co8) t123) ∧ Aside0 (Below w.heap.size w w'))
          case atStart => exact ⟨(a0), (0), (by first | rfl | (simp; done) | (simp [*]; done)), (by first | rfl | (simp; done) | (simp [*]; done)), H', ⟨Nat.le_refl _⟩, ⟨by (with_reducible repeat (first | apply Kd.R_alloc | apply Kd.R_drewN | apply Kd.R_drew)); exact HO_3.out⟩, ⟨by repeat (first | (with_reducible first | exact HB.out | apply below_alloc | apply pw_below_drewN | apply below_drew1) | exact HB.out)⟩⟩
          case round =>
            clear H'
            try clear c1
            try clear c2
            try clear c2b0
            try clear c2b1
            try clear p2
            try clear c6
            try clear p6
            try clear c7
            try clear p2
            try clear p6
            obtain ⟨x5_2, x29_2, rfl, rfl, HA, HK2, HO_27, HB⟩ := hrel
            cases gk with
            | zero => exact absurd HA.out (by simp [laws_FnSgBegins.l0])
            | succ k2 =>
              have H := HA.out
              clear HA
              simp only [laws_FnSgBegins.l0] at H
              by_cases c9 : x29_2 < (t123.length : Int)
              · rw [if_pos c9] at H
                have c9b0 : decide (x29_2 < (t123.length : Int)) = true := decide_eq_true c9
                clear c9
                by_cases c10 : 0 ≤ x29_2
                · rw [if_pos c10] at H
                  have c10b0 : decide (0 ≤ x29_2) = true := decide_eq_true c10
                  clear c10
                  by_cases c11 : x29_2 < (t123.length : Int)
                  · rw [if_pos c11] at H
                    have c11b0 : decide (x29_2 < (t123.length : Int)) = true := decide_eq_true c11
                    clear c11
                    replace H := Option.bind_eq_some_iff.mp H
                    obtain ⟨⟨t128, t129⟩, A120, H⟩ := H
                    replace H : (if t129 = true then (if (t128.size : Int) ≥ (x5_2.size : Int) then (laws_FnSgBegins.j2 k2 (rdOf ByteArray.empty t123 x29_2) t128 t123 (t123.length : Int) x29_2 true) else (if 0 ≤ (wrap64 ((x5_2.size : Int) - (t128.size : Int))) then (if (wrap64 ((x5_2.size : Int) - (t128.size : Int))) ≤ (x5_2.size : Int) then (laws_FnSgBegins.j2 k2 (rdOf ByteArray.empty t123 x29_2) t128 t123 (t123.length : Int) x29_2 ((x5_2.extract 0 ((wrap64 ((x5_2.size : Int) - (t128.size : Int))) : Int).toNat).toList != (rdOf ByteArray.empty t123 x29_2).toList)) else (none)) else (none))) else (laws_FnSgBegins.j2 k2 (rdOf ByteArray.empty t123 x29_2) t128 t123 (t123.length : Int) x29_2 true)) = some r := H
                    have A12 := Aside0.mk A120
                    clear A120
                    have HC13 := Aside0.mk H
                    clear H
                    have p127 : 0 ≤ (x29_2 : Int) := of_decide_eq_true (by first | (with_reducible assumption) | assumption)
                    have q127 : x29_2 < (t123.length : Int) := of_decide_eq_true (by first | (with_reducible assumption) | assumption)
                    obtain ⟨ad127, e127, hx127_0⟩ := Kd.at_string (Kd.R_reads' HO_27.out).2.2 x29_2 p127 q127
                    cases e127
                    replace p127 := eq_true p127
                    replace q127 := eq_true q127
                    go_upto_region 11 with (first | ((with_reducible refine gate_callee (f := 16) rfl ?_); refine goesL_ (some 35) rfl rfl Try.func16 (by kernel_rfl) rfl #[.string x5_2, .int .i64 0, .int .i64 0, .int .i64 0] rfl (by (try simp only [List.map_toArray, List.map_cons, List.map_nil]); first | done | rfl | (simp only [List.length_drop, List.length_take]; rfl)) ?_; (with_reducible refine (impl_SgBegin.calls k2 x5_2 0 0 0 t128 t129 _ A12.out).mono ?_); rintro e w14 ⟨rfl, hb⟩; refine ⟨_, rfl, ?_⟩; have n0_ := Aside0.mk (Kd.R_below (by (with_reducible repeat (first | apply Kd.R_alloc | apply Kd.R_drewN | apply Kd.R_drew)); exact HO_27.out) hb); have n1_ := Aside0.mk (below_step (by repeat (first | (with_reducible first | exact HB.out | apply below_alloc | apply pw_below_drewN | apply below_drew1) | exact HB.out)) hb); clear HO_27; clear HB; have HO_27 := n0_; have HB := n1_; clear n0_ n1_; (try clear hb); (try clear hb2); (try clear hk); (try clear hi)))
                    (try simp only [Act.put, List.setIfInBounds_toArray, List.set_cons_zero, List.set_cons_succ])
                    go_cut [57] (fun v57 wc => ∃ (kq : Nat) (x57_12 : Bool), v57 = .bool x57_12 ∧ Aside0 (laws_FnSgBegins.j2 kq (rdOf ByteArray.empty t123 x29_2) t128 t123 (t123.length : Int) x29_2 x57_12 = some r) ∧ Aside0 (kq ≤ k2) ∧ Aside0 (Kd.R Kd.string 9 wc w.heap.size (fun _ => True) (.slice (some ad127) t123.length co8) t123) ∧ Aside0 (Below w.heap.size w wc))
                    case first =>
                      have H := HC13.out
                      clear HC13
                      by_cases c15 : t129 = true
                      · subst c15
                        have H1 : (if (t128.size : Int) ≥ (x5_2.size : Int) then (laws_FnSgBegins.j2 k2 (rdOf ByteArray.empty t123 x29_2) t128 t123 (t123.length : Int) x29_2 true) else (if 0 ≤ (wrap64 ((x5_2.size : Int) - (t128.size : Int))) then (if (wrap64 ((x5_2.size : Int) - (t128.size : Int))) ≤ (x5_2.size : Int) then (laws_FnSgBegins.j2 k2 (rdOf ByteArray.empty t123 x29_2) t128 t123 (t123.length : Int) x29_2 ((x5_2.extract 0 ((wrap64 ((x5_2.size : Int) - (t128.size : Int))) : Int).toNat).toList != (rdOf ByteArray.empty t123 x29_2).toList)) else (none)) else (none))) = some r := by rw [if_pos rfl] at H; exact H
                        clear H
                        have H := H1
                        clear H1
                        by_cases c16 : (t128.size : Int) ≥ (x5_2.size : Int)
                        · rw [if_pos c16] at H
                          have c16b0 : decide ((x5_2.size : Int) ≤ (t128.size : Int)) = true := decide_eq_true c16
                          have c16b1 : decide (x5_2.size ≤ t128.size) = true := decide_eq_true (Int.ofNat_le.mp c16)
                          clear c16
                          (first | rw [c16b0] | (simp only [i64_w, i32_w]; rw [c16b0]) | skip)
                          have H' := Aside0.mk H
                          clear H
                          go_wp2
                          go_meet
                          case rel => exact ⟨_, (true), (by first | rfl | (simp; done) | (simp [*]; done)), H', ⟨by have := HJ3.out; have := HK2.out; first | omega | exact Nat.le_refl _⟩, ⟨by (with_reducible repeat (first | apply Kd.R_alloc | apply Kd.R_drewN | apply Kd.R_drew)); exact HO_27.out⟩, ⟨by repeat (first | (with_reducible first | exact HB.out | apply below_alloc | apply pw_below_drewN | apply below_drew1) | exact HB.out)⟩⟩
                        · rw [if_neg c16] at H
                          have c16b0 : decide ((x5_2.size : Int) ≤ (t128.size : Int)) = false := decide_eq_false c16
                          have c16b1 : decide (x5_2.size ≤ t128.size) = false := decide_eq_false (fun h => c16 (Int.ofNat_le.mpr h))
                          clear c16
                          (first | rw [c16b0] | (simp only [i64_w, i32_w]; rw [c16b0]) | skip)
                          obtain ⟨ji17, hji17⟩ : ∃ j_ : Int, (wrap64 ((x5_2.size : Int) - (t128.size : Int))) = j_ := ⟨_, rfl⟩
                          replace H : (if 0 ≤ (ji17) then (if (ji17) ≤ (x5_2.size : Int) then (laws_FnSgBegins.j2 k2 (rdOf ByteArray.empty t123 x29_2) t128 t123 (t123.length : Int) x29_2 ((x5_2.extract 0 ((ji17) : Int).toNat).toList != (rdOf ByteArray.empty t123 x29_2).toList)) else (none)) else (none)) = some r := by first | (rw [hji17] at H; exact H) | (simp only [hji17] at H ⊢; exact H)
                          have hji17w : (IntKind.i64.wrap ((x5_2.size : Int) - (t128.size : Int))) = ji17 := (i64_w _).trans hji17
                          by_cases c18 : 0 ≤ (ji17)
                          · rw [if_pos c18] at H
                            have c18b0 := eq_true c18
                            have c18b1 : decide (0 ≤ (ji17)) = true := decide_eq_true c18
                            clear c18
                            by_cases c19 : (ji17) ≤ (x5_2.size : Int)
                            · rw [if_pos c19] at H
                              have c19b0 := eq_true c19
                              have c19b1 : decide ((ji17) ≤ (x5_2.size : Int)) = true := decide_eq_true c19
                              clear c19
                              have H' := Aside0.mk H
                              clear H
                              go_wp2
                              go_meet
                              case rel => exact ⟨_, (((x5_2.extract 0 ((ji17) : Int).toNat).toList != (rdOf ByteArray.empty t123 x29_2).toList)), (by first | rfl | (simp; done) | (simp only [← hji17] <;> (first | rfl | simp)) | (simp [*]; done)), H', ⟨by have := HJ3.out; have := HK2.out; first | omega | exact Nat.le_refl _⟩, ⟨by (with_reducible repeat (first | apply Kd.R_alloc | apply Kd.R_drewN | apply Kd.R_drew)); exact HO_27.out⟩, ⟨by repeat (first | (with_reducible first | exact HB.out | apply below_alloc | apply pw_below_drewN | apply below_drew1) | exact HB.out)⟩⟩
                            · rw [if_neg c19] at H
                              exact absurd H (by simp)
                          · rw [if_neg c18] at H
                            exact absurd H (by simp)
                      · replace c15 := Bool.eq_false_iff.mpr c15
                        subst c15
                        have H1 : (laws_FnSgBegins.j2 k2 (rdOf ByteArray.empty t123 x29_2) t128 t123 (t123.length : Int) x29_2 true) = some r := by rw [if_neg (show ¬ (false = true) by decide)] at H; exact H
                        clear H
                        have H := H1
                        clear H1
                        have H' := Aside0.mk H
                        clear H
                        go_wp2
                        go_meet
                        case rel => exact ⟨_, (true), (by first | rfl | (simp; done) | (simp [*]; done)), H', ⟨by have := HJ3.out; have := HK2.out; first | omega | exact Nat.le_refl _⟩, ⟨by (with_reducible repeat (first | apply Kd.R_alloc | apply Kd.R_drewN | apply Kd.R_drew)); exact HO_27.out⟩, ⟨by repeat (first | (with_reducible first | exact HB.out | apply below_alloc | apply pw_below_drewN | apply below_drew1) | exact HB.out)⟩⟩
                    case rest =>
                      clear HC13
                      try clear c1
                      try clear p1
                      try clear q1
                      try clear hx1
                      try clear c2
                      try clear c2b0
                      try clear c2b1
                      try clear p2
                      try clear c6
                      try clear p6
                      try clear c7
                      try clear c9
                      try clear c9b0
                      try clear c10
                      try clear c10b0
                      try clear c11
                      try clear c11b0
                      try clear p12
                      try clear q12
                      try clear hx12
                      try clear c15
                      try clear c16
                      try clear c16b0
                      try clear c16b1
                      try clear c18
                      try clear c18b0
                      try clear c18b1
                      try clear c19
                      try clear c19b0
                      try clear c19b1
                      try clear hx127_0
                      try clear p127
                      try clear p2
                      try clear p6
                      try clear q127
                      obtain ⟨kq, x57_12, rfl, HA, HJ12, HO_27, HB⟩ := hcut
                      cases kq with
                      | zero => exact absurd HA.out (by simp [laws_FnSgBegins.j2])
                      | succ kj12 =>
                        have H := HA.out
                        clear HA
                        simp only [laws_FnSgBegins.j2] at H
                        by_cases c20 : x57_12 = true
                        · subst c20
                          have H1 : (some false) = some r := by rw [if_pos rfl] at H; exact H
                          clear H
                          have H := H1
                          clear H1
                          obtain rfl := Option.some.inj H
                          go_wp2
                          go_ret
                          exact ⟨by first | rfl | (simp [errW_none, errW_some] <;> rfl) | (simp [*, errW_none, errW_some] <;> rfl) | (simp (disch := omega) only [wrap64_id] <;> rfl), by repeat (first | (with_reducible first | exact HB.out | apply below_alloc | apply pw_below_drewN | apply below_drew1) | exact HB.out)⟩
                        · replace c20 := Bool.eq_false_iff.mpr c20
                          subst c20
                          have H1 : ((impl_SgParse.f kj12 (rdOf ByteArray.empty t123 x29_2)).bind fun bt130 => (if bt130.2 = true then (laws_FnSgBegins.l0 kj12 t128 t123 (t123.length : Int) (wrap64 (x29_2 + 1))) else (some false))) = some r := by rw [if_neg (show ¬ (false = true) by decide)] at H; exact H
                          clear H
                          have H := H1
                          clear H1
                          replace H := Option.bind_eq_some_iff.mp H
                          obtain ⟨⟨t130, t131⟩, A210, H⟩ := H
                          replace H : (if t131 = true then (laws_FnSgBegins.l0 kj12 t128 t123 (t123.length : Int) (wrap64 (x29_2 + 1))) else (some false)) = some r := H
                          have A21 := Aside0.mk A210
                          clear A210
                          by_cases c22 : t131 = true
                          · subst c22
                            have H1 : (laws_FnSgBegins.l0 kj12 t128 t123 (t123.length : Int) (wrap64 (x29_2 + 1))) = some r := by rw [if_pos rfl] at H; exact H
                            clear H
                            have H := H1
                            clear H1
                            have H' := Aside0.mk H
                            clear H
                            go_wp2_with (first | ((with_reducible refine gate_callee (f := 13) rfl ?_); refine goesL_ (some 60) rfl rfl Try.func13 (by kernel_rfl) rfl #[.string (rdOf ByteArray.empty t123 x29_2)] rfl (by (try simp only [List.map_toArray, List.map_cons, List.map_nil]); first | done | rfl | (simp only [List.length_drop, List.length_take]; rfl)) ?_; (with_reducible refine (impl_SgParse.calls kj12 (rdOf ByteArray.empty t123 x29_2) t130 true _ A21.out).mono ?_); rintro e w23 ⟨rfl, hb⟩; refine ⟨_, rfl, ?_⟩; have n0_ := Aside0.mk (Kd.R_below (by (with_reducible repeat (first | apply Kd.R_alloc | apply Kd.R_drewN | apply Kd.R_drew)); exact HO_27.out) hb); have n1_ := Aside0.mk (below_step (by repeat (first | (with_reducible first | exact HB.out | apply below_alloc | apply pw_below_drewN | apply below_drew1) | exact HB.out)) hb); clear HO_27; clear HB; have HO_27 := n0_; have HB := n1_; clear n0_ n1_; (try clear hb); (try clear hb2); (try clear hk); (try clear hi)))
                            go_roundg kj12
                            case measure => have := HJ3.out; have := HK2.out; have := HJ12.out; omega
                            case rel => exact ⟨(t128), (wrap64 (x29_2 + 1)), (by first | rfl | (simp; done) | (simp [*]; done)), (by first | rfl | (simp; done) | (simp [*]; done)), H', ⟨by have := HJ3.out; have := HK2.out; have := HJ12.out; omega⟩, ⟨by (with_reducible repeat (first | apply Kd.R_alloc | apply Kd.R_drewN | apply Kd.R_drew)); exact HO_27.out⟩, ⟨by repeat (first | (with_reducible first | exact HB.out | apply below_alloc | apply pw_below_drewN | apply below_drew1) | exact HB.out)⟩⟩
                          · replace c22 := Bool.eq_false_iff.mpr c22
                            subst c22
                            have H1 : (some false) = some r := by rw [if_neg (show ¬ (false = true) by decide)] at H; exact H
                            clear H
                            have H := H1
                            clear H1
                            obtain rfl := Option.some.inj H
                            go_wp2_with (first | ((with_reducible refine gate_callee (f := 13) rfl ?_); refine goesL_ (some 60) rfl rfl Try.func13 (by kernel_rfl) rfl #[.string (rdOf ByteArray.empty t123 x29_2)] rfl (by (try simp only [List.map_toArray, List.map_cons, List.map_nil]); first | done | rfl | (simp only [List.length_drop, List.length_take]; rfl)) ?_; (with_reducible refine (impl_SgParse.calls kj12 (rdOf ByteArray.empty t123 x29_2) t130 false _ A21.out).mono ?_); rintro e w24 ⟨rfl, hb⟩; refine ⟨_, rfl, ?_⟩; have n0_ := Aside0.mk (Kd.R_below (by (with_reducible repeat (first | apply Kd.R_alloc | apply Kd.R_drewN | apply Kd.R_drew)); exact HO_27.out) hb); have n1_ := Aside0.mk (below_step (by repeat (first | (with_reducible first | exact HB.out | apply below_alloc | apply pw_below_drewN | apply below_drew1) | exact HB.out)) hb); clear HO_27; clear HB; have HO_27 := n0_; have HB := n1_; clear n0_ n1_; (try clear hb); (try clear hb2); (try clear hk); (try clear hi)))
                            go_ret
                            exact ⟨by first | rfl | (simp [errW_none, errW_some] <;> rfl) | (simp [*, errW_none, errW_some] <;> rfl) | (simp (disch := omega) only [wrap64_id] <;> rfl), by repeat (first | (with_reducible first | exact HB.out | apply below_alloc | apply pw_below_drewN | apply below_drew1) | exact HB.out)⟩
                  · rw [if_neg c11] at H
                    exact absurd H (by simp)
                · rw [if_neg c10] at H
                  exact absurd H (by simp)
              · rw [if_neg c9] at H
                have c9b0 : decide (x29_2 < (t123.length : Int)) = false := decide_eq_false c9
                clear c9
                obtain rfl := Option.some.inj H
                go_wp2
                go_ret
                exact ⟨by first | rfl | (simp [errW_none, errW_some] <;> rfl) | (simp [*, errW_none, errW_some] <;> rfl) | (simp (disch := omega) only [wrap64_id] <;> rfl), by repeat (first | (with_reducible first | exact HB.out | apply below_alloc | apply pw_below_drewN | apply below_drew1) | exact HB.out)⟩

/-- THE ONE PURE STATEMENT of laws_FnSgBegins: yours. -/
def laws_FnSgBegins.Pure : Prop := ∀ (a0 : ByteArray), a0.size ≤ 140737488351232 → ∃ k, laws_FnSgBegins.f k a0 = some true
theorem laws_FnSgBegins.walk (P : laws_FnSgBegins.Pure) (a0 : ByteArray) (w : World) (w0 : a0.size ≤ 140737488351232) :
    Calls Try.prog 6 #[.string a0] w fun e w' => e = .returned (.bool true) ∧ Below w.heap.size w w' := by
  obtain ⟨k, h⟩ := P a0 w0
  refine (laws_FnSgBegins.calls k a0 true w h).mono ?_
  rintro e w' ⟨rfl, hd⟩
  exact ⟨rfl, hd⟩

end Go.Proofs.Ytfipimoemhbnlaa.MFnSgBegins
