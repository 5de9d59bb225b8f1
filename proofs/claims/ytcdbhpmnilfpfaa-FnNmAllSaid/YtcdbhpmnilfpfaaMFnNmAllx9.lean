-- Written by a program of this session (myprint.py, out of the translation). Not trusted: Lean checks it.
import Derived.Test.YtcdbhpmnilfpfaaMFnNmAllx0
import Derived.Test.YtcdbhpmnilfpfaaMFnNmAllx3
import Derived.Test.YtcdbhpmnilfpfaaMFnNmAllx4
import Derived.Test.YtcdbhpmnilfpfaaMFnNmAllx7
import Derived.Test.YtcdbhpmnilfpfaaMFnNmAllx8
namespace Go.Proofs.Ytcdbhpmnilfpfaa.MFnNmAll
open Go.RowKit Go.Proofs.YtcdbhpmnilfpfaaW.PrintWords Go.Proofs.YtcdbhpmnilfpfaaW.PrintLast Go.Proofs.YtcdbhpmnilfpfaaW.PrintMore
attribute [local go_sem] max2_int min2_int max_two min_two max_three min_three max_four min_four   -- for this text's walks alone
set_option linter.unusedVariables false
set_option linter.unusedSimpArgs false

/-! ### dbus_DoorInterface: function 17 -/
def dbus_DoorInterface.f (k : Nat) (a0 : ByteArray) : Option (Bool) := (dbus_isValidInterface.f k a0).bind fun t118 => (some t118)
theorem dbus_DoorInterface.mono : ∀ a0 k, LeO (dbus_DoorInterface.f k a0) (dbus_DoorInterface.f (k + 1) a0) := by
  intro a0 k
  unfold dbus_DoorInterface.f
  repeat' first
      | (with_reducible exact dbus_isValidInterface.mono _ _)
      | (with_reducible exact LeO.refl _)
      | (with_reducible exact LeO.none _)
      | (with_reducible refine LeO.ite ?_ ?_)
      | (with_reducible refine LeO.bind ?_ (fun _ => ?_))
      | exact dbus_isValidInterface.mono _ _
      | exact LeO.none _
      | refine LeO.ite ?_ ?_
      | refine LeO.bind ?_ (fun _ => ?_)
set_option maxHeartbeats 8000000 in
set_option maxRecDepth 100000 in
theorem dbus_DoorInterface.calls (k : Nat) (a0 : ByteArray) (r : Bool) (w : World) (h : dbus_DoorInterface.f k a0 = some r) :
    Calls Try.prog 17 #[.string a0] w fun e w' => e = .returned (.bool r) ∧ Below w.heap.size w w' := by
  have HB := Aside0.mk (Below.refl w.heap.size w)
  have H : ((dbus_isValidInterface.f k a0).bind fun t118 => (some t118)) = some r := h
  clear h
  replace H := Option.bind_eq_some_iff.mp H
  obtain ⟨t118, A20, H⟩ := H
  replace H : (some t118) = some r := H
  have A2 := Aside0.mk A20
  clear A20
  obtain rfl := Option.some.inj H
  go_enter Try.func17, Try.ntmps17
  go_wp2_with (first | ((with_reducible refine gate_callee (f := 22) rfl ?_); refine goesL_ (some 4) rfl rfl Try.func22 (by kernel_rfl) rfl #[.string a0] rfl (by (try simp only [List.map_toArray, List.map_cons, List.map_nil]); first | done | rfl | (simp only [List.length_drop, List.length_take]; rfl)) ?_; (with_reducible refine (dbus_isValidInterface.calls k a0 t118 _ A2.out).mono ?_); rintro e w3 ⟨rfl, hb⟩; refine ⟨_, rfl, ?_⟩; have n0_ := Aside0.mk (below_step (by repeat (first | (with_reducible first | exact HB.out | apply below_alloc | apply pw_below_drewN | apply below_drew1) | exact HB.out)) hb); clear HB; have HB := n0_; clear n0_; (try clear hb); (try clear hb2); (try clear hk); (try clear hi)))
  go_ret
  exact ⟨by first | rfl | (simp [errW_none, errW_some] <;> rfl) | (simp [*, errW_none, errW_some] <;> rfl) | (simp (disch := omega) only [wrap64_id] <;> rfl), by repeat (first | (with_reducible first | exact HB.out | apply below_alloc | apply pw_below_drewN | apply below_drew1) | exact HB.out)⟩

/-! ### impl_NmInterface: function 10 -/
def impl_NmInterface.f (k : Nat) (a0 : ByteArray) : Option (Bool) := (dbus_DoorInterface.f k a0).bind fun t119 => (some t119)
theorem impl_NmInterface.mono : ∀ a0 k, LeO (impl_NmInterface.f k a0) (impl_NmInterface.f (k + 1) a0) := by
  intro a0 k
  unfold impl_NmInterface.f
  repeat' first
      | (with_reducible exact dbus_DoorInterface.mono _ _)
      | (with_reducible exact LeO.refl _)
      | (with_reducible exact LeO.none _)
      | (with_reducible refine LeO.ite ?_ ?_)
      | (with_reducible refine LeO.bind ?_ (fun _ => ?_))
      | exact dbus_DoorInterface.mono _ _
      | exact LeO.none _
      | refine LeO.ite ?_ ?_
      | refine LeO.bind ?_ (fun _ => ?_)
set_option maxHeartbeats 8000000 in
set_option maxRecDepth 100000 in
theorem impl_NmInterface.calls (k : Nat) (a0 : ByteArray) (r : Bool) (w : World) (h : impl_NmInterface.f k a0 = some r) :
    Calls Try.prog 10 #[.string a0] w fun e w' => e = .returned (.bool r) ∧ Below w.heap.size w w' := by
  have HB := Aside0.mk (Below.refl w.heap.size w)
  have H : ((dbus_DoorInterface.f k a0).bind fun t119 => (some t119)) = some r := h
  clear h
  replace H := Option.bind_eq_some_iff.mp H
  obtain ⟨t119, A20, H⟩ := H
  replace H : (some t119) = some r := H
  have A2 := Aside0.mk A20
  clear A20
  obtain rfl := Option.some.inj H
  go_enter Try.func10, Try.ntmps10
  go_wp2_with (first | ((with_reducible refine gate_callee (f := 17) rfl ?_); refine goesL_ (some 4) rfl rfl Try.func17 (by kernel_rfl) rfl #[.string a0] rfl (by (try simp only [List.map_toArray, List.map_cons, List.map_nil]); first | done | rfl | (simp only [List.length_drop, List.length_take]; rfl)) ?_; (with_reducible refine (dbus_DoorInterface.calls k a0 t119 _ A2.out).mono ?_); rintro e w3 ⟨rfl, hb⟩; refine ⟨_, rfl, ?_⟩; have n0_ := Aside0.mk (below_step (by repeat (first | (with_reducible first | exact HB.out | apply below_alloc | apply pw_below_drewN | apply below_drew1) | exact HB.out)) hb); clear HB; have HB := n0_; clear n0_; (try clear hb); (try clear hb2); (try clear hk); (try clear hi)))
  go_ret
  exact ⟨by first | rfl | (simp [errW_none, errW_some] <;> rfl) | (simp [*, errW_none, errW_some] <;> rfl) | (simp (disch := omega) only [wrap64_id] <;> rfl), by repeat (first | (with_reducible first | exact HB.out | apply below_alloc | apply pw_below_drewN | apply below_drew1) | exact HB.out)⟩

/-! ### spec_ValidInterface: function 11 -/
def spec_ValidInterface.f (k : Nat) (a0 : ByteArray) : Option (Bool) := if (a0.size : Int) ≤ 255 then ((spec_points.f k a0).bind fun t120 => (if t120 > 0 then ((spec_named.f k a0 false false).bind fun t121 => (some t121)) else (some false))) else (some false)
theorem spec_ValidInterface.mono : ∀ a0 k, LeO (spec_ValidInterface.f k a0) (spec_ValidInterface.f (k + 1) a0) := by
  intro a0 k
  unfold spec_ValidInterface.f
  repeat' first
      | (with_reducible exact spec_named.mono _ _ _ _)
      | (with_reducible exact spec_points.mono _ _)
      | (with_reducible exact LeO.refl _)
      | (with_reducible exact LeO.none _)
      | (with_reducible refine LeO.ite ?_ ?_)
      | (with_reducible refine LeO.bind ?_ (fun _ => ?_))
      | exact spec_named.mono _ _ _ _
      | exact spec_points.mono _ _
      | exact LeO.none _
      | refine LeO.ite ?_ ?_
      | refine LeO.bind ?_ (fun _ => ?_)
set_option maxHeartbeats 8000000 in
set_option maxRecDepth 100000 in
theorem spec_ValidInterface.calls (k : Nat) (a0 : ByteArray) (r : Bool) (w : World) (h : spec_ValidInterface.f k a0 = some r) :
    Calls Try.prog 11 #[.string a0] w fun e w' => e = .returned (.bool r) ∧ Below w.heap.size w w' := by
  have HB := Aside0.mk (Below.refl w.heap.size w)
  have H : (if (a0.size : Int) ≤ 255 then ((spec_points.f k a0).bind fun t120 => (if t120 > 0 then ((spec_named.f k a0 false false).bind fun t121 => (some t121)) else (some false))) else (some false)) = some r := h
  clear h
  by_cases c2 : (a0.size : Int) ≤ 255
  · rw [if_pos c2] at H
    have c2b0 : decide ((a0.size : Int) ≤ 255) = true := decide_eq_true c2
    have c2b1 : decide (a0.size ≤ 255) = true := decide_eq_true (by omega)
    clear c2
    replace H := Option.bind_eq_some_iff.mp H
    obtain ⟨t120, A30, H⟩ := H
    replace H : (if t120 > 0 then ((spec_named.f k a0 false false).bind fun t121 => (some t121)) else (some false)) = some r := H
    have A3 := Aside0.mk A30
    clear A30
    by_cases c4 : t120 > 0
    · rw [if_pos c4] at H
      have c4b0 : decide (0 < t120) = true := decide_eq_true c4
      clear c4
      replace H := Option.bind_eq_some_iff.mp H
      obtain ⟨t121, A50, H⟩ := H
      replace H : (some t121) = some r := H
      have A5 := Aside0.mk A50
      clear A50
      obtain rfl := Option.some.inj H
      go_enter Try.func11, Try.ntmps11
      go_wp2_with (first | (go_at_call 13; (with_reducible refine (spec_points.calls k a0 t120 _ A3.out).mono ?_); rintro e w' ⟨rfl, ⟨nd, rfl⟩⟩) | (go_at_call 14; (with_reducible refine (spec_named.calls k a0 false false t121 _ A5.out).mono ?_); rintro e w6 ⟨rfl, hb⟩; have n0_ := Aside0.mk (below_step (by repeat (first | (with_reducible first | exact HB.out | apply below_alloc | apply pw_below_drewN | apply below_drew1) | exact HB.out)) hb); clear HB; have HB := n0_; clear n0_; (try clear hb); (try clear hb2); (try clear hk); (try clear hi)))
      go_ret
      exact ⟨by first | rfl | (simp [errW_none, errW_some] <;> rfl) | (simp [*, errW_none, errW_some] <;> rfl) | (simp (disch := omega) only [wrap64_id] <;> rfl), by repeat (first | (with_reducible first | exact HB.out | apply below_alloc | apply pw_below_drewN | apply below_drew1) | exact HB.out)⟩
    · rw [if_neg c4] at H
      have c4b0 : decide (0 < t120) = false := decide_eq_false c4
      clear c4
      obtain rfl := Option.some.inj H
      go_enter Try.func11, Try.ntmps11
      go_wp2_with (first | (go_at_call 13; (with_reducible refine (spec_points.calls k a0 t120 _ A3.out).mono ?_); rintro e w' ⟨rfl, ⟨nd, rfl⟩⟩))
      go_ret
      exact ⟨by first | rfl | (simp [errW_none, errW_some] <;> rfl) | (simp [*, errW_none, errW_some] <;> rfl) | (simp (disch := omega) only [wrap64_id] <;> rfl), by repeat (first | (with_reducible first | exact HB.out | apply below_alloc | apply pw_below_drewN | apply below_drew1) | exact HB.out)⟩
  · rw [if_neg c2] at H
    have c2b0 : decide ((a0.size : Int) ≤ 255) = false := decide_eq_false c2
    have c2b1 : decide (a0.size ≤ 255) = false := decide_eq_false (by omega)
    clear c2
    obtain rfl := Option.some.inj H
    go_enter Try.func11, Try.ntmps11
    go_wp2
    go_ret
    exact ⟨by first | rfl | (simp [errW_none, errW_some] <;> rfl) | (simp [*, errW_none, errW_some] <;> rfl) | (simp (disch := omega) only [wrap64_id] <;> rfl), by repeat (first | (with_reducible first | exact HB.out | apply below_alloc | apply pw_below_drewN | apply below_drew1) | exact HB.out)⟩

/-! ### laws_FnNmAll: function 5 -/
mutual
def laws_FnNmAll.l0 : Nat → ByteArray → List ByteArray → Int → Option (Bool)
  | 0, _, _, _ => none
  | k + 1, x0, x3, x4 => if x4 < (x3.length : Int) then (if 0 ≤ x4 then ((impl_NmPath.f k (rdOf ByteArray.empty x3 x4)).bind fun t129 => ((spec_ValidPath.f k (rdOf ByteArray.empty x3 x4)).bind fun t130 => (if (t129 != t130) = true then (laws_FnNmAll.j1 k x0 x3 x4 (rdOf ByteArray.empty x3 x4) true) else ((impl_NmInterface.f k (rdOf ByteArray.empty x3 x4)).bind fun t131 => ((spec_ValidInterface.f k (rdOf ByteArray.empty x3 x4)).bind fun t132 => (if (t131 != t132) = true then (laws_FnNmAll.j1 k x0 x3 x4 (rdOf ByteArray.empty x3 x4) true) else ((impl_NmMember.f k (rdOf ByteArray.empty x3 x4)).bind fun t133 => ((spec_ValidMember.f k (rdOf ByteArray.empty x3 x4)).bind fun t134 => (laws_FnNmAll.j1 k x0 x3 x4 (rdOf ByteArray.empty x3 x4) (t133 != t134)))))))))) else (none)) else ((impl_NmPath.f k (⟨#[47, 97]⟩ : ByteArray)).bind fun t125 => (if t125 = true then ((impl_NmInterface.f k (⟨#[97, 46, 98]⟩ : ByteArray)).bind fun t126 => (if t126 = true then ((impl_NmMember.f k (⟨#[97]⟩ : ByteArray)).bind fun t127 => (some t127)) else (some false))) else (some false)))
def laws_FnNmAll.j1 : Nat → ByteArray → List ByteArray → Int → ByteArray → Bool → Option (Bool)
  | 0, _, _, _, _, _ => none
  | k + 1, x0, x3, x4, x5, x42 => if x42 = true then (some false) else (laws_FnNmAll.l1 k x0 x3 x4 x5 0)
def laws_FnNmAll.l1 : Nat → ByteArray → List ByteArray → Int → ByteArray → Int → Option (Bool)
  | 0, _, _, _, _, _ => none
  | k + 1, x0, x3, x4, x5, x6 => if x6 < (x0.size : Int) then (if (x5.size : Int) < 3 then (if 0 ≤ x6 then (if x6 ≤ (wrap64 (x6 + 1)) then (if (wrap64 (x6 + 1)) ≤ (x0.size : Int) then (if x5.size + (x0.extract (x6 : Int).toNat ((wrap64 (x6 + 1)) : Int).toNat).size ≤ 9223372036854775807 then (if x3.length < 8796093022208 then (laws_FnNmAll.l1 k x0 (x3 ++ [x5 ++ (x0.extract (x6 : Int).toNat ((wrap64 (x6 + 1)) : Int).toNat)]) x4 x5 (wrap64 (x6 + 1))) else (none)) else (none)) else (none)) else (none)) else (none)) else (laws_FnNmAll.l0 k x0 x3 (wrap64 (x4 + 1)))) else (laws_FnNmAll.l0 k x0 x3 (wrap64 (x4 + 1)))
end
def laws_FnNmAll.f (k : Nat) (a0 : ByteArray) : Option (Bool) := if (a0.size : Int) > 2147483647 then (some true) else (if (a0.size : Int) > 9 then (some true) else (laws_FnNmAll.l0 k a0 (([(⟨#[]⟩ : ByteArray)] : List ByteArray)) 0))
theorem laws_FnNmAll.mono_l : ∀ k, (∀ y0 y1 y2, LeO (laws_FnNmAll.l0 k y0 y1 y2) (laws_FnNmAll.l0 (k + 1) y0 y1 y2)) ∧ (∀ y0 y1 y2 y3 y4, LeO (laws_FnNmAll.j1 k y0 y1 y2 y3 y4) (laws_FnNmAll.j1 (k + 1) y0 y1 y2 y3 y4)) ∧ (∀ y0 y1 y2 y3 y4, LeO (laws_FnNmAll.l1 k y0 y1 y2 y3 y4) (laws_FnNmAll.l1 (k + 1) y0 y1 y2 y3 y4))
  | 0 => ⟨fun _ _ _ r h => by simp [laws_FnNmAll.l0] at h, fun _ _ _ _ _ r h => by simp [laws_FnNmAll.j1] at h, fun _ _ _ _ _ r h => by simp [laws_FnNmAll.l1] at h⟩
  | k + 1 => by
    obtain ⟨ih0, ih1, ih2⟩ := laws_FnNmAll.mono_l k
    refine ⟨?_, ?_, ?_⟩
    · intro y0 y1 y2
      unfold laws_FnNmAll.l0
      repeat' first
      | (with_reducible exact ih0 _ _ _)
      | (with_reducible exact ih1 _ _ _ _ _)
      | (with_reducible exact ih2 _ _ _ _ _)
      | (with_reducible exact impl_NmInterface.mono _ _)
      | (with_reducible exact impl_NmMember.mono _ _)
      | (with_reducible exact impl_NmPath.mono _ _)
      | (with_reducible exact spec_ValidInterface.mono _ _)
      | (with_reducible exact spec_ValidMember.mono _ _)
      | (with_reducible exact spec_ValidPath.mono _ _)
      | (with_reducible exact LeO.refl _)
      | (with_reducible exact LeO.none _)
      | (with_reducible refine LeO.ite ?_ ?_)
      | (with_reducible refine LeO.bind ?_ (fun _ => ?_))
      | exact ih0 _ _ _
      | exact ih1 _ _ _ _ _
      | exact ih2 _ _ _ _ _
      | exact impl_NmInterface.mono _ _
      | exact impl_NmMember.mono _ _
      | exact impl_NmPath.mono _ _
      | exact spec_ValidInterface.mono _ _
      | exact spec_ValidMember.mono _ _
      | exact spec_ValidPath.mono _ _
      | exact LeO.none _
      | refine LeO.ite ?_ ?_
      | refine LeO.bind ?_ (fun _ => ?_)
    · intro y0 y1 y2 y3 y4
      unfold laws_FnNmAll.j1
      repeat' first
      | (with_reducible exact ih0 _ _ _)
      | (with_reducible exact ih1 _ _ _ _ _)
      | (with_reducible exact ih2 _ _ _ _ _)
      | (with_reducible exact impl_NmInterface.mono _ _)
      | (with_reducible exact impl_NmMember.mono _ _)
      | (with_reducible exact impl_NmPath.mono _ _)
      | (with_reducible exact spec_ValidInterface.mono _ _)
      | (with_reducible exact spec_ValidMember.mono _ _)
      | (with_reducible exact spec_ValidPath.mono _ _)
      | (with_reducible exact LeO.refl _)
      | (with_reducible exact LeO.none _)
      | (with_reducible refine LeO.ite ?_ ?_)
      | (with_reducible refine LeO.bind ?_ (fun _ => ?_))
      | exact ih0 _ _ _
      | exact ih1 _ _ _ _ _
      | exact ih2 _ _ _ _ _
      | exact impl_NmInterface.mono _ _
      | exact impl_NmMember.mono _ _
      | exact impl_NmPath.mono _ _
      | exact spec_ValidInterface.mono _ _
      | exact spec_ValidMember.mono _ _
      | exact spec_ValidPath.mono _ _
      | exact LeO.none _
      | refine LeO.ite ?_ ?_
      | refine LeO.bind ?_ (fun _ => ?_)
    · intro y0 y1 y2 y3 y4
      unfold laws_FnNmAll.l1
      repeat' first
      | (with_reducible exact ih0 _ _ _)
      | (with_reducible exact ih1 _ _ _ _ _)
      | (with_reducible exact ih2 _ _ _ _ _)
      | (with_reducible exact impl_NmInterface.mono _ _)
      | (with_reducible exact impl_NmMember.mono _ _)
      | (with_reducible exact impl_NmPath.mono _ _)
      | (with_reducible exact spec_ValidInterface.mono _ _)
      | (with_reducible exact spec_ValidMember.mono _ _)
      | (with_reducible exact spec_ValidPath.mono _ _)
      | (with_reducible exact LeO.refl _)
      | (with_reducible exact LeO.none _)
      | (with_reducible refine LeO.ite ?_ ?_)
      | (with_reducible refine LeO.bind ?_ (fun _ => ?_))
      | exact ih0 _ _ _
      | exact ih1 _ _ _ _ _
      | exact ih2 _ _ _ _ _
      | exact impl_NmInterface.mono _ _
      | exact impl_NmMember.mono _ _
      | exact impl_NmPath.mono _ _
      | exact spec_ValidInterface.mono _ _
      | exact spec_ValidMember.mono _ _
      | exact spec_ValidPath.mono _ _
      | exact LeO.none _
      | refine LeO.ite ?_ ?_
      | refine LeO.bind ?_ (fun _ => ?_)
theorem laws_FnNmAll.mono : ∀ a0 k, LeO (laws_FnNmAll.f k a0) (laws_FnNmAll.f (k + 1) a0) := by
  intro a0 k
  obtain ⟨ih0, ih1, ih2⟩ := laws_FnNmAll.mono_l k
  unfold laws_FnNmAll.f
  repeat' first
      | (with_reducible exact ih0 _ _ _)
      | (with_reducible exact ih1 _ _ _ _ _)
      | (with_reducible exact ih2 _ _ _ _ _)
      | (with_reducible exact impl_NmInterface.mono _ _)
      | (with_reducible exact impl_NmMember.mono _ _)
      | (with_reducible exact impl_NmPath.mono _ _)
      | (with_reducible exact spec_ValidInterface.mono _ _)
      | (with_reducible exact spec_ValidMember.mono _ _)
      | (with_reducible exact spec_ValidPath.mono _ _)
      | (with_reducible exact LeO.refl _)
      | (with_reducible exact LeO.none _)
      | (with_reducible refine LeO.ite ?_ ?_)
      | (with_reducible refine LeO.bind ?_ (fun _ => ?_))
      | exact ih0 _ _ _
      | exact ih1 _ _ _ _ _
      | exact ih2 _ _ _ _ _
      | exact impl_NmInterface.mono _ _
      | exact impl_NmMember.mono _ _
      | exact impl_NmPath.mono _ _
      | exact spec_ValidInterface.mono _ _
      | exact spec_ValidMember.mono _ _
      | exact spec_ValidPath.mono _ _
      | exact LeO.none _
      | refine LeO.ite ?_ ?_
      | refine LeO.bind ?_ (fun _ => ?_)
set_option maxHeartbeats 8000000 in
set_option maxRecDepth 100000 in
theorem laws_FnNmAll.calls (k : Nat) (a0 : ByteArray) (r : Bool) (w : World) (h : laws_FnNmAll.f k a0 = some r) :
    Calls Try.prog 5 #[.string a0] w fun e w' => e = .returned (.bool r) ∧ Below w.heap.size w w' := by
  have HB := Aside0.mk (Below.refl w.heap.size w)
  have H : (if (a0.size : Int) > 2147483647 then (some true) else (if (a0.size : Int) > 9 then (some true) else (laws_FnNmAll.l0 k a0 (([(⟨#[]⟩ : ByteArray)] : List ByteArray)) 0))) = some r := h
  clear h
  by_cases c2 : (a0.size : Int) > 2147483647
  · rw [if_pos c2] at H
    have c2b0 : decide (2147483647 < (a0.size : Int)) = true := decide_eq_true c2
    have c2b1 : decide (2147483647 < a0.size) = true := decide_eq_true (by omega)
    clear c2
    obtain rfl := Option.some.inj H
    go_enter Try.func5, Try.ntmps5
    go_wp2
    go_ret
    exact ⟨by first | rfl | (simp [errW_none, errW_some] <;> rfl) | (simp [*, errW_none, errW_some] <;> rfl) | (simp (disch := omega) only [wrap64_id] <;> rfl), by repeat (first | (with_reducible first | exact HB.out | apply below_alloc | apply pw_below_drewN | apply below_drew1) | exact HB.out)⟩
  · rw [if_neg c2] at H
    have c2b0 : decide (2147483647 < (a0.size : Int)) = false := decide_eq_false c2
    have c2b1 : decide (2147483647 < a0.size) = false := decide_eq_false (by omega)
    clear c2
    by_cases c3 : (a0.size : Int) > 9
    · rw [if_pos c3] at H
      have c3b0 : decide (9 < (a0.size : Int)) = true := decide_eq_true c3
      have c3b1 : decide (9 < a0.size) = true := decide_eq_true (by omega)
      clear c3
      obtain rfl := Option.some.inj H
      go_enter Try.func5, Try.ntmps5
      go_wp2
      go_ret
      exact ⟨by first | rfl | (simp [errW_none, errW_some] <;> rfl) | (simp [*, errW_none, errW_some] <;> rfl) | (simp (disch := omega) only [wrap64_id] <;> rfl), by repeat (first | (with_reducible first | exact HB.out | apply below_alloc | apply pw_below_drewN | apply below_drew1) | exact HB.out)⟩
    · rw [if_neg c3] at H
      have c3b0 : decide (9 < (a0.size : Int)) = false := decide_eq_false c3
      have c3b1 : decide (9 < a0.size) = false := decide_eq_false (by omega)
      clear c3
      obtain ⟨y122, hy122⟩ : ∃ y_ : List ByteArray, y_ = (([(⟨#[]⟩ : ByteArray)] : List ByteArray)) := ⟨_, rfl⟩
      replace H : (laws_FnNmAll.l0 k a0 y122 0) = some r := by first | (rw [hy122]; with_reducible exact H) | (have H2_ := (Option.bind_some _ _).symm.trans H; rw [hy122]; with_reducible exact H2_) | (have H2_ := (Option.bind_some _ _).symm.trans H; with_reducible exact H2_) | with_reducible exact H | (rw [hy122]; exact H) | exact H
      have Ny122 := Aside0.mk hy122
      clear hy122
      have H' := Aside0.mk H
      clear H
      go_enter Try.func5, Try.ntmps5
      go_wp2_with (first | ((with_reducible refine gate_dst (N := 13) rfl ?_); (try (refine gate_guard (by rfl) ?_; dsimp only)); refine Kd.R_lit Kd.string _ 9 ?hg (N := 13) ?hd (xs := ([(⟨#[]⟩ : ByteArray)] : List ByteArray)) (inner := [.string (⟨#[]⟩ : ByteArray)]) (ok := fun _ => True) (okp := fun _ => True) ?hr ?hp (fun _ hk => hk) trivial (Below.refl _ _) (Nat.le_refl _) (by simp) ?_; (case hd => rfl); (case hg => rfl); (case hr => first | (go_simp; done) | (go_simp; rfl)); (case hp => exact (Reps.one (show Kd.M Kd.string _ _ _ (⟨#[]⟩ : ByteArray) [.string (⟨#[]⟩ : ByteArray)] from rfl) (Reps.none _ _))); intro v123 w4 ho5 hb hg_ hnew_; clear hg_ hnew_; (first | rw [← Ny122.out] at ho5 | (simp only [Int.reduceToNat] at ho5; rw [← Ny122.out] at ho5)); have n0_ := Aside0.mk (Kd.R_lower ho5 (below_size (by repeat (first | (with_reducible first | exact HB.out | apply below_alloc | apply pw_below_drewN | apply below_drew1) | exact HB.out)))); have n1_ := Aside0.mk (below_step (by repeat (first | (with_reducible first | exact HB.out | apply below_alloc | apply pw_below_drewN | apply below_drew1) | exact HB.out)) hb); clear HB; have HO124 := n0_; have HB := n1_; clear n0_ n1_; clear hb ho5))
      go_loopg [3, 4] k (fun kq v3 v4 w' => ∃ (x3_1 : List ByteArray) (x4_1 : Int), v4 = .int .i64 x4_1 ∧ Aside0 (laws_FnNmAll.l0 kq a0 x3_1 x4_1 = some r) ∧ Aside0 (kq ≤ k) ∧ Aside0 (Kd.R Kd.string 9 w' w.heap.size (fun _ => True) v3 x3_1) ∧ Aside0 (Below w.heap.size w w'))
      case atStart => exact ⟨(y122), (0), (by first | rfl | (simp; done) | (simp [*]; done)), H', ⟨Nat.le_refl _⟩, ⟨by (with_reducible repeat (first | apply Kd.R_alloc | apply Kd.R_drewN | apply Kd.R_drew)); exact HO124.out⟩, ⟨by repeat (first | (with_reducible first | exact HB.out | apply below_alloc | apply pw_below_drewN | apply below_drew1) | exact HB.out)⟩⟩
      case round =>
        clear H'
        try clear c2
        try clear c2b0
        try clear c2b1
        try clear p2
        try clear c3
        try clear c3b0
        try clear c3b1
        try clear c5
        obtain ⟨x3_1, x4_1, rfl, HA, HK1, HO_3, HB⟩ := hrel
        cases gk with
        | zero => exact absurd HA.out (by simp [laws_FnNmAll.l0])
        | succ k1 =>
          have H := HA.out
          clear HA
          simp only [laws_FnNmAll.l0] at H
          by_cases c6 : x4_1 < (x3_1.length : Int)
          · rw [if_pos c6] at H
            have c6b0 : decide (x4_1 < (x3_1.length : Int)) = true := decide_eq_true c6
            clear c6
            by_cases c7 : 0 ≤ x4_1
            · rw [if_pos c7] at H
              have c7b0 : decide (0 ≤ x4_1) = true := decide_eq_true c7
              clear c7
              have HC8 := Aside0.mk H
              clear H
              obtain ⟨Ao9, co9, eo9⟩ := Kd.R_slice HO_3.out
              subst eo9
              have p128 : 0 ≤ (x4_1 : Int) := of_decide_eq_true (by first | (with_reducible assumption) | assumption)
              have q128 : x4_1 < (x3_1.length : Int) := of_decide_eq_true (by first | (with_reducible assumption) | assumption)
              obtain ⟨ad128, e128, hx128_0⟩ := Kd.at_string (Kd.R_reads' HO_3.out).2.2 x4_1 p128 q128
              cases e128
              replace p128 := eq_true p128
              replace q128 := eq_true q128
              go_upto_region 10 with (fail)
              go_cut [42] (fun v42 wc => ∃ (kq : Nat) (x42_7 : Bool), v42 = .bool x42_7 ∧ Aside0 (laws_FnNmAll.j1 kq a0 x3_1 x4_1 (rdOf ByteArray.empty x3_1 x4_1) x42_7 = some r) ∧ Aside0 (kq ≤ k1) ∧ Aside0 (Kd.R Kd.string 9 wc w.heap.size (fun _ => True) (.slice (some ad128) x3_1.length co9) x3_1) ∧ Aside0 (Below w.heap.size w wc))
              case first =>
                have H := HC8.out
                clear HC8
                replace H := Option.bind_eq_some_iff.mp H
                obtain ⟨t129, A100, H⟩ := H
                replace H : ((spec_ValidPath.f k1 (rdOf ByteArray.empty x3_1 x4_1)).bind fun t130 => (if (t129 != t130) = true then (laws_FnNmAll.j1 k1 a0 x3_1 x4_1 (rdOf ByteArray.empty x3_1 x4_1) true) else ((impl_NmInterface.f k1 (rdOf ByteArray.empty x3_1 x4_1)).bind fun t131 => ((spec_ValidInterface.f k1 (rdOf ByteArray.empty x3_1 x4_1)).bind fun t132 => (if (t131 != t132) = true then (laws_FnNmAll.j1 k1 a0 x3_1 x4_1 (rdOf ByteArray.empty x3_1 x4_1) true) else ((impl_NmMember.f k1 (rdOf ByteArray.empty x3_1 x4_1)).bind fun t133 => ((spec_ValidMember.f k1 (rdOf ByteArray.empty x3_1 x4_1)).bind fun t134 => (laws_FnNmAll.j1 k1 a0 x3_1 x4_1 (rdOf ByteArray.empty x3_1 x4_1) (t133 != t134))))))))) = some r := H
                have A10 := Aside0.mk A100
                clear A100
                replace H := Option.bind_eq_some_iff.mp H
                obtain ⟨t130, A110, H⟩ := H
                replace H : (if (t129 != t130) = true then (laws_FnNmAll.j1 k1 a0 x3_1 x4_1 (rdOf ByteArray.empty x3_1 x4_1) true) else ((impl_NmInterface.f k1 (rdOf ByteArray.empty x3_1 x4_1)).bind fun t131 => ((spec_ValidInterface.f k1 (rdOf ByteArray.empty x3_1 x4_1)).bind fun t132 => (if (t131 != t132) = true then (laws_FnNmAll.j1 k1 a0 x3_1 x4_1 (rdOf ByteArray.empty x3_1 x4_1) true) else ((impl_NmMember.f k1 (rdOf ByteArray.empty x3_1 x4_1)).bind fun t133 => ((spec_ValidMember.f k1 (rdOf ByteArray.empty x3_1 x4_1)).bind fun t134 => (laws_FnNmAll.j1 k1 a0 x3_1 x4_1 (rdOf ByteArray.empty x3_1 x4_1) (t133 != t134)))))))) = some r := H
                have A11 := Aside0.mk A110
                clear A110
                by_cases c12 : (t129 != t130) = true
                · rw [if_pos c12] at H
                  have c12b0 : (t129 != t130) = true := c12
                  (try (have c12b1 : decide (t129 = t130) = false := by simpa using c12))
                  (try (have c12b2 : (t129 == t130) = false := by simpa using c12))
                  (try (have c12b3 : ¬ (t129 = t130) := by simpa using c12))
                  clear c12
                  (first | rw [c12b0] | (simp only [i64_w, i32_w]; rw [c12b0]) | skip)
                  have H' := Aside0.mk H
                  clear H
                  go_wp2_with (first | ((with_reducible refine gate_callee (f := 8) rfl ?_); refine goesL_ (some 25) rfl rfl Try.func8 (by kernel_rfl) rfl #[.string (rdOf ByteArray.empty x3_1 x4_1)] rfl (by (try simp only [List.map_toArray, List.map_cons, List.map_nil]); first | done | rfl | (simp only [List.length_drop, List.length_take]; rfl)) ?_; (with_reducible refine (impl_NmPath.calls k1 (rdOf ByteArray.empty x3_1 x4_1) t129 _ A10.out).mono ?_); rintro e w13 ⟨rfl, hb⟩; refine ⟨_, rfl, ?_⟩; have n0_ := Aside0.mk (Kd.R_below (by (with_reducible repeat (first | apply Kd.R_alloc | apply Kd.R_drewN | apply Kd.R_drew)); exact HO_3.out) hb); have n1_ := Aside0.mk (below_step (by repeat (first | (with_reducible first | exact HB.out | apply below_alloc | apply pw_below_drewN | apply below_drew1) | exact HB.out)) hb); clear HO_3; clear HB; have HO_3 := n0_; have HB := n1_; clear n0_ n1_; (try clear hb); (try clear hb2); (try clear hk); (try clear hi)) | ((with_reducible refine gate_callee (f := 9) rfl ?_); refine goesL_ (some 27) rfl rfl Try.func9 (by kernel_rfl) rfl #[.string (rdOf ByteArray.empty x3_1 x4_1)] rfl (by (try simp only [List.map_toArray, List.map_cons, List.map_nil]); first | done | rfl | (simp only [List.length_drop, List.length_take]; rfl)) ?_; (with_reducible refine (spec_ValidPath.calls k1 (rdOf ByteArray.empty x3_1 x4_1) t130 _ A11.out).mono ?_); rintro e w' ⟨rfl, ⟨nd, rfl⟩⟩; refine ⟨_, rfl, ?_⟩))
                  go_meet
                  case rel => exact ⟨_, (true), (by first | rfl | (simp; done) | (simp [*]; done)), H', ⟨by have := HK1.out; first | omega | exact Nat.le_refl _⟩, ⟨by (with_reducible repeat (first | apply Kd.R_alloc | apply Kd.R_drewN | apply Kd.R_drew)); exact HO_3.out⟩, ⟨by repeat (first | (with_reducible first | exact HB.out | apply below_alloc | apply pw_below_drewN | apply below_drew1) | exact HB.out)⟩⟩
                · rw [if_neg c12] at H
                  have c12b0 : (t129 != t130) = false := by simpa using c12
                  (try (have c12b1 : decide (t129 = t130) = true := by simpa using c12))
                  (try (have c12b2 : (t129 == t130) = true := by simpa using c12))
                  clear c12
                  (first | rw [c12b0] | (simp only [i64_w, i32_w]; rw [c12b0]) | skip)
                  replace H := Option.bind_eq_some_iff.mp H
                  obtain ⟨t131, A140, H⟩ := H
                  replace H : ((spec_ValidInterface.f k1 (rdOf ByteArray.empty x3_1 x4_1)).bind fun t132 => (if (t131 != t132) = true then (laws_FnNmAll.j1 k1 a0 x3_1 x4_1 (rdOf ByteArray.empty x3_1 x4_1) true) else ((impl_NmMember.f k1 (rdOf ByteArray.empty x3_1 x4_1)).bind fun t133 => ((spec_ValidMember.f k1 (rdOf ByteArray.empty x3_1 x4_1)).bind fun t134 => (laws_FnNmAll.j1 k1 a0 x3_1 x4_1 (rdOf ByteArray.empty x3_1 x4_1) (t133 != t134)))))) = some r := H
                  have A14 := Aside0.mk A140
                  clear A140
                  replace H := Option.bind_eq_some_iff.mp H
                  obtain ⟨t132, A150, H⟩ := H
                  replace H : (if (t131 != t132) = true then (laws_FnNmAll.j1 k1 a0 x3_1 x4_1 (rdOf ByteArray.empty x3_1 x4_1) true) else ((impl_NmMember.f k1 (rdOf ByteArray.empty x3_1 x4_1)).bind fun t133 => ((spec_ValidMember.f k1 (rdOf ByteArray.empty x3_1 x4_1)).bind fun t134 => (laws_FnNmAll.j1 k1 a0 x3_1 x4_1 (rdOf ByteArray.empty x3_1 x4_1) (t133 != t134))))) = some r := H
                  have A15 := Aside0.mk A150
                  clear A150
                  by_cases c16 : (t131 != t132) = true
                  · rw [if_pos c16] at H
                    have c16b0 : (t131 != t132) = true := c16
                    (try (have c16b1 : decide (t131 = t132) = false := by simpa using c16))
                    (try (have c16b2 : (t131 == t132) = false := by simpa using c16))
                    (try (have c16b3 : ¬ (t131 = t132) := by simpa using c16))
                    clear c16
                    have H' := Aside0.mk H
                    clear H
                    go_wp2_with (first | ((with_reducible refine gate_callee (f := 8) rfl ?_); refine goesL_ (some 25) rfl rfl Try.func8 (by kernel_rfl) rfl #[.string (rdOf ByteArray.empty x3_1 x4_1)] rfl (by (try simp only [List.map_toArray, List.map_cons, List.map_nil]); first | done | rfl | (simp only [List.length_drop, List.length_take]; rfl)) ?_; (with_reducible refine (impl_NmPath.calls k1 (rdOf ByteArray.empty x3_1 x4_1) t129 _ A10.out).mono ?_); rintro e w17 ⟨rfl, hb⟩; refine ⟨_, rfl, ?_⟩; have n0_ := Aside0.mk (Kd.R_below (by (with_reducible repeat (first | apply Kd.R_alloc | apply Kd.R_drewN | apply Kd.R_drew)); exact HO_3.out) hb); have n1_ := Aside0.mk (below_step (by repeat (first | (with_reducible first | exact HB.out | apply below_alloc | apply pw_below_drewN | apply below_drew1) | exact HB.out)) hb); clear HO_3; clear HB; have HO_3 := n0_; have HB := n1_; clear n0_ n1_; (try clear hb); (try clear hb2); (try clear hk); (try clear hi)) | ((with_reducible refine gate_callee (f := 9) rfl ?_); refine goesL_ (some 27) rfl rfl Try.func9 (by kernel_rfl) rfl #[.string (rdOf ByteArray.empty x3_1 x4_1)] rfl (by (try simp only [List.map_toArray, List.map_cons, List.map_nil]); first | done | rfl | (simp only [List.length_drop, List.length_take]; rfl)) ?_; (with_reducible refine (spec_ValidPath.calls k1 (rdOf ByteArray.empty x3_1 x4_1) t130 _ A11.out).mono ?_); rintro e w' ⟨rfl, ⟨nd, rfl⟩⟩; refine ⟨_, rfl, ?_⟩) | (go_at_call 10; (with_reducible refine (impl_NmInterface.calls k1 (rdOf ByteArray.empty x3_1 x4_1) t131 _ A14.out).mono ?_); rintro e w18 ⟨rfl, hb⟩; have n0_ := Aside0.mk (Kd.R_below (by (with_reducible repeat (first | apply Kd.R_alloc | apply Kd.R_drewN | apply Kd.R_drew)); exact HO_3.out) hb); have n1_ := Aside0.mk (below_step (by repeat (first | (with_reducible first | exact HB.out | apply below_alloc | apply pw_below_drewN | apply below_drew1) | exact HB.out)) hb); clear HO_3; clear HB; have HO_3 := n0_; have HB := n1_; clear n0_ n1_; (try clear hb); (try clear hb2); (try clear hk); (try clear hi)) | (go_at_call 11; (with_reducible refine (spec_ValidInterface.calls k1 (rdOf ByteArray.empty x3_1 x4_1) t132 _ A15.out).mono ?_); rintro e w19 ⟨rfl, hb⟩; have n0_ := Aside0.mk (Kd.R_below (by (with_reducible repeat (first | apply Kd.R_alloc | apply Kd.R_drewN | apply Kd.R_drew)); exact HO_3.out) hb); have n1_ := Aside0.mk (below_step (by repeat (first | (with_reducible first | exact HB.out | apply below_alloc | apply pw_below_drewN | apply below_drew1) | exact HB.out)) hb); clear HO_3; clear HB; have HO_3 := n0_; have HB := n1_; clear n0_ n1_; (try clear hb); (try clear hb2); (try clear hk); (try clear hi)))
                    go_meet
                    case rel => exact ⟨_, (true), (by first | rfl | (simp; done) | (simp [*]; done)), H', ⟨by have := HK1.out; first | omega | exact Nat.le_refl _⟩, ⟨by (with_reducible repeat (first | apply Kd.R_alloc | apply Kd.R_drewN | apply Kd.R_drew)); exact HO_3.out⟩, ⟨by repeat (first | (with_reducible first | exact HB.out | apply below_alloc | apply pw_below_drewN | apply below_drew1) | exact HB.out)⟩⟩
                  · rw [if_neg c16] at H
                    have c16b0 : (t131 != t132) = false := by simpa using c16
                    (try (have c16b1 : decide (t131 = t132) = true := by simpa using c16))
                    (try (have c16b2 : (t131 == t132) = true := by simpa using c16))
                    clear c16
                    replace H := Option.bind_eq_some_iff.mp H
                    obtain ⟨t133, A200, H⟩ := H
                    replace H : ((spec_ValidMember.f k1 (rdOf ByteArray.empty x3_1 x4_1)).bind fun t134 => (laws_FnNmAll.j1 k1 a0 x3_1 x4_1 (rdOf ByteArray.empty x3_1 x4_1) (t133 != t134))) = some r := H
                    have A20 := Aside0.mk A200
                    clear A200
                    replace H := Option.bind_eq_some_iff.mp H
                    obtain ⟨t134, A210, H⟩ := H
                    replace H : (laws_FnNmAll.j1 k1 a0 x3_1 x4_1 (rdOf ByteArray.empty x3_1 x4_1) (t133 != t134)) = some r := H
                    have A21 := Aside0.mk A210
                    clear A210
                    have H' := Aside0.mk H
                    clear H
                    go_wp2_with (first | ((with_reducible refine gate_callee (f := 8) rfl ?_); refine goesL_ (some 25) rfl rfl Try.func8 (by kernel_rfl) rfl #[.string (rdOf ByteArray.empty x3_1 x4_1)] rfl (by (try simp only [List.map_toArray, List.map_cons, List.map_nil]); first | done | rfl | (simp only [List.length_drop, List.length_take]; rfl)) ?_; (with_reducible refine (impl_NmPath.calls k1 (rdOf ByteArray.empty x3_1 x4_1) t129 _ A10.out).mono ?_); rintro e w22 ⟨rfl, hb⟩; refine ⟨_, rfl, ?_⟩; have n0_ := Aside0.mk (Kd.R_below (by (with_reducible repeat (first | apply Kd.R_alloc | apply Kd.R_drewN | apply Kd.R_drew)); exact HO_3.out) hb); have n1_ := Aside0.mk (below_step (by repeat (first | (with_reducible first | exact HB.out | apply below_alloc | apply pw_below_drewN | apply below_drew1) | exact HB.out)) hb); clear HO_3; clear HB; have HO_3 := n0_; have HB := n1_; clear n0_ n1_; (try clear hb); (try clear hb2); (try clear hk); (try clear hi)) | ((with_reducible refine gate_callee (f := 9) rfl ?_); refine goesL_ (some 27) rfl rfl Try.func9 (by kernel_rfl) rfl #[.string (rdOf ByteArray.empty x3_1 x4_1)] rfl (by (try simp only [List.map_toArray, List.map_cons, List.map_nil]); first | done | rfl | (simp only [List.length_drop, List.length_take]; rfl)) ?_; (with_reducible refine (spec_ValidPath.calls k1 (rdOf ByteArray.empty x3_1 x4_1) t130 _ A11.out).mono ?_); rintro e w' ⟨rfl, ⟨nd, rfl⟩⟩; refine ⟨_, rfl, ?_⟩) | (go_at_call 10; (with_reducible refine (impl_NmInterface.calls k1 (rdOf ByteArray.empty x3_1 x4_1) t131 _ A14.out).mono ?_); rintro e w23 ⟨rfl, hb⟩; have n0_ := Aside0.mk (Kd.R_below (by (with_reducible repeat (first | apply Kd.R_alloc | apply Kd.R_drewN | apply Kd.R_drew)); exact HO_3.out) hb); have n1_ := Aside0.mk (below_step (by repeat (first | (with_reducible first | exact HB.out | apply below_alloc | apply pw_below_drewN | apply below_drew1) | exact HB.out)) hb); clear HO_3; clear HB; have HO_3 := n0_; have HB := n1_; clear n0_ n1_; (try clear hb); (try clear hb2); (try clear hk); (try clear hi)) | (go_at_call 11; (with_reducible refine (spec_ValidInterface.calls k1 (rdOf ByteArray.empty x3_1 x4_1) t132 _ A15.out).mono ?_); rintro e w24 ⟨rfl, hb⟩; have n0_ := Aside0.mk (Kd.R_below (by (with_reducible repeat (first | apply Kd.R_alloc | apply Kd.R_drewN | apply Kd.R_drew)); exact HO_3.out) hb); have n1_ := Aside0.mk (below_step (by repeat (first | (with_reducible first | exact HB.out | apply below_alloc | apply pw_below_drewN | apply below_drew1) | exact HB.out)) hb); clear HO_3; clear HB; have HO_3 := n0_; have HB := n1_; clear n0_ n1_; (try clear hb); (try clear hb2); (try clear hk); (try clear hi)) | (go_at_call 6; (with_reducible refine (impl_NmMember.calls k1 (rdOf ByteArray.empty x3_1 x4_1) t133 _ A20.out).mono ?_); rintro e w25 ⟨rfl, hb⟩; have n0_ := Aside0.mk (Kd.R_below (by (with_reducible repeat (first | apply Kd.R_alloc | apply Kd.R_drewN | apply Kd.R_drew)); exact HO_3.out) hb); have n1_ := Aside0.mk (below_step (by repeat (first | (with_reducible first | exact HB.out | apply below_alloc | apply pw_below_drewN | apply below_drew1) | exact HB.out)) hb); clear HO_3; clear HB; have HO_3 := n0_; have HB := n1_; clear n0_ n1_; (try clear hb); (try clear hb2); (try clear hk); (try clear hi)) | (go_at_call 7; (with_reducible refine (spec_ValidMember.calls k1 (rdOf ByteArray.empty x3_1 x4_1) t134 _ A21.out).mono ?_); rintro e w26 ⟨rfl, hb⟩; have n0_ := Aside0.mk (Kd.R_below (by (with_reducible repeat (first | apply Kd.R_alloc | apply Kd.R_drewN | apply Kd.R_drew)); exact HO_3.out) hb); have n1_ := Aside0.mk (below_step (by repeat (first | (with_reducible first | exact HB.out | apply below_alloc | apply pw_below_drewN | apply below_drew1) | exact HB.out)) hb); clear HO_3; clear HB; have HO_3 := n0_; have HB := n1_; clear n0_ n1_; (try clear hb); (try clear hb2); (try clear hk); (try clear hi)))
                    go_meet
                    case rel => exact ⟨_, ((t133 != t134)), (by first | rfl | (simp; done) | (simp [*]; done)), H', ⟨by have := HK1.out; first | omega | exact Nat.le_refl _⟩, ⟨by (with_reducible repeat (first | apply Kd.R_alloc | apply Kd.R_drewN | apply Kd.R_drew)); exact HO_3.out⟩, ⟨by repeat (first | (with_reducible first | exact HB.out | apply below_alloc | apply pw_below_drewN | apply below_drew1) | exact HB.out)⟩⟩
              case rest =>
                clear HC8
                try clear c1
                try clear p1
                try clear q1
                try clear hx1
                try clear c2
                try clear c2b0
                try clear c2b1
                try clear p2
                try clear c3
                try clear c3b0
                try clear c3b1
                try clear c5
                try clear c6
                try clear c6b0
                try clear p6
                try clear c7
                try clear c7b0
                try clear c8
                try clear c9
                try clear c12
                try clear c12b0
                try clear c12b1
                try clear c12b2
                try clear p12
                try clear q12
                try clear hx12
                try clear c16
                try clear c16b0
                try clear c16b1
                try clear c16b2
                try clear hx128_0
                try clear p128
                try clear p2
                try clear q128
                obtain ⟨kq, x42_7, rfl, HA, HJ7, HO_3, HB⟩ := hcut
                cases kq with
                | zero => exact absurd HA.out (by simp [laws_FnNmAll.j1])
                | succ kj7 =>
                  have H := HA.out
                  clear HA
                  simp only [laws_FnNmAll.j1] at H
                  by_cases c27 : x42_7 = true
                  · subst c27
                    have H1 : (some false) = some r := by rw [if_pos rfl] at H; exact H
                    clear H
                    have H := H1
                    clear H1
                    obtain rfl := Option.some.inj H
                    go_wp2
                    go_ret
                    exact ⟨by first | rfl | (simp [errW_none, errW_some] <;> rfl) | (simp [*, errW_none, errW_some] <;> rfl) | (simp (disch := omega) only [wrap64_id] <;> rfl), by repeat (first | (with_reducible first | exact HB.out | apply below_alloc | apply pw_below_drewN | apply below_drew1) | exact HB.out)⟩
                  · replace c27 := Bool.eq_false_iff.mpr c27
                    subst c27
                    have H1 : (laws_FnNmAll.l1 kj7 a0 x3_1 x4_1 (rdOf ByteArray.empty x3_1 x4_1) 0) = some r := by rw [if_neg (show ¬ (false = true) by decide)] at H; exact H
                    clear H
                    have H := H1
                    clear H1
                    have H' := Aside0.mk H
                    clear H
                    go_wp2
                    go_loopg [3, 6] kj7 (fun kq v3 v6 w' => ∃ (x3_3 : List ByteArray) (x6_3 : Int), v6 = .int .i64 x6_3 ∧ Aside0 (laws_FnNmAll.l1 kq a0 x3_3 x4_1 (rdOf ByteArray.empty x3_1 x4_1) x6_3 = some r) ∧ Aside0 (kq ≤ kj7) ∧ Aside0 (Kd.R Kd.string 9 w' w.heap.size (fun _ => True) v3 x3_3) ∧ Aside0 (Below w.heap.size w w'))
                    case atStart => exact ⟨(x3_1), (0), (by first | rfl | (simp; done) | (simp [*]; done)), H', ⟨Nat.le_refl _⟩, ⟨by (with_reducible repeat (first | apply Kd.R_alloc | apply Kd.R_drewN | apply Kd.R_drew)); exact HO_3.out⟩, ⟨by repeat (first | (with_reducible first | exact HB.out | apply below_alloc | apply pw_below_drewN | apply below_drew1) | exact HB.out)⟩⟩
                    case round =>
                      clear H'
                      try clear c1
                      try clear p1
                      try clear q1
                      try clear hx1
                      try clear c2
                      try clear c2b0
                      try clear c2b1
                      try clear p2
                      try clear c3
                      try clear c3b0
                      try clear c3b1
                      try clear c5
                      try clear c6
                      try clear c6b0
                      try clear p6
                      try clear c7
                      try clear c7b0
                      try clear c8
                      try clear c9
                      try clear c12
                      try clear c12b0
                      try clear c12b1
                      try clear c12b2
                      try clear p12
                      try clear q12
                      try clear hx12
                      try clear c16
                      try clear c16b0
                      try clear c16b1
                      try clear c16b2
                      try clear c27
                      try clear hx128_0
                      try clear p1
                      try clear p12
                      try clear p128
                      try clear p2
                      try clear p6
                      try clear q1
                      try clear q12
                      try clear q128
                      obtain ⟨x3_3, x6_3, rfl, HA, HK3, HO_3, HB⟩ := hrel
                      cases gk with
                      | zero => exact absurd HA.out (by simp [laws_FnNmAll.l1])
                      | succ k3 =>
                        have H := HA.out
                        clear HA
                        simp only [laws_FnNmAll.l1] at H
                        by_cases c28 : x6_3 < (a0.size : Int)
                        · rw [if_pos c28] at H
                          have c28b0 : decide (x6_3 < (a0.size : Int)) = true := decide_eq_true c28
                          clear c28
                          by_cases c29 : ((rdOf ByteArray.empty x3_1 x4_1).size : Int) < 3
                          · rw [if_pos c29] at H
                            have c29b0 : decide (((rdOf ByteArray.empty x3_1 x4_1).size : Int) < 3) = true := decide_eq_true c29
                            have c29b1 : decide ((rdOf ByteArray.empty x3_1 x4_1).size < 3) = true := decide_eq_true (by omega)
                            clear c29
                            by_cases c30 : 0 ≤ x6_3
                            · rw [if_pos c30] at H
                              have c30b0 := eq_true c30
                              have c30b1 : decide (0 ≤ x6_3) = true := decide_eq_true c30
                              clear c30
                              by_cases c31 : x6_3 ≤ (wrap64 (x6_3 + 1))
                              · rw [if_pos c31] at H
                                have c31b0 := eq_true c31
                                have c31b1 : decide (x6_3 ≤ (wrap64 (x6_3 + 1))) = true := decide_eq_true c31
                                by_cases c32 : (wrap64 (x6_3 + 1)) ≤ (a0.size : Int)
                                · rw [if_pos c32] at H
                                  have c32b0 := eq_true c32
                                  have c32b1 : decide ((wrap64 (x6_3 + 1)) ≤ (a0.size : Int)) = true := decide_eq_true c32
                                  by_cases c33 : (rdOf ByteArray.empty x3_1 x4_1).size + (a0.extract (x6_3 : Int).toNat ((wrap64 (x6_3 + 1)) : Int).toNat).size ≤ 9223372036854775807
                                  · rw [if_pos c33] at H
                                    have c33b0 := eq_true c33
                                    have c33b1 : decide ((rdOf ByteArray.empty x3_1 x4_1).size + (a0.extract (x6_3 : Int).toNat ((wrap64 (x6_3 + 1)) : Int).toNat).size ≤ 9223372036854775807) = true := decide_eq_true c33
                                    try have c33b2 : (9223372036854775807 < (rdOf ByteArray.empty x3_1 x4_1).size + (a0.extract (x6_3 : Int).toNat ((wrap64 (x6_3 + 1)) : Int).toNat).size) = False := eq_false (Nat.not_lt.2 c33)
                                    by_cases c34 : x3_3.length < 8796093022208
                                    · rw [if_pos c34] at H
                                      have LMc34 := Aside0.mk c34
                                      clear c34
                                      obtain ⟨y135, hy135⟩ : ∃ y_ : List ByteArray, y_ = (x3_3 ++ [(rdOf ByteArray.empty x3_1 x4_1) ++ (a0.extract (x6_3 : Int).toNat ((wrap64 (x6_3 + 1)) : Int).toNat)]) := ⟨_, rfl⟩
                                      replace H : (laws_FnNmAll.l1 k3 a0 y135 x4_1 (rdOf ByteArray.empty x3_1 x4_1) (wrap64 (x6_3 + 1))) = some r := by first | (rw [hy135]; with_reducible exact H) | (have H2_ := (Option.bind_some _ _).symm.trans H; rw [hy135]; with_reducible exact H2_) | (have H2_ := (Option.bind_some _ _).symm.trans H; with_reducible exact H2_) | with_reducible exact H | (rw [hy135]; exact H) | exact H
                                      have Ny135 := Aside0.mk hy135
                                      clear hy135
                                      have H' := Aside0.mk H
                                      clear H
                                      go_wp2_with (first | ((with_reducible refine gate_builtin (b := .append) (xs := #[.tmp 54, .tmp 62]) rfl ?_); (try (refine gate_guard (by rfl) ?_; dsimp only)); at_builtin; refine Kd.R_append Kd.string (w0 := w) w.heap.size rfl (.tmp 54) (.tmp 62) 23 9 (.string ⟨#[]⟩) 16 rfl Try.underlying23 info9 rfl (by decide) (by omega) u3 x3_3 ((rdOf ByteArray.empty x3_1 x4_1) ++ (a0.extract (x6_3 : Int).toNat ((wrap64 (x6_3 + 1)) : Int).toNat)) [.string ((rdOf ByteArray.empty x3_1 x4_1) ++ (a0.extract (x6_3 : Int).toNat ((wrap64 (x6_3 + 1)) : Int).toNat))] (fun _ => True) (fun _ => False) rfl rfl ?aP (fun _ hk => hk.elim) ?aF ?aO ?aB ?aS ?aL ?_; (case aP => exact rfl); (case aB => exact (by repeat (first | (with_reducible first | exact HB.out | apply below_alloc | apply pw_below_drewN | apply below_drew1) | exact HB.out))); (case aF => exact (fun _ _ => trivial)); (case aO => exact (by (with_reducible repeat (first | apply Kd.R_alloc | apply Kd.R_drewN | apply Kd.R_drew)); exact HO_3.out)); (case aS => exact (below_size (by repeat (first | (with_reducible first | exact HB.out | apply below_alloc | apply pw_below_drewN | apply below_drew1) | exact HB.out)))); (case aL => have := LMc34.out; omega); intro v136 w35 ho hb hg hat; rw [← Ny135.out] at ho; have n0_ := Aside0.mk (hb); have n1_ := Aside0.mk (ho); clear HB; clear HO_3; have HB := n0_; have HO137 := n1_; clear n0_ n1_; clear ho hb hg hat))
                                      go_roundg k3
                                      case measure => have := HK1.out; have := HJ7.out; have := HK3.out; omega
                                      case rel => exact ⟨(y135), (wrap64 (x6_3 + 1)), (by first | rfl | (simp; done) | (simp [*]; done)), H', ⟨by have := HK1.out; have := HJ7.out; have := HK3.out; omega⟩, ⟨by (with_reducible repeat (first | apply Kd.R_alloc | apply Kd.R_drewN | apply Kd.R_drew)); exact HO137.out⟩, ⟨by repeat (first | (with_reducible first | exact HB.out | apply below_alloc | apply pw_below_drewN | apply below_drew1) | exact HB.out)⟩⟩
                                    · rw [if_neg c34] at H
                                      exact absurd H (by simp)
                                  · rw [if_neg c33] at H
                                    exact absurd H (by simp)
                                · rw [if_neg c32] at H
                                  exact absurd H (by simp)
                              · rw [if_neg c31] at H
                                exact absurd H (by simp)
                            · rw [if_neg c30] at H
                              exact absurd H (by simp)
                          · rw [if_neg c29] at H
                            have c29b0 : decide (((rdOf ByteArray.empty x3_1 x4_1).size : Int) < 3) = false := decide_eq_false c29
                            have c29b1 : decide ((rdOf ByteArray.empty x3_1 x4_1).size < 3) = false := decide_eq_false (by omega)
                            clear c29
                            have H' := Aside0.mk H
                            clear H
                            go_wp2
                            go_roundg k3
                            case measure => have := HK1.out; have := HJ7.out; have := HK3.out; omega
                            case rel => exact ⟨(x3_3), (wrap64 (x4_1 + 1)), (by first | rfl | (simp; done) | (simp [*]; done)), H', ⟨by have := HK1.out; have := HJ7.out; have := HK3.out; omega⟩, ⟨by (with_reducible repeat (first | apply Kd.R_alloc | apply Kd.R_drewN | apply Kd.R_drew)); exact HO_3.out⟩, ⟨by repeat (first | (with_reducible first | exact HB.out | apply below_alloc | apply pw_below_drewN | apply below_drew1) | exact HB.out)⟩⟩
                        · rw [if_neg c28] at H
                          have c28b0 : decide (x6_3 < (a0.size : Int)) = false := decide_eq_false c28
                          clear c28
                          have H' := Aside0.mk H
                          clear H
                          go_wp2
                          go_roundg k3
                          case measure => have := HK1.out; have := HJ7.out; have := HK3.out; omega
                          case rel => exact ⟨(x3_3), (wrap64 (x4_1 + 1)), (by first | rfl | (simp; done) | (simp [*]; done)), H', ⟨by have := HK1.out; have := HJ7.out; have := HK3.out; omega⟩, ⟨by (with_reducible repeat (first | apply Kd.R_alloc | apply Kd.R_drewN | apply Kd.R_drew)); exact HO_3.out⟩, ⟨by repeat (first | (with_reducible first | exact HB.out | apply below_alloc | apply pw_below_drewN | apply below_drew1) | exact HB.out)⟩⟩
            · rw [if_neg c7] at H
              exact absurd H (by simp)
          · rw [if_neg c6] at H
            have c6b0 : decide (x4_1 < (x3_1.length : Int)) = false := decide_eq_false c6
            clear c6
            replace H := Option.bind_eq_some_iff.mp H
            obtain ⟨t125, A360, H⟩ := H
            replace H : (if t125 = true then ((impl_NmInterface.f k1 (⟨#[97, 46, 98]⟩ : ByteArray)).bind fun t126 => (if t126 = true then ((impl_NmMember.f k1 (⟨#[97]⟩ : ByteArray)).bind fun t127 => (some t127)) else (some false))) else (some false)) = some r := H
            have A36 := Aside0.mk A360
            clear A360
            by_cases c37 : t125 = true
            · subst c37
              have H1 : ((impl_NmInterface.f k1 (⟨#[97, 46, 98]⟩ : ByteArray)).bind fun t126 => (if t126 = true then ((impl_NmMember.f k1 (⟨#[97]⟩ : ByteArray)).bind fun t127 => (some t127)) else (some false))) = some r := by rw [if_pos rfl] at H; exact H
              clear H
              have H := H1
              clear H1
              replace H := Option.bind_eq_some_iff.mp H
              obtain ⟨t126, A380, H⟩ := H
              replace H : (if t126 = true then ((impl_NmMember.f k1 (⟨#[97]⟩ : ByteArray)).bind fun t127 => (some t127)) else (some false)) = some r := H
              have A38 := Aside0.mk A380
              clear A380
              by_cases c39 : t126 = true
              · subst c39
                have H1 : ((impl_NmMember.f k1 (⟨#[97]⟩ : ByteArray)).bind fun t127 => (some t127)) = some r := by rw [if_pos rfl] at H; exact H
                clear H
                have H := H1
                clear H1
                replace H := Option.bind_eq_some_iff.mp H
                obtain ⟨t127, A400, H⟩ := H
                replace H : (some t127) = some r := H
                have A40 := Aside0.mk A400
                clear A400
                obtain rfl := Option.some.inj H
                obtain ⟨Ao41, co41, eo41⟩ := Kd.R_slice HO_3.out
                subst eo41
                go_wp2_with (first | ((with_reducible refine gate_callee (f := 8) rfl ?_); refine goesL_ (some 64) rfl rfl Try.func8 (by kernel_rfl) rfl #[.string (⟨#[47, 97]⟩ : ByteArray)] rfl (by (try simp only [List.map_toArray, List.map_cons, List.map_nil]); first | done | rfl | (simp only [List.length_drop, List.length_take]; rfl)) ?_; (with_reducible refine (impl_NmPath.calls k1 (⟨#[47, 97]⟩ : ByteArray) true _ A36.out).mono ?_); rintro e w42 ⟨rfl, hb⟩; refine ⟨_, rfl, ?_⟩; have n0_ := Aside0.mk (Kd.R_below (by (with_reducible repeat (first | apply Kd.R_alloc | apply Kd.R_drewN | apply Kd.R_drew)); exact HO_3.out) hb); have n1_ := Aside0.mk (below_step (by repeat (first | (with_reducible first | exact HB.out | apply below_alloc | apply pw_below_drewN | apply below_drew1) | exact HB.out)) hb); clear HO_3; clear HB; have HO_3 := n0_; have HB := n1_; clear n0_ n1_; (try clear hb); (try clear hb2); (try clear hk); (try clear hi)) | (go_at_call 10; (with_reducible refine (impl_NmInterface.calls k1 (⟨#[97, 46, 98]⟩ : ByteArray) true _ A38.out).mono ?_); rintro e w43 ⟨rfl, hb⟩; have n0_ := Aside0.mk (Kd.R_below (by (with_reducible repeat (first | apply Kd.R_alloc | apply Kd.R_drewN | apply Kd.R_drew)); exact HO_3.out) hb); have n1_ := Aside0.mk (below_step (by repeat (first | (with_reducible first | exact HB.out | apply below_alloc | apply pw_below_drewN | apply below_drew1) | exact HB.out)) hb); clear HO_3; clear HB; have HO_3 := n0_; have HB := n1_; clear n0_ n1_; (try clear hb); (try clear hb2); (try clear hk); (try clear hi)) | (go_at_call 6; (with_reducible refine (impl_NmMember.calls k1 (⟨#[97]⟩ : ByteArray) t127 _ A40.out).mono ?_); rintro e w44 ⟨rfl, hb⟩; have n0_ := Aside0.mk (Kd.R_below (by (with_reducible repeat (first | apply Kd.R_alloc | apply Kd.R_drewN | apply Kd.R_drew)); exact HO_3.out) hb); have n1_ := Aside0.mk (below_step (by repeat (first | (with_reducible first | exact HB.out | apply below_alloc | apply pw_below_drewN | apply below_drew1) | exact HB.out)) hb); clear HO_3; clear HB; have HO_3 := n0_; have HB := n1_; clear n0_ n1_; (try clear hb); (try clear hb2); (try clear hk); (try clear hi)))
                go_ret
                exact ⟨by first | rfl | (simp [errW_none, errW_some] <;> rfl) | (simp [*, errW_none, errW_some] <;> rfl) | (simp (disch := omega) only [wrap64_id] <;> rfl), by repeat (first | (with_reducible first | exact HB.out | apply below_alloc | apply pw_below_drewN | apply below_drew1) | exact HB.out)⟩
              · replace c39 := Bool.eq_false_iff.mpr c39
                subst c39
                have H1 : (some false) = some r := by rw [if_neg (show ¬ (false = true) by decide)] at H; exact H
                clear H
                have H := H1
                clear H1
                obtain rfl := Option.some.inj H
                obtain ⟨Ao45, co45, eo45⟩ := Kd.R_slice HO_3.out
                subst eo45
                go_wp2_with (first | ((with_reducible refine gate_callee (f := 8) rfl ?_); refine goesL_ (some 64) rfl rfl Try.func8 (by kernel_rfl) rfl #[.string (⟨#[47, 97]⟩ : ByteArray)] rfl (by (try simp only [List.map_toArray, List.map_cons, List.map_nil]); first | done | rfl | (simp only [List.length_drop, List.length_take]; rfl)) ?_; (with_reducible refine (impl_NmPath.calls k1 (⟨#[47, 97]⟩ : ByteArray) true _ A36.out).mono ?_); rintro e w46 ⟨rfl, hb⟩; refine ⟨_, rfl, ?_⟩; have n0_ := Aside0.mk (Kd.R_below (by (with_reducible repeat (first | apply Kd.R_alloc | apply Kd.R_drewN | apply Kd.R_drew)); exact HO_3.out) hb); have n1_ := Aside0.mk (below_step (by repeat (first | (with_reducible first | exact HB.out | apply below_alloc | apply pw_below_drewN | apply below_drew1) | exact HB.out)) hb); clear HO_3; clear HB; have HO_3 := n0_; have HB := n1_; clear n0_ n1_; (try clear hb); (try clear hb2); (try clear hk); (try clear hi)) | (go_at_call 10; (with_reducible refine (impl_NmInterface.calls k1 (⟨#[97, 46, 98]⟩ : ByteArray) false _ A38.out).mono ?_); rintro e w47 ⟨rfl, hb⟩; have n0_ := Aside0.mk (Kd.R_below (by (with_reducible repeat (first | apply Kd.R_alloc | apply Kd.R_drewN | apply Kd.R_drew)); exact HO_3.out) hb); have n1_ := Aside0.mk (below_step (by repeat (first | (with_reducible first | exact HB.out | apply below_alloc | apply pw_below_drewN | apply below_drew1) | exact HB.out)) hb); clear HO_3; clear HB; have HO_3 := n0_; have HB := n1_; clear n0_ n1_; (try clear hb); (try clear hb2); (try clear hk); (try clear hi)))
                go_ret
                exact ⟨by first | rfl | (simp [errW_none, errW_some] <;> rfl) | (simp [*, errW_none, errW_some] <;> rfl) | (simp (disch := omega) only [wrap64_id] <;> rfl), by repeat (first | (with_reducible first | exact HB.out | apply below_alloc | apply pw_below_drewN | apply below_drew1) | exact HB.out)⟩
            · replace c37 := Bool.eq_false_iff.mpr c37
              subst c37
              have H1 : (some false) = some r := by rw [if_neg (show ¬ (false = true) by decide)] at H; exact H
              clear H
              have H := H1
              clear H1
              obtain rfl := Option.some.inj H
              obtain ⟨Ao48, co48, eo48⟩ := Kd.R_slice HO_3.out
              subst eo48
              go_wp2_with (first | ((with_reducible refine gate_callee (f := 8) rfl ?_); refine goesL_ (some 64) rfl rfl Try.func8 (by kernel_rfl) rfl #[.string (⟨#[47, 97]⟩ : ByteArray)] rfl (by (try simp only [List.map_toArray, List.map_cons, List.map_nil]); first | done | rfl | (simp only [List.length_drop, List.length_take]; rfl)) ?_; (with_reducible refine (impl_NmPath.calls k1 (⟨#[47, 97]⟩ : ByteArray) false _ A36.out).mono ?_); rintro e w49 ⟨rfl, hb⟩; refine ⟨_, rfl, ?_⟩; have n0_ := Aside0.mk (Kd.R_below (by (with_reducible repeat (first | apply Kd.R_alloc | apply Kd.R_drewN | apply Kd.R_drew)); exact HO_3.out) hb); have n1_ := Aside0.mk (below_step (by repeat (first | (with_reducible first | exact HB.out | apply below_alloc | apply pw_below_drewN | apply below_drew1) | exact HB.out)) hb); clear HO_3; clear HB; have HO_3 := n0_; have HB := n1_; clear n0_ n1_; (try clear hb); (try clear hb2); (try clear hk); (try clear hi)))
              go_ret
              exact ⟨by first | rfl | (simp [errW_none, errW_some] <;> rfl) | (simp [*, errW_none, errW_some] <;> rfl) | (simp (disch := omega) only [wrap64_id] <;> rfl), by repeat (first | (with_reducible first | exact HB.out | apply below_alloc | apply pw_below_drewN | apply below_drew1) | exact HB.out)⟩

/-- THE ONE PURE STATEMENT of laws_FnNmAll: yours. -/
def laws_FnNmAll.Pure : Prop := ∀ (a0 : ByteArray), a0.size ≤ 140737488351232 → ∃ k, laws_FnNmAll.f k a0 = some true
theorem laws_FnNmAll.walk (P : laws_FnNmAll.Pure) (a0 : ByteArray) (w : World) (w0 : a0.size ≤ 140737488351232) :
    Calls Try.prog 5 #[.string a0] w fun e w' => e = .returned (.bool true) ∧ Below w.heap.size w w' := by
  obtain ⟨k, h⟩ := P a0 w0
  refine (laws_FnNmAll.calls k a0 true w h).mono ?_
  rintro e w' ⟨rfl, hd⟩
  exact ⟨rfl, hd⟩

end Go.Proofs.Ytcdbhpmnilfpfaa.MFnNmAll
