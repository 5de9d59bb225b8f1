-- Written by a program of this session (myprint.py, out of the translation). Not trusted: Lean checks it.
import Derived.Test.YtngbhojjjkdofaaDoorMFnVtBytesx0
import Derived.Test.YtngbhojjjkdofaaDoorMFnVtBytesx1
import Derived.Test.YtngbhojjjkdofaaDoorMFnVtBytesx2
import Derived.Test.YtngbhojjjkdofaaDoorMFnVtBytesx7
namespace Go.Proofs.YtngbhojjjkdofaaDoor.MFnVtBytes
open Go.RowKit Go.Proofs.YtngbhojjjkdofaaDoorW.PrintWords Go.Proofs.YtngbhojjjkdofaaDoorW.PrintLast Go.Proofs.YtngbhojjjkdofaaDoorW.PrintMore
attribute [local go_sem] max2_int min2_int max_two min_two max_three min_three max_four min_four   -- for this text's walks alone
set_option linter.unusedVariables false
set_option linter.unusedSimpArgs false

/-! ### laws_FnVtBytes: function 3 -/
def laws_FnVtBytes.j0 : Nat → ByteArray → Bool → Option (Bool)
  | 0, _, _ => none
  | k + 1, x5, x28 => if x28 = true then (some true) else (if 1 + x5.size ≤ 9223372036854775807 then ((spec_BytesOf.f k ((⟨#[98]⟩ : ByteArray) ++ x5)).bind fun bt153 => ((impl_VtBytes.f ((⟨#[98]⟩ : ByteArray) ++ x5)).bind fun bt155 => ((impl_VtBytes.f (⟨#[98, 39, 39]⟩ : ByteArray)).bind fun bt157 => (if (bt155.2 == bt153.2) = true then (if bt155.2 = true then (if bt155.1.toList = bt153.1.toList then (if bt157.2 = true then (some (bt157.1.toList == ([0] : List UInt8))) else (some false)) else (some false)) else (if bt157.2 = true then (some (bt157.1.toList == ([0] : List UInt8))) else (some false))) else (some false))))) else (none))
def laws_FnVtBytes.f (k : Nat) (a0 : ByteArray) (a1 : Bool) : Option (Bool) := if (a0.size : Int) > 2147483647 then (some true) else ((laws_vtInside.f k a0 a1).bind fun bt151 => (if bt151.2 = true then (laws_FnVtBytes.j0 k bt151.1 (decide ((bt151.1.size : Int) > 4096))) else (laws_FnVtBytes.j0 k bt151.1 true)))
theorem laws_FnVtBytes.mono_l : ∀ k, (∀ y0 y1, LeO (laws_FnVtBytes.j0 k y0 y1) (laws_FnVtBytes.j0 (k + 1) y0 y1))
  | 0 => fun _ _ r h => by simp [laws_FnVtBytes.j0] at h
  | k + 1 => by
    have ih0 := laws_FnVtBytes.mono_l k
    · intro y0 y1
      unfold laws_FnVtBytes.j0
      repeat' first
      | (with_reducible exact ih0 _ _)
      | (with_reducible exact laws_vtInside.mono _ _ _)
      | (with_reducible exact spec_BytesOf.mono _ _)
      | (with_reducible exact LeO.refl _)
      | (with_reducible exact LeO.none _)
      | (with_reducible refine LeO.ite ?_ ?_)
      | (with_reducible refine LeO.bind ?_ (fun _ => ?_))
      | exact ih0 _ _
      | exact laws_vtInside.mono _ _ _
      | exact spec_BytesOf.mono _ _
      | exact LeO.none _
      | refine LeO.ite ?_ ?_
      | refine LeO.bind ?_ (fun _ => ?_)
theorem laws_FnVtBytes.mono : ∀ a0 a1 k, LeO (laws_FnVtBytes.f k a0 a1) (laws_FnVtBytes.f (k + 1) a0 a1) := by
  intro a0 a1 k
  have ih0 := laws_FnVtBytes.mono_l k
  unfold laws_FnVtBytes.f
  repeat' first
      | (with_reducible exact ih0 _ _)
      | (with_reducible exact laws_vtInside.mono _ _ _)
      | (with_reducible exact spec_BytesOf.mono _ _)
      | (with_reducible exact LeO.refl _)
      | (with_reducible exact LeO.none _)
      | (with_reducible refine LeO.ite ?_ ?_)
      | (with_reducible refine LeO.bind ?_ (fun _ => ?_))
      | exact ih0 _ _
      | exact laws_vtInside.mono _ _ _
      | exact spec_BytesOf.mono _ _
      | exact LeO.none _
      | refine LeO.ite ?_ ?_
      | refine LeO.bind ?_ (fun _ => ?_)
set_option maxHeartbeats 8000000 in
set_option maxRecDepth 100000 in
theorem laws_FnVtBytes.calls (k : Nat) (a0 : ByteArray) (a1 : Bool) (r : Bool) (w : World) (hG : Gv w) (h : laws_FnVtBytes.f k a0 a1 = some r) :
    Calls Tryd.prog 3 #[.string a0, .bool a1] w fun e w' => e = .returned (.bool r) ∧ Below w.heap.size w w' := by
  have HGV := Aside0.mk hG
  clear hG
  have HB := Aside0.mk (Below.refl w.heap.size w)
  have H : (if (a0.size : Int) > 2147483647 then (some true) else ((laws_vtInside.f k a0 a1).bind fun bt151 => (if bt151.2 = true then (laws_FnVtBytes.j0 k bt151.1 (decide ((bt151.1.size : Int) > 4096))) else (laws_FnVtBytes.j0 k bt151.1 true)))) = some r := h
  clear h
  by_cases c3 : (a0.size : Int) > 2147483647
  · rw [if_pos c3] at H
    have c3b0 : decide (2147483647 < (a0.size : Int)) = true := decide_eq_true c3
    have c3b1 : decide (2147483647 < a0.size) = true := decide_eq_true (by omega)
    clear c3
    obtain rfl := Option.some.inj H
    go_enter Tryd.func3, Tryd.ntmps3
    go_wp2
    go_ret
    exact ⟨by first | rfl | (simp [errW_none, errW_some] <;> rfl) | (simp [*, errW_none, errW_some] <;> rfl) | (simp (disch := omega) only [wrap64_id] <;> rfl), by repeat (first | (with_reducible first | exact HB.out | apply below_alloc | apply pw_below_drewN | apply below_drew1) | exact HB.out)⟩
  · rw [if_neg c3] at H
    have c3b0 : decide (2147483647 < (a0.size : Int)) = false := decide_eq_false c3
    have c3b1 : decide (2147483647 < a0.size) = false := decide_eq_false (by omega)
    clear c3
    replace H := Option.bind_eq_some_iff.mp H
    obtain ⟨⟨t151, t152⟩, A40, H⟩ := H
    replace H : (if t152 = true then (laws_FnVtBytes.j0 k t151 (decide ((t151.size : Int) > 4096))) else (laws_FnVtBytes.j0 k t151 true)) = some r := H
    have A4 := Aside0.mk A40
    clear A40
    have HC5 := Aside0.mk H
    clear H
    go_enter Tryd.func3, Tryd.ntmps3
    go_upto_region 4 with (first | ((with_reducible refine gate_callee (f := 5) rfl ?_); refine goesL_ (some 19) rfl rfl Tryd.func5 (by kernel_rfl) rfl #[.string a0, .bool a1] rfl (by (try simp only [List.map_toArray, List.map_cons, List.map_nil]); first | done | rfl | (simp only [List.length_drop, List.length_take]; rfl)) ?_; (with_reducible refine (laws_vtInside.calls k a0 a1 t151 t152 _ A4.out).mono ?_); rintro e w' ⟨rfl, ⟨nd, rfl⟩⟩; refine ⟨_, rfl, ?_⟩))
    (try simp only [Act.put, List.setIfInBounds_toArray, List.set_cons_zero, List.set_cons_succ])
    go_cut [28] (fun v28 wc => ∃ (kq : Nat) (x28_4 : Bool), v28 = .bool x28_4 ∧ Aside0 (laws_FnVtBytes.j0 kq t151 x28_4 = some r) ∧ Aside0 (kq ≤ k) ∧ Aside0 (Below w.heap.size w wc))
    case first =>
      have H := HC5.out
      clear HC5
      by_cases c6 : t152 = true
      · subst c6
        have H1 : (laws_FnVtBytes.j0 k t151 (decide ((t151.size : Int) > 4096))) = some r := by rw [if_pos rfl] at H; exact H
        clear H
        have H := H1
        clear H1
        have H' := Aside0.mk H
        clear H
        go_wp2
        go_meet
        case rel => exact ⟨_, (decide ((t151.size : Int) > 4096)), (by first | rfl | (simp; done) | (simp [*]; done)), H', ⟨by first | omega | exact Nat.le_refl _⟩, ⟨by repeat (first | (with_reducible first | exact HB.out | apply below_alloc | apply pw_below_drewN | apply below_drew1) | exact HB.out)⟩⟩
      · replace c6 := Bool.eq_false_iff.mpr c6
        subst c6
        have H1 : (laws_FnVtBytes.j0 k t151 true) = some r := by rw [if_neg (show ¬ (false = true) by decide)] at H; exact H
        clear H
        have H := H1
        clear H1
        have H' := Aside0.mk H
        clear H
        go_wp2
        go_meet
        case rel => exact ⟨_, (true), (by first | rfl | (simp; done) | (simp [*]; done)), H', ⟨by first | omega | exact Nat.le_refl _⟩, ⟨by repeat (first | (with_reducible first | exact HB.out | apply below_alloc | apply pw_below_drewN | apply below_drew1) | exact HB.out)⟩⟩
    case rest =>
      clear HC5
      try clear p2
      try clear c3
      try clear c3b0
      try clear c3b1
      try clear c5
      try clear c6
      try clear p6
      obtain ⟨kq, x28_4, rfl, HA, HJ4, HB⟩ := hcut
      cases kq with
      | zero => exact absurd HA.out (by simp [laws_FnVtBytes.j0])
      | succ kj4 =>
        have H := HA.out
        clear HA
        simp only [laws_FnVtBytes.j0] at H
        by_cases c7 : x28_4 = true
        · subst c7
          have H1 : (some true) = some r := by rw [if_pos rfl] at H; exact H
          clear H
          have H := H1
          clear H1
          obtain rfl := Option.some.inj H
          go_wp2
          go_ret
          exact ⟨by first | rfl | (simp [errW_none, errW_some] <;> rfl) | (simp [*, errW_none, errW_some] <;> rfl) | (simp (disch := omega) only [wrap64_id] <;> rfl), by repeat (first | (with_reducible first | exact HB.out | apply below_alloc | apply pw_below_drewN | apply below_drew1) | exact HB.out)⟩
        · replace c7 := Bool.eq_false_iff.mpr c7
          subst c7
          have H1 : (if 1 + t151.size ≤ 9223372036854775807 then ((spec_BytesOf.f kj4 ((⟨#[98]⟩ : ByteArray) ++ t151)).bind fun bt153 => ((impl_VtBytes.f ((⟨#[98]⟩ : ByteArray) ++ t151)).bind fun bt155 => ((impl_VtBytes.f (⟨#[98, 39, 39]⟩ : ByteArray)).bind fun bt157 => (if (bt155.2 == bt153.2) = true then (if bt155.2 = true then (if bt155.1.toList = bt153.1.toList then (if bt157.2 = true then (some (bt157.1.toList == ([0] : List UInt8))) else (some false)) else (some false)) else (if bt157.2 = true then (some (bt157.1.toList == ([0] : List UInt8))) else (some false))) else (some false))))) else (none)) = some r := by rw [if_neg (show ¬ (false = true) by decide)] at H; exact H
          clear H
          have H := H1
          clear H1
          by_cases c8 : 1 + t151.size ≤ 9223372036854775807
          · rw [if_pos c8] at H
            have c8b0 := eq_true c8
            have c8b1 : decide (1 + t151.size ≤ 9223372036854775807) = true := decide_eq_true c8
            try have c8b2 : (9223372036854775807 < 1 + t151.size) = False := eq_false (Nat.not_lt.2 c8)
            replace H := Option.bind_eq_some_iff.mp H
            obtain ⟨⟨t153, t154⟩, A90, H⟩ := H
            replace H : ((impl_VtBytes.f ((⟨#[98]⟩ : ByteArray) ++ t151)).bind fun bt155 => ((impl_VtBytes.f (⟨#[98, 39, 39]⟩ : ByteArray)).bind fun bt157 => (if (bt155.2 == t154) = true then (if bt155.2 = true then (if bt155.1.toList = t153.toList then (if bt157.2 = true then (some (bt157.1.toList == ([0] : List UInt8))) else (some false)) else (some false)) else (if bt157.2 = true then (some (bt157.1.toList == ([0] : List UInt8))) else (some false))) else (some false)))) = some r := H
            have A9 := Aside0.mk A90
            clear A90
            replace H := Option.bind_eq_some_iff.mp H
            obtain ⟨⟨t155, t156⟩, A100, H⟩ := H
            replace H : ((impl_VtBytes.f (⟨#[98, 39, 39]⟩ : ByteArray)).bind fun bt157 => (if (t156 == t154) = true then (if t156 = true then (if t155.toList = t153.toList then (if bt157.2 = true then (some (bt157.1.toList == ([0] : List UInt8))) else (some false)) else (some false)) else (if bt157.2 = true then (some (bt157.1.toList == ([0] : List UInt8))) else (some false))) else (some false))) = some r := H
            have A10 := Aside0.mk A100
            clear A100
            replace H := Option.bind_eq_some_iff.mp H
            obtain ⟨⟨t157, t158⟩, A110, H⟩ := H
            replace H : (if (t156 == t154) = true then (if t156 = true then (if t155.toList = t153.toList then (if t158 = true then (some (t157.toList == ([0] : List UInt8))) else (some false)) else (some false)) else (if t158 = true then (some (t157.toList == ([0] : List UInt8))) else (some false))) else (some false)) = some r := H
            have A11 := Aside0.mk A110
            clear A110
            by_cases c12 : (t156 == t154) = true
            · rw [if_pos c12] at H
              have c12b0 : (t156 == t154) = true := c12
              (try (have c12b1 : decide (t156 = t154) = true := by simpa using c12))
              (try (have c12b2 : (t156 == t154) = true := by simpa using c12))
              clear c12
              by_cases c13 : t156 = true
              · subst c13
                have H1 : (if t155.toList = t153.toList then (if t158 = true then (some (t157.toList == ([0] : List UInt8))) else (some false)) else (some false)) = some r := by rw [if_pos rfl] at H; exact H
                clear H
                have H := H1
                clear H1
                by_cases c14 : t155.toList = t153.toList
                · rw [if_pos c14] at H
                  have c14b0 : (t155.toList == t153.toList) = true := beq_iff_eq.mpr c14
                  have c14b1 : (t155.toList != t153.toList) = false := bne_eq_false_iff_eq.mpr c14
                  clear c14
                  by_cases c15 : t158 = true
                  · subst c15
                    have H1 : (some (t157.toList == ([0] : List UInt8))) = some r := by rw [if_pos rfl] at H; exact H
                    clear H
                    have H := H1
                    clear H1
                    obtain rfl := Option.some.inj H
                    go_wp2_with (first | ((with_reducible refine gate_callee (f := 6) rfl ?_); refine goesL_ (some 32) rfl rfl Tryd.func6 (by kernel_rfl) rfl #[.string ((⟨#[98]⟩ : ByteArray) ++ t151)] rfl (by (try simp only [List.map_toArray, List.map_cons, List.map_nil]); first | done | rfl | (simp only [List.length_drop, List.length_take]; rfl)) ?_; (with_reducible refine (spec_BytesOf.calls kj4 ((⟨#[98]⟩ : ByteArray) ++ t151) t153 t154 _ A9.out).mono ?_); rintro e w16 ⟨rfl, hb⟩; refine ⟨_, rfl, ?_⟩; have n0_ := Aside0.mk (below_step (by repeat (first | (with_reducible first | exact HB.out | apply below_alloc | apply pw_below_drewN | apply below_drew1) | exact HB.out)) hb); clear HB; have HB := n0_; clear n0_; (try clear hb); (try clear hb2); (try clear hk); (try clear hi)) | ((with_reducible refine gate_callee (f := 7) rfl ?_); refine goesL_ (some 38) rfl rfl Tryd.func7 (by kernel_rfl) rfl #[.string ((⟨#[98]⟩ : ByteArray) ++ t151)] rfl (by (try simp only [List.map_toArray, List.map_cons, List.map_nil]); first | done | rfl | (simp only [List.length_drop, List.length_take]; rfl)) ?_; (with_reducible refine (impl_VtBytes.calls ((⟨#[98]⟩ : ByteArray) ++ t151) t155 true _ (Gv.up HGV.out (by repeat (first | (with_reducible first | exact HB.out | apply below_alloc | apply pw_below_drewN | apply below_drew1) | exact HB.out))) A10.out).mono ?_); rintro e w17 ⟨rfl, hb⟩; refine ⟨_, rfl, ?_⟩; have n0_ := Aside0.mk (below_step (by repeat (first | (with_reducible first | exact HB.out | apply below_alloc | apply pw_below_drewN | apply below_drew1) | exact HB.out)) hb); clear HB; have HB := n0_; clear n0_; (try clear hb); (try clear hb2); (try clear hk); (try clear hi)) | ((with_reducible refine gate_callee (f := 7) rfl ?_); refine goesL_ (some 42) rfl rfl Tryd.func7 (by kernel_rfl) rfl #[.string (⟨#[98, 39, 39]⟩ : ByteArray)] rfl (by (try simp only [List.map_toArray, List.map_cons, List.map_nil]); first | done | rfl | (simp only [List.length_drop, List.length_take]; rfl)) ?_; (with_reducible refine (impl_VtBytes.calls (⟨#[98, 39, 39]⟩ : ByteArray) t157 true _ (Gv.up HGV.out (by repeat (first | (with_reducible first | exact HB.out | apply below_alloc | apply pw_below_drewN | apply below_drew1) | exact HB.out))) A11.out).mono ?_); rintro e w18 ⟨rfl, hb⟩; refine ⟨_, rfl, ?_⟩; have n0_ := Aside0.mk (below_step (by repeat (first | (with_reducible first | exact HB.out | apply below_alloc | apply pw_below_drewN | apply below_drew1) | exact HB.out)) hb); clear HB; have HB := n0_; clear n0_; (try clear hb); (try clear hb2); (try clear hk); (try clear hi)))
                    go_ret
                    exact ⟨by first | rfl | (simp [errW_none, errW_some] <;> rfl) | (simp [*, errW_none, errW_some] <;> rfl) | (simp (disch := omega) only [wrap64_id] <;> rfl), by repeat (first | (with_reducible first | exact HB.out | apply below_alloc | apply pw_below_drewN | apply below_drew1) | exact HB.out)⟩
                  · replace c15 := Bool.eq_false_iff.mpr c15
                    subst c15
                    have H1 : (some false) = some r := by rw [if_neg (show ¬ (false = true) by decide)] at H; exact H
                    clear H
                    have H := H1
                    clear H1
                    obtain rfl := Option.some.inj H
                    go_wp2_with (first | ((with_reducible refine gate_callee (f := 6) rfl ?_); refine goesL_ (some 32) rfl rfl Tryd.func6 (by kernel_rfl) rfl #[.string ((⟨#[98]⟩ : ByteArray) ++ t151)] rfl (by (try simp only [List.map_toArray, List.map_cons, List.map_nil]); first | done | rfl | (simp only [List.length_drop, List.length_take]; rfl)) ?_; (with_reducible refine (spec_BytesOf.calls kj4 ((⟨#[98]⟩ : ByteArray) ++ t151) t153 t154 _ A9.out).mono ?_); rintro e w19 ⟨rfl, hb⟩; refine ⟨_, rfl, ?_⟩; have n0_ := Aside0.mk (below_step (by repeat (first | (with_reducible first | exact HB.out | apply below_alloc | apply pw_below_drewN | apply below_drew1) | exact HB.out)) hb); clear HB; have HB := n0_; clear n0_; (try clear hb); (try clear hb2); (try clear hk); (try clear hi)) | ((with_reducible refine gate_callee (f := 7) rfl ?_); refine goesL_ (some 38) rfl rfl Tryd.func7 (by kernel_rfl) rfl #[.string ((⟨#[98]⟩ : ByteArray) ++ t151)] rfl (by (try simp only [List.map_toArray, List.map_cons, List.map_nil]); first | done | rfl | (simp only [List.length_drop, List.length_take]; rfl)) ?_; (with_reducible refine (impl_VtBytes.calls ((⟨#[98]⟩ : ByteArray) ++ t151) t155 true _ (Gv.up HGV.out (by repeat (first | (with_reducible first | exact HB.out | apply below_alloc | apply pw_below_drewN | apply below_drew1) | exact HB.out))) A10.out).mono ?_); rintro e w20 ⟨rfl, hb⟩; refine ⟨_, rfl, ?_⟩; have n0_ := Aside0.mk (below_step (by repeat (first | (with_reducible first | exact HB.out | apply below_alloc | apply pw_below_drewN | apply below_drew1) | exact HB.out)) hb); clear HB; have HB := n0_; clear n0_; (try clear hb); (try clear hb2); (try clear hk); (try clear hi)) | ((with_reducible refine gate_callee (f := 7) rfl ?_); refine goesL_ (some 42) rfl rfl Tryd.func7 (by kernel_rfl) rfl #[.string (⟨#[98, 39, 39]⟩ : ByteArray)] rfl (by (try simp only [List.map_toArray, List.map_cons, List.map_nil]); first | done | rfl | (simp only [List.length_drop, List.length_take]; rfl)) ?_; (with_reducible refine (impl_VtBytes.calls (⟨#[98, 39, 39]⟩ : ByteArray) t157 false _ (Gv.up HGV.out (by repeat (first | (with_reducible first | exact HB.out | apply below_alloc | apply pw_below_drewN | apply below_drew1) | exact HB.out))) A11.out).mono ?_); rintro e w21 ⟨rfl, hb⟩; refine ⟨_, rfl, ?_⟩; have n0_ := Aside0.mk (below_step (by repeat (first | (with_reducible first | exact HB.out | apply below_alloc | apply pw_below_drewN | apply below_drew1) | exact HB.out)) hb); clear HB; have HB := n0_; clear n0_; (try clear hb); (try clear hb2); (try clear hk); (try clear hi)))
                    go_ret
                    exact ⟨by first | rfl | (simp [errW_none, errW_some] <;> rfl) | (simp [*, errW_none, errW_some] <;> rfl) | (simp (disch := omega) only [wrap64_id] <;> rfl), by repeat (first | (with_reducible first | exact HB.out | apply below_alloc | apply pw_below_drewN | apply below_drew1) | exact HB.out)⟩
                · rw [if_neg c14] at H
                  have c14b0 : (t155.toList == t153.toList) = false := beq_eq_false_iff_ne.mpr c14
                  have c14b1 : (t155.toList != t153.toList) = true := bne_iff_ne.mpr c14
                  obtain rfl := Option.some.inj H
                  go_wp2_with (first | ((with_reducible refine gate_callee (f := 6) rfl ?_); refine goesL_ (some 32) rfl rfl Tryd.func6 (by kernel_rfl) rfl #[.string ((⟨#[98]⟩ : ByteArray) ++ t151)] rfl (by (try simp only [List.map_toArray, List.map_cons, List.map_nil]); first | done | rfl | (simp only [List.length_drop, List.length_take]; rfl)) ?_; (with_reducible refine (spec_BytesOf.calls kj4 ((⟨#[98]⟩ : ByteArray) ++ t151) t153 t154 _ A9.out).mono ?_); rintro e w22 ⟨rfl, hb⟩; refine ⟨_, rfl, ?_⟩; have n0_ := Aside0.mk (below_step (by repeat (first | (with_reducible first | exact HB.out | apply below_alloc | apply pw_below_drewN | apply below_drew1) | exact HB.out)) hb); clear HB; have HB := n0_; clear n0_; (try clear hb); (try clear hb2); (try clear hk); (try clear hi)) | ((with_reducible refine gate_callee (f := 7) rfl ?_); refine goesL_ (some 38) rfl rfl Tryd.func7 (by kernel_rfl) rfl #[.string ((⟨#[98]⟩ : ByteArray) ++ t151)] rfl (by (try simp only [List.map_toArray, List.map_cons, List.map_nil]); first | done | rfl | (simp only [List.length_drop, List.length_take]; rfl)) ?_; (with_reducible refine (impl_VtBytes.calls ((⟨#[98]⟩ : ByteArray) ++ t151) t155 true _ (Gv.up HGV.out (by repeat (first | (with_reducible first | exact HB.out | apply below_alloc | apply pw_below_drewN | apply below_drew1) | exact HB.out))) A10.out).mono ?_); rintro e w23 ⟨rfl, hb⟩; refine ⟨_, rfl, ?_⟩; have n0_ := Aside0.mk (below_step (by repeat (first | (with_reducible first | exact HB.out | apply below_alloc | apply pw_below_drewN | apply below_drew1) | exact HB.out)) hb); clear HB; have HB := n0_; clear n0_; (try clear hb); (try clear hb2); (try clear hk); (try clear hi)) | ((with_reducible refine gate_callee (f := 7) rfl ?_); refine goesL_ (some 42) rfl rfl Tryd.func7 (by kernel_rfl) rfl #[.string (⟨#[98, 39, 39]⟩ : ByteArray)] rfl (by (try simp only [List.map_toArray, List.map_cons, List.map_nil]); first | done | rfl | (simp only [List.length_drop, List.length_take]; rfl)) ?_; (with_reducible refine (impl_VtBytes.calls (⟨#[98, 39, 39]⟩ : ByteArray) t157 t158 _ (Gv.up HGV.out (by repeat (first | (with_reducible first | exact HB.out | apply below_alloc | apply pw_below_drewN | apply below_drew1) | exact HB.out))) A11.out).mono ?_); rintro e w24 ⟨rfl, hb⟩; refine ⟨_, rfl, ?_⟩; have n0_ := Aside0.mk (below_step (by repeat (first | (with_reducible first | exact HB.out | apply below_alloc | apply pw_below_drewN | apply below_drew1) | exact HB.out)) hb); clear HB; have HB := n0_; clear n0_; (try clear hb); (try clear hb2); (try clear hk); (try clear hi)))
                  go_ret
                  exact ⟨by first | rfl | (simp [errW_none, errW_some] <;> rfl) | (simp [*, errW_none, errW_some] <;> rfl) | (simp (disch := omega) only [wrap64_id] <;> rfl), by repeat (first | (with_reducible first | exact HB.out | apply below_alloc | apply pw_below_drewN | apply below_drew1) | exact HB.out)⟩
              · replace c13 := Bool.eq_false_iff.mpr c13
                subst c13
                have H1 : (if t158 = true then (some (t157.toList == ([0] : List UInt8))) else (some false)) = some r := by rw [if_neg (show ¬ (false = true) by decide)] at H; exact H
                clear H
                have H := H1
                clear H1
                by_cases c25 : t158 = true
                · subst c25
                  have H1 : (some (t157.toList == ([0] : List UInt8))) = some r := by rw [if_pos rfl] at H; exact H
                  clear H
                  have H := H1
                  clear H1
                  obtain rfl := Option.some.inj H
                  go_wp2_with (first | ((with_reducible refine gate_callee (f := 6) rfl ?_); refine goesL_ (some 32) rfl rfl Tryd.func6 (by kernel_rfl) rfl #[.string ((⟨#[98]⟩ : ByteArray) ++ t151)] rfl (by (try simp only [List.map_toArray, List.map_cons, List.map_nil]); first | done | rfl | (simp only [List.length_drop, List.length_take]; rfl)) ?_; (with_reducible refine (spec_BytesOf.calls kj4 ((⟨#[98]⟩ : ByteArray) ++ t151) t153 t154 _ A9.out).mono ?_); rintro e w26 ⟨rfl, hb⟩; refine ⟨_, rfl, ?_⟩; have n0_ := Aside0.mk (below_step (by repeat (first | (with_reducible first | exact HB.out | apply below_alloc | apply pw_below_drewN | apply below_drew1) | exact HB.out)) hb); clear HB; have HB := n0_; clear n0_; (try clear hb); (try clear hb2); (try clear hk); (try clear hi)) | ((with_reducible refine gate_callee (f := 7) rfl ?_); refine goesL_ (some 38) rfl rfl Tryd.func7 (by kernel_rfl) rfl #[.string ((⟨#[98]⟩ : ByteArray) ++ t151)] rfl (by (try simp only [List.map_toArray, List.map_cons, List.map_nil]); first | done | rfl | (simp only [List.length_drop, List.length_take]; rfl)) ?_; (with_reducible refine (impl_VtBytes.calls ((⟨#[98]⟩ : ByteArray) ++ t151) t155 false _ (Gv.up HGV.out (by repeat (first | (with_reducible first | exact HB.out | apply below_alloc | apply pw_below_drewN | apply below_drew1) | exact HB.out))) A10.out).mono ?_); rintro e w27 ⟨rfl, hb⟩; refine ⟨_, rfl, ?_⟩; have n0_ := Aside0.mk (below_step (by repeat (first | (with_reducible first | exact HB.out | apply below_alloc | apply pw_below_drewN | apply below_drew1) | exact HB.out)) hb); clear HB; have HB := n0_; clear n0_; (try clear hb); (try clear hb2); (try clear hk); (try clear hi)) | ((with_reducible refine gate_callee (f := 7) rfl ?_); refine goesL_ (some 42) rfl rfl Tryd.func7 (by kernel_rfl) rfl #[.string (⟨#[98, 39, 39]⟩ : ByteArray)] rfl (by (try simp only [List.map_toArray, List.map_cons, List.map_nil]); first | done | rfl | (simp only [List.length_drop, List.length_take]; rfl)) ?_; (with_reducible refine (impl_VtBytes.calls (⟨#[98, 39, 39]⟩ : ByteArray) t157 true _ (Gv.up HGV.out (by repeat (first | (with_reducible first | exact HB.out | apply below_alloc | apply pw_below_drewN | apply below_drew1) | exact HB.out))) A11.out).mono ?_); rintro e w28 ⟨rfl, hb⟩; refine ⟨_, rfl, ?_⟩; have n0_ := Aside0.mk (below_step (by repeat (first | (with_reducible first | exact HB.out | apply below_alloc | apply pw_below_drewN | apply below_drew1) | exact HB.out)) hb); clear HB; have HB := n0_; clear n0_; (try clear hb); (try clear hb2); (try clear hk); (try clear hi)))
                  go_ret
                  exact ⟨by first | rfl | (simp [errW_none, errW_some] <;> rfl) | (simp [*, errW_none, errW_some] <;> rfl) | (simp (disch := omega) only [wrap64_id] <;> rfl), by repeat (first | (with_reducible first | exact HB.out | apply below_alloc | apply pw_below_drewN | apply below_drew1) | exact HB.out)⟩
                · replace c25 := Bool.eq_false_iff.mpr c25
                  subst c25
                  have H1 : (some false) = some r := by rw [if_neg (show ¬ (false = true) by decide)] at H; exact H
                  clear H
                  have H := H1
                  clear H1
                  obtain rfl := Option.some.inj H
                  go_wp2_with (first | ((with_reducible refine gate_callee (f := 6) rfl ?_); refine goesL_ (some 32) rfl rfl Tryd.func6 (by kernel_rfl) rfl #[.string ((⟨#[98]⟩ : ByteArray) ++ t151)] rfl (by (try simp only [List.map_toArray, List.map_cons, List.map_nil]); first | done | rfl | (simp only [List.length_drop, List.length_take]; rfl)) ?_; (with_reducible refine (spec_BytesOf.calls kj4 ((⟨#[98]⟩ : ByteArray) ++ t151) t153 t154 _ A9.out).mono ?_); rintro e w29 ⟨rfl, hb⟩; refine ⟨_, rfl, ?_⟩; have n0_ := Aside0.mk (below_step (by repeat (first | (with_reducible first | exact HB.out | apply below_alloc | apply pw_below_drewN | apply below_drew1) | exact HB.out)) hb); clear HB; have HB := n0_; clear n0_; (try clear hb); (try clear hb2); (try clear hk); (try clear hi)) | ((with_reducible refine gate_callee (f := 7) rfl ?_); refine goesL_ (some 38) rfl rfl Tryd.func7 (by kernel_rfl) rfl #[.string ((⟨#[98]⟩ : ByteArray) ++ t151)] rfl (by (try simp only [List.map_toArray, List.map_cons, List.map_nil]); first | done | rfl | (simp only [List.length_drop, List.length_take]; rfl)) ?_; (with_reducible refine (impl_VtBytes.calls ((⟨#[98]⟩ : ByteArray) ++ t151) t155 false _ (Gv.up HGV.out (by repeat (first | (with_reducible first | exact HB.out | apply below_alloc | apply pw_below_drewN | apply below_drew1) | exact HB.out))) A10.out).mono ?_); rintro e w30 ⟨rfl, hb⟩; refine ⟨_, rfl, ?_⟩; have n0_ := Aside0.mk (below_step (by repeat (first | (with_reducible first | exact HB.out | apply below_alloc | apply pw_below_drewN | apply below_drew1) | exact HB.out)) hb); clear HB; have HB := n0_; clear n0_; (try clear hb); (try clear hb2); (try clear hk); (try clear hi)) | ((with_reducible refine gate_callee (f := 7) rfl ?_); refine goesL_ (some 42) rfl rfl Tryd.func7 (by kernel_rfl) rfl #[.string (⟨#[98, 39, 39]⟩ : ByteArray)] rfl (by (try simp only [List.map_toArray, List.map_cons, List.map_nil]); first | done | rfl | (simp only [List.length_drop, List.length_take]; rfl)) ?_; (with_reducible refine (impl_VtBytes.calls (⟨#[98, 39, 39]⟩ : ByteArray) t157 false _ (Gv.up HGV.out (by repeat (first | (with_reducible first | exact HB.out | apply below_alloc | apply pw_below_drewN | apply below_drew1) | exact HB.out))) A11.out).mono ?_); rintro e w31 ⟨rfl, hb⟩; refine ⟨_, rfl, ?_⟩; have n0_ := Aside0.mk (below_step (by repeat (first | (with_reducible first | exact HB.out | apply below_alloc | apply pw_below_drewN | apply below_drew1) | exact HB.out)) hb); clear HB; have HB := n0_; clear n0_; (try clear hb); (try clear hb2); (try clear hk); (try clear hi)))
                  go_ret
                  exact ⟨by first | rfl | (simp [errW_none, errW_some] <;> rfl) | (simp [*, errW_none, errW_some] <;> rfl) | (simp (disch := omega) only [wrap64_id] <;> rfl), by repeat (first | (with_reducible first | exact HB.out | apply below_alloc | apply pw_below_drewN | apply below_drew1) | exact HB.out)⟩
            · rw [if_neg c12] at H
              have c12b0 : (t156 == t154) = false := by simpa using c12
              (try (have c12b1 : decide (t156 = t154) = false := by simpa using c12))
              (try (have c12b2 : (t156 == t154) = false := by simpa using c12))
              (try (have c12b3 : ¬ (t156 = t154) := by simpa using c12))
              clear c12
              obtain rfl := Option.some.inj H
              go_wp2_with (first | ((with_reducible refine gate_callee (f := 6) rfl ?_); refine goesL_ (some 32) rfl rfl Tryd.func6 (by kernel_rfl) rfl #[.string ((⟨#[98]⟩ : ByteArray) ++ t151)] rfl (by (try simp only [List.map_toArray, List.map_cons, List.map_nil]); first | done | rfl | (simp only [List.length_drop, List.length_take]; rfl)) ?_; (with_reducible refine (spec_BytesOf.calls kj4 ((⟨#[98]⟩ : ByteArray) ++ t151) t153 t154 _ A9.out).mono ?_); rintro e w32 ⟨rfl, hb⟩; refine ⟨_, rfl, ?_⟩; have n0_ := Aside0.mk (below_step (by repeat (first | (with_reducible first | exact HB.out | apply below_alloc | apply pw_below_drewN | apply below_drew1) | exact HB.out)) hb); clear HB; have HB := n0_; clear n0_; (try clear hb); (try clear hb2); (try clear hk); (try clear hi)) | ((with_reducible refine gate_callee (f := 7) rfl ?_); refine goesL_ (some 38) rfl rfl Tryd.func7 (by kernel_rfl) rfl #[.string ((⟨#[98]⟩ : ByteArray) ++ t151)] rfl (by (try simp only [List.map_toArray, List.map_cons, List.map_nil]); first | done | rfl | (simp only [List.length_drop, List.length_take]; rfl)) ?_; (with_reducible refine (impl_VtBytes.calls ((⟨#[98]⟩ : ByteArray) ++ t151) t155 t156 _ (Gv.up HGV.out (by repeat (first | (with_reducible first | exact HB.out | apply below_alloc | apply pw_below_drewN | apply below_drew1) | exact HB.out))) A10.out).mono ?_); rintro e w33 ⟨rfl, hb⟩; refine ⟨_, rfl, ?_⟩; have n0_ := Aside0.mk (below_step (by repeat (first | (with_reducible first | exact HB.out | apply below_alloc | apply pw_below_drewN | apply below_drew1) | exact HB.out)) hb); clear HB; have HB := n0_; clear n0_; (try clear hb); (try clear hb2); (try clear hk); (try clear hi)) | ((with_reducible refine gate_callee (f := 7) rfl ?_); refine goesL_ (some 42) rfl rfl Tryd.func7 (by kernel_rfl) rfl #[.string (⟨#[98, 39, 39]⟩ : ByteArray)] rfl (by (try simp only [List.map_toArray, List.map_cons, List.map_nil]); first | done | rfl | (simp only [List.length_drop, List.length_take]; rfl)) ?_; (with_reducible refine (impl_VtBytes.calls (⟨#[98, 39, 39]⟩ : ByteArray) t157 t158 _ (Gv.up HGV.out (by repeat (first | (with_reducible first | exact HB.out | apply below_alloc | apply pw_below_drewN | apply below_drew1) | exact HB.out))) A11.out).mono ?_); rintro e w34 ⟨rfl, hb⟩; refine ⟨_, rfl, ?_⟩; have n0_ := Aside0.mk (below_step (by repeat (first | (with_reducible first | exact HB.out | apply below_alloc | apply pw_below_drewN | apply below_drew1) | exact HB.out)) hb); clear HB; have HB := n0_; clear n0_; (try clear hb); (try clear hb2); (try clear hk); (try clear hi)))
              go_ret
              exact ⟨by first | rfl | (simp [errW_none, errW_some] <;> rfl) | (simp [*, errW_none, errW_some] <;> rfl) | (simp (disch := omega) only [wrap64_id] <;> rfl), by repeat (first | (with_reducible first | exact HB.out | apply below_alloc | apply pw_below_drewN | apply below_drew1) | exact HB.out)⟩
          · rw [if_neg c8] at H
            exact absurd H (by simp)

/-- THE ONE PURE STATEMENT of laws_FnVtBytes: yours. -/
def laws_FnVtBytes.Pure : Prop := ∀ (a0 : ByteArray) (a1 : Bool), a0.size ≤ 140737488351232 → ∃ k, laws_FnVtBytes.f k a0 a1 = some true
theorem laws_FnVtBytes.walk (P : laws_FnVtBytes.Pure) (a0 : ByteArray) (a1 : Bool) (w : World) (hG : Gv w) (w0 : a0.size ≤ 140737488351232) :
    Calls Tryd.prog 3 #[.string a0, .bool a1] w fun e w' => e = .returned (.bool true) ∧ Below w.heap.size w w' := by
  obtain ⟨k, h⟩ := P a0 a1 w0
  refine (laws_FnVtBytes.calls k a0 a1 true w hG h).mono ?_
  rintro e w' ⟨rfl, hd⟩
  exact ⟨rfl, hd⟩

end Go.Proofs.YtngbhojjjkdofaaDoor.MFnVtBytes
