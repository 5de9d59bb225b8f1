-- Written by a program of this session (myprint.py, out of the translation). Not trusted: Lean checks it.
import Derived.Test.YtodphfcneiodhaaMFnWrStringsLargex0
import Derived.Test.YtodphfcneiodhaaMFnWrStringsLargex1
import Derived.Test.YtodphfcneiodhaaMFnWrStringsLargex2
namespace Go.Proofs.Ytodphfcneiodhaa.MFnWrStringsLarge
open Go.RowKit Go.Proofs.YtodphfcneiodhaaW.PrintWords Go.Proofs.YtodphfcneiodhaaW.PrintLast Go.Proofs.YtodphfcneiodhaaW.PrintMore
attribute [local go_sem] max2_int min2_int max_two min_two max_three min_three max_four min_four   -- for this text's walks alone
set_option linter.unusedVariables false
set_option linter.unusedSimpArgs false

/-! ### impl_WrStrings: function 6 -/
def impl_WrStrings.f (l0 : List ByteArray) (a1 : Int) : Option (List ByteArray) := (dbus_DoorConvert.f l0 a1).bind fun t105 => (some t105)
set_option maxHeartbeats 8000000 in
set_option maxRecDepth 100000 in
theorem impl_WrStrings.calls (A0 : Option Addr) (c0 : Nat) (l0 : List ByteArray) (a1 : Int) (r : List ByteArray) (w : World) (hr0 : Kd.C Kd.string w A0 l0.length l0) (hc0 : l0.length ≤ c0) (h : impl_WrStrings.f l0 a1 = some r) :
    Calls Try.prog 6 #[.slice A0 l0.length c0, .int .i64 a1] w fun e w' => ∃ v0_ : Value, e = .returned (v0_) ∧ Kd.R Kd.string 9 w' w.heap.size (fun _ => True) v0_ r ∧ Below w.heap.size w w' := by
  have HR0 := Aside0.mk hr0
  have HC0 := Aside0.mk hc0
  clear hr0 hc0
  have HB := Aside0.mk (Below.refl w.heap.size w)
  have H : ((dbus_DoorConvert.f l0 a1).bind fun t105 => (some t105)) = some r := h
  clear h
  replace H := Option.bind_eq_some_iff.mp H
  obtain ⟨t105, A30, H⟩ := H
  replace H : (some t105) = some r := H
  have A3 := Aside0.mk A30
  clear A30
  obtain rfl := Option.some.inj H
  go_enter Try.func6, Try.ntmps6
  go_wp2_with (first | ((with_reducible refine gate_callee (f := 10) rfl ?_); refine goesL_ (some 7) rfl rfl Try.func10 (by kernel_rfl) rfl #[.slice A0 l0.length c0, .int .i64 a1] rfl (by (try simp only [List.map_toArray, List.map_cons, List.map_nil]); first | done | rfl | (simp only [List.length_drop, List.length_take]; rfl)) ?_; (with_reducible refine (dbus_DoorConvert.calls _ _ l0 a1 t105 _ ?side1 ?side2 A3.out).mono ?_); (case side1 => repeat (first | exact HR0.out | (with_reducible refine Kd.C_alloc ?_ _) | (with_reducible refine Kd.C_drewN ?_ _) | (with_reducible refine Kd.C_drew ?_))); (case side2 => exact HC0.out); rintro e w4 ⟨v106, rfl, ho0, hb⟩; refine ⟨_, rfl, ?_⟩; have n0_ := Aside0.mk (Kd.R_lower ho0 (below_size (by repeat (first | (with_reducible first | exact HB.out | apply below_alloc | apply pw_below_drewN | apply below_drew1) | exact HB.out)))); have n1_ := Aside0.mk (below_step (by repeat (first | (with_reducible first | exact HB.out | apply below_alloc | apply pw_below_drewN | apply below_drew1) | exact HB.out)) hb); clear HB; have HO107 := n0_; have HB := n1_; clear n0_ n1_; (try clear hb); (try clear hb2); (try clear hk); (try clear hi); (try clear ho0)))
  go_ret
  exact ⟨_, by first | rfl | (simp [errW_none, errW_some] <;> rfl) | (simp [*, errW_none, errW_some] <;> rfl) | (simp (disch := omega) only [wrap64_id] <;> rfl), by (with_reducible repeat (first | apply Kd.R_alloc | apply Kd.R_drewN | apply Kd.R_drew)); exact HO107.out, by repeat (first | (with_reducible first | exact HB.out | apply below_alloc | apply pw_below_drewN | apply below_drew1) | exact HB.out)⟩

/-! ### laws_FnWrStringsLarge: function 3 -/
mutual
def laws_FnWrStringsLarge.l0 : Nat → Int → Int → List ByteArray → List Int → Int → Int → Option (Bool)
  | 0, _, _, _, _, _, _ => none
  | k + 1, x1, x2, x7, x19, x20, x21 => if x21 < x20 then (if 0 ≤ x21 then (if x21 < (x19.length : Int) then ((laws_wrLong.f k (wrap64 (rd x19 x21)) ((x2 + ((x21) % 256)) % 256)).bind fun t109 => (if x7.length < 8796093022208 then (laws_FnWrStringsLarge.l0 k x1 x2 (x7 ++ [t109]) x19 x20 (wrap64 (x21 + 1))) else (none))) else (none)) else (none)) else ((impl_WrStrings.f x7 (wrap64 (x1))).bind fun t113 => ((impl_WrStrings.f (([(⟨#[97]⟩ : ByteArray)] : List ByteArray)) 0).bind fun t119 => (if (t113.length : Int) = (x7.length : Int) then (if (t119.length : Int) = 1 then (if 0 < (t119.length : Int) then (laws_FnWrStringsLarge.j1 k x7 t113 ((rdOf ByteArray.empty t119 0).toList != ([97] : List UInt8))) else (none)) else (laws_FnWrStringsLarge.j1 k x7 t113 true)) else (laws_FnWrStringsLarge.j1 k x7 t113 true))))
def laws_FnWrStringsLarge.j1 : Nat → List ByteArray → List ByteArray → Bool → Option (Bool)
  | 0, _, _, _ => none
  | k + 1, x7, x10, x58 => if x58 = true then (some false) else (laws_FnWrStringsLarge.l1 k x7 x10 (x10.length : Int) 0)
def laws_FnWrStringsLarge.l1 : Nat → List ByteArray → List ByteArray → Int → Int → Option (Bool)
  | 0, _, _, _, _ => none
  | k + 1, x7, x10, x60, x61 => if x61 < x60 then (if 0 ≤ x61 then (if x61 < (x10.length : Int) then (if x61 < (x7.length : Int) then (if (rdOf ByteArray.empty x10 x61).toList = (rdOf ByteArray.empty x7 x61).toList then (laws_FnWrStringsLarge.l1 k x7 x10 x60 (wrap64 (x61 + 1))) else (some false)) else (none)) else (none)) else (none)) else (some true)
end
def laws_FnWrStringsLarge.f (k : Nat) (l0 : List Int) (a1 : Int) (a2 : Int) : Option (Bool) := if (l0.length : Int) > 2147483647 then (some true) else (if (l0.length : Int) > 20 then (some true) else (laws_FnWrStringsLarge.l0 k a1 a2 ([] : List ByteArray) l0 (l0.length : Int) 0))
theorem laws_FnWrStringsLarge.mono_l : ∀ k, (∀ y0 y1 y2 y3 y4 y5, LeO (laws_FnWrStringsLarge.l0 k y0 y1 y2 y3 y4 y5) (laws_FnWrStringsLarge.l0 (k + 1) y0 y1 y2 y3 y4 y5)) ∧ (∀ y0 y1 y2, LeO (laws_FnWrStringsLarge.j1 k y0 y1 y2) (laws_FnWrStringsLarge.j1 (k + 1) y0 y1 y2)) ∧ (∀ y0 y1 y2 y3, LeO (laws_FnWrStringsLarge.l1 k y0 y1 y2 y3) (laws_FnWrStringsLarge.l1 (k + 1) y0 y1 y2 y3))
  | 0 => ⟨fun _ _ _ _ _ _ r h => by simp [laws_FnWrStringsLarge.l0] at h, fun _ _ _ r h => by simp [laws_FnWrStringsLarge.j1] at h, fun _ _ _ _ r h => by simp [laws_FnWrStringsLarge.l1] at h⟩
  | k + 1 => by
    obtain ⟨ih0, ih1, ih2⟩ := laws_FnWrStringsLarge.mono_l k
    refine ⟨?_, ?_, ?_⟩
    · intro y0 y1 y2 y3 y4 y5
      unfold laws_FnWrStringsLarge.l0
      repeat' first
      | (with_reducible exact ih0 _ _ _ _ _ _)
      | (with_reducible exact ih1 _ _ _)
      | (with_reducible exact ih2 _ _ _ _)
      | (with_reducible exact laws_wrLong.mono _ _ _)
      | (with_reducible exact LeO.refl _)
      | (with_reducible exact LeO.none _)
      | (with_reducible refine LeO.ite ?_ ?_)
      | (with_reducible refine LeO.bind ?_ (fun _ => ?_))
      | exact ih0 _ _ _ _ _ _
      | exact ih1 _ _ _
      | exact ih2 _ _ _ _
      | exact laws_wrLong.mono _ _ _
      | exact LeO.none _
      | refine LeO.ite ?_ ?_
      | refine LeO.bind ?_ (fun _ => ?_)
    · intro y0 y1 y2
      unfold laws_FnWrStringsLarge.j1
      repeat' first
      | (with_reducible exact ih0 _ _ _ _ _ _)
      | (with_reducible exact ih1 _ _ _)
      | (with_reducible exact ih2 _ _ _ _)
      | (with_reducible exact laws_wrLong.mono _ _ _)
      | (with_reducible exact LeO.refl _)
      | (with_reducible exact LeO.none _)
      | (with_reducible refine LeO.ite ?_ ?_)
      | (with_reducible refine LeO.bind ?_ (fun _ => ?_))
      | exact ih0 _ _ _ _ _ _
      | exact ih1 _ _ _
      | exact ih2 _ _ _ _
      | exact laws_wrLong.mono _ _ _
      | exact LeO.none _
      | refine LeO.ite ?_ ?_
      | refine LeO.bind ?_ (fun _ => ?_)
    · intro y0 y1 y2 y3
      unfold laws_FnWrStringsLarge.l1
      repeat' first
      | (with_reducible exact ih0 _ _ _ _ _ _)
      | (with_reducible exact ih1 _ _ _)
      | (with_reducible exact ih2 _ _ _ _)
      | (with_reducible exact laws_wrLong.mono _ _ _)
      | (with_reducible exact LeO.refl _)
      | (with_reducible exact LeO.none _)
      | (with_reducible refine LeO.ite ?_ ?_)
      | (with_reducible refine LeO.bind ?_ (fun _ => ?_))
      | exact ih0 _ _ _ _ _ _
      | exact ih1 _ _ _
      | exact ih2 _ _ _ _
      | exact laws_wrLong.mono _ _ _
      | exact LeO.none _
      | refine LeO.ite ?_ ?_
      | refine LeO.bind ?_ (fun _ => ?_)
theorem laws_FnWrStringsLarge.mono : ∀ a0 a1 a2 k, LeO (laws_FnWrStringsLarge.f k a0 a1 a2) (laws_FnWrStringsLarge.f (k + 1) a0 a1 a2) := by
  intro a0 a1 a2 k
  obtain ⟨ih0, ih1, ih2⟩ := laws_FnWrStringsLarge.mono_l k
  unfold laws_FnWrStringsLarge.f
  repeat' first
      | (with_reducible exact ih0 _ _ _ _ _ _)
      | (with_reducible exact ih1 _ _ _)
      | (with_reducible exact ih2 _ _ _ _)
      | (with_reducible exact laws_wrLong.mono _ _ _)
      | (with_reducible exact LeO.refl _)
      | (with_reducible exact LeO.none _)
      | (with_reducible refine LeO.ite ?_ ?_)
      | (with_reducible refine LeO.bind ?_ (fun _ => ?_))
      | exact ih0 _ _ _ _ _ _
      | exact ih1 _ _ _
      | exact ih2 _ _ _ _
      | exact laws_wrLong.mono _ _ _
      | exact LeO.none _
      | refine LeO.ite ?_ ?_
      | refine LeO.bind ?_ (fun _ => ?_)
set_option maxHeartbeats 8000000 in
set_option maxRecDepth 100000 in
theorem laws_FnWrStringsLarge.calls (k : Nat) (A0 : Option Addr) (c0 : Nat) (l0 : List Int) (a1 : Int) (a2 : Int) (r : Bool) (w : World) (hr0 : Kd.C (Kd.int .u16) w A0 l0.length l0) (hc0 : l0.length ≤ c0) (h : laws_FnWrStringsLarge.f k l0 a1 a2 = some r) :
    Calls Try.prog 3 #[.slice A0 l0.length c0, .int .u16 a1, .int .u8 a2] w fun e w' => e = .returned (.bool r) ∧ Below w.heap.size w w' := by
  have HR0 := Aside0.mk hr0
  have HC0 := Aside0.mk hc0
  clear hr0 hc0
  have HB := Aside0.mk (Below.refl w.heap.size w)
  have H : (if (l0.length : Int) > 2147483647 then (some true) else (if (l0.length : Int) > 20 then (some true) else (laws_FnWrStringsLarge.l0 k a1 a2 ([] : List ByteArray) l0 (l0.length : Int) 0))) = some r := h
  clear h
  by_cases c4 : (l0.length : Int) > 2147483647
  · rw [if_pos c4] at H
    have c4b0 : decide (2147483647 < (l0.length : Int)) = true := decide_eq_true c4
    have c4b1 : decide (2147483647 < l0.length) = true := decide_eq_true (by omega)
    clear c4
    obtain rfl := Option.some.inj H
    go_enter Try.func3, Try.ntmps3
    go_wp2
    repeat (go_quiet (fail); try go_wp2)
    go_ret
    exact ⟨by first | rfl | (simp [errW_none, errW_some] <;> rfl) | (simp [*, errW_none, errW_some] <;> rfl) | (simp (disch := omega) only [wrap64_id] <;> rfl), by repeat (first | (with_reducible first | exact HB.out | apply below_alloc | apply pw_below_drewN | apply below_drew1) | exact HB.out)⟩
  · rw [if_neg c4] at H
    have c4b0 : decide (2147483647 < (l0.length : Int)) = false := decide_eq_false c4
    have c4b1 : decide (2147483647 < l0.length) = false := decide_eq_false (by omega)
    clear c4
    by_cases c5 : (l0.length : Int) > 20
    · rw [if_pos c5] at H
      have c5b0 : decide (20 < (l0.length : Int)) = true := decide_eq_true c5
      have c5b1 : decide (20 < l0.length) = true := decide_eq_true (by omega)
      clear c5
      obtain rfl := Option.some.inj H
      go_enter Try.func3, Try.ntmps3
      go_wp2
      repeat (go_quiet (fail); try go_wp2)
      go_ret
      exact ⟨by first | rfl | (simp [errW_none, errW_some] <;> rfl) | (simp [*, errW_none, errW_some] <;> rfl) | (simp (disch := omega) only [wrap64_id] <;> rfl), by repeat (first | (with_reducible first | exact HB.out | apply below_alloc | apply pw_below_drewN | apply below_drew1) | exact HB.out)⟩
    · rw [if_neg c5] at H
      have c5b0 : decide (20 < (l0.length : Int)) = false := decide_eq_false c5
      have c5b1 : decide (20 < l0.length) = false := decide_eq_false (by omega)
      clear c5
      have H' := Aside0.mk H
      clear H
      go_enter Try.func3, Try.ntmps3
      go_wp2
      repeat (go_quiet (fail); try go_wp2)
      go_loopg [7, 21] k (fun kq v7 v21 w' => ∃ (x7_1 : List ByteArray) (x21_1 : Int), v21 = .int .i64 x21_1 ∧ Aside0 (laws_FnWrStringsLarge.l0 kq a1 a2 x7_1 l0 (l0.length : Int) x21_1 = some r) ∧ Aside0 (kq ≤ k) ∧ Aside0 (Kd.R Kd.string 9 w' w.heap.size (fun _ => True) v7 x7_1) ∧ Aside0 (Below w.heap.size w w'))
      case atStart => exact ⟨(([] : List ByteArray)), (0), (by first | rfl | (simp; done) | (simp [*]; done)), H', ⟨Nat.le_refl _⟩, ⟨by first | exact Kd.R_nil _ _ _ _ _ | exact Kd.N_nil _ _ _ _ _ | exact Kd.V_nil _ _ _ _ _ | exact Kd.Q_nil _ _ _ _ _ | exact Kd.S_nil _ _ _ _ _⟩, ⟨by repeat (first | (with_reducible first | exact HB.out | apply below_alloc | apply pw_below_drewN | apply below_drew1) | exact HB.out)⟩⟩
      case round =>
        clear H'
        try clear p2
        try clear c3
        try clear c4
        try clear c4b0
        try clear c4b1
        try clear c5
        try clear c5b0
        try clear c5b1
        obtain ⟨x7_1, x21_1, rfl, HA, HK1, HO_7, HB⟩ := hrel
        cases gk with
        | zero => exact absurd HA.out (by simp [laws_FnWrStringsLarge.l0])
        | succ k1 =>
          have H := HA.out
          clear HA
          simp only [laws_FnWrStringsLarge.l0] at H
          by_cases c6 : x21_1 < (l0.length : Int)
          · rw [if_pos c6] at H
            have c6b0 : decide (x21_1 < (l0.length : Int)) = true := decide_eq_true c6
            clear c6
            by_cases c7 : 0 ≤ x21_1
            · rw [if_pos c7] at H
              have c7b0 : decide (0 ≤ x21_1) = true := decide_eq_true c7
              clear c7
              by_cases c8 : x21_1 < (l0.length : Int)
              · rw [if_pos c8] at H
                have c8b0 : decide (x21_1 < (l0.length : Int)) = true := decide_eq_true c8
                clear c8
                replace H := Option.bind_eq_some_iff.mp H
                obtain ⟨t109, A90, H⟩ := H
                replace H : (if x7_1.length < 8796093022208 then (laws_FnWrStringsLarge.l0 k1 a1 a2 (x7_1 ++ [t109]) l0 (l0.length : Int) (wrap64 (x21_1 + 1))) else (none)) = some r := H
                have A9 := Aside0.mk A90
                have A9s : laws_wrLong.f k1 (wrap64 (rd l0 x21_1)) ((a2 + x21_1) % 256) = some t109 := by have := A90; rwa [show (a2 + x21_1 % 256) % 256 = (a2 + x21_1) % 256 by simp] at this
                replace A9 := Aside0.mk A9s
                clear A9s
                clear A90
                by_cases c10 : x7_1.length < 8796093022208
                · rw [if_pos c10] at H
                  have LMc10 := Aside0.mk c10
                  clear c10
                  obtain ⟨y110, hy110⟩ : ∃ y_ : List ByteArray, y_ = (x7_1 ++ [t109]) := ⟨_, rfl⟩
                  replace H : (laws_FnWrStringsLarge.l0 k1 a1 a2 y110 l0 (l0.length : Int) (wrap64 (x21_1 + 1))) = some r := by first | (rw [hy110]; with_reducible exact H) | (have H2_ := (Option.bind_some _ _).symm.trans H; rw [hy110]; with_reducible exact H2_) | (have H2_ := (Option.bind_some _ _).symm.trans H; with_reducible exact H2_) | with_reducible exact H | (rw [hy110]; exact H) | exact H
                  have Ny110 := Aside0.mk hy110
                  clear hy110
                  have H' := Aside0.mk H
                  clear H
                  have p108 : 0 ≤ (x21_1 : Int) := of_decide_eq_true (by first | (with_reducible assumption) | assumption)
                  have q108 : x21_1 < (l0.length : Int) := of_decide_eq_true (by first | (with_reducible assumption) | assumption)
                  obtain ⟨ad108, e108, hx108_0⟩ := Kd.at_int HR0.out x21_1 p108 q108
                  cases e108
                  replace hx108_0 := (HB.out.cell (World.block_lt_of_cell? w _ hx108_0)).trans hx108_0
                  replace p108 := eq_true p108
                  replace q108 := eq_true q108
                  go_wp2_with (first | (go_at_call 5; (with_reducible refine (laws_wrLong.calls k1 (wrap64 (rd l0 x21_1)) ((a2 + x21_1) % 256) t109 _ A9.out).mono ?_); rintro e w11 ⟨rfl, hb⟩; have n0_ := Aside0.mk (Kd.R_below (by (with_reducible repeat (first | apply Kd.R_alloc | apply Kd.R_drewN | apply Kd.R_drew)); exact HO_7.out) hb); have n1_ := Aside0.mk (below_step (by repeat (first | (with_reducible first | exact HB.out | apply below_alloc | apply pw_below_drewN | apply below_drew1) | exact HB.out)) hb); clear HO_7; clear HB; have HO_7 := n0_; have HB := n1_; clear n0_ n1_; (try clear hb); (try clear hb2); (try clear hk); (try clear hi)) | ((with_reducible refine gate_builtin (b := .append) (xs := #[.tmp 26, .tmp 34]) rfl ?_); (try (refine gate_guard (by rfl) ?_; dsimp only)); at_builtin; refine Kd.R_append Kd.string (w0 := w) w.heap.size rfl (.tmp 26) (.tmp 34) 24 9 (.string ⟨#[]⟩) 16 rfl Try.underlying24 info9 rfl (by decide) (by omega) u7 x7_1 t109 [.string t109] (fun _ => True) (fun _ => False) rfl rfl ?aP (fun _ hk => hk.elim) ?aF ?aO ?aB ?aS ?aL ?_; (case aP => exact rfl); (case aB => exact (by repeat (first | (with_reducible first | exact HB.out | apply below_alloc | apply pw_below_drewN | apply below_drew1) | exact HB.out))); (case aF => exact (fun _ _ => trivial)); (case aO => exact (by (with_reducible repeat (first | apply Kd.R_alloc | apply Kd.R_drewN | apply Kd.R_drew)); exact HO_7.out)); (case aS => exact (below_size (by repeat (first | (with_reducible first | exact HB.out | apply below_alloc | apply pw_below_drewN | apply below_drew1) | exact HB.out)))); (case aL => have := LMc10.out; omega); intro v111 w12 ho hb hg hat; rw [← Ny110.out] at ho; have n0_ := Aside0.mk (hb); have n1_ := Aside0.mk (ho); clear HB; clear HO_7; have HB := n0_; have HO112 := n1_; clear n0_ n1_; clear ho hb hg hat))
                  repeat (go_quiet (first | (go_at_call 5; (with_reducible refine (laws_wrLong.calls k1 (wrap64 (rd l0 x21_1)) ((a2 + x21_1) % 256) t109 _ A9.out).mono ?_); rintro e w11 ⟨rfl, hb⟩; have n0_ := Aside0.mk (Kd.R_below (by (with_reducible repeat (first | apply Kd.R_alloc | apply Kd.R_drewN | apply Kd.R_drew)); exact HO_7.out) hb); have n1_ := Aside0.mk (below_step (by repeat (first | (with_reducible first | exact HB.out | apply below_alloc | apply pw_below_drewN | apply below_drew1) | exact HB.out)) hb); clear HO_7; clear HB; have HO_7 := n0_; have HB := n1_; clear n0_ n1_; (try clear hb); (try clear hb2); (try clear hk); (try clear hi)) | ((with_reducible refine gate_builtin (b := .append) (xs := #[.tmp 26, .tmp 34]) rfl ?_); (try (refine gate_guard (by rfl) ?_; dsimp only)); at_builtin; refine Kd.R_append Kd.string (w0 := w) w.heap.size rfl (.tmp 26) (.tmp 34) 24 9 (.string ⟨#[]⟩) 16 rfl Try.underlying24 info9 rfl (by decide) (by omega) u7 x7_1 t109 [.string t109] (fun _ => True) (fun _ => False) rfl rfl ?aP (fun _ hk => hk.elim) ?aF ?aO ?aB ?aS ?aL ?_; (case aP => exact rfl); (case aB => exact (by repeat (first | (with_reducible first | exact HB.out | apply below_alloc | apply pw_below_drewN | apply below_drew1) | exact HB.out))); (case aF => exact (fun _ _ => trivial)); (case aO => exact (by (with_reducible repeat (first | apply Kd.R_alloc | apply Kd.R_drewN | apply Kd.R_drew)); exact HO_7.out)); (case aS => exact (below_size (by repeat (first | (with_reducible first | exact HB.out | apply below_alloc | apply pw_below_drewN | apply below_drew1) | exact HB.out)))); (case aL => have := LMc10.out; omega); intro v111 w12 ho hb hg hat; rw [← Ny110.out] at ho; have n0_ := Aside0.mk (hb); have n1_ := Aside0.mk (ho); clear HB; clear HO_7; have HB := n0_; have HO112 := n1_; clear n0_ n1_; clear ho hb hg hat)); try go_wp2_with (first | (go_at_call 5; (with_reducible refine (laws_wrLong.calls k1 (wrap64 (rd l0 x21_1)) ((a2 + x21_1) % 256) t109 _ A9.out).mono ?_); rintro e w11 ⟨rfl, hb⟩; have n0_ := Aside0.mk (Kd.R_below (by (with_reducible repeat (first | apply Kd.R_alloc | apply Kd.R_drewN | apply Kd.R_drew)); exact HO_7.out) hb); have n1_ := Aside0.mk (below_step (by repeat (first | (with_reducible first | exact HB.out | apply below_alloc | apply pw_below_drewN | apply below_drew1) | exact HB.out)) hb); clear HO_7; clear HB; have HO_7 := n0_; have HB := n1_; clear n0_ n1_; (try clear hb); (try clear hb2); (try clear hk); (try clear hi)) | ((with_reducible refine gate_builtin (b := .append) (xs := #[.tmp 26, .tmp 34]) rfl ?_); (try (refine gate_guard (by rfl) ?_; dsimp only)); at_builtin; refine Kd.R_append Kd.string (w0 := w) w.heap.size rfl (.tmp 26) (.tmp 34) 24 9 (.string ⟨#[]⟩) 16 rfl Try.underlying24 info9 rfl (by decide) (by omega) u7 x7_1 t109 [.string t109] (fun _ => True) (fun _ => False) rfl rfl ?aP (fun _ hk => hk.elim) ?aF ?aO ?aB ?aS ?aL ?_; (case aP => exact rfl); (case aB => exact (by repeat (first | (with_reducible first | exact HB.out | apply below_alloc | apply pw_below_drewN | apply below_drew1) | exact HB.out))); (case aF => exact (fun _ _ => trivial)); (case aO => exact (by (with_reducible repeat (first | apply Kd.R_alloc | apply Kd.R_drewN | apply Kd.R_drew)); exact HO_7.out)); (case aS => exact (below_size (by repeat (first | (with_reducible first | exact HB.out | apply below_alloc | apply pw_below_drewN | apply below_drew1) | exact HB.out)))); (case aL => have := LMc10.out; omega); intro v111 w12 ho hb hg hat; rw [← Ny110.out] at ho; have n0_ := Aside0.mk (hb); have n1_ := Aside0.mk (ho); clear HB; clear HO_7; have HB := n0_; have HO112 := n1_; clear n0_ n1_; clear ho hb hg hat)))
                  go_roundg k1
                  case measure => have := HK1.out; omega
                  case rel => exact ⟨(y110), (wrap64 (x21_1 + 1)), (by first | rfl | (simp; done) | (simp [*]; done)), H', ⟨by have := HK1.out; omega⟩, ⟨by (with_reducible repeat (first | apply Kd.R_alloc | apply Kd.R_drewN | apply Kd.R_drew)); exact HO112.out⟩, ⟨by repeat (first | (with_reducible first | exact HB.out | apply below_alloc | apply pw_below_drewN | apply below_drew1) | exact HB.out)⟩⟩
                · rw [if_neg c10] at H
                  exact absurd H (by simp)
              · rw [if_neg c8] at H
                exact absurd H (by simp)
            · rw [if_neg c7] at H
              exact absurd H (by simp)
          · rw [if_neg c6] at H
            have c6b0 : decide (x21_1 < (l0.length : Int)) = false := decide_eq_false c6
            clear c6
            replace H := Option.bind_eq_some_iff.mp H
            obtain ⟨t113, A130, H⟩ := H
            replace H : ((impl_WrStrings.f (([(⟨#[97]⟩ : ByteArray)] : List ByteArray)) 0).bind fun t119 => (if (t113.length : Int) = (x7_1.length : Int) then (if (t119.length : Int) = 1 then (if 0 < (t119.length : Int) then (laws_FnWrStringsLarge.j1 k1 x7_1 t113 ((rdOf ByteArray.empty t119 0).toList != ([97] : List UInt8))) else (none)) else (laws_FnWrStringsLarge.j1 k1 x7_1 t113 true)) else (laws_FnWrStringsLarge.j1 k1 x7_1 t113 true))) = some r := H
            have A13 := Aside0.mk A130
            clear A130
            obtain ⟨y116, hy116⟩ : ∃ y_ : List ByteArray, y_ = (([(⟨#[97]⟩ : ByteArray)] : List ByteArray)) := ⟨_, rfl⟩
            replace H : ((impl_WrStrings.f y116 0).bind fun t119 => (if (t113.length : Int) = (x7_1.length : Int) then (if (t119.length : Int) = 1 then (if 0 < (t119.length : Int) then (laws_FnWrStringsLarge.j1 k1 x7_1 t113 ((rdOf ByteArray.empty t119 0).toList != ([97] : List UInt8))) else (none)) else (laws_FnWrStringsLarge.j1 k1 x7_1 t113 true)) else (laws_FnWrStringsLarge.j1 k1 x7_1 t113 true))) = some r := by first | (rw [hy116]; with_reducible exact H) | (have H2_ := (Option.bind_some _ _).symm.trans H; rw [hy116]; with_reducible exact H2_) | (have H2_ := (Option.bind_some _ _).symm.trans H; with_reducible exact H2_) | with_reducible exact H | (rw [hy116]; exact H) | exact H
            have Ny116 := Aside0.mk hy116
            clear hy116
            replace H := Option.bind_eq_some_iff.mp H
            obtain ⟨t119, A140, H⟩ := H
            replace H : (if (t113.length : Int) = (x7_1.length : Int) then (if (t119.length : Int) = 1 then (if 0 < (t119.length : Int) then (laws_FnWrStringsLarge.j1 k1 x7_1 t113 ((rdOf ByteArray.empty t119 0).toList != ([97] : List UInt8))) else (none)) else (laws_FnWrStringsLarge.j1 k1 x7_1 t113 true)) else (laws_FnWrStringsLarge.j1 k1 x7_1 t113 true)) = some r := H
            have A14 := Aside0.mk A140
            clear A140
            have HC15 := Aside0.mk H
            clear H
            obtain ⟨Ao16, co16, eo16⟩ := Kd.R_slice HO_7.out
            subst eo16
            go_upto_region 13 with (first | (go_at_call 6; (with_reducible refine (impl_WrStrings.calls _ _ x7_1 (wrap64 (a1)) t113 _ ?side1 ?side2 A13.out).mono ?_); (case side1 => repeat (first | exact (Kd.R_reads' HO_7.out).2.2 | (with_reducible refine Kd.C_alloc ?_ _) | (with_reducible refine Kd.C_drewN ?_ _) | (with_reducible refine Kd.C_drew ?_))); (case side2 => exact (Kd.R_reads' HO_7.out).2.1); rintro e w17 ⟨v114, rfl, ho0, hb⟩; have n0_ := Aside0.mk (Kd.R_elder' (by (with_reducible repeat (first | apply Kd.R_alloc | apply Kd.R_drewN | apply Kd.R_drew)); exact HO_7.out) (Kd.R_base ho0) hb); have n1_ := Aside0.mk (Kd.R_lower (Kd.R_new' ho0 (Kd.R_lt (by (with_reducible repeat (first | apply Kd.R_alloc | apply Kd.R_drewN | apply Kd.R_drew)); exact HO_7.out))) (below_size (by repeat (first | (with_reducible first | exact HB.out | apply below_alloc | apply pw_below_drewN | apply below_drew1) | exact HB.out)))); have n2_ := Aside0.mk (below_step (by repeat (first | (with_reducible first | exact HB.out | apply below_alloc | apply pw_below_drewN | apply below_drew1) | exact HB.out)) hb); clear HO_7; clear HB; have HO_7 := n0_; have HO115 := n1_; have HB := n2_; clear n0_ n1_ n2_; (try clear hb); (try clear hb2); (try clear hk); (try clear hi); (try clear ho0)) | ((with_reducible refine gate_dst (N := 41) rfl ?_); (try (refine gate_guard (by rfl) ?_; dsimp only)); refine Kd.R_lit Kd.string _ 9 ?hg (N := 41) ?hd (xs := ([(⟨#[97]⟩ : ByteArray)] : List ByteArray)) (inner := [.string (⟨#[97]⟩ : ByteArray)]) (ok := fun _ => True) (okp := fun _ => True) ?hr ?hp (fun _ hk => hk) trivial (Below.refl _ _) (Nat.le_refl _) (by simp) ?_; (case hd => rfl); (case hg => rfl); (case hr => first | (go_simp; done) | (go_simp; rfl)); (case hp => exact (Reps.one (show Kd.M Kd.string _ _ _ (⟨#[97]⟩ : ByteArray) [.string (⟨#[97]⟩ : ByteArray)] from rfl) (Reps.none _ _))); intro v117 w18 ho19 hb hg_ hnew_; clear hg_ hnew_; (first | rw [← Ny116.out] at ho19 | (simp only [Int.reduceToNat] at ho19; rw [← Ny116.out] at ho19)); have n0_ := Aside0.mk (Kd.R_elder' (by (with_reducible repeat (first | apply Kd.R_alloc | apply Kd.R_drewN | apply Kd.R_drew)); exact HO_7.out) (Kd.R_base ho19) hb); have n1_ := Aside0.mk (Kd.R_elder' (by (with_reducible repeat (first | apply Kd.R_alloc | apply Kd.R_drewN | apply Kd.R_drew)); exact HO115.out) (Kd.R_base ho19) hb); have n2_ := Aside0.mk (Kd.R_lower (Kd.R_new' (Kd.R_new' ho19 (Kd.R_lt (by (with_reducible repeat (first | apply Kd.R_alloc | apply Kd.R_drewN | apply Kd.R_drew)); exact HO_7.out))) (Kd.R_lt (by (with_reducible repeat (first | apply Kd.R_alloc | apply Kd.R_drewN | apply Kd.R_drew)); exact HO115.out))) (below_size (by repeat (first | (with_reducible first | exact HB.out | apply below_alloc | apply pw_below_drewN | apply below_drew1) | exact HB.out)))); have n3_ := Aside0.mk (below_step (by repeat (first | (with_reducible first | exact HB.out | apply below_alloc | apply pw_below_drewN | apply below_drew1) | exact HB.out)) hb); clear HO_7; clear HO115; clear HB; have HO_7 := n0_; have HO115 := n1_; have HO118 := n2_; have HB := n3_; clear n0_ n1_ n2_ n3_; clear hb ho19; obtain ⟨Ao20, co20, eo20⟩ := Kd.R_slice HO118.out; subst eo20) | (go_at_call 6; (with_reducible refine (impl_WrStrings.calls _ _ y116 0 t119 _ ?side1 ?side2 A14.out).mono ?_); (case side1 => repeat (first | exact (Kd.R_reads' HO118.out).2.2 | (with_reducible refine Kd.C_alloc ?_ _) | (with_reducible refine Kd.C_drewN ?_ _) | (with_reducible refine Kd.C_drew ?_))); (case side2 => exact (Kd.R_reads' HO118.out).2.1); rintro e w21 ⟨v120, rfl, ho0, hb⟩; have n0_ := Aside0.mk (Kd.R_elder' (by (with_reducible repeat (first | apply Kd.R_alloc | apply Kd.R_drewN | apply Kd.R_drew)); exact HO_7.out) (Kd.R_base ho0) hb); have n1_ := Aside0.mk (Kd.R_elder' (by (with_reducible repeat (first | apply Kd.R_alloc | apply Kd.R_drewN | apply Kd.R_drew)); exact HO115.out) (Kd.R_base ho0) hb); have n2_ := Aside0.mk (Kd.R_elder' (by (with_reducible repeat (first | apply Kd.R_alloc | apply Kd.R_drewN | apply Kd.R_drew)); exact HO118.out) (Kd.R_base ho0) hb); have n3_ := Aside0.mk (Kd.R_lower (Kd.R_new' (Kd.R_new' (Kd.R_new' ho0 (Kd.R_lt (by (with_reducible repeat (first | apply Kd.R_alloc | apply Kd.R_drewN | apply Kd.R_drew)); exact HO_7.out))) (Kd.R_lt (by (with_reducible repeat (first | apply Kd.R_alloc | apply Kd.R_drewN | apply Kd.R_drew)); exact HO115.out))) (Kd.R_lt (by (with_reducible repeat (first | apply Kd.R_alloc | apply Kd.R_drewN | apply Kd.R_drew)); exact HO118.out))) (below_size (by repeat (first | (with_reducible first | exact HB.out | apply below_alloc | apply pw_below_drewN | apply below_drew1) | exact HB.out)))); have n4_ := Aside0.mk (below_step (by repeat (first | (with_reducible first | exact HB.out | apply below_alloc | apply pw_below_drewN | apply below_drew1) | exact HB.out)) hb); clear HO_7; clear HO115; clear HO118; clear HB; have HO_7 := n0_; have HO115 := n1_; have HO118 := n2_; have HO121 := n3_; have HB := n4_; clear n0_ n1_ n2_ n3_ n4_; (try clear hb); (try clear hb2); (try clear hk); (try clear hi); (try clear ho0)))
            repeat (go_quiet (first | (go_at_call 6; (with_reducible refine (impl_WrStrings.calls _ _ x7_1 (wrap64 (a1)) t113 _ ?side1 ?side2 A13.out).mono ?_); (case side1 => repeat (first | exact (Kd.R_reads' HO_7.out).2.2 | (with_reducible refine Kd.C_alloc ?_ _) | (with_reducible refine Kd.C_drewN ?_ _) | (with_reducible refine Kd.C_drew ?_))); (case side2 => exact (Kd.R_reads' HO_7.out).2.1); rintro e w17 ⟨v114, rfl, ho0, hb⟩; have n0_ := Aside0.mk (Kd.R_elder' (by (with_reducible repeat (first | apply Kd.R_alloc | apply Kd.R_drewN | apply Kd.R_drew)); exact HO_7.out) (Kd.R_base ho0) hb); have n1_ := Aside0.mk (Kd.R_lower (Kd.R_new' ho0 (Kd.R_lt (by (with_reducible repeat (first | apply Kd.R_alloc | apply Kd.R_drewN | apply Kd.R_drew)); exact HO_7.out))) (below_size (by repeat (first | (with_reducible first | exact HB.out | apply below_alloc | apply pw_below_drewN | apply below_drew1) | exact HB.out)))); have n2_ := Aside0.mk (below_step (by repeat (first | (with_reducible first | exact HB.out | apply below_alloc | apply pw_below_drewN | apply below_drew1) | exact HB.out)) hb); clear HO_7; clear HB; have HO_7 := n0_; have HO115 := n1_; have HB := n2_; clear n0_ n1_ n2_; (try clear hb); (try clear hb2); (try clear hk); (try clear hi); (try clear ho0)) | ((with_reducible refine gate_dst (N := 41) rfl ?_); (try (refine gate_guard (by rfl) ?_; dsimp only)); refine Kd.R_lit Kd.string _ 9 ?hg (N := 41) ?hd (xs := ([(⟨#[97]⟩ : ByteArray)] : List ByteArray)) (inner := [.string (⟨#[97]⟩ : ByteArray)]) (ok := fun _ => True) (okp := fun _ => True) ?hr ?hp (fun _ hk => hk) trivial (Below.refl _ _) (Nat.le_refl _) (by simp) ?_; (case hd => rfl); (case hg => rfl); (case hr => first | (go_simp; done) | (go_simp; rfl)); (case hp => exact (Reps.one (show Kd.M Kd.string _ _ _ (⟨#[97]⟩ : ByteArray) [.string (⟨#[97]⟩ : ByteArray)] from rfl) (Reps.none _ _))); intro v117 w18 ho19 hb hg_ hnew_; clear hg_ hnew_; (first | rw [← Ny116.out] at ho19 | (simp only [Int.reduceToNat] at ho19; rw [← Ny116.out] at ho19)); have n0_ := Aside0.mk (Kd.R_elder' (by (with_reducible repeat (first | apply Kd.R_alloc | apply Kd.R_drewN | apply Kd.R_drew)); exact HO_7.out) (Kd.R_base ho19) hb); have n1_ := Aside0.mk (Kd.R_elder' (by (with_reducible repeat (first | apply Kd.R_alloc | apply Kd.R_drewN | apply Kd.R_drew)); exact HO115.out) (Kd.R_base ho19) hb); have n2_ := Aside0.mk (Kd.R_lower (Kd.R_new' (Kd.R_new' ho19 (Kd.R_lt (by (with_reducible repeat (first | apply Kd.R_alloc | apply Kd.R_drewN | apply Kd.R_drew)); exact HO_7.out))) (Kd.R_lt (by (with_reducible repeat (first | apply Kd.R_alloc | apply Kd.R_drewN | apply Kd.R_drew)); exact HO115.out))) (below_size (by repeat (first | (with_reducible first | exact HB.out | apply below_alloc | apply pw_below_drewN | apply below_drew1) | exact HB.out)))); have n3_ := Aside0.mk (below_step (by repeat (first | (with_reducible first | exact HB.out | apply below_alloc | apply pw_below_drewN | apply below_drew1) | exact HB.out)) hb); clear HO_7; clear HO115; clear HB; have HO_7 := n0_; have HO115 := n1_; have HO118 := n2_; have HB := n3_; clear n0_ n1_ n2_ n3_; clear hb ho19; obtain ⟨Ao20, co20, eo20⟩ := Kd.R_slice HO118.out; subst eo20) | (go_at_call 6; (with_reducible refine (impl_WrStrings.calls _ _ y116 0 t119 _ ?side1 ?side2 A14.out).mono ?_); (case side1 => repeat (first | exact (Kd.R_reads' HO118.out).2.2 | (with_reducible refine Kd.C_alloc ?_ _) | (with_reducible refine Kd.C_drewN ?_ _) | (with_reducible refine Kd.C_drew ?_))); (case side2 => exact (Kd.R_reads' HO118.out).2.1); rintro e w21 ⟨v120, rfl, ho0, hb⟩; have n0_ := Aside0.mk (Kd.R_elder' (by (with_reducible repeat (first | apply Kd.R_alloc | apply Kd.R_drewN | apply Kd.R_drew)); exact HO_7.out) (Kd.R_base ho0) hb); have n1_ := Aside0.mk (Kd.R_elder' (by (with_reducible repeat (first | apply Kd.R_alloc | apply Kd.R_drewN | apply Kd.R_drew)); exact HO115.out) (Kd.R_base ho0) hb); have n2_ := Aside0.mk (Kd.R_elder' (by (with_reducible repeat (first | apply Kd.R_alloc | apply Kd.R_drewN | apply Kd.R_drew)); exact HO118.out) (Kd.R_base ho0) hb); have n3_ := Aside0.mk (Kd.R_lower (Kd.R_new' (Kd.R_new' (Kd.R_new' ho0 (Kd.R_lt (by (with_reducible repeat (first | apply Kd.R_alloc | apply Kd.R_drewN | apply Kd.R_drew)); exact HO_7.out))) (Kd.R_lt (by (with_reducible repeat (first | apply Kd.R_alloc | apply Kd.R_drewN | apply Kd.R_drew)); exact HO115.out))) (Kd.R_lt (by (with_reducible repeat (first | apply Kd.R_alloc | apply Kd.R_drewN | apply Kd.R_drew)); exact HO118.out))) (below_size (by repeat (first | (with_reducible first | exact HB.out | apply below_alloc | apply pw_below_drewN | apply below_drew1) | exact HB.out)))); have n4_ := Aside0.mk (below_step (by repeat (first | (with_reducible first | exact HB.out | apply below_alloc | apply pw_below_drewN | apply below_drew1) | exact HB.out)) hb); clear HO_7; clear HO115; clear HO118; clear HB; have HO_7 := n0_; have HO115 := n1_; have HO118 := n2_; have HO121 := n3_; have HB := n4_; clear n0_ n1_ n2_ n3_ n4_; (try clear hb); (try clear hb2); (try clear hk); (try clear hi); (try clear ho0))); go_upto_region 13 with (first | (go_at_call 6; (with_reducible refine (impl_WrStrings.calls _ _ x7_1 (wrap64 (a1)) t113 _ ?side1 ?side2 A13.out).mono ?_); (case side1 => repeat (first | exact (Kd.R_reads' HO_7.out).2.2 | (with_reducible refine Kd.C_alloc ?_ _) | (with_reducible refine Kd.C_drewN ?_ _) | (with_reducible refine Kd.C_drew ?_))); (case side2 => exact (Kd.R_reads' HO_7.out).2.1); rintro e w17 ⟨v114, rfl, ho0, hb⟩; have n0_ := Aside0.mk (Kd.R_elder' (by (with_reducible repeat (first | apply Kd.R_alloc | apply Kd.R_drewN | apply Kd.R_drew)); exact HO_7.out) (Kd.R_base ho0) hb); have n1_ := Aside0.mk (Kd.R_lower (Kd.R_new' ho0 (Kd.R_lt (by (with_reducible repeat (first | apply Kd.R_alloc | apply Kd.R_drewN | apply Kd.R_drew)); exact HO_7.out))) (below_size (by repeat (first | (with_reducible first | exact HB.out | apply below_alloc | apply pw_below_drewN | apply below_drew1) | exact HB.out)))); have n2_ := Aside0.mk (below_step (by repeat (first | (with_reducible first | exact HB.out | apply below_alloc | apply pw_below_drewN | apply below_drew1) | exact HB.out)) hb); clear HO_7; clear HB; have HO_7 := n0_; have HO115 := n1_; have HB := n2_; clear n0_ n1_ n2_; (try clear hb); (try clear hb2); (try clear hk); (try clear hi); (try clear ho0)) | ((with_reducible refine gate_dst (N := 41) rfl ?_); (try (refine gate_guard (by rfl) ?_; dsimp only)); refine Kd.R_lit Kd.string _ 9 ?hg (N := 41) ?hd (xs := ([(⟨#[97]⟩ : ByteArray)] : List ByteArray)) (inner := [.string (⟨#[97]⟩ : ByteArray)]) (ok := fun _ => True) (okp := fun _ => True) ?hr ?hp (fun _ hk => hk) trivial (Below.refl _ _) (Nat.le_refl _) (by simp) ?_; (case hd => rfl); (case hg => rfl); (case hr => first | (go_simp; done) | (go_simp; rfl)); (case hp => exact (Reps.one (show Kd.M Kd.string _ _ _ (⟨#[97]⟩ : ByteArray) [.string (⟨#[97]⟩ : ByteArray)] from rfl) (Reps.none _ _))); intro v117 w18 ho19 hb hg_ hnew_; clear hg_ hnew_; (first | rw [← Ny116.out] at ho19 | (simp only [Int.reduceToNat] at ho19; rw [← Ny116.out] at ho19)); have n0_ := Aside0.mk (Kd.R_elder' (by (with_reducible repeat (first | apply Kd.R_alloc | apply Kd.R_drewN | apply Kd.R_drew)); exact HO_7.out) (Kd.R_base ho19) hb); have n1_ := Aside0.mk (Kd.R_elder' (by (with_reducible repeat (first | apply Kd.R_alloc | apply Kd.R_drewN | apply Kd.R_drew)); exact HO115.out) (Kd.R_base ho19) hb); have n2_ := Aside0.mk (Kd.R_lower (Kd.R_new' (Kd.R_new' ho19 (Kd.R_lt (by (with_reducible repeat (first | apply Kd.R_alloc | apply Kd.R_drewN | apply Kd.R_drew)); exact HO_7.out))) (Kd.R_lt (by (with_reducible repeat (first | apply Kd.R_alloc | apply Kd.R_drewN | apply Kd.R_drew)); exact HO115.out))) (below_size (by repeat (first | (with_reducible first | exact HB.out | apply below_alloc | apply pw_below_drewN | apply below_drew1) | exact HB.out)))); have n3_ := Aside0.mk (below_step (by repeat (first | (with_reducible first | exact HB.out | apply below_alloc | apply pw_below_drewN | apply below_drew1) | exact HB.out)) hb); clear HO_7; clear HO115; clear HB; have HO_7 := n0_; have HO115 := n1_; have HO118 := n2_; have HB := n3_; clear n0_ n1_ n2_ n3_; clear hb ho19; obtain ⟨Ao20, co20, eo20⟩ := Kd.R_slice HO118.out; subst eo20) | (go_at_call 6; (with_reducible refine (impl_WrStrings.calls _ _ y116 0 t119 _ ?side1 ?side2 A14.out).mono ?_); (case side1 => repeat (first | exact (Kd.R_reads' HO118.out).2.2 | (with_reducible refine Kd.C_alloc ?_ _) | (with_reducible refine Kd.C_drewN ?_ _) | (with_reducible refine Kd.C_drew ?_))); (case side2 => exact (Kd.R_reads' HO118.out).2.1); rintro e w21 ⟨v120, rfl, ho0, hb⟩; have n0_ := Aside0.mk (Kd.R_elder' (by (with_reducible repeat (first | apply Kd.R_alloc | apply Kd.R_drewN | apply Kd.R_drew)); exact HO_7.out) (Kd.R_base ho0) hb); have n1_ := Aside0.mk (Kd.R_elder' (by (with_reducible repeat (first | apply Kd.R_alloc | apply Kd.R_drewN | apply Kd.R_drew)); exact HO115.out) (Kd.R_base ho0) hb); have n2_ := Aside0.mk (Kd.R_elder' (by (with_reducible repeat (first | apply Kd.R_alloc | apply Kd.R_drewN | apply Kd.R_drew)); exact HO118.out) (Kd.R_base ho0) hb); have n3_ := Aside0.mk (Kd.R_lower (Kd.R_new' (Kd.R_new' (Kd.R_new' ho0 (Kd.R_lt (by (with_reducible repeat (first | apply Kd.R_alloc | apply Kd.R_drewN | apply Kd.R_drew)); exact HO_7.out))) (Kd.R_lt (by (with_reducible repeat (first | apply Kd.R_alloc | apply Kd.R_drewN | apply Kd.R_drew)); exact HO115.out))) (Kd.R_lt (by (with_reducible repeat (first | apply Kd.R_alloc | apply Kd.R_drewN | apply Kd.R_drew)); exact HO118.out))) (below_size (by repeat (first | (with_reducible first | exact HB.out | apply below_alloc | apply pw_below_drewN | apply below_drew1) | exact HB.out)))); have n4_ := Aside0.mk (below_step (by repeat (first | (with_reducible first | exact HB.out | apply below_alloc | apply pw_below_drewN | apply below_drew1) | exact HB.out)) hb); clear HO_7; clear HO115; clear HO118; clear HB; have HO_7 := n0_; have HO115 := n1_; have HO118 := n2_; have HO121 := n3_; have HB := n4_; clear n0_ n1_ n2_ n3_ n4_; (try clear hb); (try clear hb2); (try clear hk); (try clear hi); (try clear ho0))))
            (try simp only [Act.put, List.setIfInBounds_toArray, List.set_cons_zero, List.set_cons_succ])
            go_cut [58] (fun v58 wc => ∃ (kq : Nat) (x58_14 : Bool), v58 = .bool x58_14 ∧ Aside0 (laws_FnWrStringsLarge.j1 kq x7_1 t113 x58_14 = some r) ∧ Aside0 (kq ≤ k1) ∧ Aside0 (Kd.R Kd.string 9 wc w.heap.size (fun k_ => some k_ ≠ (v114 : Value).ownBlock) (.slice Ao16 x7_1.length co16) x7_1) ∧ Aside0 (Kd.R Kd.string 9 wc w.heap.size (fun k_ => some k_ ≠ ((.slice Ao16 x7_1.length co16) : Value).ownBlock) v114 t113) ∧ Aside0 (Below w.heap.size w wc))
            case first =>
              have H := HC15.out
              clear HC15
              by_cases c22 : (t113.length : Int) = (x7_1.length : Int)
              · rw [if_pos c22] at H
                have c22b0 : ((t113.length : Int) == (x7_1.length : Int)) = true := beq_iff_eq.mpr c22
                have c22b1 : ((t113.length : Int) != (x7_1.length : Int)) = false := bne_eq_false_iff_eq.mpr c22
                have c22b2 : (t113.length == x7_1.length) = true := by first | simpa using c22 | (simp at c22 ⊢; omega)
                clear c22
                (first | rw [c22b0] | (simp only [i64_w, i32_w]; rw [c22b0]) | skip)
                by_cases c23 : (t119.length : Int) = 1
                · rw [if_pos c23] at H
                  have c23b0 : ((t119.length : Int) == 1) = true := beq_iff_eq.mpr c23
                  have c23b1 : ((t119.length : Int) != 1) = false := bne_eq_false_iff_eq.mpr c23
                  clear c23
                  by_cases c24 : 0 < (t119.length : Int)
                  · rw [if_pos c24] at H
                    have c24b0 : decide (0 < (t119.length : Int)) = true := decide_eq_true c24
                    have c24b1 : decide (0 < t119.length) = true := decide_eq_true (by omega)
                    clear c24
                    have H' := Aside0.mk H
                    clear H
                    obtain ⟨Ao25, co25, eo25⟩ := Kd.R_slice HO115.out
                    subst eo25
                    obtain ⟨Ao26, co26, eo26⟩ := Kd.R_slice HO121.out
                    subst eo26
                    have p122 : 0 ≤ (0 : Int) := (by omega)
                    have q122 : 0 < (t119.length : Int) := of_decide_eq_true (by first | (with_reducible assumption) | assumption)
                    obtain ⟨ad122, e122, hx122_0⟩ := Kd.at_string (Kd.R_reads' HO121.out).2.2 0 p122 q122
                    cases e122
                    have qi122 : (0 < t119.length) = True := eq_true (by omega)
                    (try rw [show ((0 : Int)).toNat = 0 from rfl] at hx122_0)
                    (try rw [Addr.add_zero'] at hx122_0)
                    replace p122 := eq_true p122
                    replace q122 := eq_true q122
                    go_wp2
                    repeat (go_quiet (fail); try go_wp2)
                    go_meet
                    case rel => exact ⟨_, (((rdOf ByteArray.empty t119 0).toList != ([97] : List UInt8))), (by first | rfl | (simp; done) | (simp [*]; done)), H', ⟨by have := HK1.out; first | omega | exact Nat.le_refl _⟩, ⟨by (with_reducible repeat (first | apply Kd.R_alloc | apply Kd.R_drewN | apply Kd.R_drew)); exact Kd.R_mono HO_7.out (fun _ hk => hk.1.1.2)⟩, ⟨by (with_reducible repeat (first | apply Kd.R_alloc | apply Kd.R_drewN | apply Kd.R_drew)); exact Kd.R_mono HO115.out (fun _ hk => hk.1.1.2)⟩, ⟨by repeat (first | (with_reducible first | exact HB.out | apply below_alloc | apply pw_below_drewN | apply below_drew1) | exact HB.out)⟩⟩
                  · rw [if_neg c24] at H
                    exact absurd H (by simp)
                · rw [if_neg c23] at H
                  have c23b0 : ((t119.length : Int) == 1) = false := beq_eq_false_iff_ne.mpr c23
                  have c23b1 : ((t119.length : Int) != 1) = true := bne_iff_ne.mpr c23
                  have H' := Aside0.mk H
                  clear H
                  obtain ⟨Ao27, co27, eo27⟩ := Kd.R_slice HO115.out
                  subst eo27
                  obtain ⟨Ao28, co28, eo28⟩ := Kd.R_slice HO121.out
                  subst eo28
                  go_wp2
                  repeat (go_quiet (fail); try go_wp2)
                  go_meet
                  case rel => exact ⟨_, (true), (by first | rfl | (simp; done) | (simp [*]; done)), H', ⟨by have := HK1.out; first | omega | exact Nat.le_refl _⟩, ⟨by (with_reducible repeat (first | apply Kd.R_alloc | apply Kd.R_drewN | apply Kd.R_drew)); exact Kd.R_mono HO_7.out (fun _ hk => hk.1.1.2)⟩, ⟨by (with_reducible repeat (first | apply Kd.R_alloc | apply Kd.R_drewN | apply Kd.R_drew)); exact Kd.R_mono HO115.out (fun _ hk => hk.1.1.2)⟩, ⟨by repeat (first | (with_reducible first | exact HB.out | apply below_alloc | apply pw_below_drewN | apply below_drew1) | exact HB.out)⟩⟩
              · rw [if_neg c22] at H
                have c22b0 : ((t113.length : Int) == (x7_1.length : Int)) = false := beq_eq_false_iff_ne.mpr c22
                have c22b1 : ((t113.length : Int) != (x7_1.length : Int)) = true := bne_iff_ne.mpr c22
                have c22b2 : (t113.length == x7_1.length) = false := by first | simpa using c22 | (simp at c22 ⊢; omega)
                (first | rw [c22b0] | (simp only [i64_w, i32_w]; rw [c22b0]) | skip)
                have H' := Aside0.mk H
                clear H
                obtain ⟨Ao29, co29, eo29⟩ := Kd.R_slice HO115.out
                subst eo29
                go_wp2
                repeat (go_quiet (fail); try go_wp2)
                go_meet
                case rel => exact ⟨_, (true), (by first | rfl | (simp; done) | (simp [*]; done)), H', ⟨by have := HK1.out; first | omega | exact Nat.le_refl _⟩, ⟨by (with_reducible repeat (first | apply Kd.R_alloc | apply Kd.R_drewN | apply Kd.R_drew)); exact Kd.R_mono HO_7.out (fun _ hk => hk.1.1.2)⟩, ⟨by (with_reducible repeat (first | apply Kd.R_alloc | apply Kd.R_drewN | apply Kd.R_drew)); exact Kd.R_mono HO115.out (fun _ hk => hk.1.1.2)⟩, ⟨by repeat (first | (with_reducible first | exact HB.out | apply below_alloc | apply pw_below_drewN | apply below_drew1) | exact HB.out)⟩⟩
            case rest =>
              clear HC15
              try clear c1
              try clear p1
              try clear q1
              try clear hx1
              try clear qi1
              try clear c2
              try clear p2
              try clear c3
              try clear c4
              try clear c4b0
              try clear c4b1
              try clear c5
              try clear c5b0
              try clear c5b1
              try clear c6
              try clear c6b0
              try clear p6
              try clear c7
              try clear c7b0
              try clear c8
              try clear c8b0
              try clear c10
              try clear p10
              try clear q10
              try clear hx10
              try clear p12
              try clear q12
              try clear hx12
              try clear qi12
              try clear c22
              try clear c22b0
              try clear c22b1
              try clear c22b2
              try clear c23
              try clear c23b0
              try clear c23b1
              try clear c24
              try clear c24b0
              try clear c24b1
              try clear hx108_0
              try clear hx122_0
              try clear p108
              try clear p122
              try clear p2
              try clear q108
              try clear q122
              obtain ⟨kq, x58_14, rfl, HA, HJ14, HO_7, HO_10, HB⟩ := hcut
              cases kq with
              | zero => exact absurd HA.out (by simp [laws_FnWrStringsLarge.j1])
              | succ kj14 =>
                have H := HA.out
                clear HA
                simp only [laws_FnWrStringsLarge.j1] at H
                by_cases c30 : x58_14 = true
                · subst c30
                  have H1 : (some false) = some r := by rw [if_pos rfl] at H; exact H
                  clear H
                  have H := H1
                  clear H1
                  obtain rfl := Option.some.inj H
                  go_wp2
                  repeat (go_quiet (fail); try go_wp2)
                  go_ret
                  exact ⟨by first | rfl | (simp [errW_none, errW_some] <;> rfl) | (simp [*, errW_none, errW_some] <;> rfl) | (simp (disch := omega) only [wrap64_id] <;> rfl), by repeat (first | (with_reducible first | exact HB.out | apply below_alloc | apply pw_below_drewN | apply below_drew1) | exact HB.out)⟩
                · replace c30 := Bool.eq_false_iff.mpr c30
                  subst c30
                  have H1 : (laws_FnWrStringsLarge.l1 kj14 x7_1 t113 (t113.length : Int) 0) = some r := by rw [if_neg (show ¬ (false = true) by decide)] at H; exact H
                  clear H
                  have H := H1
                  clear H1
                  have H' := Aside0.mk H
                  clear H
                  obtain ⟨Ao31, co31, eo31⟩ := Kd.R_slice HO_10.out
                  subst eo31
                  go_wp2
                  repeat (go_quiet (fail); try go_wp2)
                  go_loopg [61] kj14 (fun kq v61 w' => ∃ (x61_3 : Int), v61 = .int .i64 x61_3 ∧ Aside0 (laws_FnWrStringsLarge.l1 kq x7_1 t113 (t113.length : Int) x61_3 = some r) ∧ Aside0 (kq ≤ kj14) ∧ Aside0 (Kd.R Kd.string 9 w' w.heap.size (fun k_ => some k_ ≠ ((.slice Ao31 t113.length co31) : Value).ownBlock) (.slice Ao16 x7_1.length co16) x7_1) ∧ Aside0 (Kd.R Kd.string 9 w' w.heap.size (fun k_ => some k_ ≠ ((.slice Ao16 x7_1.length co16) : Value).ownBlock) (.slice Ao31 t113.length co31) t113) ∧ Aside0 (Below w.heap.size w w'))
                  case atStart => exact ⟨(0), (by first | rfl | (simp; done) | (simp [*]; done)), H', ⟨Nat.le_refl _⟩, ⟨by (with_reducible repeat (first | apply Kd.R_alloc | apply Kd.R_drewN | apply Kd.R_drew)); exact HO_7.out⟩, ⟨by (with_reducible repeat (first | apply Kd.R_alloc | apply Kd.R_drewN | apply Kd.R_drew)); exact HO_10.out⟩, ⟨by repeat (first | (with_reducible first | exact HB.out | apply below_alloc | apply pw_below_drewN | apply below_drew1) | exact HB.out)⟩⟩
                  case round =>
                    clear H'
                    try clear c1
                    try clear p1
                    try clear q1
                    try clear hx1
                    try clear qi1
                    try clear c2
                    try clear p2
                    try clear c3
                    try clear c4
                    try clear c4b0
                    try clear c4b1
                    try clear c5
                    try clear c5b0
                    try clear c5b1
                    try clear c6
                    try clear c6b0
                    try clear p6
                    try clear c7
                    try clear c7b0
                    try clear c8
                    try clear c8b0
                    try clear c10
                    try clear p10
                    try clear q10
                    try clear hx10
                    try clear p12
                    try clear q12
                    try clear hx12
                    try clear qi12
                    try clear c22
                    try clear c22b0
                    try clear c22b1
                    try clear c22b2
                    try clear c23
                    try clear c23b0
                    try clear c23b1
                    try clear c24
                    try clear c24b0
                    try clear c24b1
                    try clear c30
                    try clear hx108_0
                    try clear hx122_0
                    try clear p1
                    try clear p10
                    try clear p108
                    try clear p12
                    try clear p122
                    try clear p2
                    try clear p6
                    try clear q1
                    try clear q10
                    try clear q108
                    try clear q12
                    try clear q122
                    obtain ⟨x61_3, rfl, HA, HK3, HO_7, HO_10, HB⟩ := hrel
                    cases gk with
                    | zero => exact absurd HA.out (by simp [laws_FnWrStringsLarge.l1])
                    | succ k3 =>
                      have H := HA.out
                      clear HA
                      simp only [laws_FnWrStringsLarge.l1] at H
                      by_cases c32 : x61_3 < (t113.length : Int)
                      · rw [if_pos c32] at H
                        have c32b0 : decide (x61_3 < (t113.length : Int)) = true := decide_eq_true c32
                        clear c32
                        by_cases c33 : 0 ≤ x61_3
                        · rw [if_pos c33] at H
                          have c33b0 : decide (0 ≤ x61_3) = true := decide_eq_true c33
                          clear c33
                          by_cases c34 : x61_3 < (t113.length : Int)
                          · rw [if_pos c34] at H
                            have c34b0 : decide (x61_3 < (t113.length : Int)) = true := decide_eq_true c34
                            clear c34
                            by_cases c35 : x61_3 < (x7_1.length : Int)
                            · rw [if_pos c35] at H
                              have c35b0 : decide (x61_3 < (x7_1.length : Int)) = true := decide_eq_true c35
                              clear c35
                              by_cases c36 : (rdOf ByteArray.empty t113 x61_3).toList = (rdOf ByteArray.empty x7_1 x61_3).toList
                              · rw [if_pos c36] at H
                                have c36b0 : ((rdOf ByteArray.empty t113 x61_3).toList == (rdOf ByteArray.empty x7_1 x61_3).toList) = true := beq_iff_eq.mpr c36
                                have c36b1 : ((rdOf ByteArray.empty t113 x61_3).toList != (rdOf ByteArray.empty x7_1 x61_3).toList) = false := bne_eq_false_iff_eq.mpr c36
                                clear c36
                                have H' := Aside0.mk H
                                clear H
                                have p123 : 0 ≤ (x61_3 : Int) := of_decide_eq_true (by first | (with_reducible assumption) | assumption)
                                have q123 : x61_3 < (t113.length : Int) := of_decide_eq_true (by first | (with_reducible assumption) | assumption)
                                obtain ⟨ad123, e123, hx123_0⟩ := Kd.at_string (Kd.R_reads' HO_10.out).2.2 x61_3 p123 q123
                                cases e123
                                replace p123 := eq_true p123
                                replace q123 := eq_true q123
                                have p124 : 0 ≤ (x61_3 : Int) := of_decide_eq_true (by first | (with_reducible assumption) | assumption)
                                have q124 : x61_3 < (x7_1.length : Int) := of_decide_eq_true (by first | (with_reducible assumption) | assumption)
                                obtain ⟨ad124, e124, hx124_0⟩ := Kd.at_string (Kd.R_reads' HO_7.out).2.2 x61_3 p124 q124
                                cases e124
                                replace p124 := eq_true p124
                                replace q124 := eq_true q124
                                go_wp2
                                repeat (go_quiet (fail); try go_wp2)
                                go_roundg k3
                                case measure => have := HK1.out; have := HJ14.out; have := HK3.out; omega
                                case rel => exact ⟨(wrap64 (x61_3 + 1)), (by first | rfl | (simp; done) | (simp [*]; done)), H', ⟨by have := HK1.out; have := HJ14.out; have := HK3.out; omega⟩, ⟨by (with_reducible repeat (first | apply Kd.R_alloc | apply Kd.R_drewN | apply Kd.R_drew)); exact HO_7.out⟩, ⟨by (with_reducible repeat (first | apply Kd.R_alloc | apply Kd.R_drewN | apply Kd.R_drew)); exact HO_10.out⟩, ⟨by repeat (first | (with_reducible first | exact HB.out | apply below_alloc | apply pw_below_drewN | apply below_drew1) | exact HB.out)⟩⟩
                              · rw [if_neg c36] at H
                                have c36b0 : ((rdOf ByteArray.empty t113 x61_3).toList == (rdOf ByteArray.empty x7_1 x61_3).toList) = false := beq_eq_false_iff_ne.mpr c36
                                have c36b1 : ((rdOf ByteArray.empty t113 x61_3).toList != (rdOf ByteArray.empty x7_1 x61_3).toList) = true := bne_iff_ne.mpr c36
                                obtain rfl := Option.some.inj H
                                have p123 : 0 ≤ (x61_3 : Int) := of_decide_eq_true (by first | (with_reducible assumption) | assumption)
                                have q123 : x61_3 < (t113.length : Int) := of_decide_eq_true (by first | (with_reducible assumption) | assumption)
                                obtain ⟨ad123, e123, hx123_0⟩ := Kd.at_string (Kd.R_reads' HO_10.out).2.2 x61_3 p123 q123
                                cases e123
                                replace p123 := eq_true p123
                                replace q123 := eq_true q123
                                have p124 : 0 ≤ (x61_3 : Int) := of_decide_eq_true (by first | (with_reducible assumption) | assumption)
                                have q124 : x61_3 < (x7_1.length : Int) := of_decide_eq_true (by first | (with_reducible assumption) | assumption)
                                obtain ⟨ad124, e124, hx124_0⟩ := Kd.at_string (Kd.R_reads' HO_7.out).2.2 x61_3 p124 q124
                                cases e124
                                replace p124 := eq_true p124
                                replace q124 := eq_true q124
                                go_wp2
                                repeat (go_quiet (fail); try go_wp2)
                                go_ret
                                exact ⟨by first | rfl | (simp [errW_none, errW_some] <;> rfl) | (simp [*, errW_none, errW_some] <;> rfl) | (simp (disch := omega) only [wrap64_id] <;> rfl), by repeat (first | (with_reducible first | exact HB.out | apply below_alloc | apply pw_below_drewN | apply below_drew1) | exact HB.out)⟩
                            · rw [if_neg c35] at H
                              exact absurd H (by simp)
                          · rw [if_neg c34] at H
                            exact absurd H (by simp)
                        · rw [if_neg c33] at H
                          exact absurd H (by simp)
                      · rw [if_neg c32] at H
                        have c32b0 : decide (x61_3 < (t113.length : Int)) = false := decide_eq_false c32
                        clear c32
                        obtain rfl := Option.some.inj H
                        go_wp2
                        repeat (go_quiet (fail); try go_wp2)
                        go_ret
                        exact ⟨by first | rfl | (simp [errW_none, errW_some] <;> rfl) | (simp [*, errW_none, errW_some] <;> rfl) | (simp (disch := omega) only [wrap64_id] <;> rfl), by repeat (first | (with_reducible first | exact HB.out | apply below_alloc | apply pw_below_drewN | apply below_drew1) | exact HB.out)⟩

/-- THE ONE PURE STATEMENT of laws_FnWrStringsLarge: yours. -/
def laws_FnWrStringsLarge.Pure : Prop := ∀ (l0 : List Int) (a1 : Int) (a2 : Int), l0.length ≤ maxLen → l0.length * 2 ≤ 140737488351232 → (∀ x ∈ l0, (Lit.int .u16 x).wf = true) → (Lit.int .u16 a1).wf = true → (Lit.int .u8 a2).wf = true → ∃ k, laws_FnWrStringsLarge.f k l0 a1 a2 = some true
theorem laws_FnWrStringsLarge.walk (P : laws_FnWrStringsLarge.Pure) (a0 : Option Addr) (len0 cap0 : Nat) (z0 : List Int) (a1 : Int) (a2 : Int) (w : World) (w0 : (a0 = none ∧ len0 = 0 ∧ cap0 = 0 ∧ z0 = []) ∨ ∃ x, a0 = some x ∧ len0 ≤ cap0 ∧ cap0 ≤ maxLen ∧ z0.length = cap0 ∧ (∀ i, i < z0.length → w.cell? (x.add i) = some (.int .u16 (z0.getD i 0))) ∧ ∀ n ∈ z0, (Lit.int .u16 n).wf = true) (y0 : len0 * 2 ≤ 140737488351232) (w1 : (Lit.int .u16 a1).wf = true) (w2 : (Lit.int .u8 a2).wf = true) :
    Calls Try.prog 3 #[.slice a0 len0 cap0, .int .u16 a1, .int .u8 a2] w fun e w' => e = .returned (.bool true) ∧ Below w.heap.size w w' := by
  obtain ⟨l0, rfl, hr0, hm0, hw0, hc0⟩ := ReadsInt.ofRowC w0
  obtain ⟨k, h⟩ := P l0 a1 a2 hm0 y0 hw0 w1 w2
  refine (laws_FnWrStringsLarge.calls k _ _ l0 a1 a2 true w (Kd.C_of_reads (d := (0 : Int)) (h1 := fun _ => rfl) hr0) hc0 h).mono ?_
  rintro e w' ⟨rfl, hd⟩
  exact ⟨rfl, hd⟩

end Go.Proofs.Ytodphfcneiodhaa.MFnWrStringsLarge
