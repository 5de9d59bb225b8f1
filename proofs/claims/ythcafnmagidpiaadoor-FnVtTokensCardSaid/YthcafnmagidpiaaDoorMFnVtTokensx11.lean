-- Written by a program of this session (myprint.py, out of the translation). Not trusted: Lean checks it.
import Derived.Test.YthcafnmagidpiaaDoorMFnVtTokensx0
import Derived.Test.YthcafnmagidpiaaDoorMFnVtTokensx1
import Derived.Test.YthcafnmagidpiaaDoorMFnVtTokensx10
namespace Go.Proofs.YthcafnmagidpiaaDoor.MFnVtTokens
open Go.RowKit Go.Proofs.YthcafnmagidpiaaDoorW.PrintWords Go.Proofs.YthcafnmagidpiaaDoorW.PrintLast Go.Proofs.YthcafnmagidpiaaDoorW.PrintMore
attribute [local go_sem] max2_int min2_int max_two min_two max_three min_three max_four min_four   -- for this text's walks alone
set_option linter.unusedVariables false
set_option linter.unusedSimpArgs false

/-! ### spec_Tokens: function 5 -/
mutual
def spec_Tokens.j0 : Nat → ByteArray → List (S26) → Bool → Option ((List (S26)) × Bool)
 | 0, _, _, _ => none
 | k + 1, x0, x4, x15 => if x15 = true then (some (([] : List (S26)), false)) else (spec_Tokens.l0 k x0 x4 0)
def spec_Tokens.l0 : Nat → ByteArray → List (S26) → Int → Option ((List (S26)) × Bool)
 | 0, _, _, _ => none
 | k + 1, x0, x4, x5 => spec_Tokens.l1 k x0 x4 x5
def spec_Tokens.j3 : Nat → ByteArray → List (S26) → Int → Option ((List (S26)) × Bool)
 | 0, _, _, _ => none
 | k + 1, x0, x4, x5 => if x5 = (x0.size : Int) then (if x4.length < 5864062014805 then (some ((x4 ++ [(⟨0, (⟨#[]⟩ : ByteArray)⟩ : S26)]), true)) else (none)) else (if 0 ≤ x5 then (if x5 ≤ (x0.size : Int) then ((spec_token.f k (x0.extract (x5 : Int).toNat x0.size)).bind fun bt156 => (if bt156.2.2 = true then (if bt156.2.1 = 1 then (if x4.length < 5864062014805 then (some ((x4 ++ [(⟨1, (⟨#[]⟩ : ByteArray)⟩ : S26)]), true)) else (none)) else (if x5 ≤ (wrap64 (x5 + bt156.1)) then (if (wrap64 (x5 + bt156.1)) ≤ (x0.size : Int) then (if x4.length < 5864062014805 then (spec_Tokens.l0 k x0 (x4 ++ [(⟨bt156.2.1, x0.extract (x5 : Int).toNat ((wrap64 (x5 + bt156.1)) : Int).toNat⟩ : S26)]) (wrap64 (x5 + bt156.1))) else (none)) else (none)) else (none))) else (some (([] : List (S26)), false)))) else (none)) else (none))
def spec_Tokens.l1 : Nat → ByteArray → List (S26) → Int → Option ((List (S26)) × Bool)
 | 0, _, _, _ => none
 | k + 1, x0, x4, x5 => if x5 < (x0.size : Int) then (if 0 ≤ x5 then ((spec_textBlank.f (bt x0 x5)).bind fun t152 => (if t152 = true then (spec_Tokens.l1 k x0 x4 (wrap64 (x5 + 1))) else (spec_Tokens.j3 k x0 x4 x5))) else (none)) else (spec_Tokens.j3 k x0 x4 x5)
end
def spec_Tokens.f (k : Nat) (a0 : ByteArray) : Option ((List (S26)) × Bool) := (spec_UTF8.f k a0).bind fun t150 => (if t150 = true then ((spec_among.f k 0 a0).bind fun t151 => (spec_Tokens.j0 k a0 ([] : List (S26)) t151)) else (spec_Tokens.j0 k a0 ([] : List (S26)) true))
theorem spec_Tokens.mono_l : ∀ k, (∀ y0 y1 y2, LeO (spec_Tokens.j0 k y0 y1 y2) (spec_Tokens.j0 (k + 1) y0 y1 y2)) ∧ (∀ y0 y1 y2, LeO (spec_Tokens.l0 k y0 y1 y2) (spec_Tokens.l0 (k + 1) y0 y1 y2)) ∧ (∀ y0 y1 y2, LeO (spec_Tokens.j3 k y0 y1 y2) (spec_Tokens.j3 (k + 1) y0 y1 y2)) ∧ (∀ y0 y1 y2, LeO (spec_Tokens.l1 k y0 y1 y2) (spec_Tokens.l1 (k + 1) y0 y1 y2))
 | 0 => ⟨fun _ _ _ r h => by simp [spec_Tokens.j0] at h, fun _ _ _ r h => by simp [spec_Tokens.l0] at h, fun _ _ _ r h => by simp [spec_Tokens.j3] at h, fun _ _ _ r h => by simp [spec_Tokens.l1] at h⟩
 | k + 1 => by
  obtain ⟨ih0, ih1, ih2, ih3⟩ := spec_Tokens.mono_l k
  refine ⟨?_, ?_, ?_, ?_⟩ <;> intros <;> (first | unfold spec_Tokens.j0 | unfold spec_Tokens.l0 | unfold spec_Tokens.j3 | unfold spec_Tokens.l1) <;> repeat' first
    | (with_reducible exact ih0 _ _ _)
    | (with_reducible exact ih1 _ _ _)
    | (with_reducible exact ih2 _ _ _)
    | (with_reducible exact ih3 _ _ _)
    | (with_reducible exact spec_UTF8.mono _ _)
    | (with_reducible exact spec_among.mono _ _ _)
    | (with_reducible exact spec_token.mono _ _)
    | (with_reducible exact LeO.refl _)
    | (with_reducible exact LeO.none _)
    | (with_reducible refine LeO.ite ?_ ?_)
    | (with_reducible refine LeO.bind ?_ (fun _ => ?_))
    | exact ih0 _ _ _
    | exact ih1 _ _ _
    | exact ih2 _ _ _
    | exact ih3 _ _ _
    | exact spec_UTF8.mono _ _
    | exact spec_among.mono _ _ _
    | exact spec_token.mono _ _
    | exact LeO.none _
    | refine LeO.ite ?_ ?_
    | refine LeO.bind ?_ (fun _ => ?_)
theorem spec_Tokens.mono : ∀ a0 k, LeO (spec_Tokens.f k a0) (spec_Tokens.f (k + 1) a0) := by
 intro a0 k
 obtain ⟨ih0, ih1, ih2, ih3⟩ := spec_Tokens.mono_l k
 unfold spec_Tokens.f
 repeat' first
   | (with_reducible exact ih0 _ _ _)
   | (with_reducible exact ih1 _ _ _)
   | (with_reducible exact ih2 _ _ _)
   | (with_reducible exact ih3 _ _ _)
   | (with_reducible exact spec_UTF8.mono _ _)
   | (with_reducible exact spec_among.mono _ _ _)
   | (with_reducible exact spec_token.mono _ _)
   | (with_reducible exact LeO.refl _)
   | (with_reducible exact LeO.none _)
   | (with_reducible refine LeO.ite ?_ ?_)
   | (with_reducible refine LeO.bind ?_ (fun _ => ?_))
   | exact ih0 _ _ _
   | exact ih1 _ _ _
   | exact ih2 _ _ _
   | exact ih3 _ _ _
   | exact spec_UTF8.mono _ _
   | exact spec_among.mono _ _ _
   | exact spec_token.mono _ _
   | exact LeO.none _
   | refine LeO.ite ?_ ?_
   | refine LeO.bind ?_ (fun _ => ?_)
set_option maxHeartbeats 8000000 in
set_option maxRecDepth 100000 in
theorem spec_Tokens.calls (k : Nat) (a0 : ByteArray) (r1 : List (S26)) (r2 : Bool) (w : World) (h : spec_Tokens.f k a0 = some (r1, r2)) :
  Calls Tryd.prog 5 #[.string a0] w fun e w' => ∃ v0_ : Value, e = .returned (.tuple #[v0_, .bool r2]) ∧ Kd.R k26 26 w' w.heap.size (fun _ => True) v0_ r1 ∧ Below w.heap.size w w' := by
 have hu26 := Tryd.underlying26
 have HB := Aside0.mk (Below.refl w.heap.size w)
 have H : ((spec_UTF8.f k a0).bind fun t150 => (if t150 = true then ((spec_among.f k 0 a0).bind fun t151 => (spec_Tokens.j0 k a0 ([] : List (S26)) t151)) else (spec_Tokens.j0 k a0 ([] : List (S26)) true))) = some (r1, r2) := h
 clear h
 have HC2 := Aside0.mk H
 clear H
 go_enter Tryd.func5, Tryd.ntmps5
 go_upto_region 2 with (fail)
 go_cut [15] (fun v15 wc => ∃ (kq : Nat) (x15_1 : Bool), v15 = .bool x15_1 ∧ Aside0 (spec_Tokens.j0 kq a0 ([] : List (S26)) x15_1 = some (r1, r2)) ∧ Aside0 (kq ≤ k) ∧ Aside0 (Kd.R k26 26 wc w.heap.size (fun _ => True) (.slice none 0 0) ([] : List (S26))) ∧ Aside0 (Below w.heap.size w wc))
 case first =>
  have H := HC2.out
  clear HC2
  replace H := Option.bind_eq_some_iff.mp H
  obtain ⟨t150, A30, H⟩ := H
  replace H : (if t150 = true then ((spec_among.f k 0 a0).bind fun t151 => (spec_Tokens.j0 k a0 ([] : List (S26)) t151)) else (spec_Tokens.j0 k a0 ([] : List (S26)) true)) = some (r1, r2) := H
  have A3 := Aside0.mk A30
  clear A30
  by_cases c4 : t150 = true
  ·subst c4
   have H1 : ((spec_among.f k 0 a0).bind fun t151 => (spec_Tokens.j0 k a0 ([] : List (S26)) t151)) = some (r1, r2) := by rw [if_pos rfl] at H; exact H
   clear H
   have H := H1
   clear H1
   replace H := Option.bind_eq_some_iff.mp H
   obtain ⟨t151, A50, H⟩ := H
   replace H : (spec_Tokens.j0 k a0 ([] : List (S26)) t151) = some (r1, r2) := H
   have A5 := Aside0.mk A50
   clear A50
   have H' := Aside0.mk H
   clear H
   go_wp2_with (first | ((with_reducible refine gate_callee (f := 8) rfl ?_); refine goesL_ (some 10) rfl rfl Tryd.func8 (by kernel_rfl) rfl #[.string a0] rfl (by (try simp only [List.map_toArray, List.map_cons, List.map_nil]); first | done | rfl | (simp only [List.length_drop, List.length_take]; rfl)) ?_; (with_reducible refine (spec_UTF8.calls k a0 true _ A3.out).mono ?_); rintro e w' ⟨rfl, ⟨nd, rfl⟩⟩; refine ⟨_, rfl, ?_⟩) | (go_at_call 9; (with_reducible refine (spec_among.calls k 0 a0 t151 _ A5.out).mono ?_); rintro e w' ⟨rfl, ⟨nd, rfl⟩⟩))
   go_meet
   case rel => exact ⟨_, (t151), (by first | rfl | (simp; done) | (simp [*]; done)), H', ⟨by first | omega | exact Nat.le_refl _⟩, ⟨by first | exact Kd.R_nil _ _ _ _ _ | exact Kd.N_nil _ _ _ _ _ | exact Kd.V_nil _ _ _ _ _ | exact Kd.Q_nil _ _ _ _ _ | exact Kd.S_nil _ _ _ _ _⟩, ⟨by repeat (first | (with_reducible first | exact HB.out | apply below_alloc | apply pw_below_drewN | apply below_drew1) | exact HB.out)⟩⟩
  ·replace c4 := Bool.eq_false_iff.mpr c4
   subst c4
   have H1 : (spec_Tokens.j0 k a0 ([] : List (S26)) true) = some (r1, r2) := by rw [if_neg (show ¬ (false = true) by decide)] at H; exact H
   clear H
   have H := H1
   clear H1
   have H' := Aside0.mk H
   clear H
   go_wp2_with (first | ((with_reducible refine gate_callee (f := 8) rfl ?_); refine goesL_ (some 10) rfl rfl Tryd.func8 (by kernel_rfl) rfl #[.string a0] rfl (by (try simp only [List.map_toArray, List.map_cons, List.map_nil]); first | done | rfl | (simp only [List.length_drop, List.length_take]; rfl)) ?_; (with_reducible refine (spec_UTF8.calls k a0 false _ A3.out).mono ?_); rintro e w' ⟨rfl, ⟨nd, rfl⟩⟩; refine ⟨_, rfl, ?_⟩))
   go_meet
   case rel => exact ⟨_, (true), (by first | rfl | (simp; done) | (simp [*]; done)), H', ⟨by first | omega | exact Nat.le_refl _⟩, ⟨by first | exact Kd.R_nil _ _ _ _ _ | exact Kd.N_nil _ _ _ _ _ | exact Kd.V_nil _ _ _ _ _ | exact Kd.Q_nil _ _ _ _ _ | exact Kd.S_nil _ _ _ _ _⟩, ⟨by repeat (first | (with_reducible first | exact HB.out | apply below_alloc | apply pw_below_drewN | apply below_drew1) | exact HB.out)⟩⟩
 case rest =>
  clear HC2
  try clear p2
  try clear c4
  try clear c5
  obtain ⟨kq, x15_1, rfl, HA, HJ1, HO_4, HB⟩ := hcut
  cases kq with
  | zero => exact absurd HA.out (by simp [spec_Tokens.j0])
  | succ kj1 =>
   have H := HA.out
   clear HA
   simp only [spec_Tokens.j0] at H
   by_cases c6 : x15_1 = true
   ·subst c6
    have H1 : (some (([] : List (S26)), false)) = some (r1, r2) := by rw [if_pos rfl] at H; exact H
    clear H
    have H := H1
    clear H1
    simp only [Option.some.injEq, Prod.mk.injEq] at H
    obtain ⟨rfl, rfl⟩ := H
    go_wp2
    go_ret2
    exact ⟨_, by first | rfl | (simp [errW_none, errW_some] <;> rfl) | (simp [*, errW_none, errW_some] <;> rfl) | (simp (disch := omega) only [wrap64_id] <;> rfl), by first | exact Kd.R_nil _ _ _ _ _ | exact Kd.N_nil _ _ _ _ _ | exact Kd.V_nil _ _ _ _ _ | exact Kd.Q_nil _ _ _ _ _ | exact Kd.S_nil _ _ _ _ _, by repeat (first | (with_reducible first | exact HB.out | apply below_alloc | apply pw_below_drewN | apply below_drew1) | exact HB.out)⟩
   ·replace c6 := Bool.eq_false_iff.mpr c6
    subst c6
    have H1 : (spec_Tokens.l0 kj1 a0 ([] : List (S26)) 0) = some (r1, r2) := by rw [if_neg (show ¬ (false = true) by decide)] at H; exact H
    clear H
    have H := H1
    clear H1
    have H' := Aside0.mk H
    clear H
    go_wp2
    go_loopg [4, 5] kj1 (fun kq v4 v5 w' => ∃ (x4_2 : List (S26)) (x5_2 : Int), v5 = .int .i64 x5_2 ∧ Aside0 (spec_Tokens.l0 kq a0 x4_2 x5_2 = some (r1, r2)) ∧ Aside0 (kq ≤ kj1) ∧ Aside0 (Kd.R k26 26 w' w.heap.size (fun _ => True) v4 x4_2) ∧ Aside0 (Below w.heap.size w w'))
    case atStart => exact ⟨(([] : List (S26))), (0), (by first | rfl | (simp; done) | (simp [*]; done)), H', ⟨Nat.le_refl _⟩, ⟨by (with_reducible repeat (first | apply Kd.R_alloc | apply Kd.R_drewN | apply Kd.R_drew)); exact HO_4.out⟩, ⟨by repeat (first | (with_reducible first | exact HB.out | apply below_alloc | apply pw_below_drewN | apply below_drew1) | exact HB.out)⟩⟩
    case round =>
     clear H'
     try clear p2
     try clear c4
     try clear c5
     try clear c6
     try clear p6
     try clear p2
     obtain ⟨x4_2, x5_2, rfl, HA, HK2, HO_4, HB⟩ := hrel
     cases gk with
     | zero => exact absurd HA.out (by simp [spec_Tokens.l0])
     | succ k2 =>
      have H := HA.out
      clear HA
      simp only [spec_Tokens.l0] at H
      have HC7 := Aside0.mk H
      clear H
      go_upto_block 2 with (fail)
      go_cut [5] (fun v5 wc => ∃ (kq : Nat) (x5_6 : Int), v5 = .int .i64 x5_6 ∧ Aside0 (spec_Tokens.j3 kq a0 x4_2 x5_6 = some (r1, r2)) ∧ Aside0 (kq ≤ k2) ∧ Aside0 (Kd.R k26 26 wc w.heap.size (fun _ => True) u4 x4_2) ∧ Aside0 (Below w.heap.size w wc))
      case first =>
       have H := HC7.out
       clear HC7
       have H' := Aside0.mk H
       clear H
       go_wp2
       go_loopg [5] k2 (fun kq v5 w' => ∃ (x5_3 : Int), v5 = .int .i64 x5_3 ∧ Aside0 (spec_Tokens.l1 kq a0 x4_2 x5_3 = some (r1, r2)) ∧ Aside0 (kq ≤ k2) ∧ Aside0 (Kd.R k26 26 w' w.heap.size (fun _ => True) u4 x4_2) ∧ Aside0 (Below w.heap.size w w'))
       case atStart => exact ⟨(x5_2), (by first | rfl | (simp; done) | (simp [*]; done)), H', ⟨Nat.le_refl _⟩, ⟨by (with_reducible repeat (first | apply Kd.R_alloc | apply Kd.R_drewN | apply Kd.R_drew)); exact HO_4.out⟩, ⟨by repeat (first | (with_reducible first | exact HB.out | apply below_alloc | apply pw_below_drewN | apply below_drew1) | exact HB.out)⟩⟩
       case round =>
        clear H'
        try clear p2
        try clear c4
        try clear c5
        try clear c6
        try clear p6
        try clear p2
        try clear p6
        obtain ⟨x5_3, rfl, HA, HK3, HO_4, HB⟩ := hrel
        cases gk with
        | zero => exact absurd HA.out (by simp [spec_Tokens.l1])
        | succ k3 =>
         have H := HA.out
         clear HA
         simp only [spec_Tokens.l1] at H
         by_cases c8 : x5_3 < (a0.size : Int)
         ·rw [if_pos c8] at H
          have c8b0 : decide (x5_3 < (a0.size : Int)) = true := decide_eq_true c8
          clear c8
          (first | rw [c8b0] | (simp only [i64_w, i32_w]; rw [c8b0]) | skip)
          by_cases c9 : 0 ≤ x5_3
          ·rw [if_pos c9] at H
           have c9b0 : decide (0 ≤ x5_3) = true := decide_eq_true c9
           clear c9
           replace H := Option.bind_eq_some_iff.mp H
           obtain ⟨t152, A110, H⟩ := H
           replace H : (if t152 = true then (spec_Tokens.l1 k3 a0 x4_2 (wrap64 (x5_3 + 1))) else (spec_Tokens.j3 k3 a0 x4_2 x5_3)) = some (r1, r2) := H
           have A11 := Aside0.mk A110
           clear A110
           by_cases c12 : t152 = true
           ·subst c12
            have H1 : (spec_Tokens.l1 k3 a0 x4_2 (wrap64 (x5_3 + 1))) = some (r1, r2) := by rw [if_pos rfl] at H; exact H
            clear H
            have H := H1
            clear H1
            have H' := Aside0.mk H
            clear H
            have p10 : 0 ≤ (x5_3 : Int) := of_decide_eq_true (by first | (with_reducible assumption) | assumption)
            have q10 : x5_3 < (a0.size : Int) := of_decide_eq_true (by first | (with_reducible assumption) | assumption)
            have hx10 := bt_at a0 x5_3
            replace p10 := eq_true p10
            replace q10 := eq_true q10
            go_wp2_with (first | (go_at_call 10; (with_reducible refine (spec_textBlank.calls (bt a0 x5_3) true _ A11.out).mono ?_); rintro e w' ⟨rfl, ⟨nd, rfl⟩⟩))
            go_roundg k3
            case measure => have := HJ1.out; have := HK2.out; have := HK3.out; omega
            case rel => exact ⟨(wrap64 (x5_3 + 1)), (by first | rfl | (simp; done) | (simp [*]; done)), H', ⟨by have := HJ1.out; have := HK2.out; have := HK3.out; omega⟩, ⟨by (with_reducible repeat (first | apply Kd.R_alloc | apply Kd.R_drewN | apply Kd.R_drew)); exact HO_4.out⟩, ⟨by repeat (first | (with_reducible first | exact HB.out | apply below_alloc | apply pw_below_drewN | apply below_drew1) | exact HB.out)⟩⟩
           ·replace c12 := Bool.eq_false_iff.mpr c12
            subst c12
            have H1 : (spec_Tokens.j3 k3 a0 x4_2 x5_3) = some (r1, r2) := by rw [if_neg (show ¬ (false = true) by decide)] at H; exact H
            clear H
            have H := H1
            clear H1
            have H' := Aside0.mk H
            clear H
            have p10 : 0 ≤ (x5_3 : Int) := of_decide_eq_true (by first | (with_reducible assumption) | assumption)
            have q10 : x5_3 < (a0.size : Int) := of_decide_eq_true (by first | (with_reducible assumption) | assumption)
            have hx10 := bt_at a0 x5_3
            replace p10 := eq_true p10
            replace q10 := eq_true q10
            go_wp2_with (first | (go_at_call 10; (with_reducible refine (spec_textBlank.calls (bt a0 x5_3) false _ A11.out).mono ?_); rintro e w' ⟨rfl, ⟨nd, rfl⟩⟩))
            go_meet
            case rel => exact ⟨_, (x5_3), (by first | rfl | (simp; done) | (simp [*]; done)), H', ⟨by have := HJ1.out; have := HK2.out; have := HK3.out; first | omega | exact Nat.le_refl _⟩, ⟨by (with_reducible repeat (first | apply Kd.R_alloc | apply Kd.R_drewN | apply Kd.R_drew)); exact HO_4.out⟩, ⟨by repeat (first | (with_reducible first | exact HB.out | apply below_alloc | apply pw_below_drewN | apply below_drew1) | exact HB.out)⟩⟩
          ·rw [if_neg c9] at H
           exact absurd H (by simp)
         ·rw [if_neg c8] at H
          have c8b0 : decide (x5_3 < (a0.size : Int)) = false := decide_eq_false c8
          clear c8
          (first | rw [c8b0] | (simp only [i64_w, i32_w]; rw [c8b0]) | skip)
          have H' := Aside0.mk H
          clear H
          go_wp2
          go_meet
          case rel => exact ⟨_, (x5_3), (by first | rfl | (simp; done) | (simp [*]; done)), H', ⟨by have := HJ1.out; have := HK2.out; have := HK3.out; first | omega | exact Nat.le_refl _⟩, ⟨by (with_reducible repeat (first | apply Kd.R_alloc | apply Kd.R_drewN | apply Kd.R_drew)); exact HO_4.out⟩, ⟨by repeat (first | (with_reducible first | exact HB.out | apply below_alloc | apply pw_below_drewN | apply below_drew1) | exact HB.out)⟩⟩
      case rest =>
       clear HC7
       try clear c1
       try clear p1
       try clear q1
       try clear hx1
       try clear p2
       try clear c4
       try clear c5
       try clear c6
       try clear p6
       try clear c8
       try clear c8b0
       try clear c9
       try clear c9b0
       try clear p10
       try clear q10
       try clear hx10
       try clear c12
       try clear p10
       try clear p2
       try clear p6
       try clear q10
       obtain ⟨kq, x5_6, rfl, HA, HJ6, HO_4, HB⟩ := hcut
       cases kq with
       | zero => exact absurd HA.out (by simp [spec_Tokens.j3])
       | succ kj6 =>
        have H := HA.out
        clear HA
        simp only [spec_Tokens.j3] at H
        by_cases c13 : x5_6 = (a0.size : Int)
        ·rw [if_pos c13] at H
         have c13b0 : (x5_6 == (a0.size : Int)) = true := beq_iff_eq.mpr c13
         have c13b1 : (x5_6 != (a0.size : Int)) = false := bne_eq_false_iff_eq.mpr c13
         clear c13
         by_cases c14 : x4_2.length < 5864062014805
         ·rw [if_pos c14] at H
          have LMc14 := Aside0.mk c14
          clear c14
          obtain ⟨y153, hy153⟩ : ∃ y_ : List (S26), y_ = (x4_2 ++ [(⟨0, (⟨#[]⟩ : ByteArray)⟩ : S26)]) := ⟨_, rfl⟩
          replace H : (some (y153, true)) = some (r1, r2) := by first | (rw [hy153]; with_reducible exact H) | (have H2_ := (Option.bind_some _ _).symm.trans H; rw [hy153]; with_reducible exact H2_) | (have H2_ := (Option.bind_some _ _).symm.trans H; with_reducible exact H2_) | with_reducible exact H | (rw [hy153]; exact H) | exact H
          have Ny153 := Aside0.mk hy153
          clear hy153
          simp only [Option.some.injEq, Prod.mk.injEq] at H
          obtain ⟨rfl, rfl⟩ := H
          go_wp2_with (first | ((with_reducible refine gate_builtin (b := .append) (xs := #[.tmp 32, .tmp 34]) rfl ?_); at_builtin; refine Kd.R_append k26 (w0 := w) w.heap.size rfl (.tmp 32) (.tmp 34) 22 26 (.agg #[(.int .i64 0), (.string ⟨#[]⟩)]) 24 rfl Tryd.underlying22 info26 rfl (by decide) (by omega) u4 x4_2 (⟨0, (⟨#[]⟩ : ByteArray)⟩ : S26) [.int .i64 0, .string (⟨#[]⟩ : ByteArray)] (fun _ => True) (fun _ => False) rfl rfl ?aP (fun _ hk => hk.elim) ?aF ?aO ?aB ?aS ?aL ?_; (case aP => exact k26_mkM _ _ _ (⟨0, (⟨#[]⟩ : ByteArray)⟩ : S26)); (case aB => exact (by repeat (first | (with_reducible first | exact HB.out | apply below_alloc | apply pw_below_drewN | apply below_drew1) | exact HB.out))); (case aF => exact (fun _ _ => trivial)); (case aO => exact (by (with_reducible repeat (first | apply Kd.R_alloc | apply Kd.R_drewN | apply Kd.R_drew)); exact HO_4.out)); (case aS => exact (below_size (by repeat (first | (with_reducible first | exact HB.out | apply below_alloc | apply pw_below_drewN | apply below_drew1) | exact HB.out)))); (case aL => have := LMc14.out; omega); intro v154 w15 ho hb hg hat; rw [← Ny153.out] at ho; have n0_ := Aside0.mk (hb); have n1_ := Aside0.mk (ho); clear HB; clear HO_4; have HB := n0_; have HO155 := n1_; clear n0_ n1_; clear ho hb hg hat))
          go_ret2
          exact ⟨_, by first | rfl | (simp [errW_none, errW_some] <;> rfl) | (simp [*, errW_none, errW_some] <;> rfl) | (simp (disch := omega) only [wrap64_id] <;> rfl), by (with_reducible repeat (first | apply Kd.R_alloc | apply Kd.R_drewN | apply Kd.R_drew)); exact HO155.out, by repeat (first | (with_reducible first | exact HB.out | apply below_alloc | apply pw_below_drewN | apply below_drew1) | exact HB.out)⟩
         ·rw [if_neg c14] at H
          exact absurd H (by simp)
        ·rw [if_neg c13] at H
         have c13b0 : (x5_6 == (a0.size : Int)) = false := beq_eq_false_iff_ne.mpr c13
         have c13b1 : (x5_6 != (a0.size : Int)) = true := bne_iff_ne.mpr c13
         by_cases c16 : 0 ≤ x5_6
         ·rw [if_pos c16] at H
          have c16b0 := eq_true c16
          have c16b1 : decide (0 ≤ x5_6) = true := decide_eq_true c16
          clear c16
          by_cases c17 : x5_6 ≤ (a0.size : Int)
          ·rw [if_pos c17] at H
           have c17b0 := eq_true c17
           have c17b1 : decide (x5_6 ≤ (a0.size : Int)) = true := decide_eq_true c17
           clear c17
           replace H := Option.bind_eq_some_iff.mp H
           obtain ⟨⟨t156, t157, t158⟩, A180, H⟩ := H
           replace H : (if t158 = true then (if t157 = 1 then (if x4_2.length < 5864062014805 then (some ((x4_2 ++ [(⟨1, (⟨#[]⟩ : ByteArray)⟩ : S26)]), true)) else (none)) else (if x5_6 ≤ (wrap64 (x5_6 + t156)) then (if (wrap64 (x5_6 + t156)) ≤ (a0.size : Int) then (if x4_2.length < 5864062014805 then (spec_Tokens.l0 kj6 a0 (x4_2 ++ [(⟨t157, a0.extract (x5_6 : Int).toNat ((wrap64 (x5_6 + t156)) : Int).toNat⟩ : S26)]) (wrap64 (x5_6 + t156))) else (none)) else (none)) else (none))) else (some (([] : List (S26)), false))) = some (r1, r2) := H
           have A18 := Aside0.mk A180
           clear A180
           by_cases c19 : t158 = true
           ·subst c19
            have H1 : (if t157 = 1 then (if x4_2.length < 5864062014805 then (some ((x4_2 ++ [(⟨1, (⟨#[]⟩ : ByteArray)⟩ : S26)]), true)) else (none)) else (if x5_6 ≤ (wrap64 (x5_6 + t156)) then (if (wrap64 (x5_6 + t156)) ≤ (a0.size : Int) then (if x4_2.length < 5864062014805 then (spec_Tokens.l0 kj6 a0 (x4_2 ++ [(⟨t157, a0.extract (x5_6 : Int).toNat ((wrap64 (x5_6 + t156)) : Int).toNat⟩ : S26)]) (wrap64 (x5_6 + t156))) else (none)) else (none)) else (none))) = some (r1, r2) := by rw [if_pos rfl] at H; exact H
            clear H
            have H := H1
            clear H1
            by_cases c20 : t157 = 1
            ·rw [if_pos c20] at H
             have c20b0 : (t157 == 1) = true := beq_iff_eq.mpr c20
             have c20b1 : (t157 != 1) = false := bne_eq_false_iff_eq.mpr c20
             clear c20
             by_cases c21 : x4_2.length < 5864062014805
             ·rw [if_pos c21] at H
              have LMc21 := Aside0.mk c21
              clear c21
              obtain ⟨y159, hy159⟩ : ∃ y_ : List (S26), y_ = (x4_2 ++ [(⟨1, (⟨#[]⟩ : ByteArray)⟩ : S26)]) := ⟨_, rfl⟩
              replace H : (some (y159, true)) = some (r1, r2) := by first | (rw [hy159]; with_reducible exact H) | (have H2_ := (Option.bind_some _ _).symm.trans H; rw [hy159]; with_reducible exact H2_) | (have H2_ := (Option.bind_some _ _).symm.trans H; with_reducible exact H2_) | with_reducible exact H | (rw [hy159]; exact H) | exact H
              have Ny159 := Aside0.mk hy159
              clear hy159
              simp only [Option.some.injEq, Prod.mk.injEq] at H
              obtain ⟨rfl, rfl⟩ := H
              go_wp2_with (first | ((with_reducible refine gate_callee (f := 11) rfl ?_); refine goesL_ (some 40) rfl rfl Tryd.func11 (by kernel_rfl) rfl #[.string (a0.extract (x5_6 : Int).toNat a0.size)] rfl (by (try simp only [List.map_toArray, List.map_cons, List.map_nil]); first | done | rfl | (simp only [List.length_drop, List.length_take]; rfl)) ?_; (with_reducible refine (spec_token.calls kj6 (a0.extract (x5_6 : Int).toNat a0.size) t156 t157 true _ A18.out).mono ?_); rintro e w22 ⟨rfl, hb⟩; refine ⟨_, rfl, ?_⟩; have n0_ := Aside0.mk (Kd.R_below (by (with_reducible repeat (first | apply Kd.R_alloc | apply Kd.R_drewN | apply Kd.R_drew)); exact HO_4.out) hb); have n1_ := Aside0.mk (below_step (by repeat (first | (with_reducible first | exact HB.out | apply below_alloc | apply pw_below_drewN | apply below_drew1) | exact HB.out)) hb); clear HO_4; clear HB; have HO_4 := n0_; have HB := n1_; clear n0_ n1_; (try clear hb); (try clear hb2); (try clear hk); (try clear hi)) | ((with_reducible refine gate_builtin (b := .append) (xs := #[.tmp 48, .tmp 50]) rfl ?_); at_builtin; refine Kd.R_append k26 (w0 := w) w.heap.size rfl (.tmp 48) (.tmp 50) 22 26 (.agg #[(.int .i64 0), (.string ⟨#[]⟩)]) 24 rfl Tryd.underlying22 info26 rfl (by decide) (by omega) u4 x4_2 (⟨1, (⟨#[]⟩ : ByteArray)⟩ : S26) [.int .i64 1, .string (⟨#[]⟩ : ByteArray)] (fun _ => True) (fun _ => False) rfl rfl ?aP (fun _ hk => hk.elim) ?aF ?aO ?aB ?aS ?aL ?_; (case aP => exact k26_mkM _ _ _ (⟨1, (⟨#[]⟩ : ByteArray)⟩ : S26)); (case aB => exact (by repeat (first | (with_reducible first | exact HB.out | apply below_alloc | apply pw_below_drewN | apply below_drew1) | exact HB.out))); (case aF => exact (fun _ _ => trivial)); (case aO => exact (by (with_reducible repeat (first | apply Kd.R_alloc | apply Kd.R_drewN | apply Kd.R_drew)); exact HO_4.out)); (case aS => exact (below_size (by repeat (first | (with_reducible first | exact HB.out | apply below_alloc | apply pw_below_drewN | apply below_drew1) | exact HB.out)))); (case aL => have := LMc21.out; omega); intro v160 w23 ho hb hg hat; rw [← Ny159.out] at ho; have n0_ := Aside0.mk (hb); have n1_ := Aside0.mk (ho); clear HB; clear HO_4; have HB := n0_; have HO161 := n1_; clear n0_ n1_; clear ho hb hg hat))
              go_ret2
              exact ⟨_, by first | rfl | (simp [errW_none, errW_some] <;> rfl) | (simp [*, errW_none, errW_some] <;> rfl) | (simp (disch := omega) only [wrap64_id] <;> rfl), by (with_reducible repeat (first | apply Kd.R_alloc | apply Kd.R_drewN | apply Kd.R_drew)); exact HO161.out, by repeat (first | (with_reducible first | exact HB.out | apply below_alloc | apply pw_below_drewN | apply below_drew1) | exact HB.out)⟩
             ·rw [if_neg c21] at H
              exact absurd H (by simp)
            ·rw [if_neg c20] at H
             have c20b0 : (t157 == 1) = false := beq_eq_false_iff_ne.mpr c20
             have c20b1 : (t157 != 1) = true := bne_iff_ne.mpr c20
             have c24b0 := eq_true (of_decide_eq_true (by first | (with_reducible assumption) | assumption) : 0 ≤ x5_6)
             by_cases c25 : x5_6 ≤ (wrap64 (x5_6 + t156))
             ·rw [if_pos c25] at H
              have c25b0 := eq_true c25
              have c25b1 : decide (x5_6 ≤ (wrap64 (x5_6 + t156))) = true := decide_eq_true c25
              by_cases c26 : (wrap64 (x5_6 + t156)) ≤ (a0.size : Int)
              ·rw [if_pos c26] at H
               have c26b0 := eq_true c26
               have c26b1 : decide ((wrap64 (x5_6 + t156)) ≤ (a0.size : Int)) = true := decide_eq_true c26
               by_cases c27 : x4_2.length < 5864062014805
               ·rw [if_pos c27] at H
                have LMc27 := Aside0.mk c27
                clear c27
                obtain ⟨y162, hy162⟩ : ∃ y_ : List (S26), y_ = (x4_2 ++ [(⟨t157, a0.extract (x5_6 : Int).toNat ((wrap64 (x5_6 + t156)) : Int).toNat⟩ : S26)]) := ⟨_, rfl⟩
                replace H : (spec_Tokens.l0 kj6 a0 y162 (wrap64 (x5_6 + t156))) = some (r1, r2) := by first | (rw [hy162]; with_reducible exact H) | (have H2_ := (Option.bind_some _ _).symm.trans H; rw [hy162]; with_reducible exact H2_) | (have H2_ := (Option.bind_some _ _).symm.trans H; with_reducible exact H2_) | with_reducible exact H | (rw [hy162]; exact H) | exact H
                have Ny162 := Aside0.mk hy162
                clear hy162
                have H' := Aside0.mk H
                clear H
                go_wp2_with (first | ((with_reducible refine gate_callee (f := 11) rfl ?_); refine goesL_ (some 40) rfl rfl Tryd.func11 (by kernel_rfl) rfl #[.string (a0.extract (x5_6 : Int).toNat a0.size)] rfl (by (try simp only [List.map_toArray, List.map_cons, List.map_nil]); first | done | rfl | (simp only [List.length_drop, List.length_take]; rfl)) ?_; (with_reducible refine (spec_token.calls kj6 (a0.extract (x5_6 : Int).toNat a0.size) t156 t157 true _ A18.out).mono ?_); rintro e w28 ⟨rfl, hb⟩; refine ⟨_, rfl, ?_⟩; have n0_ := Aside0.mk (Kd.R_below (by (with_reducible repeat (first | apply Kd.R_alloc | apply Kd.R_drewN | apply Kd.R_drew)); exact HO_4.out) hb); have n1_ := Aside0.mk (below_step (by repeat (first | (with_reducible first | exact HB.out | apply below_alloc | apply pw_below_drewN | apply below_drew1) | exact HB.out)) hb); clear HO_4; clear HB; have HO_4 := n0_; have HB := n1_; clear n0_ n1_; (try clear hb); (try clear hb2); (try clear hk); (try clear hi)) | ((with_reducible refine gate_builtin (b := .append) (xs := #[.tmp 52, .tmp 61]) rfl ?_); at_builtin; refine Kd.R_append k26 (w0 := w) w.heap.size rfl (.tmp 52) (.tmp 61) 22 26 (.agg #[(.int .i64 0), (.string ⟨#[]⟩)]) 24 rfl Tryd.underlying22 info26 rfl (by decide) (by omega) u4 x4_2 (⟨t157, a0.extract (x5_6 : Int).toNat ((wrap64 (x5_6 + t156)) : Int).toNat⟩ : S26) [.int .i64 t157, .string (a0.extract (x5_6 : Int).toNat ((wrap64 (x5_6 + t156)) : Int).toNat)] (fun _ => True) (fun _ => False) rfl rfl ?aP (fun _ hk => hk.elim) ?aF ?aO ?aB ?aS ?aL ?_; (case aP => exact k26_mkM _ _ _ (⟨t157, a0.extract (x5_6 : Int).toNat ((wrap64 (x5_6 + t156)) : Int).toNat⟩ : S26)); (case aB => exact (by repeat (first | (with_reducible first | exact HB.out | apply below_alloc | apply pw_below_drewN | apply below_drew1) | exact HB.out))); (case aF => exact (fun _ _ => trivial)); (case aO => exact (by (with_reducible repeat (first | apply Kd.R_alloc | apply Kd.R_drewN | apply Kd.R_drew)); exact HO_4.out)); (case aS => exact (below_size (by repeat (first | (with_reducible first | exact HB.out | apply below_alloc | apply pw_below_drewN | apply below_drew1) | exact HB.out)))); (case aL => have := LMc27.out; omega); intro v163 w29 ho hb hg hat; rw [← Ny162.out] at ho; have n0_ := Aside0.mk (hb); have n1_ := Aside0.mk (ho); clear HB; clear HO_4; have HB := n0_; have HO164 := n1_; clear n0_ n1_; clear ho hb hg hat))
                go_roundg kj6
                case measure => have := HJ1.out; have := HK2.out; have := HJ6.out; omega
                case rel => exact ⟨(y162), (wrap64 (x5_6 + t156)), (by first | rfl | (simp; done) | (simp [*]; done)), H', ⟨by have := HJ1.out; have := HK2.out; have := HJ6.out; omega⟩, ⟨by (with_reducible repeat (first | apply Kd.R_alloc | apply Kd.R_drewN | apply Kd.R_drew)); exact HO164.out⟩, ⟨by repeat (first | (with_reducible first | exact HB.out | apply below_alloc | apply pw_below_drewN | apply below_drew1) | exact HB.out)⟩⟩
               ·rw [if_neg c27] at H
                exact absurd H (by simp)
              ·rw [if_neg c26] at H
               exact absurd H (by simp)
             ·rw [if_neg c25] at H
              exact absurd H (by simp)
           ·replace c19 := Bool.eq_false_iff.mpr c19
            subst c19
            have H1 : (some (([] : List (S26)), false)) = some (r1, r2) := by rw [if_neg (show ¬ (false = true) by decide)] at H; exact H
            clear H
            have H := H1
            clear H1
            simp only [Option.some.injEq, Prod.mk.injEq] at H
            obtain ⟨rfl, rfl⟩ := H
            go_wp2_with (first | ((with_reducible refine gate_callee (f := 11) rfl ?_); refine goesL_ (some 40) rfl rfl Tryd.func11 (by kernel_rfl) rfl #[.string (a0.extract (x5_6 : Int).toNat a0.size)] rfl (by (try simp only [List.map_toArray, List.map_cons, List.map_nil]); first | done | rfl | (simp only [List.length_drop, List.length_take]; rfl)) ?_; (with_reducible refine (spec_token.calls kj6 (a0.extract (x5_6 : Int).toNat a0.size) t156 t157 false _ A18.out).mono ?_); rintro e w30 ⟨rfl, hb⟩; refine ⟨_, rfl, ?_⟩; have n0_ := Aside0.mk (Kd.R_below (by (with_reducible repeat (first | apply Kd.R_alloc | apply Kd.R_drewN | apply Kd.R_drew)); exact HO_4.out) hb); have n1_ := Aside0.mk (below_step (by repeat (first | (with_reducible first | exact HB.out | apply below_alloc | apply pw_below_drewN | apply below_drew1) | exact HB.out)) hb); clear HO_4; clear HB; have HO_4 := n0_; have HB := n1_; clear n0_ n1_; (try clear hb); (try clear hb2); (try clear hk); (try clear hi)))
            go_ret2
            exact ⟨_, by first | rfl | (simp [errW_none, errW_some] <;> rfl) | (simp [*, errW_none, errW_some] <;> rfl) | (simp (disch := omega) only [wrap64_id] <;> rfl), by first | exact Kd.R_nil _ _ _ _ _ | exact Kd.N_nil _ _ _ _ _ | exact Kd.V_nil _ _ _ _ _ | exact Kd.Q_nil _ _ _ _ _ | exact Kd.S_nil _ _ _ _ _, by repeat (first | (with_reducible first | exact HB.out | apply below_alloc | apply pw_below_drewN | apply below_drew1) | exact HB.out)⟩
          ·rw [if_neg c17] at H
           exact absurd H (by simp)
         ·rw [if_neg c16] at H
          exact absurd H (by simp)

-- NOT PRINTED: function 53 (utf8_decodeRuneInStringSlow)

-- NOT PRINTED: function 46 (utf8_DecodeRuneInString)

-- NOT PRINTED: function 34 (dbus_varLexer_next)

-- NOT PRINTED: function 35 (dbus_varLexer_emit)

-- NOT PRINTED: function 36 (dbus_varLexer_backup)

-- NOT PRINTED: function 47 (dbus_varLexer_errorf)

-- NOT PRINTED: function 37 (dbus_varLexString)

/-! ### dbus_zzSpace: function 39 -/
def dbus_zzSpace.f (a0 : Int) : Option (Bool) := if a0 = 9 then (some true) else (if a0 = 10 then (some true) else (if a0 = 11 then (some true) else (if a0 = 12 then (some true) else (if a0 = 13 then (some true) else (if a0 = 32 then (some true) else (if a0 = 133 then (some true) else (if a0 = 160 then (some true) else (if a0 = 5760 then (some true) else (if a0 = 8232 then (some true) else (if a0 = 8233 then (some true) else (if a0 = 8239 then (some true) else (if a0 = 8287 then (some true) else (if a0 = 12288 then (some true) else (if 8192 ≤ a0 then (some (decide (a0 ≤ 8202))) else (some false)))))))))))))))
set_option maxHeartbeats 8000000 in
set_option maxRecDepth 100000 in
theorem dbus_zzSpace.calls (a0 : Int) (r : Bool) (w : World) (h : dbus_zzSpace.f a0 = some r) :
  Calls Tryd.prog 39 #[.int .i32 a0] w fun e w' => e = .returned (.bool r) ∧ Drawn0 w w' := by
 have H : (if a0 = 9 then (some true) else (if a0 = 10 then (some true) else (if a0 = 11 then (some true) else (if a0 = 12 then (some true) else (if a0 = 13 then (some true) else (if a0 = 32 then (some true) else (if a0 = 133 then (some true) else (if a0 = 160 then (some true) else (if a0 = 5760 then (some true) else (if a0 = 8232 then (some true) else (if a0 = 8233 then (some true) else (if a0 = 8239 then (some true) else (if a0 = 8287 then (some true) else (if a0 = 12288 then (some true) else (if 8192 ≤ a0 then (some (decide (a0 ≤ 8202))) else (some false)))))))))))))))) = some r := h
 clear h
 by_cases c2 : a0 = 9
 ·rw [if_pos c2] at H
  have c2b0 : (a0 == 9) = true := beq_iff_eq.mpr c2
  have c2b1 : (a0 != 9) = false := bne_eq_false_iff_eq.mpr c2
  clear c2
  obtain rfl := Option.some.inj H
  go_enter Tryd.func39, Tryd.ntmps39
  go_wp2
  go_ret
  exact ⟨by first | rfl | (simp; done) | (simp [*]; done), by repeat (first | exact Drawn0.refl _ | apply Drawn0.step)⟩
 ·rw [if_neg c2] at H
  have c2b0 : (a0 == 9) = false := beq_eq_false_iff_ne.mpr c2
  have c2b1 : (a0 != 9) = true := bne_iff_ne.mpr c2
  by_cases c3 : a0 = 10
  ·rw [if_pos c3] at H
   have c3b0 : (a0 == 10) = true := beq_iff_eq.mpr c3
   have c3b1 : (a0 != 10) = false := bne_eq_false_iff_eq.mpr c3
   clear c3
   obtain rfl := Option.some.inj H
   go_enter Tryd.func39, Tryd.ntmps39
   go_wp2
   go_ret
   exact ⟨by first | rfl | (simp; done) | (simp [*]; done), by repeat (first | exact Drawn0.refl _ | apply Drawn0.step)⟩
  ·rw [if_neg c3] at H
   have c3b0 : (a0 == 10) = false := beq_eq_false_iff_ne.mpr c3
   have c3b1 : (a0 != 10) = true := bne_iff_ne.mpr c3
   by_cases c4 : a0 = 11
   ·rw [if_pos c4] at H
    have c4b0 : (a0 == 11) = true := beq_iff_eq.mpr c4
    have c4b1 : (a0 != 11) = false := bne_eq_false_iff_eq.mpr c4
    clear c4
    obtain rfl := Option.some.inj H
    go_enter Tryd.func39, Tryd.ntmps39
    go_wp2
    go_ret
    exact ⟨by first | rfl | (simp; done) | (simp [*]; done), by repeat (first | exact Drawn0.refl _ | apply Drawn0.step)⟩
   ·rw [if_neg c4] at H
    have c4b0 : (a0 == 11) = false := beq_eq_false_iff_ne.mpr c4
    have c4b1 : (a0 != 11) = true := bne_iff_ne.mpr c4
    by_cases c5 : a0 = 12
    ·rw [if_pos c5] at H
     have c5b0 : (a0 == 12) = true := beq_iff_eq.mpr c5
     have c5b1 : (a0 != 12) = false := bne_eq_false_iff_eq.mpr c5
     clear c5
     obtain rfl := Option.some.inj H
     go_enter Tryd.func39, Tryd.ntmps39
     go_wp2
     go_ret
     exact ⟨by first | rfl | (simp; done) | (simp [*]; done), by repeat (first | exact Drawn0.refl _ | apply Drawn0.step)⟩
    ·rw [if_neg c5] at H
     have c5b0 : (a0 == 12) = false := beq_eq_false_iff_ne.mpr c5
     have c5b1 : (a0 != 12) = true := bne_iff_ne.mpr c5
     by_cases c6 : a0 = 13
     ·rw [if_pos c6] at H
      have c6b0 : (a0 == 13) = true := beq_iff_eq.mpr c6
      have c6b1 : (a0 != 13) = false := bne_eq_false_iff_eq.mpr c6
      clear c6
      obtain rfl := Option.some.inj H
      go_enter Tryd.func39, Tryd.ntmps39
      go_wp2
      go_ret
      exact ⟨by first | rfl | (simp; done) | (simp [*]; done), by repeat (first | exact Drawn0.refl _ | apply Drawn0.step)⟩
     ·rw [if_neg c6] at H
      have c6b0 : (a0 == 13) = false := beq_eq_false_iff_ne.mpr c6
      have c6b1 : (a0 != 13) = true := bne_iff_ne.mpr c6
      by_cases c7 : a0 = 32
      ·rw [if_pos c7] at H
       have c7b0 : (a0 == 32) = true := beq_iff_eq.mpr c7
       have c7b1 : (a0 != 32) = false := bne_eq_false_iff_eq.mpr c7
       clear c7
       obtain rfl := Option.some.inj H
       go_enter Tryd.func39, Tryd.ntmps39
       go_wp2
       go_ret
       exact ⟨by first | rfl | (simp; done) | (simp [*]; done), by repeat (first | exact Drawn0.refl _ | apply Drawn0.step)⟩
      ·rw [if_neg c7] at H
       have c7b0 : (a0 == 32) = false := beq_eq_false_iff_ne.mpr c7
       have c7b1 : (a0 != 32) = true := bne_iff_ne.mpr c7
       by_cases c8 : a0 = 133
       ·rw [if_pos c8] at H
        have c8b0 : (a0 == 133) = true := beq_iff_eq.mpr c8
        have c8b1 : (a0 != 133) = false := bne_eq_false_iff_eq.mpr c8
        clear c8
        obtain rfl := Option.some.inj H
        go_enter Tryd.func39, Tryd.ntmps39
        go_wp2
        go_ret
        exact ⟨by first | rfl | (simp; done) | (simp [*]; done), by repeat (first | exact Drawn0.refl _ | apply Drawn0.step)⟩
       ·rw [if_neg c8] at H
        have c8b0 : (a0 == 133) = false := beq_eq_false_iff_ne.mpr c8
        have c8b1 : (a0 != 133) = true := bne_iff_ne.mpr c8
        by_cases c9 : a0 = 160
        ·rw [if_pos c9] at H
         have c9b0 : (a0 == 160) = true := beq_iff_eq.mpr c9
         have c9b1 : (a0 != 160) = false := bne_eq_false_iff_eq.mpr c9
         clear c9
         obtain rfl := Option.some.inj H
         go_enter Tryd.func39, Tryd.ntmps39
         go_wp2
         go_ret
         exact ⟨by first | rfl | (simp; done) | (simp [*]; done), by repeat (first | exact Drawn0.refl _ | apply Drawn0.step)⟩
        ·rw [if_neg c9] at H
         have c9b0 : (a0 == 160) = false := beq_eq_false_iff_ne.mpr c9
         have c9b1 : (a0 != 160) = true := bne_iff_ne.mpr c9
         by_cases c10 : a0 = 5760
         ·rw [if_pos c10] at H
          have c10b0 : (a0 == 5760) = true := beq_iff_eq.mpr c10
          have c10b1 : (a0 != 5760) = false := bne_eq_false_iff_eq.mpr c10
          clear c10
          obtain rfl := Option.some.inj H
          go_enter Tryd.func39, Tryd.ntmps39
          go_wp2
          go_ret
          exact ⟨by first | rfl | (simp; done) | (simp [*]; done), by repeat (first | exact Drawn0.refl _ | apply Drawn0.step)⟩
         ·rw [if_neg c10] at H
          have c10b0 : (a0 == 5760) = false := beq_eq_false_iff_ne.mpr c10
          have c10b1 : (a0 != 5760) = true := bne_iff_ne.mpr c10
          by_cases c11 : a0 = 8232
          ·rw [if_pos c11] at H
           have c11b0 : (a0 == 8232) = true := beq_iff_eq.mpr c11
           have c11b1 : (a0 != 8232) = false := bne_eq_false_iff_eq.mpr c11
           clear c11
           obtain rfl := Option.some.inj H
           go_enter Tryd.func39, Tryd.ntmps39
           go_wp2
           go_ret
           exact ⟨by first | rfl | (simp; done) | (simp [*]; done), by repeat (first | exact Drawn0.refl _ | apply Drawn0.step)⟩
          ·rw [if_neg c11] at H
           have c11b0 : (a0 == 8232) = false := beq_eq_false_iff_ne.mpr c11
           have c11b1 : (a0 != 8232) = true := bne_iff_ne.mpr c11
           by_cases c12 : a0 = 8233
           ·rw [if_pos c12] at H
            have c12b0 : (a0 == 8233) = true := beq_iff_eq.mpr c12
            have c12b1 : (a0 != 8233) = false := bne_eq_false_iff_eq.mpr c12
            clear c12
            obtain rfl := Option.some.inj H
            go_enter Tryd.func39, Tryd.ntmps39
            go_wp2
            go_ret
            exact ⟨by first | rfl | (simp; done) | (simp [*]; done), by repeat (first | exact Drawn0.refl _ | apply Drawn0.step)⟩
           ·rw [if_neg c12] at H
            have c12b0 : (a0 == 8233) = false := beq_eq_false_iff_ne.mpr c12
            have c12b1 : (a0 != 8233) = true := bne_iff_ne.mpr c12
            by_cases c13 : a0 = 8239
            ·rw [if_pos c13] at H
             have c13b0 : (a0 == 8239) = true := beq_iff_eq.mpr c13
             have c13b1 : (a0 != 8239) = false := bne_eq_false_iff_eq.mpr c13
             clear c13
             obtain rfl := Option.some.inj H
             go_enter Tryd.func39, Tryd.ntmps39
             go_wp2
             go_ret
             exact ⟨by first | rfl | (simp; done) | (simp [*]; done), by repeat (first | exact Drawn0.refl _ | apply Drawn0.step)⟩
            ·rw [if_neg c13] at H
             have c13b0 : (a0 == 8239) = false := beq_eq_false_iff_ne.mpr c13
             have c13b1 : (a0 != 8239) = true := bne_iff_ne.mpr c13
             by_cases c14 : a0 = 8287
             ·rw [if_pos c14] at H
              have c14b0 : (a0 == 8287) = true := beq_iff_eq.mpr c14
              have c14b1 : (a0 != 8287) = false := bne_eq_false_iff_eq.mpr c14
              clear c14
              obtain rfl := Option.some.inj H
              go_enter Tryd.func39, Tryd.ntmps39
              go_wp2
              go_ret
              exact ⟨by first | rfl | (simp; done) | (simp [*]; done), by repeat (first | exact Drawn0.refl _ | apply Drawn0.step)⟩
             ·rw [if_neg c14] at H
              have c14b0 : (a0 == 8287) = false := beq_eq_false_iff_ne.mpr c14
              have c14b1 : (a0 != 8287) = true := bne_iff_ne.mpr c14
              by_cases c15 : a0 = 12288
              ·rw [if_pos c15] at H
               have c15b0 : (a0 == 12288) = true := beq_iff_eq.mpr c15
               have c15b1 : (a0 != 12288) = false := bne_eq_false_iff_eq.mpr c15
               clear c15
               obtain rfl := Option.some.inj H
               go_enter Tryd.func39, Tryd.ntmps39
               go_wp2
               go_ret
               exact ⟨by first | rfl | (simp; done) | (simp [*]; done), by repeat (first | exact Drawn0.refl _ | apply Drawn0.step)⟩
              ·rw [if_neg c15] at H
               have c15b0 : (a0 == 12288) = false := beq_eq_false_iff_ne.mpr c15
               have c15b1 : (a0 != 12288) = true := bne_iff_ne.mpr c15
               by_cases c16 : 8192 ≤ a0
               ·rw [if_pos c16] at H
                have c16b0 : decide (8192 ≤ a0) = true := decide_eq_true c16
                clear c16
                obtain rfl := Option.some.inj H
                go_enter Tryd.func39, Tryd.ntmps39
                go_wp2
                go_ret
                exact ⟨by first | rfl | (simp; done) | (simp [*]; done), by repeat (first | exact Drawn0.refl _ | apply Drawn0.step)⟩
               ·rw [if_neg c16] at H
                have c16b0 : decide (8192 ≤ a0) = false := decide_eq_false c16
                clear c16
                obtain rfl := Option.some.inj H
                go_enter Tryd.func39, Tryd.ntmps39
                go_wp2
                go_ret
                exact ⟨by first | rfl | (simp; done) | (simp [*]; done), by repeat (first | exact Drawn0.refl _ | apply Drawn0.step)⟩

-- NOT PRINTED: function 55 (dbus_zzIndexRune)

-- NOT PRINTED: function 51 (dbus_zzContainsRune)

-- NOT PRINTED: function 48 (dbus_varLexer_accept)

/-- A state of type 84 at block g of W; what its slices lead to came in by w0. -/
def IsS84 (w0 W : World) (g : Nat) (f0 : Int) (f1 : Int) (f2 : Int) : Prop := W.heap[g]? = some (.cells #[.int .i64 f0, .int .i64 f1, .int .i64 f2] 84 (0, 0)) ∧ w0.heap.size ≤ g
theorem IsS84.grown {w0 W : World} {g : Nat} {f0 : Int} {f1 : Int} {f2 : Int} {W1 : World} {row : Option Nat} (h : IsS84 w0 W g f0 f1 f2) (hw : W.grownBy W1 row) (hne : some g ≠ row) : IsS84 w0 W1 g f0 f1 f2 := by
 obtain ⟨hb, hg⟩ := h
 exact ⟨blk_grown hb hw hne, hg⟩
theorem IsS84.own_neN {w0 W : World} {g : Nat} {f0 : Int} {f1 : Int} {f2 : Int} {α : Type} {d : Kd α} {e : Nat} {base : Nat} {ok : Nat → Prop} {v : Value} {xs : List α} (h : IsS84 w0 W g f0 f1 f2) (ho : Kd.N d e W base ok v xs) (ht : e ≠ 84) : some g ≠ v.ownBlock := by
 obtain ⟨hb, hg⟩ := h
 exact Kd.N_ne ho hb ht
theorem IsS84.fresh {w0 W : World} {g : Nat} {f0 : Int} {f1 : Int} {f2 : Int} (h : IsS84 w0 W g f0 f1 f2) : ∀ k, W.heap.size ≤ k → k ≠ g := by
 obtain ⟨hb, hg⟩ := h
 exact Kd.freshB hb
theorem IsS84.kept {w0 W : World} {g : Nat} {f0 : Int} {f1 : Int} {f2 : Int} {W1 : World} {S : Nat → Prop} (h : IsS84 w0 W g f0 f1 f2) (hk : Kept W W1 S) (hne : ¬ S g) : IsS84 w0 W1 g f0 f1 f2 := by
 obtain ⟨hb, hg⟩ := h
 exact ⟨blk_kept hb hk hne, hg⟩
theorem IsS84.below {w0 W : World} {g : Nat} {f0 : Int} {f1 : Int} {f2 : Int} {W1 : World} (h : IsS84 w0 W g f0 f1 f2) (hw : Below W.heap.size W W1) : IsS84 w0 W1 g f0 f1 f2 := h.grown (grown_of_below hw none) (by simp)
theorem IsS84.alloc {w0 W : World} {g : Nat} {f0 : Int} {f1 : Int} {f2 : Int} (h : IsS84 w0 W g f0 f1 f2) (o : Obj) : IsS84 w0 (W.alloc o) g f0 f1 f2 := h.below (below_alloc (Below.refl _ _) o)
theorem IsS84.drewN {w0 W : World} {g : Nat} {f0 : Int} {f1 : Int} {f2 : Int} (h : IsS84 w0 W g f0 f1 f2) (m : Nat) : IsS84 w0 (W.drewN m) g f0 f1 f2 := h
theorem IsS84.drew {w0 W : World} {g : Nat} {f0 : Int} {f1 : Int} {f2 : Int} (h : IsS84 w0 W g f0 f1 f2) : IsS84 w0 W.drew g f0 f1 f2 := h
theorem IsS84.at_ {w0 W : World} {g : Nat} {f0 : Int} {f1 : Int} {f2 : Int} {w' : World} {m : Nat} (hq : W.drewN m = w') (h : IsS84 w0 W g f0 f1 f2) : IsS84 w0 w' g f0 f1 f2 := by subst hq; exact IsS84.drewN h m
theorem IsS84.apart {w0 W : World} {g : Nat} {f0 : Int} {f1 : Int} {f2 : Int} {α : Type} {d : Kd α} {e : Nat} {base : Nat} {ok : Nat → Prop} {v : Value} {xs : List α} (h : IsS84 w0 W g f0 f1 f2) (ho : d.R e W base ok v xs) (ht : ∀ q, q ∈ e :: d.E → q ≠ 84) : d.R e W base (fun k => ok k ∧ k ≠ g) v xs := by
 obtain ⟨hb, hg⟩ := h
 exact Kd.R_types ho hb ht
theorem IsS84.own_ne {w0 W : World} {g : Nat} {f0 : Int} {f1 : Int} {f2 : Int} {α : Type} {d : Kd α} {e : Nat} {base : Nat} {ok : Nat → Prop} {v : Value} {xs : List α} (h : IsS84 w0 W g f0 f1 f2) (ho : d.R e W base ok v xs) (ht : e ≠ 84) : some g ≠ v.ownBlock := by
 obtain ⟨hb, hg⟩ := h
 exact Kd.R_ne ho hb ht
theorem IsS84.apartQ {w0 W : World} {g : Nat} {f0 : Int} {f1 : Int} {f2 : Int} {α : Type} {d : Kd α} {e : Nat} {base : Nat} {ok : Nat → Prop} {v : Value} {xs : List α} (h : IsS84 w0 W g f0 f1 f2) (ho : d.Q e W base ok v xs) (ht : ∀ q, q ∈ e :: d.E → q ≠ 84) : d.Q e W base (fun k => ok k ∧ k ≠ g) v xs := by
 obtain ⟨hb, hg⟩ := h
 exact Kd.Q_types ho hb ht
theorem IsS84.own_neQ {w0 W : World} {g : Nat} {f0 : Int} {f1 : Int} {f2 : Int} {α : Type} {d : Kd α} {e : Nat} {base : Nat} {ok : Nat → Prop} {v : Value} {xs : List α} (h : IsS84 w0 W g f0 f1 f2) (ho : d.Q e W base ok v xs) (ht : e ≠ 84) : some g ≠ v.ownBlock := by
 obtain ⟨hb, hg⟩ := h
 exact Kd.Q_ne ho hb ht
theorem IsS84.apartS {w0 W : World} {g : Nat} {f0 : Int} {f1 : Int} {f2 : Int} {α : Type} {d : Kd α} {e : Nat} {base : Nat} {ok : Nat → Prop} {v : Value} {xs : List α} (h : IsS84 w0 W g f0 f1 f2) (ho : d.S e W base ok v xs) (ht : ∀ q, q ∈ e :: d.E → q ≠ 84) : d.S e W base (fun k => ok k ∧ k ≠ g) v xs := by
 obtain ⟨hb, hg⟩ := h
 exact Kd.S_types ho hb ht
theorem IsS84.own_neS {w0 W : World} {g : Nat} {f0 : Int} {f1 : Int} {f2 : Int} {α : Type} {d : Kd α} {e : Nat} {base : Nat} {ok : Nat → Prop} {v : Value} {xs : List α} (h : IsS84 w0 W g f0 f1 f2) (ho : d.S e W base ok v xs) (ht : e ≠ 84) : some g ≠ v.ownBlock := by
 obtain ⟨hb, hg⟩ := h
 exact Kd.S_ne ho hb ht
theorem IsS84.lt {w0 W : World} {g : Nat} {f0 : Int} {f1 : Int} {f2 : Int} (h : IsS84 w0 W g f0 f1 f2) : g < W.heap.size := by
 obtain ⟨hb, hg⟩ := h
 exact blk_lt hb
theorem IsS84.ge {w0 W : World} {g : Nat} {f0 : Int} {f1 : Int} {f2 : Int} (h : IsS84 w0 W g f0 f1 f2) : w0.heap.size ≤ g := by
 obtain ⟨hb, hg⟩ := h
 exact hg
theorem IsS84.ne_blk {w0 W : World} {g : Nat} {f0 : Int} {f1 : Int} {f2 : Int} {a : Nat} {cs : Array Value} {t : TypeId} {fr : Nat × Nat} (h : IsS84 w0 W g f0 f1 f2) (hb2 : W.heap[a]? = some (.cells cs t fr)) (ht : t ≠ 84) : g ≠ a := by
 obtain ⟨hb, hg⟩ := h
 rintro rfl
 rw [hb] at hb2
 injection hb2 with hb2
 injection hb2 with _ ht2
 exact ht ht2.symm
theorem IsS84.far {w0 W : World} {g : Nat} {f0 : Int} {f1 : Int} {f2 : Int} {p : Addr} (h : IsS84 w0 W g f0 f1 f2) (hne : g ≠ p.block) (u : Value) : IsS84 w0 (W.setCell p u) g f0 f1 f2 := by
 obtain ⟨hb, hg⟩ := h
 exact ⟨blk_far hb hne u, hg⟩
theorem cellS84_0 {W : World} {g : Nat} {f0 : Int} {f1 : Int} {f2 : Int} (h : W.heap[g]? = some (.cells #[.int .i64 f0, .int .i64 f1, .int .i64 f2] 84 (0, 0))) : W.cell? ⟨g, 0, none⟩ = some (.int .i64 f0) := (blk_cell h 0).trans rfl
theorem IsS84.set_0 {w0 W : World} {g : Nat} {f0 : Int} {f1 : Int} {f2 : Int} (h : IsS84 w0 W g f0 f1 f2) (x : Int) : IsS84 w0 (W.setCell ⟨g, 0, none⟩ (.int .i64 x)) g x f1 f2 := by
 obtain ⟨hb, hg⟩ := h
 exact ⟨by simpa using blk_set hb 0 (.int .i64 x), hg⟩
theorem cellS84_1 {W : World} {g : Nat} {f0 : Int} {f1 : Int} {f2 : Int} (h : W.heap[g]? = some (.cells #[.int .i64 f0, .int .i64 f1, .int .i64 f2] 84 (0, 0))) : W.cell? ⟨g, 1, none⟩ = some (.int .i64 f1) := (blk_cell h 1).trans rfl
theorem IsS84.set_1 {w0 W : World} {g : Nat} {f0 : Int} {f1 : Int} {f2 : Int} (h : IsS84 w0 W g f0 f1 f2) (x : Int) : IsS84 w0 (W.setCell ⟨g, 1, none⟩ (.int .i64 x)) g f0 x f2 := by
 obtain ⟨hb, hg⟩ := h
 exact ⟨by simpa using blk_set hb 1 (.int .i64 x), hg⟩
theorem cellS84_2 {W : World} {g : Nat} {f0 : Int} {f1 : Int} {f2 : Int} (h : W.heap[g]? = some (.cells #[.int .i64 f0, .int .i64 f1, .int .i64 f2] 84 (0, 0))) : W.cell? ⟨g, 2, none⟩ = some (.int .i64 f2) := (blk_cell h 2).trans rfl
theorem IsS84.set_2 {w0 W : World} {g : Nat} {f0 : Int} {f1 : Int} {f2 : Int} (h : IsS84 w0 W g f0 f1 f2) (x : Int) : IsS84 w0 (W.setCell ⟨g, 2, none⟩ (.int .i64 x)) g f0 f1 x := by
 obtain ⟨hb, hg⟩ := h
 exact ⟨by simpa using blk_set hb 2 (.int .i64 x), hg⟩
theorem IsS84.new (w0 W : World) (f0 : Int) (f1 : Int) (f2 : Int) (hB : Below w0.heap.size w0 W) : IsS84 w0 (W.alloc (.cells #[.int .i64 f0, .int .i64 f1, .int .i64 f2] 84)) W.heap.size f0 f1 f2 := ⟨by simpa using heap_alloc_new W _, hB.size⟩

/-! ### dbus_depthCounter_Valid: function 56 -/
def dbus_depthCounter_Valid.f (s0_0 : Int) (s0_1 : Int) (s0_2 : Int) : Option (Bool × Int × Int × Int) := if s0_0 ≤ 32 then (if s0_1 ≤ 32 then (some (decide (s0_2 ≤ 32), s0_0, s0_1, s0_2)) else (some (false, s0_0, s0_1, s0_2))) else (some (false, s0_0, s0_1, s0_2))
set_option maxHeartbeats 8000000 in
set_option maxRecDepth 100000 in
theorem dbus_depthCounter_Valid.calls (g : Nat) (s0_0 : Int) (s0_1 : Int) (s0_2 : Int) (r1 : Bool) (r2 : Int) (r3 : Int) (r4 : Int) (w0 w : World) (hI : IsS84 w0 w g s0_0 s0_1 s0_2) (hB : Below w0.heap.size w0 w) (h : dbus_depthCounter_Valid.f s0_0 s0_1 s0_2 = some (r1, r2, r3, r4)) :
  Calls Tryd.prog 56 #[.pointer (some ⟨g, 0, none⟩)] w fun e w' => e = .returned (.bool r1) ∧ IsS84 w0 w' g r2 r3 r4 ∧ Below w0.heap.size w0 w' ∧ KeepBut w w' g none := by
 have HI0 := Aside0.mk hI
 have HK := Aside0.mk (KeepBut.refl w g none)
 have HL := Aside0.mk hB.size
 clear hI
 have HW0 := Aside0.mk hB.size
 have HB := Aside0.mk hB
 clear hB
 have H : (if s0_0 ≤ 32 then (if s0_1 ≤ 32 then (some (decide (s0_2 ≤ 32), s0_0, s0_1, s0_2)) else (some (false, s0_0, s0_1, s0_2))) else (some (false, s0_0, s0_1, s0_2))) = some (r1, r2, r3, r4) := h
 clear h
 by_cases c2 : s0_0 ≤ 32
 ·rw [if_pos c2] at H
  have c2b0 : decide (s0_0 ≤ 32) = true := decide_eq_true c2
  clear c2
  by_cases c3 : s0_1 ≤ 32
  ·rw [if_pos c3] at H
   have c3b0 : decide (s0_1 ≤ 32) = true := decide_eq_true c3
   clear c3
   simp only [Option.some.injEq, Prod.mk.injEq] at H
   obtain ⟨rfl, rfl, rfl, rfl⟩ := H
   obtain ⟨HGz4, hgz4⟩ := HI0.out
   have hcz4_0 := cellS84_0 HGz4
   have hcz4_1 := cellS84_1 HGz4
   have hcz4_2 := cellS84_2 HGz4
   have hfz4_0 := blk_frozen HGz4 0
   have hfz4_1 := blk_frozen HGz4 1
   have hfz4_2 := blk_frozen HGz4 2
   clear HGz4 hgz4
   go_enter Tryd.func56, Tryd.ntmps56
   go_wp2
   go_ret
   exact ⟨by first | rfl | (simp [errW_none, errW_some] <;> rfl) | (simp [*, errW_none, errW_some] <;> rfl) | (simp (disch := omega) only [wrap64_id] <;> rfl), by repeat (first | (with_reducible first | exact HI0.out | apply IsS84.alloc | apply IsS84.drewN | apply IsS84.drew | apply IsS84.set_0 | apply IsS84.set_1 | apply IsS84.set_2) | exact HI0.out), by repeat (first | (with_reducible first | exact HB.out | apply below_alloc | apply pw_below_drewN | apply below_drew1 | refine below_set ?_ (IsS84.ge HI0.out)) | exact HB.out), by repeat (first | (with_reducible first | exact HK.out | apply KeepBut.set_ | apply keep_drewN | apply keep_drew | apply keep_alloc) | exact HK.out)⟩
  ·rw [if_neg c3] at H
   have c3b0 : decide (s0_1 ≤ 32) = false := decide_eq_false c3
   clear c3
   simp only [Option.some.injEq, Prod.mk.injEq] at H
   obtain ⟨rfl, rfl, rfl, rfl⟩ := H
   obtain ⟨HGz5, hgz5⟩ := HI0.out
   have hcz5_0 := cellS84_0 HGz5
   have hcz5_1 := cellS84_1 HGz5
   have hcz5_2 := cellS84_2 HGz5
   have hfz5_0 := blk_frozen HGz5 0
   have hfz5_1 := blk_frozen HGz5 1
   have hfz5_2 := blk_frozen HGz5 2
   clear HGz5 hgz5
   go_enter Tryd.func56, Tryd.ntmps56
   go_wp2
   go_ret
   exact ⟨by first | rfl | (simp [errW_none, errW_some] <;> rfl) | (simp [*, errW_none, errW_some] <;> rfl) | (simp (disch := omega) only [wrap64_id] <;> rfl), by repeat (first | (with_reducible first | exact HI0.out | apply IsS84.alloc | apply IsS84.drewN | apply IsS84.drew | apply IsS84.set_0 | apply IsS84.set_1 | apply IsS84.set_2) | exact HI0.out), by repeat (first | (with_reducible first | exact HB.out | apply below_alloc | apply pw_below_drewN | apply below_drew1 | refine below_set ?_ (IsS84.ge HI0.out)) | exact HB.out), by repeat (first | (with_reducible first | exact HK.out | apply KeepBut.set_ | apply keep_drewN | apply keep_drew | apply keep_alloc) | exact HK.out)⟩
 ·rw [if_neg c2] at H
  have c2b0 : decide (s0_0 ≤ 32) = false := decide_eq_false c2
  clear c2
  simp only [Option.some.injEq, Prod.mk.injEq] at H
  obtain ⟨rfl, rfl, rfl, rfl⟩ := H
  obtain ⟨HGz6, hgz6⟩ := HI0.out
  have hcz6_0 := cellS84_0 HGz6
  have hcz6_1 := cellS84_1 HGz6
  have hcz6_2 := cellS84_2 HGz6
  have hfz6_0 := blk_frozen HGz6 0
  have hfz6_1 := blk_frozen HGz6 1
  have hfz6_2 := blk_frozen HGz6 2
  clear HGz6 hgz6
  go_enter Tryd.func56, Tryd.ntmps56
  go_wp2
  go_ret
  exact ⟨by first | rfl | (simp [errW_none, errW_some] <;> rfl) | (simp [*, errW_none, errW_some] <;> rfl) | (simp (disch := omega) only [wrap64_id] <;> rfl), by repeat (first | (with_reducible first | exact HI0.out | apply IsS84.alloc | apply IsS84.drewN | apply IsS84.drew | apply IsS84.set_0 | apply IsS84.set_1 | apply IsS84.set_2) | exact HI0.out), by repeat (first | (with_reducible first | exact HB.out | apply below_alloc | apply pw_below_drewN | apply below_drew1 | refine below_set ?_ (IsS84.ge HI0.out)) | exact HB.out), by repeat (first | (with_reducible first | exact HK.out | apply KeepBut.set_ | apply keep_drewN | apply keep_drew | apply keep_alloc) | exact HK.out)⟩

end Go.Proofs.YthcafnmagidpiaaDoor.MFnVtTokens
