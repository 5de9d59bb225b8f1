-- Written by a program of this session (myprint.py, out of the translation). Not trusted: Lean checks it.
import Derived.Test.YthcafnmagidpiaaDoorMFnVtTokensJoinx0
import Derived.Test.YthcafnmagidpiaaDoorMFnVtTokensJoinx3
import Derived.Test.YthcafnmagidpiaaDoorMFnVtTokensJoinx11
import Derived.Test.YthcafnmagidpiaaDoorMFnVtTokensJoinx18
namespace Go.Proofs.YthcafnmagidpiaaDoor.MFnVtTokensJoin
open Go.RowKit Go.Proofs.YthcafnmagidpiaaDoorW.PrintWords Go.Proofs.YthcafnmagidpiaaDoorW.PrintLast Go.Proofs.YthcafnmagidpiaaDoorW.PrintMore
attribute [local go_sem] max2_int min2_int max_two min_two max_three min_three max_four min_four   -- for this text's walks alone
set_option linter.unusedVariables false
set_option linter.unusedSimpArgs false

/-! ### laws_FnVtTokensJoin: function 4 -/
mutual
def laws_FnVtTokensJoin.j0 : Nat → ByteArray → ByteArray → Bool → Option (Bool)
 | 0, _, _, _ => none
 | k + 1, x0, x1, x25 => if x25 = true then (some true) else (if (wrap64 ((x0.size : Int) + (x1.size : Int))) > 4096 then (some true) else ((spec_Tokens.f k x0).bind fun bt192 => ((spec_Tokens.f k x1).bind fun bt196 => (if bt192.2 = true then (if bt196.2 = true then (if 0 ≤ (wrap64 ((bt192.1.length : Int) - 1)) then (if (wrap64 ((bt192.1.length : Int) - 1)) < (bt192.1.length : Int) then (if ((rd_T26 bt192.1 (wrap64 ((bt192.1.length : Int) - 1))).f0) = 1 then (laws_FnVtTokensJoin.j1 k x0 x1 bt192.1 bt196.1 true) else ((laws_vtTypeLast.f x0 bt192.1).bind fun t201 => (if t201 = true then (laws_FnVtTokensJoin.j1 k x0 x1 bt192.1 bt196.1 true) else ((laws_vtTypeLast.f x1 bt196.1).bind fun t202 => (laws_FnVtTokensJoin.j1 k x0 x1 bt192.1 bt196.1 t202))))) else (none)) else (none)) else (laws_FnVtTokensJoin.j1 k x0 x1 bt192.1 bt196.1 true)) else (laws_FnVtTokensJoin.j1 k x0 x1 bt192.1 bt196.1 true)))))
def laws_FnVtTokensJoin.j1 : Nat → ByteArray → ByteArray → List (S26) → List (S26) → Bool → Option (Bool)
 | 0, _, _, _, _, _ => none
 | k + 1, x0, x1, x5, x7, x67 => if x67 = true then (some true) else ((impl_VtTokens.f k x0).bind fun bt203 => ((impl_VtTokens.f k x1).bind fun bt209 => (if x0.size + 1 ≤ 9223372036854775807 then (if (x0 ++ (⟨#[32]⟩ : ByteArray)).size + x1.size ≤ 9223372036854775807 then ((impl_VtTokens.f k ((x0 ++ (⟨#[32]⟩ : ByteArray)) ++ x1)).bind fun bt215 => (if (bt203.1.length : Int) = (x5.length : Int) then (if (bt203.2.length : Int) = (x5.length : Int) then (if (bt209.1.length : Int) = (x7.length : Int) then (if (bt209.2.length : Int) = (x7.length : Int) then (if (bt215.1.length : Int) = (wrap64 ((wrap64 ((bt203.1.length : Int) - 1)) + (bt209.1.length : Int))) then (laws_FnVtTokensJoin.j2 k bt203.1 bt203.2 bt209.1 bt209.2 bt215.1 bt215.2 ((bt215.2.length : Int) != (bt215.1.length : Int))) else (laws_FnVtTokensJoin.j2 k bt203.1 bt203.2 bt209.1 bt209.2 bt215.1 bt215.2 true)) else (laws_FnVtTokensJoin.j2 k bt203.1 bt203.2 bt209.1 bt209.2 bt215.1 bt215.2 true)) else (laws_FnVtTokensJoin.j2 k bt203.1 bt203.2 bt209.1 bt209.2 bt215.1 bt215.2 true)) else (laws_FnVtTokensJoin.j2 k bt203.1 bt203.2 bt209.1 bt209.2 bt215.1 bt215.2 true)) else (laws_FnVtTokensJoin.j2 k bt203.1 bt203.2 bt209.1 bt209.2 bt215.1 bt215.2 true))) else (none)) else (none))))
def laws_FnVtTokensJoin.j2 : Nat → List Int → List ByteArray → List Int → List ByteArray → List Int → List ByteArray → Bool → Option (Bool)
 | 0, _, _, _, _, _, _, _ => none
 | k + 1, x9, x10, x11, x12, x13, x14, x129 => if x129 = true then (some false) else (laws_FnVtTokensJoin.l0 k x9 x10 x11 x12 x13 x14 (x13.length : Int) 0)
def laws_FnVtTokensJoin.l0 : Nat → List Int → List ByteArray → List Int → List ByteArray → List Int → List ByteArray → Int → Int → Option (Bool)
 | 0, _, _, _, _, _, _, _, _ => none
 | k + 1, x9, x10, x11, x12, x13, x14, x131, x132 => if x132 < x131 then (if x132 < (wrap64 ((x9.length : Int) - 1)) then (if 0 ≤ x132 then (if x132 < (x9.length : Int) then (if x132 < (x10.length : Int) then (if x132 < (x13.length : Int) then (if (rd x13 x132) = (rd x9 x132) then (if (rd x9 x132) = 1 then (laws_FnVtTokensJoin.l0 k x9 x10 x11 x12 x13 x14 x131 (wrap64 (x132 + 1))) else (if x132 < (x14.length : Int) then (if (rdOf ByteArray.empty x14 x132).toList = (rdOf ByteArray.empty x10 x132).toList then (laws_FnVtTokensJoin.l0 k x9 x10 x11 x12 x13 x14 x131 (wrap64 (x132 + 1))) else (some false)) else (none))) else (some false)) else (none)) else (none)) else (none)) else (none)) else (if 0 ≤ (wrap64 ((wrap64 (x132 - (x9.length : Int))) + 1)) then (if (wrap64 ((wrap64 (x132 - (x9.length : Int))) + 1)) < (x11.length : Int) then (if (wrap64 ((wrap64 (x132 - (x9.length : Int))) + 1)) < (x12.length : Int) then (if 0 ≤ x132 then (if x132 < (x13.length : Int) then (if (rd x13 x132) = (rd x11 (wrap64 ((wrap64 (x132 - (x9.length : Int))) + 1))) then (if (rd x11 (wrap64 ((wrap64 (x132 - (x9.length : Int))) + 1))) = 1 then (laws_FnVtTokensJoin.l0 k x9 x10 x11 x12 x13 x14 x131 (wrap64 (x132 + 1))) else (if x132 < (x14.length : Int) then (if (rdOf ByteArray.empty x14 x132).toList = (rdOf ByteArray.empty x12 (wrap64 ((wrap64 (x132 - (x9.length : Int))) + 1))).toList then (laws_FnVtTokensJoin.l0 k x9 x10 x11 x12 x13 x14 x131 (wrap64 (x132 + 1))) else (some false)) else (none))) else (some false)) else (none)) else (none)) else (none)) else (none)) else (none))) else (some true)
end
def laws_FnVtTokensJoin.f (k : Nat) (a0 : ByteArray) (a1 : ByteArray) : Option (Bool) := if (a0.size : Int) > 2147483647 then (laws_FnVtTokensJoin.j0 k a0 a1 true) else (laws_FnVtTokensJoin.j0 k a0 a1 (decide ((a1.size : Int) > 2147483647)))
theorem laws_FnVtTokensJoin.mono_l : ∀ k, (∀ y0 y1 y2, LeO (laws_FnVtTokensJoin.j0 k y0 y1 y2) (laws_FnVtTokensJoin.j0 (k + 1) y0 y1 y2)) ∧ (∀ y0 y1 y2 y3 y4, LeO (laws_FnVtTokensJoin.j1 k y0 y1 y2 y3 y4) (laws_FnVtTokensJoin.j1 (k + 1) y0 y1 y2 y3 y4)) ∧ (∀ y0 y1 y2 y3 y4 y5 y6, LeO (laws_FnVtTokensJoin.j2 k y0 y1 y2 y3 y4 y5 y6) (laws_FnVtTokensJoin.j2 (k + 1) y0 y1 y2 y3 y4 y5 y6)) ∧ (∀ y0 y1 y2 y3 y4 y5 y6 y7, LeO (laws_FnVtTokensJoin.l0 k y0 y1 y2 y3 y4 y5 y6 y7) (laws_FnVtTokensJoin.l0 (k + 1) y0 y1 y2 y3 y4 y5 y6 y7))
 | 0 => ⟨fun _ _ _ r h => by simp [laws_FnVtTokensJoin.j0] at h, fun _ _ _ _ _ r h => by simp [laws_FnVtTokensJoin.j1] at h, fun _ _ _ _ _ _ _ r h => by simp [laws_FnVtTokensJoin.j2] at h, fun _ _ _ _ _ _ _ _ r h => by simp [laws_FnVtTokensJoin.l0] at h⟩
 | k + 1 => by
  obtain ⟨ih0, ih1, ih2, ih3⟩ := laws_FnVtTokensJoin.mono_l k
  refine ⟨?_, ?_, ?_, ?_⟩ <;> intros <;> (first | unfold laws_FnVtTokensJoin.j0 | unfold laws_FnVtTokensJoin.j1 | unfold laws_FnVtTokensJoin.j2 | unfold laws_FnVtTokensJoin.l0) <;> repeat' first
    | (with_reducible exact ih0 _ _ _)
    | (with_reducible exact ih1 _ _ _ _ _)
    | (with_reducible exact ih2 _ _ _ _ _ _ _)
    | (with_reducible exact ih3 _ _ _ _ _ _ _ _)
    | (with_reducible exact impl_VtTokens.mono _ _)
    | (with_reducible exact spec_Tokens.mono _ _)
    | (with_reducible exact LeO.refl _)
    | (with_reducible exact LeO.none _)
    | (with_reducible refine LeO.ite ?_ ?_)
    | (with_reducible refine LeO.bind ?_ (fun _ => ?_))
    | exact ih0 _ _ _
    | exact ih1 _ _ _ _ _
    | exact ih2 _ _ _ _ _ _ _
    | exact ih3 _ _ _ _ _ _ _ _
    | exact impl_VtTokens.mono _ _
    | exact spec_Tokens.mono _ _
    | exact LeO.none _
    | refine LeO.ite ?_ ?_
    | refine LeO.bind ?_ (fun _ => ?_)
theorem laws_FnVtTokensJoin.mono : ∀ a0 a1 k, LeO (laws_FnVtTokensJoin.f k a0 a1) (laws_FnVtTokensJoin.f (k + 1) a0 a1) := by
 intro a0 a1 k
 obtain ⟨ih0, ih1, ih2, ih3⟩ := laws_FnVtTokensJoin.mono_l k
 unfold laws_FnVtTokensJoin.f
 repeat' first
   | (with_reducible exact ih0 _ _ _)
   | (with_reducible exact ih1 _ _ _ _ _)
   | (with_reducible exact ih2 _ _ _ _ _ _ _)
   | (with_reducible exact ih3 _ _ _ _ _ _ _ _)
   | (with_reducible exact impl_VtTokens.mono _ _)
   | (with_reducible exact spec_Tokens.mono _ _)
   | (with_reducible exact LeO.refl _)
   | (with_reducible exact LeO.none _)
   | (with_reducible refine LeO.ite ?_ ?_)
   | (with_reducible refine LeO.bind ?_ (fun _ => ?_))
   | exact ih0 _ _ _
   | exact ih1 _ _ _ _ _
   | exact ih2 _ _ _ _ _ _ _
   | exact ih3 _ _ _ _ _ _ _ _
   | exact impl_VtTokens.mono _ _
   | exact spec_Tokens.mono _ _
   | exact LeO.none _
   | refine LeO.ite ?_ ?_
   | refine LeO.bind ?_ (fun _ => ?_)
set_option maxHeartbeats 8000000 in
set_option maxRecDepth 100000 in
theorem laws_FnVtTokensJoin.calls (k : Nat) (a0 : ByteArray) (a1 : ByteArray) (r : Bool) (w : World) (hT : Lib.Utf8Tabs 0 1 w) (h : laws_FnVtTokensJoin.f k a0 a1 = some r) :
  Calls Tryd.prog 4 #[.string a0, .string a1] w fun e w' => e = .returned (.bool r) ∧ Below w.heap.size w w' := by
 have HTT := Aside0.mk hT
 clear hT
 have HB := Aside0.mk (Below.refl w.heap.size w)
 have H : (if (a0.size : Int) > 2147483647 then (laws_FnVtTokensJoin.j0 k a0 a1 true) else (laws_FnVtTokensJoin.j0 k a0 a1 (decide ((a1.size : Int) > 2147483647)))) = some r := h
 clear h
 have HC3 := Aside0.mk H
 clear H
 go_enter Tryd.func4, Tryd.ntmps4
 go_upto_region 1 with (fail)
 repeat (go_quiet (fail); go_upto_region 1 with (fail))
 go_cut [25] (fun v25 wc => ∃ (kq : Nat) (x25_2 : Bool), v25 = .bool x25_2 ∧ Aside0 (laws_FnVtTokensJoin.j0 kq a0 a1 x25_2 = some r) ∧ Aside0 (kq ≤ k) ∧ Aside0 (Below w.heap.size w wc))
 case first => as_aux_lemma =>
  have H := HC3.out
  clear HC3
  by_cases c4 : (a0.size : Int) > 2147483647
  ·rw [if_pos c4] at H
   have c4b0 : decide (2147483647 < (a0.size : Int)) = true := decide_eq_true c4
   have c4b1 : decide (2147483647 < a0.size) = true := decide_eq_true (by omega)
   clear c4
   (first | rw [c4b0] | (simp only [i64_w, i32_w]; rw [c4b0]) | skip)
   have H' := Aside0.mk H
   clear H
   go_wp2
   repeat (go_quiet (fail); try go_wp2)
   go_meet
   case rel => exact ⟨_, (true), (by first | rfl | (simp; done) | (simp [*]; done)), H', ⟨by first | omega | exact Nat.le_refl _⟩, ⟨by repeat (first | (with_reducible first | exact HB.out | apply below_alloc | apply pw_below_drewN | apply below_drew1) | exact HB.out)⟩⟩
  ·rw [if_neg c4] at H
   have c4b0 : decide (2147483647 < (a0.size : Int)) = false := decide_eq_false c4
   have c4b1 : decide (2147483647 < a0.size) = false := decide_eq_false (by omega)
   clear c4
   (first | rw [c4b0] | (simp only [i64_w, i32_w]; rw [c4b0]) | skip)
   have H' := Aside0.mk H
   clear H
   go_wp2
   repeat (go_quiet (fail); try go_wp2)
   go_meet
   case rel => exact ⟨_, (decide ((a1.size : Int) > 2147483647)), (by first | rfl | (simp; done) | (simp [*]; done)), H', ⟨by first | omega | exact Nat.le_refl _⟩, ⟨by repeat (first | (with_reducible first | exact HB.out | apply below_alloc | apply pw_below_drewN | apply below_drew1) | exact HB.out)⟩⟩
 case rest => as_aux_lemma =>
  clear HC3
  try clear p2
  try clear c4
  try clear c4b0
  try clear c4b1
  obtain ⟨kq, x25_2, rfl, HA, HJ2, HB⟩ := hcut
  cases kq with
  | zero => exact absurd HA.out (by simp [laws_FnVtTokensJoin.j0])
  | succ kj2 =>
   have H := HA.out
   clear HA
   simp only [laws_FnVtTokensJoin.j0] at H
   by_cases c5 : x25_2 = true
   ·subst c5
    have H1 : (some true) = some r := by rw [if_pos rfl] at H; exact H
    clear H
    have H := H1
    clear H1
    obtain rfl := Option.some.inj H
    go_wp2
    repeat (go_quiet (fail); try go_wp2)
    go_ret
    exact ⟨by first | rfl | (simp [errW_none, errW_some] <;> rfl) | (simp [*, errW_none, errW_some] <;> rfl) | (simp (disch := omega) only [wrap64_id] <;> rfl), by repeat (first | (with_reducible first | exact HB.out | apply below_alloc | apply pw_below_drewN | apply below_drew1) | exact HB.out)⟩
   ·replace c5 := Bool.eq_false_iff.mpr c5
    subst c5
    have H1 : (if (wrap64 ((a0.size : Int) + (a1.size : Int))) > 4096 then (some true) else ((spec_Tokens.f kj2 a0).bind fun bt192 => ((spec_Tokens.f kj2 a1).bind fun bt196 => (if bt192.2 = true then (if bt196.2 = true then (if 0 ≤ (wrap64 ((bt192.1.length : Int) - 1)) then (if (wrap64 ((bt192.1.length : Int) - 1)) < (bt192.1.length : Int) then (if ((rd_T26 bt192.1 (wrap64 ((bt192.1.length : Int) - 1))).f0) = 1 then (laws_FnVtTokensJoin.j1 kj2 a0 a1 bt192.1 bt196.1 true) else ((laws_vtTypeLast.f a0 bt192.1).bind fun t201 => (if t201 = true then (laws_FnVtTokensJoin.j1 kj2 a0 a1 bt192.1 bt196.1 true) else ((laws_vtTypeLast.f a1 bt196.1).bind fun t202 => (laws_FnVtTokensJoin.j1 kj2 a0 a1 bt192.1 bt196.1 t202))))) else (none)) else (none)) else (laws_FnVtTokensJoin.j1 kj2 a0 a1 bt192.1 bt196.1 true)) else (laws_FnVtTokensJoin.j1 kj2 a0 a1 bt192.1 bt196.1 true))))) = some r := by rw [if_neg (show ¬ (false = true) by decide)] at H; exact H
    clear H
    have H := H1
    clear H1
    by_cases c6 : (wrap64 ((a0.size : Int) + (a1.size : Int))) > 4096
    ·rw [if_pos c6] at H
     have c6b0 : decide (4096 < (wrap64 ((a0.size : Int) + (a1.size : Int)))) = true := decide_eq_true c6
     clear c6
     obtain rfl := Option.some.inj H
     go_wp2
     repeat (go_quiet (fail); try go_wp2)
     go_ret
     exact ⟨by first | rfl | (simp [errW_none, errW_some] <;> rfl) | (simp [*, errW_none, errW_some] <;> rfl) | (simp (disch := omega) only [wrap64_id] <;> rfl), by repeat (first | (with_reducible first | exact HB.out | apply below_alloc | apply pw_below_drewN | apply below_drew1) | exact HB.out)⟩
    ·rw [if_neg c6] at H
     have c6b0 : decide (4096 < (wrap64 ((a0.size : Int) + (a1.size : Int)))) = false := decide_eq_false c6
     clear c6
     replace H := Option.bind_eq_some_iff.mp H
     obtain ⟨⟨t192, t193⟩, A70, H⟩ := H
     replace H : ((spec_Tokens.f kj2 a1).bind fun bt196 => (if t193 = true then (if bt196.2 = true then (if 0 ≤ (wrap64 ((t192.length : Int) - 1)) then (if (wrap64 ((t192.length : Int) - 1)) < (t192.length : Int) then (if ((rd_T26 t192 (wrap64 ((t192.length : Int) - 1))).f0) = 1 then (laws_FnVtTokensJoin.j1 kj2 a0 a1 t192 bt196.1 true) else ((laws_vtTypeLast.f a0 t192).bind fun t201 => (if t201 = true then (laws_FnVtTokensJoin.j1 kj2 a0 a1 t192 bt196.1 true) else ((laws_vtTypeLast.f a1 bt196.1).bind fun t202 => (laws_FnVtTokensJoin.j1 kj2 a0 a1 t192 bt196.1 t202))))) else (none)) else (none)) else (laws_FnVtTokensJoin.j1 kj2 a0 a1 t192 bt196.1 true)) else (laws_FnVtTokensJoin.j1 kj2 a0 a1 t192 bt196.1 true))) = some r := H
     have A7 := Aside0.mk A70
     clear A70
     replace H := Option.bind_eq_some_iff.mp H
     obtain ⟨⟨t196, t197⟩, A80, H⟩ := H
     replace H : (if t193 = true then (if t197 = true then (if 0 ≤ (wrap64 ((t192.length : Int) - 1)) then (if (wrap64 ((t192.length : Int) - 1)) < (t192.length : Int) then (if ((rd_T26 t192 (wrap64 ((t192.length : Int) - 1))).f0) = 1 then (laws_FnVtTokensJoin.j1 kj2 a0 a1 t192 t196 true) else ((laws_vtTypeLast.f a0 t192).bind fun t201 => (if t201 = true then (laws_FnVtTokensJoin.j1 kj2 a0 a1 t192 t196 true) else ((laws_vtTypeLast.f a1 t196).bind fun t202 => (laws_FnVtTokensJoin.j1 kj2 a0 a1 t192 t196 t202))))) else (none)) else (none)) else (laws_FnVtTokensJoin.j1 kj2 a0 a1 t192 t196 true)) else (laws_FnVtTokensJoin.j1 kj2 a0 a1 t192 t196 true)) = some r := H
     have A8 := Aside0.mk A80
     clear A80
     have HC9 := Aside0.mk H
     clear H
     go_upto_region 7 with (first | (go_at_call 5; (with_reducible refine (spec_Tokens.calls kj2 a0 t192 t193 _ A7.out).mono ?_); rintro e w10 ⟨v194, rfl, ho0, hb⟩; have n0_ := Aside0.mk (Kd.R_lower ho0 (below_size (by repeat (first | (with_reducible first | exact HB.out | apply below_alloc | apply pw_below_drewN | apply below_drew1) | exact HB.out)))); have n1_ := Aside0.mk (below_step (by repeat (first | (with_reducible first | exact HB.out | apply below_alloc | apply pw_below_drewN | apply below_drew1) | exact HB.out)) hb); clear HB; have HO195 := n0_; have HB := n1_; clear n0_ n1_; (try clear hb); (try clear hb2); (try clear hk); (try clear hi); (try clear ho0)) | (go_at_call 5; (with_reducible refine (spec_Tokens.calls kj2 a1 t196 t197 _ A8.out).mono ?_); rintro e w11 ⟨v198, rfl, ho0, hb⟩; have n0_ := Aside0.mk (Kd.R_elder' (by (with_reducible repeat (first | apply Kd.R_alloc | apply Kd.R_drewN | apply Kd.R_drew)); exact HO195.out) (Kd.R_base ho0) hb); have n1_ := Aside0.mk (Kd.R_lower (Kd.R_new' ho0 (Kd.R_lt (by (with_reducible repeat (first | apply Kd.R_alloc | apply Kd.R_drewN | apply Kd.R_drew)); exact HO195.out))) (below_size (by repeat (first | (with_reducible first | exact HB.out | apply below_alloc | apply pw_below_drewN | apply below_drew1) | exact HB.out)))); have n2_ := Aside0.mk (below_step (by repeat (first | (with_reducible first | exact HB.out | apply below_alloc | apply pw_below_drewN | apply below_drew1) | exact HB.out)) hb); clear HO195; clear HB; have HO195 := n0_; have HO199 := n1_; have HB := n2_; clear n0_ n1_ n2_; (try clear hb); (try clear hb2); (try clear hk); (try clear hi); (try clear ho0)))
     repeat (go_quiet (first | (go_at_call 5; (with_reducible refine (spec_Tokens.calls kj2 a0 t192 t193 _ A7.out).mono ?_); rintro e w10 ⟨v194, rfl, ho0, hb⟩; have n0_ := Aside0.mk (Kd.R_lower ho0 (below_size (by repeat (first | (with_reducible first | exact HB.out | apply below_alloc | apply pw_below_drewN | apply below_drew1) | exact HB.out)))); have n1_ := Aside0.mk (below_step (by repeat (first | (with_reducible first | exact HB.out | apply below_alloc | apply pw_below_drewN | apply below_drew1) | exact HB.out)) hb); clear HB; have HO195 := n0_; have HB := n1_; clear n0_ n1_; (try clear hb); (try clear hb2); (try clear hk); (try clear hi); (try clear ho0)) | (go_at_call 5; (with_reducible refine (spec_Tokens.calls kj2 a1 t196 t197 _ A8.out).mono ?_); rintro e w11 ⟨v198, rfl, ho0, hb⟩; have n0_ := Aside0.mk (Kd.R_elder' (by (with_reducible repeat (first | apply Kd.R_alloc | apply Kd.R_drewN | apply Kd.R_drew)); exact HO195.out) (Kd.R_base ho0) hb); have n1_ := Aside0.mk (Kd.R_lower (Kd.R_new' ho0 (Kd.R_lt (by (with_reducible repeat (first | apply Kd.R_alloc | apply Kd.R_drewN | apply Kd.R_drew)); exact HO195.out))) (below_size (by repeat (first | (with_reducible first | exact HB.out | apply below_alloc | apply pw_below_drewN | apply below_drew1) | exact HB.out)))); have n2_ := Aside0.mk (below_step (by repeat (first | (with_reducible first | exact HB.out | apply below_alloc | apply pw_below_drewN | apply below_drew1) | exact HB.out)) hb); clear HO195; clear HB; have HO195 := n0_; have HO199 := n1_; have HB := n2_; clear n0_ n1_ n2_; (try clear hb); (try clear hb2); (try clear hk); (try clear hi); (try clear ho0))); go_upto_region 7 with (first | (go_at_call 5; (with_reducible refine (spec_Tokens.calls kj2 a0 t192 t193 _ A7.out).mono ?_); rintro e w10 ⟨v194, rfl, ho0, hb⟩; have n0_ := Aside0.mk (Kd.R_lower ho0 (below_size (by repeat (first | (with_reducible first | exact HB.out | apply below_alloc | apply pw_below_drewN | apply below_drew1) | exact HB.out)))); have n1_ := Aside0.mk (below_step (by repeat (first | (with_reducible first | exact HB.out | apply below_alloc | apply pw_below_drewN | apply below_drew1) | exact HB.out)) hb); clear HB; have HO195 := n0_; have HB := n1_; clear n0_ n1_; (try clear hb); (try clear hb2); (try clear hk); (try clear hi); (try clear ho0)) | (go_at_call 5; (with_reducible refine (spec_Tokens.calls kj2 a1 t196 t197 _ A8.out).mono ?_); rintro e w11 ⟨v198, rfl, ho0, hb⟩; have n0_ := Aside0.mk (Kd.R_elder' (by (with_reducible repeat (first | apply Kd.R_alloc | apply Kd.R_drewN | apply Kd.R_drew)); exact HO195.out) (Kd.R_base ho0) hb); have n1_ := Aside0.mk (Kd.R_lower (Kd.R_new' ho0 (Kd.R_lt (by (with_reducible repeat (first | apply Kd.R_alloc | apply Kd.R_drewN | apply Kd.R_drew)); exact HO195.out))) (below_size (by repeat (first | (with_reducible first | exact HB.out | apply below_alloc | apply pw_below_drewN | apply below_drew1) | exact HB.out)))); have n2_ := Aside0.mk (below_step (by repeat (first | (with_reducible first | exact HB.out | apply below_alloc | apply pw_below_drewN | apply below_drew1) | exact HB.out)) hb); clear HO195; clear HB; have HO195 := n0_; have HO199 := n1_; have HB := n2_; clear n0_ n1_ n2_; (try clear hb); (try clear hb2); (try clear hk); (try clear hi); (try clear ho0))))
     (try simp only [Act.put, List.setIfInBounds_toArray, List.set_cons_zero, List.set_cons_succ])
     go_cut [67] (fun v67 wc => ∃ (kq : Nat) (x67_8 : Bool), v67 = .bool x67_8 ∧ Aside0 (laws_FnVtTokensJoin.j1 kq a0 a1 t192 t196 x67_8 = some r) ∧ Aside0 (kq ≤ kj2) ∧ Aside0 (Kd.R k26 26 wc w.heap.size (fun k_ => some k_ ≠ (v198 : Value).ownBlock) v194 t192) ∧ Aside0 (Kd.R k26 26 wc w.heap.size (fun k_ => some k_ ≠ (v194 : Value).ownBlock) v198 t196) ∧ Aside0 (Below w.heap.size w wc))
     case first => as_aux_lemma =>
      have H := HC9.out
      clear HC9
      by_cases c12 : t193 = true
      ·subst c12
       have H1 : (if t197 = true then (if 0 ≤ (wrap64 ((t192.length : Int) - 1)) then (if (wrap64 ((t192.length : Int) - 1)) < (t192.length : Int) then (if ((rd_T26 t192 (wrap64 ((t192.length : Int) - 1))).f0) = 1 then (laws_FnVtTokensJoin.j1 kj2 a0 a1 t192 t196 true) else ((laws_vtTypeLast.f a0 t192).bind fun t201 => (if t201 = true then (laws_FnVtTokensJoin.j1 kj2 a0 a1 t192 t196 true) else ((laws_vtTypeLast.f a1 t196).bind fun t202 => (laws_FnVtTokensJoin.j1 kj2 a0 a1 t192 t196 t202))))) else (none)) else (none)) else (laws_FnVtTokensJoin.j1 kj2 a0 a1 t192 t196 true)) = some r := by rw [if_pos rfl] at H; exact H
       clear H
       have H := H1
       clear H1
       by_cases c13 : t197 = true
       ·subst c13
        have H1 : (if 0 ≤ (wrap64 ((t192.length : Int) - 1)) then (if (wrap64 ((t192.length : Int) - 1)) < (t192.length : Int) then (if ((rd_T26 t192 (wrap64 ((t192.length : Int) - 1))).f0) = 1 then (laws_FnVtTokensJoin.j1 kj2 a0 a1 t192 t196 true) else ((laws_vtTypeLast.f a0 t192).bind fun t201 => (if t201 = true then (laws_FnVtTokensJoin.j1 kj2 a0 a1 t192 t196 true) else ((laws_vtTypeLast.f a1 t196).bind fun t202 => (laws_FnVtTokensJoin.j1 kj2 a0 a1 t192 t196 t202))))) else (none)) else (none)) = some r := by rw [if_pos rfl] at H; exact H
        clear H
        have H := H1
        clear H1
        obtain ⟨ji14, hji14⟩ : ∃ j_ : Int, (wrap64 ((t192.length : Int) - 1)) = j_ := ⟨_, rfl⟩
        replace H : (if 0 ≤ (ji14) then (if (ji14) < (t192.length : Int) then (if ((rd_T26 t192 (ji14)).f0) = 1 then (laws_FnVtTokensJoin.j1 kj2 a0 a1 t192 t196 true) else ((laws_vtTypeLast.f a0 t192).bind fun t201 => (if t201 = true then (laws_FnVtTokensJoin.j1 kj2 a0 a1 t192 t196 true) else ((laws_vtTypeLast.f a1 t196).bind fun t202 => (laws_FnVtTokensJoin.j1 kj2 a0 a1 t192 t196 t202))))) else (none)) else (none)) = some r := by first | (rw [hji14] at H; exact H) | (simp only [hji14] at H ⊢; exact H)
        have hji14w : (IntKind.i64.wrap ((t192.length : Int) - 1)) = ji14 := (i64_w _).trans hji14
        by_cases c15 : 0 ≤ (ji14)
        ·rw [if_pos c15] at H
         have c15b0 : decide (0 ≤ (ji14)) = true := decide_eq_true c15
         clear c15
         (first | rw [c15b0] | (simp only [i64_w, i32_w]; rw [c15b0]) | skip)
         by_cases c16 : (ji14) < (t192.length : Int)
         ·rw [if_pos c16] at H
          have c16b0 : decide ((ji14) < (t192.length : Int)) = true := decide_eq_true c16
          clear c16
          by_cases c17 : ((rd_T26 t192 (ji14)).f0) = 1
          ·rw [if_pos c17] at H
           have c17b0 : (((rd_T26 t192 (ji14)).f0) == 1) = true := beq_iff_eq.mpr c17
           have c17b1 : (((rd_T26 t192 (ji14)).f0) != 1) = false := bne_eq_false_iff_eq.mpr c17
           clear c17
           have H' := Aside0.mk H
           clear H
           obtain ⟨Ao18, co18, eo18⟩ := Kd.R_slice HO195.out
           subst eo18
           have p200 : 0 ≤ ((ji14) : Int) := of_decide_eq_true (by first | (with_reducible assumption) | assumption)
           have q200 : (ji14) < (t192.length : Int) := of_decide_eq_true (by first | (with_reducible assumption) | assumption)
           obtain ⟨ad200, e200, hx200_0, hx200_1⟩ := at_T26 (Kd.R_reads' HO195.out).2.2 (ji14) p200 q200
           cases e200
           replace p200 := eq_true p200
           replace q200 := eq_true q200
           go_wp2
           repeat (go_quiet (fail); try go_wp2)
           go_meet
           case rel => exact ⟨_, (true), (by first | rfl | (simp; done) | (simp [*]; done)), H', ⟨by have := HJ2.out; first | omega | exact Nat.le_refl _⟩, ⟨by (with_reducible repeat (first | apply Kd.R_alloc | apply Kd.R_drewN | apply Kd.R_drew)); exact Kd.R_mono HO195.out (fun _ hk => hk.2)⟩, ⟨by (with_reducible repeat (first | apply Kd.R_alloc | apply Kd.R_drewN | apply Kd.R_drew)); exact Kd.R_mono HO199.out (fun _ hk => hk.2)⟩, ⟨by repeat (first | (with_reducible first | exact HB.out | apply below_alloc | apply pw_below_drewN | apply below_drew1) | exact HB.out)⟩⟩
          ·rw [if_neg c17] at H
           have c17b0 : (((rd_T26 t192 (ji14)).f0) == 1) = false := beq_eq_false_iff_ne.mpr c17
           have c17b1 : (((rd_T26 t192 (ji14)).f0) != 1) = true := bne_iff_ne.mpr c17
           replace H := Option.bind_eq_some_iff.mp H
           obtain ⟨t201, A190, H⟩ := H
           replace H : (if t201 = true then (laws_FnVtTokensJoin.j1 kj2 a0 a1 t192 t196 true) else ((laws_vtTypeLast.f a1 t196).bind fun t202 => (laws_FnVtTokensJoin.j1 kj2 a0 a1 t192 t196 t202))) = some r := H
           have A19 := Aside0.mk A190
           clear A190
           by_cases c20 : t201 = true
           ·subst c20
            have H1 : (laws_FnVtTokensJoin.j1 kj2 a0 a1 t192 t196 true) = some r := by rw [if_pos rfl] at H; exact H
            clear H
            have H := H1
            clear H1
            have H' := Aside0.mk H
            clear H
            obtain ⟨Ao21, co21, eo21⟩ := Kd.R_slice HO195.out
            subst eo21
            have p200 : 0 ≤ ((ji14) : Int) := of_decide_eq_true (by first | (with_reducible assumption) | assumption)
            have q200 : (ji14) < (t192.length : Int) := of_decide_eq_true (by first | (with_reducible assumption) | assumption)
            obtain ⟨ad200, e200, hx200_0, hx200_1⟩ := at_T26 (Kd.R_reads' HO195.out).2.2 (ji14) p200 q200
            cases e200
            replace p200 := eq_true p200
            replace q200 := eq_true q200
            go_wp2_with (first | (go_at_call 7; (with_reducible refine (laws_vtTypeLast.calls a0 _ _ t192 true _ ?side1 ?side2 A19.out).mono ?_); (case side1 => repeat (first | exact (Kd.R_reads' HO195.out).2.2 | (with_reducible refine Kd.C_alloc ?_ _) | (with_reducible refine Kd.C_drewN ?_ _) | (with_reducible refine Kd.C_drew ?_))); (case side2 => exact (Kd.R_reads' HO195.out).2.1); rintro e w' ⟨rfl, ⟨nd, rfl⟩⟩; (try first | exact ⟨rfl, _, World.drewN_drewN _ _ _⟩ | exact ⟨rfl, _, Eq.trans (World.drewN_drewN _ _ _) (congrArg (World.drewN _) (Nat.add_assoc _ _ _))⟩)))
            repeat (go_quiet (first | (go_at_call 7; (with_reducible refine (laws_vtTypeLast.calls a0 _ _ t192 true _ ?side1 ?side2 A19.out).mono ?_); (case side1 => repeat (first | exact (Kd.R_reads' HO195.out).2.2 | (with_reducible refine Kd.C_alloc ?_ _) | (with_reducible refine Kd.C_drewN ?_ _) | (with_reducible refine Kd.C_drew ?_))); (case side2 => exact (Kd.R_reads' HO195.out).2.1); rintro e w' ⟨rfl, ⟨nd, rfl⟩⟩; (try first | exact ⟨rfl, _, World.drewN_drewN _ _ _⟩ | exact ⟨rfl, _, Eq.trans (World.drewN_drewN _ _ _) (congrArg (World.drewN _) (Nat.add_assoc _ _ _))⟩))); try go_wp2_with (first | (go_at_call 7; (with_reducible refine (laws_vtTypeLast.calls a0 _ _ t192 true _ ?side1 ?side2 A19.out).mono ?_); (case side1 => repeat (first | exact (Kd.R_reads' HO195.out).2.2 | (with_reducible refine Kd.C_alloc ?_ _) | (with_reducible refine Kd.C_drewN ?_ _) | (with_reducible refine Kd.C_drew ?_))); (case side2 => exact (Kd.R_reads' HO195.out).2.1); rintro e w' ⟨rfl, ⟨nd, rfl⟩⟩; (try first | exact ⟨rfl, _, World.drewN_drewN _ _ _⟩ | exact ⟨rfl, _, Eq.trans (World.drewN_drewN _ _ _) (congrArg (World.drewN _) (Nat.add_assoc _ _ _))⟩))))
            go_meet
            case rel => exact ⟨_, (true), (by first | rfl | (simp; done) | (simp [*]; done)), H', ⟨by have := HJ2.out; first | omega | exact Nat.le_refl _⟩, ⟨by (with_reducible repeat (first | apply Kd.R_alloc | apply Kd.R_drewN | apply Kd.R_drew)); exact Kd.R_mono HO195.out (fun _ hk => hk.2)⟩, ⟨by (with_reducible repeat (first | apply Kd.R_alloc | apply Kd.R_drewN | apply Kd.R_drew)); exact Kd.R_mono HO199.out (fun _ hk => hk.2)⟩, ⟨by repeat (first | (with_reducible first | exact HB.out | apply below_alloc | apply pw_below_drewN | apply below_drew1) | exact HB.out)⟩⟩
           ·replace c20 := Bool.eq_false_iff.mpr c20
            subst c20
            have H1 : ((laws_vtTypeLast.f a1 t196).bind fun t202 => (laws_FnVtTokensJoin.j1 kj2 a0 a1 t192 t196 t202)) = some r := by rw [if_neg (show ¬ (false = true) by decide)] at H; exact H
            clear H
            have H := H1
            clear H1
            replace H := Option.bind_eq_some_iff.mp H
            obtain ⟨t202, A220, H⟩ := H
            replace H : (laws_FnVtTokensJoin.j1 kj2 a0 a1 t192 t196 t202) = some r := H
            have A22 := Aside0.mk A220
            clear A220
            have H' := Aside0.mk H
            clear H
            obtain ⟨Ao23, co23, eo23⟩ := Kd.R_slice HO195.out
            subst eo23
            have p200 : 0 ≤ ((ji14) : Int) := of_decide_eq_true (by first | (with_reducible assumption) | assumption)
            have q200 : (ji14) < (t192.length : Int) := of_decide_eq_true (by first | (with_reducible assumption) | assumption)
            obtain ⟨ad200, e200, hx200_0, hx200_1⟩ := at_T26 (Kd.R_reads' HO195.out).2.2 (ji14) p200 q200
            cases e200
            replace p200 := eq_true p200
            replace q200 := eq_true q200
            go_wp2_with (first | (go_at_call 7; (with_reducible refine (laws_vtTypeLast.calls a0 _ _ t192 false _ ?side1 ?side2 A19.out).mono ?_); (case side1 => repeat (first | exact (Kd.R_reads' HO195.out).2.2 | (with_reducible refine Kd.C_alloc ?_ _) | (with_reducible refine Kd.C_drewN ?_ _) | (with_reducible refine Kd.C_drew ?_))); (case side2 => exact (Kd.R_reads' HO195.out).2.1); rintro e w' ⟨rfl, ⟨nd, rfl⟩⟩; (try first | exact ⟨rfl, _, World.drewN_drewN _ _ _⟩ | exact ⟨rfl, _, Eq.trans (World.drewN_drewN _ _ _) (congrArg (World.drewN _) (Nat.add_assoc _ _ _))⟩); obtain ⟨Ao24, co24, eo24⟩ := Kd.R_slice HO199.out; subst eo24) | (go_at_call 7; (with_reducible refine (laws_vtTypeLast.calls a1 _ _ t196 t202 _ ?side1 ?side2 A22.out).mono ?_); (case side1 => repeat (first | exact (Kd.R_reads' HO199.out).2.2 | (with_reducible refine Kd.C_alloc ?_ _) | (with_reducible refine Kd.C_drewN ?_ _) | (with_reducible refine Kd.C_drew ?_))); (case side2 => exact (Kd.R_reads' HO199.out).2.1); rintro e w' ⟨rfl, ⟨nd, rfl⟩⟩; (try first | exact ⟨rfl, _, World.drewN_drewN _ _ _⟩ | exact ⟨rfl, _, Eq.trans (World.drewN_drewN _ _ _) (congrArg (World.drewN _) (Nat.add_assoc _ _ _))⟩)))
            repeat (go_quiet (first | (go_at_call 7; (with_reducible refine (laws_vtTypeLast.calls a0 _ _ t192 false _ ?side1 ?side2 A19.out).mono ?_); (case side1 => repeat (first | exact (Kd.R_reads' HO195.out).2.2 | (with_reducible refine Kd.C_alloc ?_ _) | (with_reducible refine Kd.C_drewN ?_ _) | (with_reducible refine Kd.C_drew ?_))); (case side2 => exact (Kd.R_reads' HO195.out).2.1); rintro e w' ⟨rfl, ⟨nd, rfl⟩⟩; (try first | exact ⟨rfl, _, World.drewN_drewN _ _ _⟩ | exact ⟨rfl, _, Eq.trans (World.drewN_drewN _ _ _) (congrArg (World.drewN _) (Nat.add_assoc _ _ _))⟩); obtain ⟨Ao24, co24, eo24⟩ := Kd.R_slice HO199.out; subst eo24) | (go_at_call 7; (with_reducible refine (laws_vtTypeLast.calls a1 _ _ t196 t202 _ ?side1 ?side2 A22.out).mono ?_); (case side1 => repeat (first | exact (Kd.R_reads' HO199.out).2.2 | (with_reducible refine Kd.C_alloc ?_ _) | (with_reducible refine Kd.C_drewN ?_ _) | (with_reducible refine Kd.C_drew ?_))); (case side2 => exact (Kd.R_reads' HO199.out).2.1); rintro e w' ⟨rfl, ⟨nd, rfl⟩⟩; (try first | exact ⟨rfl, _, World.drewN_drewN _ _ _⟩ | exact ⟨rfl, _, Eq.trans (World.drewN_drewN _ _ _) (congrArg (World.drewN _) (Nat.add_assoc _ _ _))⟩))); try go_wp2_with (first | (go_at_call 7; (with_reducible refine (laws_vtTypeLast.calls a0 _ _ t192 false _ ?side1 ?side2 A19.out).mono ?_); (case side1 => repeat (first | exact (Kd.R_reads' HO195.out).2.2 | (with_reducible refine Kd.C_alloc ?_ _) | (with_reducible refine Kd.C_drewN ?_ _) | (with_reducible refine Kd.C_drew ?_))); (case side2 => exact (Kd.R_reads' HO195.out).2.1); rintro e w' ⟨rfl, ⟨nd, rfl⟩⟩; (try first | exact ⟨rfl, _, World.drewN_drewN _ _ _⟩ | exact ⟨rfl, _, Eq.trans (World.drewN_drewN _ _ _) (congrArg (World.drewN _) (Nat.add_assoc _ _ _))⟩); obtain ⟨Ao24, co24, eo24⟩ := Kd.R_slice HO199.out; subst eo24) | (go_at_call 7; (with_reducible refine (laws_vtTypeLast.calls a1 _ _ t196 t202 _ ?side1 ?side2 A22.out).mono ?_); (case side1 => repeat (first | exact (Kd.R_reads' HO199.out).2.2 | (with_reducible refine Kd.C_alloc ?_ _) | (with_reducible refine Kd.C_drewN ?_ _) | (with_reducible refine Kd.C_drew ?_))); (case side2 => exact (Kd.R_reads' HO199.out).2.1); rintro e w' ⟨rfl, ⟨nd, rfl⟩⟩; (try first | exact ⟨rfl, _, World.drewN_drewN _ _ _⟩ | exact ⟨rfl, _, Eq.trans (World.drewN_drewN _ _ _) (congrArg (World.drewN _) (Nat.add_assoc _ _ _))⟩))))
            go_meet
            case rel => exact ⟨_, (t202), (by first | rfl | (simp; done) | (simp [*]; done)), H', ⟨by have := HJ2.out; first | omega | exact Nat.le_refl _⟩, ⟨by (with_reducible repeat (first | apply Kd.R_alloc | apply Kd.R_drewN | apply Kd.R_drew)); exact Kd.R_mono HO195.out (fun _ hk => hk.2)⟩, ⟨by (with_reducible repeat (first | apply Kd.R_alloc | apply Kd.R_drewN | apply Kd.R_drew)); exact Kd.R_mono HO199.out (fun _ hk => hk.2)⟩, ⟨by repeat (first | (with_reducible first | exact HB.out | apply below_alloc | apply pw_below_drewN | apply below_drew1) | exact HB.out)⟩⟩
         ·rw [if_neg c16] at H
          exact absurd H (by simp)
        ·rw [if_neg c15] at H
         exact absurd H (by simp)
       ·replace c13 := Bool.eq_false_iff.mpr c13
        subst c13
        have H1 : (laws_FnVtTokensJoin.j1 kj2 a0 a1 t192 t196 true) = some r := by rw [if_neg (show ¬ (false = true) by decide)] at H; exact H
        clear H
        have H := H1
        clear H1
        have H' := Aside0.mk H
        clear H
        go_wp2
        repeat (go_quiet (fail); try go_wp2)
        go_meet
        case rel => exact ⟨_, (true), (by first | rfl | (simp; done) | (simp [*]; done)), H', ⟨by have := HJ2.out; first | omega | exact Nat.le_refl _⟩, ⟨by (with_reducible repeat (first | apply Kd.R_alloc | apply Kd.R_drewN | apply Kd.R_drew)); exact Kd.R_mono HO195.out (fun _ hk => hk.2)⟩, ⟨by (with_reducible repeat (first | apply Kd.R_alloc | apply Kd.R_drewN | apply Kd.R_drew)); exact Kd.R_mono HO199.out (fun _ hk => hk.2)⟩, ⟨by repeat (first | (with_reducible first | exact HB.out | apply below_alloc | apply pw_below_drewN | apply below_drew1) | exact HB.out)⟩⟩
      ·replace c12 := Bool.eq_false_iff.mpr c12
       subst c12
       have H1 : (laws_FnVtTokensJoin.j1 kj2 a0 a1 t192 t196 true) = some r := by rw [if_neg (show ¬ (false = true) by decide)] at H; exact H
       clear H
       have H := H1
       clear H1
       have H' := Aside0.mk H
       clear H
       go_wp2
       repeat (go_quiet (fail); try go_wp2)
       go_meet
       case rel => exact ⟨_, (true), (by first | rfl | (simp; done) | (simp [*]; done)), H', ⟨by have := HJ2.out; first | omega | exact Nat.le_refl _⟩, ⟨by (with_reducible repeat (first | apply Kd.R_alloc | apply Kd.R_drewN | apply Kd.R_drew)); exact Kd.R_mono HO195.out (fun _ hk => hk.2)⟩, ⟨by (with_reducible repeat (first | apply Kd.R_alloc | apply Kd.R_drewN | apply Kd.R_drew)); exact Kd.R_mono HO199.out (fun _ hk => hk.2)⟩, ⟨by repeat (first | (with_reducible first | exact HB.out | apply below_alloc | apply pw_below_drewN | apply below_drew1) | exact HB.out)⟩⟩
     case rest => as_aux_lemma =>
      clear HC9
      try clear c1
      try clear c2
      try clear p2
      try clear q2
      try clear hx2
      try clear c4
      try clear c4b0
      try clear c4b1
      try clear c5
      try clear c6
      try clear c6b0
      try clear p6
      try clear c12
      try clear c13
      try clear c15
      try clear c15b0
      try clear c16
      try clear c16b0
      try clear c17
      try clear c17b0
      try clear c17b1
      try clear c20
      try clear p20
      try clear q20
      try clear hx20
      try clear hx200_0
      try clear hx200_1
      try clear p2
      try clear p200
      try clear q200
      obtain ⟨kq, x67_8, rfl, HA, HJ8, HO_5, HO_7, HB⟩ := hcut
      cases kq with
      | zero => exact absurd HA.out (by simp [laws_FnVtTokensJoin.j1])
      | succ kj8 =>
       have H := HA.out
       clear HA
       simp only [laws_FnVtTokensJoin.j1] at H
       by_cases c25 : x67_8 = true
       ·subst c25
        have H1 : (some true) = some r := by rw [if_pos rfl] at H; exact H
        clear H
        have H := H1
        clear H1
        obtain rfl := Option.some.inj H
        go_wp2
        repeat (go_quiet (fail); try go_wp2)
        go_ret
        exact ⟨by first | rfl | (simp [errW_none, errW_some] <;> rfl) | (simp [*, errW_none, errW_some] <;> rfl) | (simp (disch := omega) only [wrap64_id] <;> rfl), by repeat (first | (with_reducible first | exact HB.out | apply below_alloc | apply pw_below_drewN | apply below_drew1) | exact HB.out)⟩
       ·replace c25 := Bool.eq_false_iff.mpr c25
        subst c25
        have H1 : ((impl_VtTokens.f kj8 a0).bind fun bt203 => ((impl_VtTokens.f kj8 a1).bind fun bt209 => (if a0.size + 1 ≤ 9223372036854775807 then (if (a0 ++ (⟨#[32]⟩ : ByteArray)).size + a1.size ≤ 9223372036854775807 then ((impl_VtTokens.f kj8 ((a0 ++ (⟨#[32]⟩ : ByteArray)) ++ a1)).bind fun bt215 => (if (bt203.1.length : Int) = (t192.length : Int) then (if (bt203.2.length : Int) = (t192.length : Int) then (if (bt209.1.length : Int) = (t196.length : Int) then (if (bt209.2.length : Int) = (t196.length : Int) then (if (bt215.1.length : Int) = (wrap64 ((wrap64 ((bt203.1.length : Int) - 1)) + (bt209.1.length : Int))) then (laws_FnVtTokensJoin.j2 kj8 bt203.1 bt203.2 bt209.1 bt209.2 bt215.1 bt215.2 ((bt215.2.length : Int) != (bt215.1.length : Int))) else (laws_FnVtTokensJoin.j2 kj8 bt203.1 bt203.2 bt209.1 bt209.2 bt215.1 bt215.2 true)) else (laws_FnVtTokensJoin.j2 kj8 bt203.1 bt203.2 bt209.1 bt209.2 bt215.1 bt215.2 true)) else (laws_FnVtTokensJoin.j2 kj8 bt203.1 bt203.2 bt209.1 bt209.2 bt215.1 bt215.2 true)) else (laws_FnVtTokensJoin.j2 kj8 bt203.1 bt203.2 bt209.1 bt209.2 bt215.1 bt215.2 true)) else (laws_FnVtTokensJoin.j2 kj8 bt203.1 bt203.2 bt209.1 bt209.2 bt215.1 bt215.2 true))) else (none)) else (none)))) = some r := by rw [if_neg (show ¬ (false = true) by decide)] at H; exact H
        clear H
        have H := H1
        clear H1
        replace H := Option.bind_eq_some_iff.mp H
        obtain ⟨⟨t203, t204⟩, A260, H⟩ := H
        replace H : ((impl_VtTokens.f kj8 a1).bind fun bt209 => (if a0.size + 1 ≤ 9223372036854775807 then (if (a0 ++ (⟨#[32]⟩ : ByteArray)).size + a1.size ≤ 9223372036854775807 then ((impl_VtTokens.f kj8 ((a0 ++ (⟨#[32]⟩ : ByteArray)) ++ a1)).bind fun bt215 => (if (t203.length : Int) = (t192.length : Int) then (if (t204.length : Int) = (t192.length : Int) then (if (bt209.1.length : Int) = (t196.length : Int) then (if (bt209.2.length : Int) = (t196.length : Int) then (if (bt215.1.length : Int) = (wrap64 ((wrap64 ((t203.length : Int) - 1)) + (bt209.1.length : Int))) then (laws_FnVtTokensJoin.j2 kj8 t203 t204 bt209.1 bt209.2 bt215.1 bt215.2 ((bt215.2.length : Int) != (bt215.1.length : Int))) else (laws_FnVtTokensJoin.j2 kj8 t203 t204 bt209.1 bt209.2 bt215.1 bt215.2 true)) else (laws_FnVtTokensJoin.j2 kj8 t203 t204 bt209.1 bt209.2 bt215.1 bt215.2 true)) else (laws_FnVtTokensJoin.j2 kj8 t203 t204 bt209.1 bt209.2 bt215.1 bt215.2 true)) else (laws_FnVtTokensJoin.j2 kj8 t203 t204 bt209.1 bt209.2 bt215.1 bt215.2 true)) else (laws_FnVtTokensJoin.j2 kj8 t203 t204 bt209.1 bt209.2 bt215.1 bt215.2 true))) else (none)) else (none))) = some r := H
        have A26 := Aside0.mk A260
        clear A260
        replace H := Option.bind_eq_some_iff.mp H
        obtain ⟨⟨t209, t210⟩, A270, H⟩ := H
        replace H : (if a0.size + 1 ≤ 9223372036854775807 then (if (a0 ++ (⟨#[32]⟩ : ByteArray)).size + a1.size ≤ 9223372036854775807 then ((impl_VtTokens.f kj8 ((a0 ++ (⟨#[32]⟩ : ByteArray)) ++ a1)).bind fun bt215 => (if (t203.length : Int) = (t192.length : Int) then (if (t204.length : Int) = (t192.length : Int) then (if (t209.length : Int) = (t196.length : Int) then (if (t210.length : Int) = (t196.length : Int) then (if (bt215.1.length : Int) = (wrap64 ((wrap64 ((t203.length : Int) - 1)) + (t209.length : Int))) then (laws_FnVtTokensJoin.j2 kj8 t203 t204 t209 t210 bt215.1 bt215.2 ((bt215.2.length : Int) != (bt215.1.length : Int))) else (laws_FnVtTokensJoin.j2 kj8 t203 t204 t209 t210 bt215.1 bt215.2 true)) else (laws_FnVtTokensJoin.j2 kj8 t203 t204 t209 t210 bt215.1 bt215.2 true)) else (laws_FnVtTokensJoin.j2 kj8 t203 t204 t209 t210 bt215.1 bt215.2 true)) else (laws_FnVtTokensJoin.j2 kj8 t203 t204 t209 t210 bt215.1 bt215.2 true)) else (laws_FnVtTokensJoin.j2 kj8 t203 t204 t209 t210 bt215.1 bt215.2 true))) else (none)) else (none)) = some r := H
        have A27 := Aside0.mk A270
        clear A270
        by_cases c28 : a0.size + 1 ≤ 9223372036854775807
        ·rw [if_pos c28] at H
         have c28b0 := eq_true c28
         have c28b1 : decide (a0.size + 1 ≤ 9223372036854775807) = true := decide_eq_true c28
         try have c28b2 : (9223372036854775807 < a0.size + 1) = False := eq_false (Nat.not_lt.2 c28)
         by_cases c29 : (a0 ++ (⟨#[32]⟩ : ByteArray)).size + a1.size ≤ 9223372036854775807
         ·rw [if_pos c29] at H
          have c29b0 := eq_true c29
          have c29b1 : decide ((a0 ++ (⟨#[32]⟩ : ByteArray)).size + a1.size ≤ 9223372036854775807) = true := decide_eq_true c29
          try have c29b2 : (9223372036854775807 < (a0 ++ (⟨#[32]⟩ : ByteArray)).size + a1.size) = False := eq_false (Nat.not_lt.2 c29)
          (try have c29e : a0.size + 1 + a1.size ≤ 9223372036854775807 := by (have h_ := c29; simp only [ByteArray.size_append] at h_; exact h_))
          (try have c29e0 := eq_true c29e)
          (try have c29e1 : decide (a0.size + 1 + a1.size ≤ 9223372036854775807) = true := decide_eq_true c29e)
          (try have c29e2 : (9223372036854775807 < a0.size + 1 + a1.size) = False := eq_false (Nat.not_lt.2 c29e))
          replace H := Option.bind_eq_some_iff.mp H
          obtain ⟨⟨t215, t216⟩, A300, H⟩ := H
          replace H : (if (t203.length : Int) = (t192.length : Int) then (if (t204.length : Int) = (t192.length : Int) then (if (t209.length : Int) = (t196.length : Int) then (if (t210.length : Int) = (t196.length : Int) then (if (t215.length : Int) = (wrap64 ((wrap64 ((t203.length : Int) - 1)) + (t209.length : Int))) then (laws_FnVtTokensJoin.j2 kj8 t203 t204 t209 t210 t215 t216 ((t216.length : Int) != (t215.length : Int))) else (laws_FnVtTokensJoin.j2 kj8 t203 t204 t209 t210 t215 t216 true)) else (laws_FnVtTokensJoin.j2 kj8 t203 t204 t209 t210 t215 t216 true)) else (laws_FnVtTokensJoin.j2 kj8 t203 t204 t209 t210 t215 t216 true)) else (laws_FnVtTokensJoin.j2 kj8 t203 t204 t209 t210 t215 t216 true)) else (laws_FnVtTokensJoin.j2 kj8 t203 t204 t209 t210 t215 t216 true)) = some r := H
          have A30 := Aside0.mk A300
          clear A300
          have HC31 := Aside0.mk H
          clear H
          go_upto_region 12 with (first | (go_at_call 6; (with_reducible refine (impl_VtTokens.calls kj8 a0 t203 t204 _ (utabs_up HTT.out (by repeat (first | (with_reducible first | exact HB.out | apply below_alloc | apply pw_below_drewN | apply below_drew1) | exact HB.out))) A26.out).mono ?_); rintro e w32 ⟨v205, v207, rfl, ho0, ho1, hb⟩; have n0_ := Aside0.mk (Kd.R_below (by (with_reducible repeat (first | apply Kd.R_alloc | apply Kd.R_drewN | apply Kd.R_drew)); exact HO_5.out) hb); have n1_ := Aside0.mk (Kd.R_below (by (with_reducible repeat (first | apply Kd.R_alloc | apply Kd.R_drewN | apply Kd.R_drew)); exact HO_7.out) hb); have n2_ := Aside0.mk (Kd.R_lower ho0 (below_size (by repeat (first | (with_reducible first | exact HB.out | apply below_alloc | apply pw_below_drewN | apply below_drew1) | exact HB.out)))); have n3_ := Aside0.mk (Kd.R_lower ho1 (below_size (by repeat (first | (with_reducible first | exact HB.out | apply below_alloc | apply pw_below_drewN | apply below_drew1) | exact HB.out)))); have n4_ := Aside0.mk (below_step (by repeat (first | (with_reducible first | exact HB.out | apply below_alloc | apply pw_below_drewN | apply below_drew1) | exact HB.out)) hb); clear HO_5; clear HO_7; clear HB; have HO_5 := n0_; have HO_7 := n1_; have HO206 := n2_; have HO208 := n3_; have HB := n4_; clear n0_ n1_ n2_ n3_ n4_; (try clear hb); (try clear hb2); (try clear hk); (try clear hi); (try clear ho0); (try clear ho1)) | (go_at_call 6; (with_reducible refine (impl_VtTokens.calls kj8 a1 t209 t210 _ (utabs_up HTT.out (by repeat (first | (with_reducible first | exact HB.out | apply below_alloc | apply pw_below_drewN | apply below_drew1) | exact HB.out))) A27.out).mono ?_); rintro e w33 ⟨v211, v213, rfl, ho0, ho1, hb⟩; have n0_ := Aside0.mk (Kd.R_below (by (with_reducible repeat (first | apply Kd.R_alloc | apply Kd.R_drewN | apply Kd.R_drew)); exact HO_5.out) hb); have n1_ := Aside0.mk (Kd.R_below (by (with_reducible repeat (first | apply Kd.R_alloc | apply Kd.R_drewN | apply Kd.R_drew)); exact HO_7.out) hb); have n2_ := Aside0.mk (Kd.R_elder' (by (with_reducible repeat (first | apply Kd.R_alloc | apply Kd.R_drewN | apply Kd.R_drew)); exact HO206.out) (Kd.R_base ho0) hb); have n3_ := Aside0.mk (Kd.R_elder' (by (with_reducible repeat (first | apply Kd.R_alloc | apply Kd.R_drewN | apply Kd.R_drew)); exact HO208.out) (Kd.R_base ho1) hb); have n4_ := Aside0.mk (Kd.R_lower (Kd.R_new' ho0 (Kd.R_lt (by (with_reducible repeat (first | apply Kd.R_alloc | apply Kd.R_drewN | apply Kd.R_drew)); exact HO206.out))) (below_size (by repeat (first | (with_reducible first | exact HB.out | apply below_alloc | apply pw_below_drewN | apply below_drew1) | exact HB.out)))); have n5_ := Aside0.mk (Kd.R_lower (Kd.R_new' ho1 (Kd.R_lt (by (with_reducible repeat (first | apply Kd.R_alloc | apply Kd.R_drewN | apply Kd.R_drew)); exact HO208.out))) (below_size (by repeat (first | (with_reducible first | exact HB.out | apply below_alloc | apply pw_below_drewN | apply below_drew1) | exact HB.out)))); have n6_ := Aside0.mk (below_step (by repeat (first | (with_reducible first | exact HB.out | apply below_alloc | apply pw_below_drewN | apply below_drew1) | exact HB.out)) hb); clear HO_5; clear HO_7; clear HO206; clear HO208; clear HB; have HO_5 := n0_; have HO_7 := n1_; have HO206 := n2_; have HO208 := n3_; have HO212 := n4_; have HO214 := n5_; have HB := n6_; clear n0_ n1_ n2_ n3_ n4_ n5_ n6_; (try clear hb); (try clear hb2); (try clear hk); (try clear hi); (try clear ho0); (try clear ho1)) | (go_at_call 6; (with_reducible refine (impl_VtTokens.calls kj8 ((a0 ++ (⟨#[32]⟩ : ByteArray)) ++ a1) t215 t216 _ (utabs_up HTT.out (by repeat (first | (with_reducible first | exact HB.out | apply below_alloc | apply pw_below_drewN | apply below_drew1) | exact HB.out))) A30.out).mono ?_); rintro e w34 ⟨v217, v219, rfl, ho0, ho1, hb⟩; have n0_ := Aside0.mk (Kd.R_below (by (with_reducible repeat (first | apply Kd.R_alloc | apply Kd.R_drewN | apply Kd.R_drew)); exact HO_5.out) hb); have n1_ := Aside0.mk (Kd.R_below (by (with_reducible repeat (first | apply Kd.R_alloc | apply Kd.R_drewN | apply Kd.R_drew)); exact HO_7.out) hb); have n2_ := Aside0.mk (Kd.R_elder' (by (with_reducible repeat (first | apply Kd.R_alloc | apply Kd.R_drewN | apply Kd.R_drew)); exact HO206.out) (Kd.R_base ho0) hb); have n3_ := Aside0.mk (Kd.R_elder' (by (with_reducible repeat (first | apply Kd.R_alloc | apply Kd.R_drewN | apply Kd.R_drew)); exact HO208.out) (Kd.R_base ho1) hb); have n4_ := Aside0.mk (Kd.R_elder' (by (with_reducible repeat (first | apply Kd.R_alloc | apply Kd.R_drewN | apply Kd.R_drew)); exact HO212.out) (Kd.R_base ho0) hb); have n5_ := Aside0.mk (Kd.R_elder' (by (with_reducible repeat (first | apply Kd.R_alloc | apply Kd.R_drewN | apply Kd.R_drew)); exact HO214.out) (Kd.R_base ho1) hb); have n6_ := Aside0.mk (Kd.R_lower (Kd.R_new' (Kd.R_new' ho0 (Kd.R_lt (by (with_reducible repeat (first | apply Kd.R_alloc | apply Kd.R_drewN | apply Kd.R_drew)); exact HO206.out))) (Kd.R_lt (by (with_reducible repeat (first | apply Kd.R_alloc | apply Kd.R_drewN | apply Kd.R_drew)); exact HO212.out))) (below_size (by repeat (first | (with_reducible first | exact HB.out | apply below_alloc | apply pw_below_drewN | apply below_drew1) | exact HB.out)))); have n7_ := Aside0.mk (Kd.R_lower (Kd.R_new' (Kd.R_new' ho1 (Kd.R_lt (by (with_reducible repeat (first | apply Kd.R_alloc | apply Kd.R_drewN | apply Kd.R_drew)); exact HO208.out))) (Kd.R_lt (by (with_reducible repeat (first | apply Kd.R_alloc | apply Kd.R_drewN | apply Kd.R_drew)); exact HO214.out))) (below_size (by repeat (first | (with_reducible first | exact HB.out | apply below_alloc | apply pw_below_drewN | apply below_drew1) | exact HB.out)))); have n8_ := Aside0.mk (below_step (by repeat (first | (with_reducible first | exact HB.out | apply below_alloc | apply pw_below_drewN | apply below_drew1) | exact HB.out)) hb); clear HO_5; clear HO_7; clear HO206; clear HO208; clear HO212; clear HO214; clear HB; have HO_5 := n0_; have HO_7 := n1_; have HO206 := n2_; have HO208 := n3_; have HO212 := n4_; have HO214 := n5_; have HO218 := n6_; have HO220 := n7_; have HB := n8_; clear n0_ n1_ n2_ n3_ n4_ n5_ n6_ n7_ n8_; (try clear hb); (try clear hb2); (try clear hk); (try clear hi); (try clear ho0); (try clear ho1)))
          repeat (go_quiet (first | (go_at_call 6; (with_reducible refine (impl_VtTokens.calls kj8 a0 t203 t204 _ (utabs_up HTT.out (by repeat (first | (with_reducible first | exact HB.out | apply below_alloc | apply pw_below_drewN | apply below_drew1) | exact HB.out))) A26.out).mono ?_); rintro e w32 ⟨v205, v207, rfl, ho0, ho1, hb⟩; have n0_ := Aside0.mk (Kd.R_below (by (with_reducible repeat (first | apply Kd.R_alloc | apply Kd.R_drewN | apply Kd.R_drew)); exact HO_5.out) hb); have n1_ := Aside0.mk (Kd.R_below (by (with_reducible repeat (first | apply Kd.R_alloc | apply Kd.R_drewN | apply Kd.R_drew)); exact HO_7.out) hb); have n2_ := Aside0.mk (Kd.R_lower ho0 (below_size (by repeat (first | (with_reducible first | exact HB.out | apply below_alloc | apply pw_below_drewN | apply below_drew1) | exact HB.out)))); have n3_ := Aside0.mk (Kd.R_lower ho1 (below_size (by repeat (first | (with_reducible first | exact HB.out | apply below_alloc | apply pw_below_drewN | apply below_drew1) | exact HB.out)))); have n4_ := Aside0.mk (below_step (by repeat (first | (with_reducible first | exact HB.out | apply below_alloc | apply pw_below_drewN | apply below_drew1) | exact HB.out)) hb); clear HO_5; clear HO_7; clear HB; have HO_5 := n0_; have HO_7 := n1_; have HO206 := n2_; have HO208 := n3_; have HB := n4_; clear n0_ n1_ n2_ n3_ n4_; (try clear hb); (try clear hb2); (try clear hk); (try clear hi); (try clear ho0); (try clear ho1)) | (go_at_call 6; (with_reducible refine (impl_VtTokens.calls kj8 a1 t209 t210 _ (utabs_up HTT.out (by repeat (first | (with_reducible first | exact HB.out | apply below_alloc | apply pw_below_drewN | apply below_drew1) | exact HB.out))) A27.out).mono ?_); rintro e w33 ⟨v211, v213, rfl, ho0, ho1, hb⟩; have n0_ := Aside0.mk (Kd.R_below (by (with_reducible repeat (first | apply Kd.R_alloc | apply Kd.R_drewN | apply Kd.R_drew)); exact HO_5.out) hb); have n1_ := Aside0.mk (Kd.R_below (by (with_reducible repeat (first | apply Kd.R_alloc | apply Kd.R_drewN | apply Kd.R_drew)); exact HO_7.out) hb); have n2_ := Aside0.mk (Kd.R_elder' (by (with_reducible repeat (first | apply Kd.R_alloc | apply Kd.R_drewN | apply Kd.R_drew)); exact HO206.out) (Kd.R_base ho0) hb); have n3_ := Aside0.mk (Kd.R_elder' (by (with_reducible repeat (first | apply Kd.R_alloc | apply Kd.R_drewN | apply Kd.R_drew)); exact HO208.out) (Kd.R_base ho1) hb); have n4_ := Aside0.mk (Kd.R_lower (Kd.R_new' ho0 (Kd.R_lt (by (with_reducible repeat (first | apply Kd.R_alloc | apply Kd.R_drewN | apply Kd.R_drew)); exact HO206.out))) (below_size (by repeat (first | (with_reducible first | exact HB.out | apply below_alloc | apply pw_below_drewN | apply below_drew1) | exact HB.out)))); have n5_ := Aside0.mk (Kd.R_lower (Kd.R_new' ho1 (Kd.R_lt (by (with_reducible repeat (first | apply Kd.R_alloc | apply Kd.R_drewN | apply Kd.R_drew)); exact HO208.out))) (below_size (by repeat (first | (with_reducible first | exact HB.out | apply below_alloc | apply pw_below_drewN | apply below_drew1) | exact HB.out)))); have n6_ := Aside0.mk (below_step (by repeat (first | (with_reducible first | exact HB.out | apply below_alloc | apply pw_below_drewN | apply below_drew1) | exact HB.out)) hb); clear HO_5; clear HO_7; clear HO206; clear HO208; clear HB; have HO_5 := n0_; have HO_7 := n1_; have HO206 := n2_; have HO208 := n3_; have HO212 := n4_; have HO214 := n5_; have HB := n6_; clear n0_ n1_ n2_ n3_ n4_ n5_ n6_; (try clear hb); (try clear hb2); (try clear hk); (try clear hi); (try clear ho0); (try clear ho1)) | (go_at_call 6; (with_reducible refine (impl_VtTokens.calls kj8 ((a0 ++ (⟨#[32]⟩ : ByteArray)) ++ a1) t215 t216 _ (utabs_up HTT.out (by repeat (first | (with_reducible first | exact HB.out | apply below_alloc | apply pw_below_drewN | apply below_drew1) | exact HB.out))) A30.out).mono ?_); rintro e w34 ⟨v217, v219, rfl, ho0, ho1, hb⟩; have n0_ := Aside0.mk (Kd.R_below (by (with_reducible repeat (first | apply Kd.R_alloc | apply Kd.R_drewN | apply Kd.R_drew)); exact HO_5.out) hb); have n1_ := Aside0.mk (Kd.R_below (by (with_reducible repeat (first | apply Kd.R_alloc | apply Kd.R_drewN | apply Kd.R_drew)); exact HO_7.out) hb); have n2_ := Aside0.mk (Kd.R_elder' (by (with_reducible repeat (first | apply Kd.R_alloc | apply Kd.R_drewN | apply Kd.R_drew)); exact HO206.out) (Kd.R_base ho0) hb); have n3_ := Aside0.mk (Kd.R_elder' (by (with_reducible repeat (first | apply Kd.R_alloc | apply Kd.R_drewN | apply Kd.R_drew)); exact HO208.out) (Kd.R_base ho1) hb); have n4_ := Aside0.mk (Kd.R_elder' (by (with_reducible repeat (first | apply Kd.R_alloc | apply Kd.R_drewN | apply Kd.R_drew)); exact HO212.out) (Kd.R_base ho0) hb); have n5_ := Aside0.mk (Kd.R_elder' (by (with_reducible repeat (first | apply Kd.R_alloc | apply Kd.R_drewN | apply Kd.R_drew)); exact HO214.out) (Kd.R_base ho1) hb); have n6_ := Aside0.mk (Kd.R_lower (Kd.R_new' (Kd.R_new' ho0 (Kd.R_lt (by (with_reducible repeat (first | apply Kd.R_alloc | apply Kd.R_drewN | apply Kd.R_drew)); exact HO206.out))) (Kd.R_lt (by (with_reducible repeat (first | apply Kd.R_alloc | apply Kd.R_drewN | apply Kd.R_drew)); exact HO212.out))) (below_size (by repeat (first | (with_reducible first | exact HB.out | apply below_alloc | apply pw_below_drewN | apply below_drew1) | exact HB.out)))); have n7_ := Aside0.mk (Kd.R_lower (Kd.R_new' (Kd.R_new' ho1 (Kd.R_lt (by (with_reducible repeat (first | apply Kd.R_alloc | apply Kd.R_drewN | apply Kd.R_drew)); exact HO208.out))) (Kd.R_lt (by (with_reducible repeat (first | apply Kd.R_alloc | apply Kd.R_drewN | apply Kd.R_drew)); exact HO214.out))) (below_size (by repeat (first | (with_reducible first | exact HB.out | apply below_alloc | apply pw_below_drewN | apply below_drew1) | exact HB.out)))); have n8_ := Aside0.mk (below_step (by repeat (first | (with_reducible first | exact HB.out | apply below_alloc | apply pw_below_drewN | apply below_drew1) | exact HB.out)) hb); clear HO_5; clear HO_7; clear HO206; clear HO208; clear HO212; clear HO214; clear HB; have HO_5 := n0_; have HO_7 := n1_; have HO206 := n2_; have HO208 := n3_; have HO212 := n4_; have HO214 := n5_; have HO218 := n6_; have HO220 := n7_; have HB := n8_; clear n0_ n1_ n2_ n3_ n4_ n5_ n6_ n7_ n8_; (try clear hb); (try clear hb2); (try clear hk); (try clear hi); (try clear ho0); (try clear ho1))); go_upto_region 12 with (first | (go_at_call 6; (with_reducible refine (impl_VtTokens.calls kj8 a0 t203 t204 _ (utabs_up HTT.out (by repeat (first | (with_reducible first | exact HB.out | apply below_alloc | apply pw_below_drewN | apply below_drew1) | exact HB.out))) A26.out).mono ?_); rintro e w32 ⟨v205, v207, rfl, ho0, ho1, hb⟩; have n0_ := Aside0.mk (Kd.R_below (by (with_reducible repeat (first | apply Kd.R_alloc | apply Kd.R_drewN | apply Kd.R_drew)); exact HO_5.out) hb); have n1_ := Aside0.mk (Kd.R_below (by (with_reducible repeat (first | apply Kd.R_alloc | apply Kd.R_drewN | apply Kd.R_drew)); exact HO_7.out) hb); have n2_ := Aside0.mk (Kd.R_lower ho0 (below_size (by repeat (first | (with_reducible first | exact HB.out | apply below_alloc | apply pw_below_drewN | apply below_drew1) | exact HB.out)))); have n3_ := Aside0.mk (Kd.R_lower ho1 (below_size (by repeat (first | (with_reducible first | exact HB.out | apply below_alloc | apply pw_below_drewN | apply below_drew1) | exact HB.out)))); have n4_ := Aside0.mk (below_step (by repeat (first | (with_reducible first | exact HB.out | apply below_alloc | apply pw_below_drewN | apply below_drew1) | exact HB.out)) hb); clear HO_5; clear HO_7; clear HB; have HO_5 := n0_; have HO_7 := n1_; have HO206 := n2_; have HO208 := n3_; have HB := n4_; clear n0_ n1_ n2_ n3_ n4_; (try clear hb); (try clear hb2); (try clear hk); (try clear hi); (try clear ho0); (try clear ho1)) | (go_at_call 6; (with_reducible refine (impl_VtTokens.calls kj8 a1 t209 t210 _ (utabs_up HTT.out (by repeat (first | (with_reducible first | exact HB.out | apply below_alloc | apply pw_below_drewN | apply below_drew1) | exact HB.out))) A27.out).mono ?_); rintro e w33 ⟨v211, v213, rfl, ho0, ho1, hb⟩; have n0_ := Aside0.mk (Kd.R_below (by (with_reducible repeat (first | apply Kd.R_alloc | apply Kd.R_drewN | apply Kd.R_drew)); exact HO_5.out) hb); have n1_ := Aside0.mk (Kd.R_below (by (with_reducible repeat (first | apply Kd.R_alloc | apply Kd.R_drewN | apply Kd.R_drew)); exact HO_7.out) hb); have n2_ := Aside0.mk (Kd.R_elder' (by (with_reducible repeat (first | apply Kd.R_alloc | apply Kd.R_drewN | apply Kd.R_drew)); exact HO206.out) (Kd.R_base ho0) hb); have n3_ := Aside0.mk (Kd.R_elder' (by (with_reducible repeat (first | apply Kd.R_alloc | apply Kd.R_drewN | apply Kd.R_drew)); exact HO208.out) (Kd.R_base ho1) hb); have n4_ := Aside0.mk (Kd.R_lower (Kd.R_new' ho0 (Kd.R_lt (by (with_reducible repeat (first | apply Kd.R_alloc | apply Kd.R_drewN | apply Kd.R_drew)); exact HO206.out))) (below_size (by repeat (first | (with_reducible first | exact HB.out | apply below_alloc | apply pw_below_drewN | apply below_drew1) | exact HB.out)))); have n5_ := Aside0.mk (Kd.R_lower (Kd.R_new' ho1 (Kd.R_lt (by (with_reducible repeat (first | apply Kd.R_alloc | apply Kd.R_drewN | apply Kd.R_drew)); exact HO208.out))) (below_size (by repeat (first | (with_reducible first | exact HB.out | apply below_alloc | apply pw_below_drewN | apply below_drew1) | exact HB.out)))); have n6_ := Aside0.mk (below_step (by repeat (first | (with_reducible first | exact HB.out | apply below_alloc | apply pw_below_drewN | apply below_drew1) | exact HB.out)) hb); clear HO_5; clear HO_7; clear HO206; clear HO208; clear HB; have HO_5 := n0_; have HO_7 := n1_; have HO206 := n2_; have HO208 := n3_; have HO212 := n4_; have HO214 := n5_; have HB := n6_; clear n0_ n1_ n2_ n3_ n4_ n5_ n6_; (try clear hb); (try clear hb2); (try clear hk); (try clear hi); (try clear ho0); (try clear ho1)) | (go_at_call 6; (with_reducible refine (impl_VtTokens.calls kj8 ((a0 ++ (⟨#[32]⟩ : ByteArray)) ++ a1) t215 t216 _ (utabs_up HTT.out (by repeat (first | (with_reducible first | exact HB.out | apply below_alloc | apply pw_below_drewN | apply below_drew1) | exact HB.out))) A30.out).mono ?_); rintro e w34 ⟨v217, v219, rfl, ho0, ho1, hb⟩; have n0_ := Aside0.mk (Kd.R_below (by (with_reducible repeat (first | apply Kd.R_alloc | apply Kd.R_drewN | apply Kd.R_drew)); exact HO_5.out) hb); have n1_ := Aside0.mk (Kd.R_below (by (with_reducible repeat (first | apply Kd.R_alloc | apply Kd.R_drewN | apply Kd.R_drew)); exact HO_7.out) hb); have n2_ := Aside0.mk (Kd.R_elder' (by (with_reducible repeat (first | apply Kd.R_alloc | apply Kd.R_drewN | apply Kd.R_drew)); exact HO206.out) (Kd.R_base ho0) hb); have n3_ := Aside0.mk (Kd.R_elder' (by (with_reducible repeat (first | apply Kd.R_alloc | apply Kd.R_drewN | apply Kd.R_drew)); exact HO208.out) (Kd.R_base ho1) hb); have n4_ := Aside0.mk (Kd.R_elder' (by (with_reducible repeat (first | apply Kd.R_alloc | apply Kd.R_drewN | apply Kd.R_drew)); exact HO212.out) (Kd.R_base ho0) hb); have n5_ := Aside0.mk (Kd.R_elder' (by (with_reducible repeat (first | apply Kd.R_alloc | apply Kd.R_drewN | apply Kd.R_drew)); exact HO214.out) (Kd.R_base ho1) hb); have n6_ := Aside0.mk (Kd.R_lower (Kd.R_new' (Kd.R_new' ho0 (Kd.R_lt (by (with_reducible repeat (first | apply Kd.R_alloc | apply Kd.R_drewN | apply Kd.R_drew)); exact HO206.out))) (Kd.R_lt (by (with_reducible repeat (first | apply Kd.R_alloc | apply Kd.R_drewN | apply Kd.R_drew)); exact HO212.out))) (below_size (by repeat (first | (with_reducible first | exact HB.out | apply below_alloc | apply pw_below_drewN | apply below_drew1) | exact HB.out)))); have n7_ := Aside0.mk (Kd.R_lower (Kd.R_new' (Kd.R_new' ho1 (Kd.R_lt (by (with_reducible repeat (first | apply Kd.R_alloc | apply Kd.R_drewN | apply Kd.R_drew)); exact HO208.out))) (Kd.R_lt (by (with_reducible repeat (first | apply Kd.R_alloc | apply Kd.R_drewN | apply Kd.R_drew)); exact HO214.out))) (below_size (by repeat (first | (with_reducible first | exact HB.out | apply below_alloc | apply pw_below_drewN | apply below_drew1) | exact HB.out)))); have n8_ := Aside0.mk (below_step (by repeat (first | (with_reducible first | exact HB.out | apply below_alloc | apply pw_below_drewN | apply below_drew1) | exact HB.out)) hb); clear HO_5; clear HO_7; clear HO206; clear HO208; clear HO212; clear HO214; clear HB; have HO_5 := n0_; have HO_7 := n1_; have HO206 := n2_; have HO208 := n3_; have HO212 := n4_; have HO214 := n5_; have HO218 := n6_; have HO220 := n7_; have HB := n8_; clear n0_ n1_ n2_ n3_ n4_ n5_ n6_ n7_ n8_; (try clear hb); (try clear hb2); (try clear hk); (try clear hi); (try clear ho0); (try clear ho1))))
          (try simp only [Act.put, List.setIfInBounds_toArray, List.set_cons_zero, List.set_cons_succ])
          go_cut [129] (fun v129 wc => ∃ (kq : Nat) (x129_30 : Bool), v129 = .bool x129_30 ∧ Aside0 (laws_FnVtTokensJoin.j2 kq t203 t204 t209 t210 t215 t216 x129_30 = some r) ∧ Aside0 (kq ≤ kj8) ∧ Aside0 (Kd.R (Kd.int .i64) 3 wc w.heap.size (fun k_ => some k_ ≠ (v211 : Value).ownBlock ∧ some k_ ≠ (v217 : Value).ownBlock) v205 t203) ∧ Aside0 (Kd.R Kd.string 9 wc w.heap.size (fun k_ => some k_ ≠ (v213 : Value).ownBlock ∧ some k_ ≠ (v219 : Value).ownBlock) v207 t204) ∧ Aside0 (Kd.R (Kd.int .i64) 3 wc w.heap.size (fun k_ => some k_ ≠ (v205 : Value).ownBlock ∧ some k_ ≠ (v217 : Value).ownBlock) v211 t209) ∧ Aside0 (Kd.R Kd.string 9 wc w.heap.size (fun k_ => some k_ ≠ (v207 : Value).ownBlock ∧ some k_ ≠ (v219 : Value).ownBlock) v213 t210) ∧ Aside0 (Kd.R (Kd.int .i64) 3 wc w.heap.size (fun k_ => some k_ ≠ (v205 : Value).ownBlock ∧ some k_ ≠ (v211 : Value).ownBlock) v217 t215) ∧ Aside0 (Kd.R Kd.string 9 wc w.heap.size (fun k_ => some k_ ≠ (v207 : Value).ownBlock ∧ some k_ ≠ (v213 : Value).ownBlock) v219 t216) ∧ Aside0 (Below w.heap.size w wc))
          case first => as_aux_lemma =>
           have H := HC31.out
           clear HC31
           by_cases c35 : (t203.length : Int) = (t192.length : Int)
           ·rw [if_pos c35] at H
            have c35b0 : ((t203.length : Int) == (t192.length : Int)) = true := beq_iff_eq.mpr c35
            have c35b1 : ((t203.length : Int) != (t192.length : Int)) = false := bne_eq_false_iff_eq.mpr c35
            have c35b2 : (t203.length == t192.length) = true := by first | simpa using c35 | (simp at c35 ⊢; omega)
            clear c35
            (first | rw [c35b0] | (simp only [i64_w, i32_w]; rw [c35b0]) | skip)
            by_cases c36 : (t204.length : Int) = (t192.length : Int)
            ·rw [if_pos c36] at H
             have c36b0 : ((t204.length : Int) == (t192.length : Int)) = true := beq_iff_eq.mpr c36
             have c36b1 : ((t204.length : Int) != (t192.length : Int)) = false := bne_eq_false_iff_eq.mpr c36
             have c36b2 : (t204.length == t192.length) = true := by first | simpa using c36 | (simp at c36 ⊢; omega)
             clear c36
             by_cases c37 : (t209.length : Int) = (t196.length : Int)
             ·rw [if_pos c37] at H
              have c37b0 : ((t209.length : Int) == (t196.length : Int)) = true := beq_iff_eq.mpr c37
              have c37b1 : ((t209.length : Int) != (t196.length : Int)) = false := bne_eq_false_iff_eq.mpr c37
              have c37b2 : (t209.length == t196.length) = true := by first | simpa using c37 | (simp at c37 ⊢; omega)
              clear c37
              by_cases c38 : (t210.length : Int) = (t196.length : Int)
              ·rw [if_pos c38] at H
               have c38b0 : ((t210.length : Int) == (t196.length : Int)) = true := beq_iff_eq.mpr c38
               have c38b1 : ((t210.length : Int) != (t196.length : Int)) = false := bne_eq_false_iff_eq.mpr c38
               have c38b2 : (t210.length == t196.length) = true := by first | simpa using c38 | (simp at c38 ⊢; omega)
               clear c38
               by_cases c39 : (t215.length : Int) = (wrap64 ((wrap64 ((t203.length : Int) - 1)) + (t209.length : Int)))
               ·rw [if_pos c39] at H
                have c39b0 : ((t215.length : Int) == (wrap64 ((wrap64 ((t203.length : Int) - 1)) + (t209.length : Int)))) = true := beq_iff_eq.mpr c39
                have c39b1 : ((t215.length : Int) != (wrap64 ((wrap64 ((t203.length : Int) - 1)) + (t209.length : Int)))) = false := bne_eq_false_iff_eq.mpr c39
                clear c39
                have H' := Aside0.mk H
                clear H
                obtain ⟨Ao40, co40, eo40⟩ := Kd.R_slice HO206.out
                subst eo40
                obtain ⟨Ao41, co41, eo41⟩ := Kd.R_slice HO_5.out
                subst eo41
                obtain ⟨Ao42, co42, eo42⟩ := Kd.R_slice HO208.out
                subst eo42
                obtain ⟨Ao43, co43, eo43⟩ := Kd.R_slice HO212.out
                subst eo43
                obtain ⟨Ao44, co44, eo44⟩ := Kd.R_slice HO_7.out
                subst eo44
                obtain ⟨Ao45, co45, eo45⟩ := Kd.R_slice HO214.out
                subst eo45
                obtain ⟨Ao46, co46, eo46⟩ := Kd.R_slice HO218.out
                subst eo46
                obtain ⟨Ao47, co47, eo47⟩ := Kd.R_slice HO220.out
                subst eo47
                go_wp2
                repeat (go_quiet (fail); try go_wp2)
                go_meet
                case rel => exact ⟨_, (((t216.length : Int) != (t215.length : Int))), (by first | rfl | (simp; done) | (simp [*]; done)), H', ⟨by have := HJ2.out; have := HJ8.out; first | omega | exact Nat.le_refl _⟩, ⟨by (with_reducible repeat (first | apply Kd.R_alloc | apply Kd.R_drewN | apply Kd.R_drew)); exact Kd.R_mono HO206.out (fun _ hk => ⟨hk.1.2, hk.2⟩)⟩, ⟨by (with_reducible repeat (first | apply Kd.R_alloc | apply Kd.R_drewN | apply Kd.R_drew)); exact Kd.R_mono HO208.out (fun _ hk => ⟨hk.1.2, hk.2⟩)⟩, ⟨by (with_reducible repeat (first | apply Kd.R_alloc | apply Kd.R_drewN | apply Kd.R_drew)); exact Kd.R_mono HO212.out (fun _ hk => ⟨hk.1.2, hk.2⟩)⟩, ⟨by (with_reducible repeat (first | apply Kd.R_alloc | apply Kd.R_drewN | apply Kd.R_drew)); exact Kd.R_mono HO214.out (fun _ hk => ⟨hk.1.2, hk.2⟩)⟩, ⟨by (with_reducible repeat (first | apply Kd.R_alloc | apply Kd.R_drewN | apply Kd.R_drew)); exact Kd.R_mono HO218.out (fun _ hk => ⟨hk.1.2, hk.2⟩)⟩, ⟨by (with_reducible repeat (first | apply Kd.R_alloc | apply Kd.R_drewN | apply Kd.R_drew)); exact Kd.R_mono HO220.out (fun _ hk => ⟨hk.1.2, hk.2⟩)⟩, ⟨by repeat (first | (with_reducible first | exact HB.out | apply below_alloc | apply pw_below_drewN | apply below_drew1) | exact HB.out)⟩⟩
               ·rw [if_neg c39] at H
                have c39b0 : ((t215.length : Int) == (wrap64 ((wrap64 ((t203.length : Int) - 1)) + (t209.length : Int)))) = false := beq_eq_false_iff_ne.mpr c39
                have c39b1 : ((t215.length : Int) != (wrap64 ((wrap64 ((t203.length : Int) - 1)) + (t209.length : Int)))) = true := bne_iff_ne.mpr c39
                have H' := Aside0.mk H
                clear H
                obtain ⟨Ao48, co48, eo48⟩ := Kd.R_slice HO206.out
                subst eo48
                obtain ⟨Ao49, co49, eo49⟩ := Kd.R_slice HO_5.out
                subst eo49
                obtain ⟨Ao50, co50, eo50⟩ := Kd.R_slice HO208.out
                subst eo50
                obtain ⟨Ao51, co51, eo51⟩ := Kd.R_slice HO212.out
                subst eo51
                obtain ⟨Ao52, co52, eo52⟩ := Kd.R_slice HO_7.out
                subst eo52
                obtain ⟨Ao53, co53, eo53⟩ := Kd.R_slice HO214.out
                subst eo53
                obtain ⟨Ao54, co54, eo54⟩ := Kd.R_slice HO218.out
                subst eo54
                go_wp2
                repeat (go_quiet (fail); try go_wp2)
                go_meet
                case rel => exact ⟨_, (true), (by first | rfl | (simp; done) | (simp [*]; done)), H', ⟨by have := HJ2.out; have := HJ8.out; first | omega | exact Nat.le_refl _⟩, ⟨by (with_reducible repeat (first | apply Kd.R_alloc | apply Kd.R_drewN | apply Kd.R_drew)); exact Kd.R_mono HO206.out (fun _ hk => ⟨hk.1.2, hk.2⟩)⟩, ⟨by (with_reducible repeat (first | apply Kd.R_alloc | apply Kd.R_drewN | apply Kd.R_drew)); exact Kd.R_mono HO208.out (fun _ hk => ⟨hk.1.2, hk.2⟩)⟩, ⟨by (with_reducible repeat (first | apply Kd.R_alloc | apply Kd.R_drewN | apply Kd.R_drew)); exact Kd.R_mono HO212.out (fun _ hk => ⟨hk.1.2, hk.2⟩)⟩, ⟨by (with_reducible repeat (first | apply Kd.R_alloc | apply Kd.R_drewN | apply Kd.R_drew)); exact Kd.R_mono HO214.out (fun _ hk => ⟨hk.1.2, hk.2⟩)⟩, ⟨by (with_reducible repeat (first | apply Kd.R_alloc | apply Kd.R_drewN | apply Kd.R_drew)); exact Kd.R_mono HO218.out (fun _ hk => ⟨hk.1.2, hk.2⟩)⟩, ⟨by (with_reducible repeat (first | apply Kd.R_alloc | apply Kd.R_drewN | apply Kd.R_drew)); exact Kd.R_mono HO220.out (fun _ hk => ⟨hk.1.2, hk.2⟩)⟩, ⟨by repeat (first | (with_reducible first | exact HB.out | apply below_alloc | apply pw_below_drewN | apply below_drew1) | exact HB.out)⟩⟩
              ·rw [if_neg c38] at H
               have c38b0 : ((t210.length : Int) == (t196.length : Int)) = false := beq_eq_false_iff_ne.mpr c38
               have c38b1 : ((t210.length : Int) != (t196.length : Int)) = true := bne_iff_ne.mpr c38
               have c38b2 : (t210.length == t196.length) = false := by first | simpa using c38 | (simp at c38 ⊢; omega)
               have H' := Aside0.mk H
               clear H
               obtain ⟨Ao55, co55, eo55⟩ := Kd.R_slice HO206.out
               subst eo55
               obtain ⟨Ao56, co56, eo56⟩ := Kd.R_slice HO_5.out
               subst eo56
               obtain ⟨Ao57, co57, eo57⟩ := Kd.R_slice HO208.out
               subst eo57
               obtain ⟨Ao58, co58, eo58⟩ := Kd.R_slice HO212.out
               subst eo58
               obtain ⟨Ao59, co59, eo59⟩ := Kd.R_slice HO_7.out
               subst eo59
               obtain ⟨Ao60, co60, eo60⟩ := Kd.R_slice HO214.out
               subst eo60
               go_wp2
               repeat (go_quiet (fail); try go_wp2)
               go_meet
               case rel => exact ⟨_, (true), (by first | rfl | (simp; done) | (simp [*]; done)), H', ⟨by have := HJ2.out; have := HJ8.out; first | omega | exact Nat.le_refl _⟩, ⟨by (with_reducible repeat (first | apply Kd.R_alloc | apply Kd.R_drewN | apply Kd.R_drew)); exact Kd.R_mono HO206.out (fun _ hk => ⟨hk.1.2, hk.2⟩)⟩, ⟨by (with_reducible repeat (first | apply Kd.R_alloc | apply Kd.R_drewN | apply Kd.R_drew)); exact Kd.R_mono HO208.out (fun _ hk => ⟨hk.1.2, hk.2⟩)⟩, ⟨by (with_reducible repeat (first | apply Kd.R_alloc | apply Kd.R_drewN | apply Kd.R_drew)); exact Kd.R_mono HO212.out (fun _ hk => ⟨hk.1.2, hk.2⟩)⟩, ⟨by (with_reducible repeat (first | apply Kd.R_alloc | apply Kd.R_drewN | apply Kd.R_drew)); exact Kd.R_mono HO214.out (fun _ hk => ⟨hk.1.2, hk.2⟩)⟩, ⟨by (with_reducible repeat (first | apply Kd.R_alloc | apply Kd.R_drewN | apply Kd.R_drew)); exact Kd.R_mono HO218.out (fun _ hk => ⟨hk.1.2, hk.2⟩)⟩, ⟨by (with_reducible repeat (first | apply Kd.R_alloc | apply Kd.R_drewN | apply Kd.R_drew)); exact Kd.R_mono HO220.out (fun _ hk => ⟨hk.1.2, hk.2⟩)⟩, ⟨by repeat (first | (with_reducible first | exact HB.out | apply below_alloc | apply pw_below_drewN | apply below_drew1) | exact HB.out)⟩⟩
             ·rw [if_neg c37] at H
              have c37b0 : ((t209.length : Int) == (t196.length : Int)) = false := beq_eq_false_iff_ne.mpr c37
              have c37b1 : ((t209.length : Int) != (t196.length : Int)) = true := bne_iff_ne.mpr c37
              have c37b2 : (t209.length == t196.length) = false := by first | simpa using c37 | (simp at c37 ⊢; omega)
              have H' := Aside0.mk H
              clear H
              obtain ⟨Ao61, co61, eo61⟩ := Kd.R_slice HO206.out
              subst eo61
              obtain ⟨Ao62, co62, eo62⟩ := Kd.R_slice HO_5.out
              subst eo62
              obtain ⟨Ao63, co63, eo63⟩ := Kd.R_slice HO208.out
              subst eo63
              obtain ⟨Ao64, co64, eo64⟩ := Kd.R_slice HO212.out
              subst eo64
              obtain ⟨Ao65, co65, eo65⟩ := Kd.R_slice HO_7.out
              subst eo65
              go_wp2
              repeat (go_quiet (fail); try go_wp2)
              go_meet
              case rel => exact ⟨_, (true), (by first | rfl | (simp; done) | (simp [*]; done)), H', ⟨by have := HJ2.out; have := HJ8.out; first | omega | exact Nat.le_refl _⟩, ⟨by (with_reducible repeat (first | apply Kd.R_alloc | apply Kd.R_drewN | apply Kd.R_drew)); exact Kd.R_mono HO206.out (fun _ hk => ⟨hk.1.2, hk.2⟩)⟩, ⟨by (with_reducible repeat (first | apply Kd.R_alloc | apply Kd.R_drewN | apply Kd.R_drew)); exact Kd.R_mono HO208.out (fun _ hk => ⟨hk.1.2, hk.2⟩)⟩, ⟨by (with_reducible repeat (first | apply Kd.R_alloc | apply Kd.R_drewN | apply Kd.R_drew)); exact Kd.R_mono HO212.out (fun _ hk => ⟨hk.1.2, hk.2⟩)⟩, ⟨by (with_reducible repeat (first | apply Kd.R_alloc | apply Kd.R_drewN | apply Kd.R_drew)); exact Kd.R_mono HO214.out (fun _ hk => ⟨hk.1.2, hk.2⟩)⟩, ⟨by (with_reducible repeat (first | apply Kd.R_alloc | apply Kd.R_drewN | apply Kd.R_drew)); exact Kd.R_mono HO218.out (fun _ hk => ⟨hk.1.2, hk.2⟩)⟩, ⟨by (with_reducible repeat (first | apply Kd.R_alloc | apply Kd.R_drewN | apply Kd.R_drew)); exact Kd.R_mono HO220.out (fun _ hk => ⟨hk.1.2, hk.2⟩)⟩, ⟨by repeat (first | (with_reducible first | exact HB.out | apply below_alloc | apply pw_below_drewN | apply below_drew1) | exact HB.out)⟩⟩
            ·rw [if_neg c36] at H
             have c36b0 : ((t204.length : Int) == (t192.length : Int)) = false := beq_eq_false_iff_ne.mpr c36
             have c36b1 : ((t204.length : Int) != (t192.length : Int)) = true := bne_iff_ne.mpr c36
             have c36b2 : (t204.length == t192.length) = false := by first | simpa using c36 | (simp at c36 ⊢; omega)
             have H' := Aside0.mk H
             clear H
             obtain ⟨Ao66, co66, eo66⟩ := Kd.R_slice HO206.out
             subst eo66
             obtain ⟨Ao67, co67, eo67⟩ := Kd.R_slice HO_5.out
             subst eo67
             obtain ⟨Ao68, co68, eo68⟩ := Kd.R_slice HO208.out
             subst eo68
             go_wp2
             repeat (go_quiet (fail); try go_wp2)
             go_meet
             case rel => exact ⟨_, (true), (by first | rfl | (simp; done) | (simp [*]; done)), H', ⟨by have := HJ2.out; have := HJ8.out; first | omega | exact Nat.le_refl _⟩, ⟨by (with_reducible repeat (first | apply Kd.R_alloc | apply Kd.R_drewN | apply Kd.R_drew)); exact Kd.R_mono HO206.out (fun _ hk => ⟨hk.1.2, hk.2⟩)⟩, ⟨by (with_reducible repeat (first | apply Kd.R_alloc | apply Kd.R_drewN | apply Kd.R_drew)); exact Kd.R_mono HO208.out (fun _ hk => ⟨hk.1.2, hk.2⟩)⟩, ⟨by (with_reducible repeat (first | apply Kd.R_alloc | apply Kd.R_drewN | apply Kd.R_drew)); exact Kd.R_mono HO212.out (fun _ hk => ⟨hk.1.2, hk.2⟩)⟩, ⟨by (with_reducible repeat (first | apply Kd.R_alloc | apply Kd.R_drewN | apply Kd.R_drew)); exact Kd.R_mono HO214.out (fun _ hk => ⟨hk.1.2, hk.2⟩)⟩, ⟨by (with_reducible repeat (first | apply Kd.R_alloc | apply Kd.R_drewN | apply Kd.R_drew)); exact Kd.R_mono HO218.out (fun _ hk => ⟨hk.1.2, hk.2⟩)⟩, ⟨by (with_reducible repeat (first | apply Kd.R_alloc | apply Kd.R_drewN | apply Kd.R_drew)); exact Kd.R_mono HO220.out (fun _ hk => ⟨hk.1.2, hk.2⟩)⟩, ⟨by repeat (first | (with_reducible first | exact HB.out | apply below_alloc | apply pw_below_drewN | apply below_drew1) | exact HB.out)⟩⟩
           ·rw [if_neg c35] at H
            have c35b0 : ((t203.length : Int) == (t192.length : Int)) = false := beq_eq_false_iff_ne.mpr c35
            have c35b1 : ((t203.length : Int) != (t192.length : Int)) = true := bne_iff_ne.mpr c35
            have c35b2 : (t203.length == t192.length) = false := by first | simpa using c35 | (simp at c35 ⊢; omega)
            (first | rw [c35b0] | (simp only [i64_w, i32_w]; rw [c35b0]) | skip)
            have H' := Aside0.mk H
            clear H
            obtain ⟨Ao69, co69, eo69⟩ := Kd.R_slice HO206.out
            subst eo69
            obtain ⟨Ao70, co70, eo70⟩ := Kd.R_slice HO_5.out
            subst eo70
            go_wp2
            repeat (go_quiet (fail); try go_wp2)
            go_meet
            case rel => exact ⟨_, (true), (by first | rfl | (simp; done) | (simp [*]; done)), H', ⟨by have := HJ2.out; have := HJ8.out; first | omega | exact Nat.le_refl _⟩, ⟨by (with_reducible repeat (first | apply Kd.R_alloc | apply Kd.R_drewN | apply Kd.R_drew)); exact Kd.R_mono HO206.out (fun _ hk => ⟨hk.1.2, hk.2⟩)⟩, ⟨by (with_reducible repeat (first | apply Kd.R_alloc | apply Kd.R_drewN | apply Kd.R_drew)); exact Kd.R_mono HO208.out (fun _ hk => ⟨hk.1.2, hk.2⟩)⟩, ⟨by (with_reducible repeat (first | apply Kd.R_alloc | apply Kd.R_drewN | apply Kd.R_drew)); exact Kd.R_mono HO212.out (fun _ hk => ⟨hk.1.2, hk.2⟩)⟩, ⟨by (with_reducible repeat (first | apply Kd.R_alloc | apply Kd.R_drewN | apply Kd.R_drew)); exact Kd.R_mono HO214.out (fun _ hk => ⟨hk.1.2, hk.2⟩)⟩, ⟨by (with_reducible repeat (first | apply Kd.R_alloc | apply Kd.R_drewN | apply Kd.R_drew)); exact Kd.R_mono HO218.out (fun _ hk => ⟨hk.1.2, hk.2⟩)⟩, ⟨by (with_reducible repeat (first | apply Kd.R_alloc | apply Kd.R_drewN | apply Kd.R_drew)); exact Kd.R_mono HO220.out (fun _ hk => ⟨hk.1.2, hk.2⟩)⟩, ⟨by repeat (first | (with_reducible first | exact HB.out | apply below_alloc | apply pw_below_drewN | apply below_drew1) | exact HB.out)⟩⟩
          case rest => as_aux_lemma =>
           clear HC31
           try clear c1
           try clear c2
           try clear p2
           try clear q2
           try clear hx2
           try clear c3
           try clear c4
           try clear c4b0
           try clear c4b1
           try clear c5
           try clear c6
           try clear c6b0
           try clear p6
           try clear c12
           try clear c13
           try clear c15
           try clear c15b0
           try clear c16
           try clear c16b0
           try clear c17
           try clear c17b0
           try clear c17b1
           try clear c20
           try clear p20
           try clear q20
           try clear hx20
           try clear c25
           try clear c28
           try clear c28b0
           try clear c28b1
           try clear c28b2
           try clear c29
           try clear c29b0
           try clear c29b1
           try clear c29b2
           try clear c35
           try clear c35b0
           try clear c35b1
           try clear c35b2
           try clear c36
           try clear c36b0
           try clear c36b1
           try clear c36b2
           try clear c37
           try clear c37b0
           try clear c37b1
           try clear c37b2
           try clear c38
           try clear c38b0
           try clear c38b1
           try clear c38b2
           try clear c39
           try clear c39b0
           try clear c39b1
           try clear p64
           try clear hx200_0
           try clear hx200_1
           try clear p2
           try clear p20
           try clear p200
           try clear p6
           try clear q2
           try clear q20
           try clear q200
           obtain ⟨kq, x129_30, rfl, HA, HJ30, HO_9, HO_10, HO_11, HO_12, HO_13, HO_14, HB⟩ := hcut
           cases kq with
           | zero => exact absurd HA.out (by simp [laws_FnVtTokensJoin.j2])
           | succ kj30 =>
            have H := HA.out
            clear HA
            simp only [laws_FnVtTokensJoin.j2] at H
            by_cases c71 : x129_30 = true
            ·subst c71
             have H1 : (some false) = some r := by rw [if_pos rfl] at H; exact H
             clear H
             have H := H1
             clear H1
             obtain rfl := Option.some.inj H
             go_wp2
             repeat (go_quiet (fail); try go_wp2)
             go_ret
             exact ⟨by first | rfl | (simp [errW_none, errW_some] <;> rfl) | (simp [*, errW_none, errW_some] <;> rfl) | (simp (disch := omega) only [wrap64_id] <;> rfl), by repeat (first | (with_reducible first | exact HB.out | apply below_alloc | apply pw_below_drewN | apply below_drew1) | exact HB.out)⟩
            ·replace c71 := Bool.eq_false_iff.mpr c71
             subst c71
             have H1 : (laws_FnVtTokensJoin.l0 kj30 t203 t204 t209 t210 t215 t216 (t215.length : Int) 0) = some r := by rw [if_neg (show ¬ (false = true) by decide)] at H; exact H
             clear H
             have H := H1
             clear H1
             have H' := Aside0.mk H
             clear H
             obtain ⟨Ao72, co72, eo72⟩ := Kd.R_slice HO_13.out
             subst eo72
             go_wp2
             repeat (go_quiet (fail); try go_wp2)
             go_loopg [132] kj30 (fun kq v132 w' => ∃ (x132_4 : Int), v132 = .int .i64 x132_4 ∧ Aside0 (laws_FnVtTokensJoin.l0 kq t203 t204 t209 t210 t215 t216 (t215.length : Int) x132_4 = some r) ∧ Aside0 (kq ≤ kj30) ∧ Aside0 (Kd.R (Kd.int .i64) 3 w' w.heap.size (fun k_ => some k_ ≠ (v211 : Value).ownBlock ∧ some k_ ≠ ((.slice Ao72 t215.length co72) : Value).ownBlock) v205 t203) ∧ Aside0 (Kd.R Kd.string 9 w' w.heap.size (fun k_ => some k_ ≠ (v213 : Value).ownBlock ∧ some k_ ≠ (v219 : Value).ownBlock) v207 t204) ∧ Aside0 (Kd.R (Kd.int .i64) 3 w' w.heap.size (fun k_ => some k_ ≠ (v205 : Value).ownBlock ∧ some k_ ≠ ((.slice Ao72 t215.length co72) : Value).ownBlock) v211 t209) ∧ Aside0 (Kd.R Kd.string 9 w' w.heap.size (fun k_ => some k_ ≠ (v207 : Value).ownBlock ∧ some k_ ≠ (v219 : Value).ownBlock) v213 t210) ∧ Aside0 (Kd.R (Kd.int .i64) 3 w' w.heap.size (fun k_ => some k_ ≠ (v205 : Value).ownBlock ∧ some k_ ≠ (v211 : Value).ownBlock) (.slice Ao72 t215.length co72) t215) ∧ Aside0 (Kd.R Kd.string 9 w' w.heap.size (fun k_ => some k_ ≠ (v207 : Value).ownBlock ∧ some k_ ≠ (v213 : Value).ownBlock) v219 t216) ∧ Aside0 (Below w.heap.size w w'))
             case atStart => exact ⟨(0), (by first | rfl | (simp; done) | (simp [*]; done)), H', ⟨Nat.le_refl _⟩, ⟨by (with_reducible repeat (first | apply Kd.R_alloc | apply Kd.R_drewN | apply Kd.R_drew)); exact HO_9.out⟩, ⟨by (with_reducible repeat (first | apply Kd.R_alloc | apply Kd.R_drewN | apply Kd.R_drew)); exact HO_10.out⟩, ⟨by (with_reducible repeat (first | apply Kd.R_alloc | apply Kd.R_drewN | apply Kd.R_drew)); exact HO_11.out⟩, ⟨by (with_reducible repeat (first | apply Kd.R_alloc | apply Kd.R_drewN | apply Kd.R_drew)); exact HO_12.out⟩, ⟨by (with_reducible repeat (first | apply Kd.R_alloc | apply Kd.R_drewN | apply Kd.R_drew)); exact HO_13.out⟩, ⟨by (with_reducible repeat (first | apply Kd.R_alloc | apply Kd.R_drewN | apply Kd.R_drew)); exact HO_14.out⟩, ⟨by repeat (first | (with_reducible first | exact HB.out | apply below_alloc | apply pw_below_drewN | apply below_drew1) | exact HB.out)⟩⟩
             case round => as_aux_lemma =>
              clear H'
              try clear c1
              try clear c2
              try clear p2
              try clear q2
              try clear hx2
              try clear c3
              try clear c4
              try clear c4b0
              try clear c4b1
              try clear c5
              try clear c6
              try clear c6b0
              try clear p6
              try clear c7
              try clear c12
              try clear c13
              try clear c15
              try clear c15b0
              try clear c16
              try clear c16b0
              try clear c17
              try clear c17b0
              try clear c17b1
              try clear c20
              try clear p20
              try clear q20
              try clear hx20
              try clear c25
              try clear c28
              try clear c28b0
              try clear c28b1
              try clear c28b2
              try clear c29
              try clear c29b0
              try clear c29b1
              try clear c29b2
              try clear c35
              try clear c35b0
              try clear c35b1
              try clear c35b2
              try clear c36
              try clear c36b0
              try clear c36b1
              try clear c36b2
              try clear c37
              try clear c37b0
              try clear c37b1
              try clear c37b2
              try clear c38
              try clear c38b0
              try clear c38b1
              try clear c38b2
              try clear c39
              try clear c39b0
              try clear c39b1
              try clear p64
              try clear c71
              try clear hx200_0
              try clear hx200_1
              try clear p2
              try clear p20
              try clear p200
              try clear p6
              try clear p64
              try clear q2
              try clear q20
              try clear q200
              obtain ⟨x132_4, rfl, HA, HK4, HO_9, HO_10, HO_11, HO_12, HO_13, HO_14, HB⟩ := hrel
              cases gk with
              | zero => exact absurd HA.out (by simp [laws_FnVtTokensJoin.l0])
              | succ k4 =>
               have H := HA.out
               clear HA
               simp only [laws_FnVtTokensJoin.l0] at H
               by_cases c73 : x132_4 < (t215.length : Int)
               ·rw [if_pos c73] at H
                have c73b0 : decide (x132_4 < (t215.length : Int)) = true := decide_eq_true c73
                clear c73
                by_cases c74 : x132_4 < (wrap64 ((t203.length : Int) - 1))
                ·rw [if_pos c74] at H
                 have c74b0 : decide (x132_4 < (wrap64 ((t203.length : Int) - 1))) = true := decide_eq_true c74
                 clear c74
                 by_cases c75 : 0 ≤ x132_4
                 ·rw [if_pos c75] at H
                  have c75b0 : decide (0 ≤ x132_4) = true := decide_eq_true c75
                  clear c75
                  by_cases c76 : x132_4 < (t203.length : Int)
                  ·rw [if_pos c76] at H
                   have c76b0 : decide (x132_4 < (t203.length : Int)) = true := decide_eq_true c76
                   clear c76
                   by_cases c77 : x132_4 < (t204.length : Int)
                   ·rw [if_pos c77] at H
                    have c77b0 : decide (x132_4 < (t204.length : Int)) = true := decide_eq_true c77
                    clear c77
                    by_cases c78 : x132_4 < (t215.length : Int)
                    ·rw [if_pos c78] at H
                     have c78b0 : decide (x132_4 < (t215.length : Int)) = true := decide_eq_true c78
                     clear c78
                     by_cases c79 : (rd t215 x132_4) = (rd t203 x132_4)
                     ·rw [if_pos c79] at H
                      have c79b0 : ((rd t215 x132_4) == (rd t203 x132_4)) = true := beq_iff_eq.mpr c79
                      have c79b1 : ((rd t215 x132_4) != (rd t203 x132_4)) = false := bne_eq_false_iff_eq.mpr c79
                      clear c79
                      by_cases c80 : (rd t203 x132_4) = 1
                      ·rw [if_pos c80] at H
                       have c80b0 : ((rd t203 x132_4) == 1) = true := beq_iff_eq.mpr c80
                       have c80b1 : ((rd t203 x132_4) != 1) = false := bne_eq_false_iff_eq.mpr c80
                       clear c80
                       have H' := Aside0.mk H
                       clear H
                       obtain ⟨Ao81, co81, eo81⟩ := Kd.R_slice HO_9.out
                       subst eo81
                       have p221 : 0 ≤ (x132_4 : Int) := of_decide_eq_true (by first | (with_reducible assumption) | assumption)
                       have q221 : x132_4 < (t203.length : Int) := of_decide_eq_true (by first | (with_reducible assumption) | assumption)
                       obtain ⟨ad221, e221, hx221_0⟩ := Kd.at_int (Kd.R_reads' HO_9.out).2.2 x132_4 p221 q221
                       cases e221
                       replace p221 := eq_true p221
                       replace q221 := eq_true q221
                       obtain ⟨Ao82, co82, eo82⟩ := Kd.R_slice HO_10.out
                       subst eo82
                       have p222 : 0 ≤ (x132_4 : Int) := of_decide_eq_true (by first | (with_reducible assumption) | assumption)
                       have q222 : x132_4 < (t204.length : Int) := of_decide_eq_true (by first | (with_reducible assumption) | assumption)
                       obtain ⟨ad222, e222, hx222_0⟩ := Kd.at_string (Kd.R_reads' HO_10.out).2.2 x132_4 p222 q222
                       cases e222
                       replace p222 := eq_true p222
                       replace q222 := eq_true q222
                       have p223 : 0 ≤ (x132_4 : Int) := of_decide_eq_true (by first | (with_reducible assumption) | assumption)
                       have q223 : x132_4 < (t215.length : Int) := of_decide_eq_true (by first | (with_reducible assumption) | assumption)
                       obtain ⟨ad223, e223, hx223_0⟩ := Kd.at_int (Kd.R_reads' HO_13.out).2.2 x132_4 p223 q223
                       cases e223
                       replace p223 := eq_true p223
                       replace q223 := eq_true q223
                       go_wp2
                       repeat (go_quiet (fail); try go_wp2)
                       go_roundg k4
                       case measure => have := HJ2.out; have := HJ8.out; have := HJ30.out; have := HK4.out; omega
                       case rel => exact ⟨(wrap64 (x132_4 + 1)), (by first | rfl | (simp; done) | (simp [*]; done)), H', ⟨by have := HJ2.out; have := HJ8.out; have := HJ30.out; have := HK4.out; omega⟩, ⟨by (with_reducible repeat (first | apply Kd.R_alloc | apply Kd.R_drewN | apply Kd.R_drew)); exact HO_9.out⟩, ⟨by (with_reducible repeat (first | apply Kd.R_alloc | apply Kd.R_drewN | apply Kd.R_drew)); exact HO_10.out⟩, ⟨by (with_reducible repeat (first | apply Kd.R_alloc | apply Kd.R_drewN | apply Kd.R_drew)); exact HO_11.out⟩, ⟨by (with_reducible repeat (first | apply Kd.R_alloc | apply Kd.R_drewN | apply Kd.R_drew)); exact HO_12.out⟩, ⟨by (with_reducible repeat (first | apply Kd.R_alloc | apply Kd.R_drewN | apply Kd.R_drew)); exact HO_13.out⟩, ⟨by (with_reducible repeat (first | apply Kd.R_alloc | apply Kd.R_drewN | apply Kd.R_drew)); exact HO_14.out⟩, ⟨by repeat (first | (with_reducible first | exact HB.out | apply below_alloc | apply pw_below_drewN | apply below_drew1) | exact HB.out)⟩⟩
                      ·rw [if_neg c80] at H
                       have c80b0 : ((rd t203 x132_4) == 1) = false := beq_eq_false_iff_ne.mpr c80
                       have c80b1 : ((rd t203 x132_4) != 1) = true := bne_iff_ne.mpr c80
                       by_cases c83 : x132_4 < (t216.length : Int)
                       ·rw [if_pos c83] at H
                        have c83b0 : decide (x132_4 < (t216.length : Int)) = true := decide_eq_true c83
                        clear c83
                        by_cases c84 : (rdOf ByteArray.empty t216 x132_4).toList = (rdOf ByteArray.empty t204 x132_4).toList
                        ·rw [if_pos c84] at H
                         have c84b0 : ((rdOf ByteArray.empty t216 x132_4).toList == (rdOf ByteArray.empty t204 x132_4).toList) = true := beq_iff_eq.mpr c84
                         have c84b1 : ((rdOf ByteArray.empty t216 x132_4).toList != (rdOf ByteArray.empty t204 x132_4).toList) = false := bne_eq_false_iff_eq.mpr c84
                         clear c84
                         have H' := Aside0.mk H
                         clear H
                         obtain ⟨Ao85, co85, eo85⟩ := Kd.R_slice HO_9.out
                         subst eo85
                         have p221 : 0 ≤ (x132_4 : Int) := of_decide_eq_true (by first | (with_reducible assumption) | assumption)
                         have q221 : x132_4 < (t203.length : Int) := of_decide_eq_true (by first | (with_reducible assumption) | assumption)
                         obtain ⟨ad221, e221, hx221_0⟩ := Kd.at_int (Kd.R_reads' HO_9.out).2.2 x132_4 p221 q221
                         cases e221
                         replace p221 := eq_true p221
                         replace q221 := eq_true q221
                         obtain ⟨Ao86, co86, eo86⟩ := Kd.R_slice HO_10.out
                         subst eo86
                         have p222 : 0 ≤ (x132_4 : Int) := of_decide_eq_true (by first | (with_reducible assumption) | assumption)
                         have q222 : x132_4 < (t204.length : Int) := of_decide_eq_true (by first | (with_reducible assumption) | assumption)
                         obtain ⟨ad222, e222, hx222_0⟩ := Kd.at_string (Kd.R_reads' HO_10.out).2.2 x132_4 p222 q222
                         cases e222
                         replace p222 := eq_true p222
                         replace q222 := eq_true q222
                         have p223 : 0 ≤ (x132_4 : Int) := of_decide_eq_true (by first | (with_reducible assumption) | assumption)
                         have q223 : x132_4 < (t215.length : Int) := of_decide_eq_true (by first | (with_reducible assumption) | assumption)
                         obtain ⟨ad223, e223, hx223_0⟩ := Kd.at_int (Kd.R_reads' HO_13.out).2.2 x132_4 p223 q223
                         cases e223
                         replace p223 := eq_true p223
                         replace q223 := eq_true q223
                         obtain ⟨Ao87, co87, eo87⟩ := Kd.R_slice HO_14.out
                         subst eo87
                         have p224 : 0 ≤ (x132_4 : Int) := of_decide_eq_true (by first | (with_reducible assumption) | assumption)
                         have q224 : x132_4 < (t216.length : Int) := of_decide_eq_true (by first | (with_reducible assumption) | assumption)
                         obtain ⟨ad224, e224, hx224_0⟩ := Kd.at_string (Kd.R_reads' HO_14.out).2.2 x132_4 p224 q224
                         cases e224
                         replace p224 := eq_true p224
                         replace q224 := eq_true q224
                         go_wp2
                         repeat (go_quiet (fail); try go_wp2)
                         go_roundg k4
                         case measure => have := HJ2.out; have := HJ8.out; have := HJ30.out; have := HK4.out; omega
                         case rel => exact ⟨(wrap64 (x132_4 + 1)), (by first | rfl | (simp; done) | (simp [*]; done)), H', ⟨by have := HJ2.out; have := HJ8.out; have := HJ30.out; have := HK4.out; omega⟩, ⟨by (with_reducible repeat (first | apply Kd.R_alloc | apply Kd.R_drewN | apply Kd.R_drew)); exact HO_9.out⟩, ⟨by (with_reducible repeat (first | apply Kd.R_alloc | apply Kd.R_drewN | apply Kd.R_drew)); exact HO_10.out⟩, ⟨by (with_reducible repeat (first | apply Kd.R_alloc | apply Kd.R_drewN | apply Kd.R_drew)); exact HO_11.out⟩, ⟨by (with_reducible repeat (first | apply Kd.R_alloc | apply Kd.R_drewN | apply Kd.R_drew)); exact HO_12.out⟩, ⟨by (with_reducible repeat (first | apply Kd.R_alloc | apply Kd.R_drewN | apply Kd.R_drew)); exact HO_13.out⟩, ⟨by (with_reducible repeat (first | apply Kd.R_alloc | apply Kd.R_drewN | apply Kd.R_drew)); exact HO_14.out⟩, ⟨by repeat (first | (with_reducible first | exact HB.out | apply below_alloc | apply pw_below_drewN | apply below_drew1) | exact HB.out)⟩⟩
                        ·rw [if_neg c84] at H
                         have c84b0 : ((rdOf ByteArray.empty t216 x132_4).toList == (rdOf ByteArray.empty t204 x132_4).toList) = false := beq_eq_false_iff_ne.mpr c84
                         have c84b1 : ((rdOf ByteArray.empty t216 x132_4).toList != (rdOf ByteArray.empty t204 x132_4).toList) = true := bne_iff_ne.mpr c84
                         obtain rfl := Option.some.inj H
                         obtain ⟨Ao88, co88, eo88⟩ := Kd.R_slice HO_9.out
                         subst eo88
                         have p221 : 0 ≤ (x132_4 : Int) := of_decide_eq_true (by first | (with_reducible assumption) | assumption)
                         have q221 : x132_4 < (t203.length : Int) := of_decide_eq_true (by first | (with_reducible assumption) | assumption)
                         obtain ⟨ad221, e221, hx221_0⟩ := Kd.at_int (Kd.R_reads' HO_9.out).2.2 x132_4 p221 q221
                         cases e221
                         replace p221 := eq_true p221
                         replace q221 := eq_true q221
                         obtain ⟨Ao89, co89, eo89⟩ := Kd.R_slice HO_10.out
                         subst eo89
                         have p222 : 0 ≤ (x132_4 : Int) := of_decide_eq_true (by first | (with_reducible assumption) | assumption)
                         have q222 : x132_4 < (t204.length : Int) := of_decide_eq_true (by first | (with_reducible assumption) | assumption)
                         obtain ⟨ad222, e222, hx222_0⟩ := Kd.at_string (Kd.R_reads' HO_10.out).2.2 x132_4 p222 q222
                         cases e222
                         replace p222 := eq_true p222
                         replace q222 := eq_true q222
                         have p223 : 0 ≤ (x132_4 : Int) := of_decide_eq_true (by first | (with_reducible assumption) | assumption)
                         have q223 : x132_4 < (t215.length : Int) := of_decide_eq_true (by first | (with_reducible assumption) | assumption)
                         obtain ⟨ad223, e223, hx223_0⟩ := Kd.at_int (Kd.R_reads' HO_13.out).2.2 x132_4 p223 q223
                         cases e223
                         replace p223 := eq_true p223
                         replace q223 := eq_true q223
                         obtain ⟨Ao90, co90, eo90⟩ := Kd.R_slice HO_14.out
                         subst eo90
                         have p224 : 0 ≤ (x132_4 : Int) := of_decide_eq_true (by first | (with_reducible assumption) | assumption)
                         have q224 : x132_4 < (t216.length : Int) := of_decide_eq_true (by first | (with_reducible assumption) | assumption)
                         obtain ⟨ad224, e224, hx224_0⟩ := Kd.at_string (Kd.R_reads' HO_14.out).2.2 x132_4 p224 q224
                         cases e224
                         replace p224 := eq_true p224
                         replace q224 := eq_true q224
                         go_wp2
                         repeat (go_quiet (fail); try go_wp2)
                         go_ret
                         exact ⟨by first | rfl | (simp [errW_none, errW_some] <;> rfl) | (simp [*, errW_none, errW_some] <;> rfl) | (simp (disch := omega) only [wrap64_id] <;> rfl), by repeat (first | (with_reducible first | exact HB.out | apply below_alloc | apply pw_below_drewN | apply below_drew1) | exact HB.out)⟩
                       ·rw [if_neg c83] at H
                        exact absurd H (by simp)
                     ·rw [if_neg c79] at H
                      have c79b0 : ((rd t215 x132_4) == (rd t203 x132_4)) = false := beq_eq_false_iff_ne.mpr c79
                      have c79b1 : ((rd t215 x132_4) != (rd t203 x132_4)) = true := bne_iff_ne.mpr c79
                      obtain rfl := Option.some.inj H
                      obtain ⟨Ao91, co91, eo91⟩ := Kd.R_slice HO_9.out
                      subst eo91
                      have p221 : 0 ≤ (x132_4 : Int) := of_decide_eq_true (by first | (with_reducible assumption) | assumption)
                      have q221 : x132_4 < (t203.length : Int) := of_decide_eq_true (by first | (with_reducible assumption) | assumption)
                      obtain ⟨ad221, e221, hx221_0⟩ := Kd.at_int (Kd.R_reads' HO_9.out).2.2 x132_4 p221 q221
                      cases e221
                      replace p221 := eq_true p221
                      replace q221 := eq_true q221
                      obtain ⟨Ao92, co92, eo92⟩ := Kd.R_slice HO_10.out
                      subst eo92
                      have p222 : 0 ≤ (x132_4 : Int) := of_decide_eq_true (by first | (with_reducible assumption) | assumption)
                      have q222 : x132_4 < (t204.length : Int) := of_decide_eq_true (by first | (with_reducible assumption) | assumption)
                      obtain ⟨ad222, e222, hx222_0⟩ := Kd.at_string (Kd.R_reads' HO_10.out).2.2 x132_4 p222 q222
                      cases e222
                      replace p222 := eq_true p222
                      replace q222 := eq_true q222
                      have p223 : 0 ≤ (x132_4 : Int) := of_decide_eq_true (by first | (with_reducible assumption) | assumption)
                      have q223 : x132_4 < (t215.length : Int) := of_decide_eq_true (by first | (with_reducible assumption) | assumption)
                      obtain ⟨ad223, e223, hx223_0⟩ := Kd.at_int (Kd.R_reads' HO_13.out).2.2 x132_4 p223 q223
                      cases e223
                      replace p223 := eq_true p223
                      replace q223 := eq_true q223
                      go_wp2
                      repeat (go_quiet (fail); try go_wp2)
                      go_ret
                      exact ⟨by first | rfl | (simp [errW_none, errW_some] <;> rfl) | (simp [*, errW_none, errW_some] <;> rfl) | (simp (disch := omega) only [wrap64_id] <;> rfl), by repeat (first | (with_reducible first | exact HB.out | apply below_alloc | apply pw_below_drewN | apply below_drew1) | exact HB.out)⟩
                    ·rw [if_neg c78] at H
                     exact absurd H (by simp)
                   ·rw [if_neg c77] at H
                    exact absurd H (by simp)
                  ·rw [if_neg c76] at H
                   exact absurd H (by simp)
                 ·rw [if_neg c75] at H
                  exact absurd H (by simp)
                ·rw [if_neg c74] at H
                 have c74b0 : decide (x132_4 < (wrap64 ((t203.length : Int) - 1))) = false := decide_eq_false c74
                 clear c74
                 obtain ⟨ji93, hji93⟩ : ∃ j_ : Int, (wrap64 ((wrap64 (x132_4 - (t203.length : Int))) + 1)) = j_ := ⟨_, rfl⟩
                 replace H : (if 0 ≤ (ji93) then (if (ji93) < (t209.length : Int) then (if (ji93) < (t210.length : Int) then (if 0 ≤ x132_4 then (if x132_4 < (t215.length : Int) then (if (rd t215 x132_4) = (rd t209 (ji93)) then (if (rd t209 (ji93)) = 1 then (laws_FnVtTokensJoin.l0 k4 t203 t204 t209 t210 t215 t216 (t215.length : Int) (wrap64 (x132_4 + 1))) else (if x132_4 < (t216.length : Int) then (if (rdOf ByteArray.empty t216 x132_4).toList = (rdOf ByteArray.empty t210 (ji93)).toList then (laws_FnVtTokensJoin.l0 k4 t203 t204 t209 t210 t215 t216 (t215.length : Int) (wrap64 (x132_4 + 1))) else (some false)) else (none))) else (some false)) else (none)) else (none)) else (none)) else (none)) else (none)) = some r := by first | (rw [hji93] at H; exact H) | (simp only [hji93] at H ⊢; exact H)
                 have hji93w : (IntKind.i64.wrap ((wrap64 (x132_4 - (t203.length : Int))) + 1)) = ji93 := (i64_w _).trans hji93
                 by_cases c94 : 0 ≤ (ji93)
                 ·rw [if_pos c94] at H
                  have c94b0 : decide (0 ≤ (ji93)) = true := decide_eq_true c94
                  clear c94
                  by_cases c95 : (ji93) < (t209.length : Int)
                  ·rw [if_pos c95] at H
                   have c95b0 : decide ((ji93) < (t209.length : Int)) = true := decide_eq_true c95
                   clear c95
                   by_cases c96 : (ji93) < (t210.length : Int)
                   ·rw [if_pos c96] at H
                    have c96b0 : decide ((ji93) < (t210.length : Int)) = true := decide_eq_true c96
                    clear c96
                    by_cases c97 : 0 ≤ x132_4
                    ·rw [if_pos c97] at H
                     have c97b0 : decide (0 ≤ x132_4) = true := decide_eq_true c97
                     clear c97
                     by_cases c98 : x132_4 < (t215.length : Int)
                     ·rw [if_pos c98] at H
                      have c98b0 : decide (x132_4 < (t215.length : Int)) = true := decide_eq_true c98
                      clear c98
                      by_cases c99 : (rd t215 x132_4) = (rd t209 (ji93))
                      ·rw [if_pos c99] at H
                       have c99b0 : ((rd t215 x132_4) == (rd t209 (ji93))) = true := beq_iff_eq.mpr c99
                       have c99b1 : ((rd t215 x132_4) != (rd t209 (ji93))) = false := bne_eq_false_iff_eq.mpr c99
                       clear c99
                       by_cases c100 : (rd t209 (ji93)) = 1
                       ·rw [if_pos c100] at H
                        have c100b0 : ((rd t209 (ji93)) == 1) = true := beq_iff_eq.mpr c100
                        have c100b1 : ((rd t209 (ji93)) != 1) = false := bne_eq_false_iff_eq.mpr c100
                        clear c100
                        have H' := Aside0.mk H
                        clear H
                        obtain ⟨Ao101, co101, eo101⟩ := Kd.R_slice HO_9.out
                        subst eo101
                        obtain ⟨Ao102, co102, eo102⟩ := Kd.R_slice HO_11.out
                        subst eo102
                        have p225 : 0 ≤ ((ji93) : Int) := of_decide_eq_true (by first | (with_reducible assumption) | assumption)
                        have q225 : (ji93) < (t209.length : Int) := of_decide_eq_true (by first | (with_reducible assumption) | assumption)
                        obtain ⟨ad225, e225, hx225_0⟩ := Kd.at_int (Kd.R_reads' HO_11.out).2.2 (ji93) p225 q225
                        cases e225
                        replace p225 := eq_true p225
                        replace q225 := eq_true q225
                        obtain ⟨Ao103, co103, eo103⟩ := Kd.R_slice HO_12.out
                        subst eo103
                        have p226 : 0 ≤ ((ji93) : Int) := of_decide_eq_true (by first | (with_reducible assumption) | assumption)
                        have q226 : (ji93) < (t210.length : Int) := of_decide_eq_true (by first | (with_reducible assumption) | assumption)
                        obtain ⟨ad226, e226, hx226_0⟩ := Kd.at_string (Kd.R_reads' HO_12.out).2.2 (ji93) p226 q226
                        cases e226
                        replace p226 := eq_true p226
                        replace q226 := eq_true q226
                        have p227 : 0 ≤ (x132_4 : Int) := of_decide_eq_true (by first | (with_reducible assumption) | assumption)
                        have q227 : x132_4 < (t215.length : Int) := of_decide_eq_true (by first | (with_reducible assumption) | assumption)
                        obtain ⟨ad227, e227, hx227_0⟩ := Kd.at_int (Kd.R_reads' HO_13.out).2.2 x132_4 p227 q227
                        cases e227
                        replace p227 := eq_true p227
                        replace q227 := eq_true q227
                        go_wp2
                        repeat (go_quiet (fail); try go_wp2)
                        go_roundg k4
                        case measure => have := HJ2.out; have := HJ8.out; have := HJ30.out; have := HK4.out; omega
                        case rel => exact ⟨(wrap64 (x132_4 + 1)), (by first | rfl | (simp; done) | (simp [*]; done)), H', ⟨by have := HJ2.out; have := HJ8.out; have := HJ30.out; have := HK4.out; omega⟩, ⟨by (with_reducible repeat (first | apply Kd.R_alloc | apply Kd.R_drewN | apply Kd.R_drew)); exact HO_9.out⟩, ⟨by (with_reducible repeat (first | apply Kd.R_alloc | apply Kd.R_drewN | apply Kd.R_drew)); exact HO_10.out⟩, ⟨by (with_reducible repeat (first | apply Kd.R_alloc | apply Kd.R_drewN | apply Kd.R_drew)); exact HO_11.out⟩, ⟨by (with_reducible repeat (first | apply Kd.R_alloc | apply Kd.R_drewN | apply Kd.R_drew)); exact HO_12.out⟩, ⟨by (with_reducible repeat (first | apply Kd.R_alloc | apply Kd.R_drewN | apply Kd.R_drew)); exact HO_13.out⟩, ⟨by (with_reducible repeat (first | apply Kd.R_alloc | apply Kd.R_drewN | apply Kd.R_drew)); exact HO_14.out⟩, ⟨by repeat (first | (with_reducible first | exact HB.out | apply below_alloc | apply pw_below_drewN | apply below_drew1) | exact HB.out)⟩⟩
                       ·rw [if_neg c100] at H
                        have c100b0 : ((rd t209 (ji93)) == 1) = false := beq_eq_false_iff_ne.mpr c100
                        have c100b1 : ((rd t209 (ji93)) != 1) = true := bne_iff_ne.mpr c100
                        by_cases c104 : x132_4 < (t216.length : Int)
                        ·rw [if_pos c104] at H
                         have c104b0 : decide (x132_4 < (t216.length : Int)) = true := decide_eq_true c104
                         clear c104
                         by_cases c105 : (rdOf ByteArray.empty t216 x132_4).toList = (rdOf ByteArray.empty t210 (ji93)).toList
                         ·rw [if_pos c105] at H
                          have c105b0 : ((rdOf ByteArray.empty t216 x132_4).toList == (rdOf ByteArray.empty t210 (ji93)).toList) = true := beq_iff_eq.mpr c105
                          have c105b1 : ((rdOf ByteArray.empty t216 x132_4).toList != (rdOf ByteArray.empty t210 (ji93)).toList) = false := bne_eq_false_iff_eq.mpr c105
                          clear c105
                          have H' := Aside0.mk H
                          clear H
                          obtain ⟨Ao106, co106, eo106⟩ := Kd.R_slice HO_9.out
                          subst eo106
                          obtain ⟨Ao107, co107, eo107⟩ := Kd.R_slice HO_11.out
                          subst eo107
                          have p225 : 0 ≤ ((ji93) : Int) := of_decide_eq_true (by first | (with_reducible assumption) | assumption)
                          have q225 : (ji93) < (t209.length : Int) := of_decide_eq_true (by first | (with_reducible assumption) | assumption)
                          obtain ⟨ad225, e225, hx225_0⟩ := Kd.at_int (Kd.R_reads' HO_11.out).2.2 (ji93) p225 q225
                          cases e225
                          replace p225 := eq_true p225
                          replace q225 := eq_true q225
                          obtain ⟨Ao108, co108, eo108⟩ := Kd.R_slice HO_12.out
                          subst eo108
                          have p226 : 0 ≤ ((ji93) : Int) := of_decide_eq_true (by first | (with_reducible assumption) | assumption)
                          have q226 : (ji93) < (t210.length : Int) := of_decide_eq_true (by first | (with_reducible assumption) | assumption)
                          obtain ⟨ad226, e226, hx226_0⟩ := Kd.at_string (Kd.R_reads' HO_12.out).2.2 (ji93) p226 q226
                          cases e226
                          replace p226 := eq_true p226
                          replace q226 := eq_true q226
                          have p227 : 0 ≤ (x132_4 : Int) := of_decide_eq_true (by first | (with_reducible assumption) | assumption)
                          have q227 : x132_4 < (t215.length : Int) := of_decide_eq_true (by first | (with_reducible assumption) | assumption)
                          obtain ⟨ad227, e227, hx227_0⟩ := Kd.at_int (Kd.R_reads' HO_13.out).2.2 x132_4 p227 q227
                          cases e227
                          replace p227 := eq_true p227
                          replace q227 := eq_true q227
                          obtain ⟨Ao109, co109, eo109⟩ := Kd.R_slice HO_14.out
                          subst eo109
                          have p228 : 0 ≤ (x132_4 : Int) := of_decide_eq_true (by first | (with_reducible assumption) | assumption)
                          have q228 : x132_4 < (t216.length : Int) := of_decide_eq_true (by first | (with_reducible assumption) | assumption)
                          obtain ⟨ad228, e228, hx228_0⟩ := Kd.at_string (Kd.R_reads' HO_14.out).2.2 x132_4 p228 q228
                          cases e228
                          replace p228 := eq_true p228
                          replace q228 := eq_true q228
                          go_wp2
                          repeat (go_quiet (fail); try go_wp2)
                          go_roundg k4
                          case measure => have := HJ2.out; have := HJ8.out; have := HJ30.out; have := HK4.out; omega
                          case rel => exact ⟨(wrap64 (x132_4 + 1)), (by first | rfl | (simp; done) | (simp [*]; done)), H', ⟨by have := HJ2.out; have := HJ8.out; have := HJ30.out; have := HK4.out; omega⟩, ⟨by (with_reducible repeat (first | apply Kd.R_alloc | apply Kd.R_drewN | apply Kd.R_drew)); exact HO_9.out⟩, ⟨by (with_reducible repeat (first | apply Kd.R_alloc | apply Kd.R_drewN | apply Kd.R_drew)); exact HO_10.out⟩, ⟨by (with_reducible repeat (first | apply Kd.R_alloc | apply Kd.R_drewN | apply Kd.R_drew)); exact HO_11.out⟩, ⟨by (with_reducible repeat (first | apply Kd.R_alloc | apply Kd.R_drewN | apply Kd.R_drew)); exact HO_12.out⟩, ⟨by (with_reducible repeat (first | apply Kd.R_alloc | apply Kd.R_drewN | apply Kd.R_drew)); exact HO_13.out⟩, ⟨by (with_reducible repeat (first | apply Kd.R_alloc | apply Kd.R_drewN | apply Kd.R_drew)); exact HO_14.out⟩, ⟨by repeat (first | (with_reducible first | exact HB.out | apply below_alloc | apply pw_below_drewN | apply below_drew1) | exact HB.out)⟩⟩
                         ·rw [if_neg c105] at H
                          have c105b0 : ((rdOf ByteArray.empty t216 x132_4).toList == (rdOf ByteArray.empty t210 (ji93)).toList) = false := beq_eq_false_iff_ne.mpr c105
                          have c105b1 : ((rdOf ByteArray.empty t216 x132_4).toList != (rdOf ByteArray.empty t210 (ji93)).toList) = true := bne_iff_ne.mpr c105
                          obtain rfl := Option.some.inj H
                          obtain ⟨Ao110, co110, eo110⟩ := Kd.R_slice HO_9.out
                          subst eo110
                          obtain ⟨Ao111, co111, eo111⟩ := Kd.R_slice HO_11.out
                          subst eo111
                          have p225 : 0 ≤ ((ji93) : Int) := of_decide_eq_true (by first | (with_reducible assumption) | assumption)
                          have q225 : (ji93) < (t209.length : Int) := of_decide_eq_true (by first | (with_reducible assumption) | assumption)
                          obtain ⟨ad225, e225, hx225_0⟩ := Kd.at_int (Kd.R_reads' HO_11.out).2.2 (ji93) p225 q225
                          cases e225
                          replace p225 := eq_true p225
                          replace q225 := eq_true q225
                          obtain ⟨Ao112, co112, eo112⟩ := Kd.R_slice HO_12.out
                          subst eo112
                          have p226 : 0 ≤ ((ji93) : Int) := of_decide_eq_true (by first | (with_reducible assumption) | assumption)
                          have q226 : (ji93) < (t210.length : Int) := of_decide_eq_true (by first | (with_reducible assumption) | assumption)
                          obtain ⟨ad226, e226, hx226_0⟩ := Kd.at_string (Kd.R_reads' HO_12.out).2.2 (ji93) p226 q226
                          cases e226
                          replace p226 := eq_true p226
                          replace q226 := eq_true q226
                          have p227 : 0 ≤ (x132_4 : Int) := of_decide_eq_true (by first | (with_reducible assumption) | assumption)
                          have q227 : x132_4 < (t215.length : Int) := of_decide_eq_true (by first | (with_reducible assumption) | assumption)
                          obtain ⟨ad227, e227, hx227_0⟩ := Kd.at_int (Kd.R_reads' HO_13.out).2.2 x132_4 p227 q227
                          cases e227
                          replace p227 := eq_true p227
                          replace q227 := eq_true q227
                          obtain ⟨Ao113, co113, eo113⟩ := Kd.R_slice HO_14.out
                          subst eo113
                          have p228 : 0 ≤ (x132_4 : Int) := of_decide_eq_true (by first | (with_reducible assumption) | assumption)
                          have q228 : x132_4 < (t216.length : Int) := of_decide_eq_true (by first | (with_reducible assumption) | assumption)
                          obtain ⟨ad228, e228, hx228_0⟩ := Kd.at_string (Kd.R_reads' HO_14.out).2.2 x132_4 p228 q228
                          cases e228
                          replace p228 := eq_true p228
                          replace q228 := eq_true q228
                          go_wp2
                          repeat (go_quiet (fail); try go_wp2)
                          go_ret
                          exact ⟨by first | rfl | (simp [errW_none, errW_some] <;> rfl) | (simp only [← hji93]; first | rfl | (simp [errW_none, errW_some] <;> rfl)) | (simp [*, errW_none, errW_some] <;> rfl) | (simp (disch := omega) only [wrap64_id] <;> rfl), by repeat (first | (with_reducible first | exact HB.out | apply below_alloc | apply pw_below_drewN | apply below_drew1) | exact HB.out)⟩
                        ·rw [if_neg c104] at H
                         exact absurd H (by simp)
                      ·rw [if_neg c99] at H
                       have c99b0 : ((rd t215 x132_4) == (rd t209 (ji93))) = false := beq_eq_false_iff_ne.mpr c99
                       have c99b1 : ((rd t215 x132_4) != (rd t209 (ji93))) = true := bne_iff_ne.mpr c99
                       obtain rfl := Option.some.inj H
                       obtain ⟨Ao114, co114, eo114⟩ := Kd.R_slice HO_9.out
                       subst eo114
                       obtain ⟨Ao115, co115, eo115⟩ := Kd.R_slice HO_11.out
                       subst eo115
                       have p225 : 0 ≤ ((ji93) : Int) := of_decide_eq_true (by first | (with_reducible assumption) | assumption)
                       have q225 : (ji93) < (t209.length : Int) := of_decide_eq_true (by first | (with_reducible assumption) | assumption)
                       obtain ⟨ad225, e225, hx225_0⟩ := Kd.at_int (Kd.R_reads' HO_11.out).2.2 (ji93) p225 q225
                       cases e225
                       replace p225 := eq_true p225
                       replace q225 := eq_true q225
                       obtain ⟨Ao116, co116, eo116⟩ := Kd.R_slice HO_12.out
                       subst eo116
                       have p226 : 0 ≤ ((ji93) : Int) := of_decide_eq_true (by first | (with_reducible assumption) | assumption)
                       have q226 : (ji93) < (t210.length : Int) := of_decide_eq_true (by first | (with_reducible assumption) | assumption)
                       obtain ⟨ad226, e226, hx226_0⟩ := Kd.at_string (Kd.R_reads' HO_12.out).2.2 (ji93) p226 q226
                       cases e226
                       replace p226 := eq_true p226
                       replace q226 := eq_true q226
                       have p227 : 0 ≤ (x132_4 : Int) := of_decide_eq_true (by first | (with_reducible assumption) | assumption)
                       have q227 : x132_4 < (t215.length : Int) := of_decide_eq_true (by first | (with_reducible assumption) | assumption)
                       obtain ⟨ad227, e227, hx227_0⟩ := Kd.at_int (Kd.R_reads' HO_13.out).2.2 x132_4 p227 q227
                       cases e227
                       replace p227 := eq_true p227
                       replace q227 := eq_true q227
                       go_wp2
                       repeat (go_quiet (fail); try go_wp2)
                       go_ret
                       exact ⟨by first | rfl | (simp [errW_none, errW_some] <;> rfl) | (simp only [← hji93]; first | rfl | (simp [errW_none, errW_some] <;> rfl)) | (simp [*, errW_none, errW_some] <;> rfl) | (simp (disch := omega) only [wrap64_id] <;> rfl), by repeat (first | (with_reducible first | exact HB.out | apply below_alloc | apply pw_below_drewN | apply below_drew1) | exact HB.out)⟩
                     ·rw [if_neg c98] at H
                      exact absurd H (by simp)
                    ·rw [if_neg c97] at H
                     exact absurd H (by simp)
                   ·rw [if_neg c96] at H
                    exact absurd H (by simp)
                  ·rw [if_neg c95] at H
                   exact absurd H (by simp)
                 ·rw [if_neg c94] at H
                  exact absurd H (by simp)
               ·rw [if_neg c73] at H
                have c73b0 : decide (x132_4 < (t215.length : Int)) = false := decide_eq_false c73
                clear c73
                obtain rfl := Option.some.inj H
                go_wp2
                repeat (go_quiet (fail); try go_wp2)
                go_ret
                exact ⟨by first | rfl | (simp [errW_none, errW_some] <;> rfl) | (simp [*, errW_none, errW_some] <;> rfl) | (simp (disch := omega) only [wrap64_id] <;> rfl), by repeat (first | (with_reducible first | exact HB.out | apply below_alloc | apply pw_below_drewN | apply below_drew1) | exact HB.out)⟩
         ·rw [if_neg c29] at H
          exact absurd H (by simp)
        ·rw [if_neg c28] at H
         exact absurd H (by simp)

/-- THE ONE PURE STATEMENT of laws_FnVtTokensJoin: yours. -/
def laws_FnVtTokensJoin.Pure : Prop := ∀ (a0 : ByteArray) (a1 : ByteArray), a0.size ≤ 140737488351232 → a1.size ≤ 140737488351232 → ∃ k, laws_FnVtTokensJoin.f k a0 a1 = some true
theorem laws_FnVtTokensJoin.walk (P : laws_FnVtTokensJoin.Pure) (a0 : ByteArray) (a1 : ByteArray) (w : World) (hT : Lib.Utf8Tabs 0 1 w) (w0 : a0.size ≤ 140737488351232) (w1 : a1.size ≤ 140737488351232) :
  Calls Tryd.prog 4 #[.string a0, .string a1] w fun e w' => e = .returned (.bool true) ∧ Below w.heap.size w w' := by
 obtain ⟨k, h⟩ := P a0 a1 w0 w1
 refine (laws_FnVtTokensJoin.calls k a0 a1 true w hT h).mono ?_
 rintro e w' ⟨rfl, hd⟩
 exact ⟨rfl, hd⟩

end Go.Proofs.YthcafnmagidpiaaDoor.MFnVtTokensJoin
