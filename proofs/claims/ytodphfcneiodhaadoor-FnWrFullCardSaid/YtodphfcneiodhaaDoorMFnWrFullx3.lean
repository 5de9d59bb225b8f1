-- Written by a program of this session (myprint.py, out of the translation). Not trusted: Lean checks it.
import Derived.Test.YtodphfcneiodhaaDoorMFnWrFullx0
import Derived.Test.YtodphfcneiodhaaDoorMFnWrFullx1
import Derived.Test.YtodphfcneiodhaaDoorMFnWrFullx2
namespace Go.Proofs.YtodphfcneiodhaaDoor.MFnWrFull
open Go.RowKit Go.Proofs.YtodphfcneiodhaaDoorW.PrintWords Go.Proofs.YtodphfcneiodhaaDoorW.PrintLast Go.Proofs.YtodphfcneiodhaaDoorW.PrintMore
attribute [local go_sem] max2_int min2_int max_two min_two max_three min_three max_four min_four   -- for this text's walks alone
set_option linter.unusedVariables false
set_option linter.unusedSimpArgs false

/-! ### laws_FnWrFull: function 3 -/
def laws_FnWrFull.l0 : Nat → List ByteArray → Int → Int → ByteArray → Int → Option (Bool)
  | 0, _, _, _, _, _ => none
  | k + 1, x0, x1, x2, x7, x8 => if x8 < (x0.length : Int) then (if 0 ≤ x8 then (if ((rdOf ByteArray.empty x0 x8).size : Int) > 1024 then (some true) else (if x7.size + (rdOf ByteArray.empty x0 x8).size ≤ 9223372036854775807 then (laws_FnWrFull.l0 k x0 x1 x2 (x7 ++ (rdOf ByteArray.empty x0 x8)) (wrap64 (x8 + 1))) else (none))) else (none)) else ((impl_WrFull.f x0 (wrap64 (x1)) (wrap64 (x2))).bind fun bt106 => ((impl_WrFull.f (([(⟨#[97, 98]⟩ : ByteArray), (⟨#[99]⟩ : ByteArray)] : List ByteArray)) 1 3).bind fun bt111 => (if bt111.2 = true then (if (bt106.2 == (decide ((wrap64 (x2)) ≤ (x7.size : Int)))) = true then (if bt106.2 = true then (if 0 ≤ x2 then (if x2 ≤ (x7.size : Int) then (some (bt106.1.toList == (x7.extract 0 (x2 : Int).toNat).toList)) else (none)) else (none)) else (some true)) else (some false)) else (some false))))
def laws_FnWrFull.f (k : Nat) (l0 : List ByteArray) (a1 : Int) (a2 : Int) : Option (Bool) := (laws_zzFits5.f k l0).bind fun t103 => (if t103 = true then (if (l0.length : Int) > 100 then (some true) else (laws_FnWrFull.l0 k l0 a1 a2 (⟨#[]⟩ : ByteArray) 0)) else (some true))
theorem laws_FnWrFull.mono_l : ∀ k, (∀ y0 y1 y2 y3 y4, LeO (laws_FnWrFull.l0 k y0 y1 y2 y3 y4) (laws_FnWrFull.l0 (k + 1) y0 y1 y2 y3 y4))
  | 0 => fun _ _ _ _ _ r h => by simp [laws_FnWrFull.l0] at h
  | k + 1 => by
    have ih0 := laws_FnWrFull.mono_l k
    · intro y0 y1 y2 y3 y4
      unfold laws_FnWrFull.l0
      repeat' first
      | (with_reducible exact ih0 _ _ _ _ _)
      | (with_reducible exact laws_zzFits5.mono _ _)
      | (with_reducible exact LeO.refl _)
      | (with_reducible exact LeO.none _)
      | (with_reducible refine LeO.ite ?_ ?_)
      | (with_reducible refine LeO.bind ?_ (fun _ => ?_))
      | exact ih0 _ _ _ _ _
      | exact laws_zzFits5.mono _ _
      | exact LeO.none _
      | refine LeO.ite ?_ ?_
      | refine LeO.bind ?_ (fun _ => ?_)
theorem laws_FnWrFull.mono : ∀ a0 a1 a2 k, LeO (laws_FnWrFull.f k a0 a1 a2) (laws_FnWrFull.f (k + 1) a0 a1 a2) := by
  intro a0 a1 a2 k
  have ih0 := laws_FnWrFull.mono_l k
  unfold laws_FnWrFull.f
  repeat' first
      | (with_reducible exact ih0 _ _ _ _ _)
      | (with_reducible exact laws_zzFits5.mono _ _)
      | (with_reducible exact LeO.refl _)
      | (with_reducible exact LeO.none _)
      | (with_reducible refine LeO.ite ?_ ?_)
      | (with_reducible refine LeO.bind ?_ (fun _ => ?_))
      | exact ih0 _ _ _ _ _
      | exact laws_zzFits5.mono _ _
      | exact LeO.none _
      | refine LeO.ite ?_ ?_
      | refine LeO.bind ?_ (fun _ => ?_)
set_option maxHeartbeats 8000000 in
set_option maxRecDepth 100000 in
theorem laws_FnWrFull.calls (k : Nat) (A0 : Option Addr) (c0 : Nat) (l0 : List ByteArray) (a1 : Int) (a2 : Int) (r : Bool) (w : World) (hr0 : Kd.C Kd.string w A0 l0.length l0) (hc0 : l0.length ≤ c0) (hG : ∃ b0 b1, Gl w.heap.size w b0 b1) (h : laws_FnWrFull.f k l0 a1 a2 = some r) :
    Calls Tryd.prog 3 #[.slice A0 l0.length c0, .int .u16 a1, .int .u16 a2] w fun e w' => e = .returned (.bool r) ∧ Below w.heap.size w w' := by
  have HR0 := Aside0.mk hr0
  have HC0 := Aside0.mk hc0
  have HGL := Aside0.mk hG
  clear hr0 hc0 hG
  have HB := Aside0.mk (Below.refl w.heap.size w)
  have H : ((laws_zzFits5.f k l0).bind fun t103 => (if t103 = true then (if (l0.length : Int) > 100 then (some true) else (laws_FnWrFull.l0 k l0 a1 a2 (⟨#[]⟩ : ByteArray) 0)) else (some true))) = some r := h
  clear h
  replace H := Option.bind_eq_some_iff.mp H
  obtain ⟨t103, A40, H⟩ := H
  replace H : (if t103 = true then (if (l0.length : Int) > 100 then (some true) else (laws_FnWrFull.l0 k l0 a1 a2 (⟨#[]⟩ : ByteArray) 0)) else (some true)) = some r := H
  have A4 := Aside0.mk A40
  clear A40
  by_cases c5 : t103 = true
  · subst c5
    have H1 : (if (l0.length : Int) > 100 then (some true) else (laws_FnWrFull.l0 k l0 a1 a2 (⟨#[]⟩ : ByteArray) 0)) = some r := by rw [if_pos rfl] at H; exact H
    clear H
    have H := H1
    clear H1
    by_cases c6 : (l0.length : Int) > 100
    · rw [if_pos c6] at H
      have c6b0 : decide (100 < (l0.length : Int)) = true := decide_eq_true c6
      have c6b1 : decide (100 < l0.length) = true := decide_eq_true (by omega)
      clear c6
      obtain rfl := Option.some.inj H
      go_enter Tryd.func3, Tryd.ntmps3
      go_wp2_with (first | ((with_reducible refine gate_callee (f := 4) rfl ?_); refine goesL_ (some 14) rfl rfl Tryd.func4 (by kernel_rfl) rfl #[.slice A0 l0.length c0] rfl (by (try simp only [List.map_toArray, List.map_cons, List.map_nil]); first | done | rfl | (simp only [List.length_drop, List.length_take]; rfl)) ?_; (with_reducible refine (laws_zzFits5.calls k _ _ l0 true _ ?side1 ?side2 A4.out).mono ?_); (case side1 => repeat (first | exact HR0.out | (with_reducible refine Kd.C_alloc ?_ _) | (with_reducible refine Kd.C_drewN ?_ _) | (with_reducible refine Kd.C_drew ?_))); (case side2 => exact HC0.out); rintro e w' ⟨rfl, ⟨nd, rfl⟩⟩; refine ⟨_, rfl, ?_⟩))
      go_ret
      exact ⟨by first | rfl | (simp [errW_none, errW_some] <;> rfl) | (simp [*, errW_none, errW_some] <;> rfl) | (simp (disch := omega) only [wrap64_id] <;> rfl), by repeat (first | (with_reducible first | exact HB.out | apply below_alloc | apply pw_below_drewN | apply below_drew1) | exact HB.out)⟩
    · rw [if_neg c6] at H
      have c6b0 : decide (100 < (l0.length : Int)) = false := decide_eq_false c6
      have c6b1 : decide (100 < l0.length) = false := decide_eq_false (by omega)
      clear c6
      have H' := Aside0.mk H
      clear H
      go_enter Tryd.func3, Tryd.ntmps3
      go_wp2_with (first | ((with_reducible refine gate_callee (f := 4) rfl ?_); refine goesL_ (some 14) rfl rfl Tryd.func4 (by kernel_rfl) rfl #[.slice A0 l0.length c0] rfl (by (try simp only [List.map_toArray, List.map_cons, List.map_nil]); first | done | rfl | (simp only [List.length_drop, List.length_take]; rfl)) ?_; (with_reducible refine (laws_zzFits5.calls k _ _ l0 true _ ?side1 ?side2 A4.out).mono ?_); (case side1 => repeat (first | exact HR0.out | (with_reducible refine Kd.C_alloc ?_ _) | (with_reducible refine Kd.C_drewN ?_ _) | (with_reducible refine Kd.C_drew ?_))); (case side2 => exact HC0.out); rintro e w' ⟨rfl, ⟨nd, rfl⟩⟩; refine ⟨_, rfl, ?_⟩))
      go_loopg [7, 8] k (fun kq v7 v8 w' => ∃ (x7_1 : ByteArray) (x8_1 : Int), v7 = .string x7_1 ∧ v8 = .int .i64 x8_1 ∧ Aside0 (laws_FnWrFull.l0 kq l0 a1 a2 x7_1 x8_1 = some r) ∧ Aside0 (kq ≤ k) ∧ Aside0 (Below w.heap.size w w'))
      case atStart => exact ⟨((⟨#[]⟩ : ByteArray)), (0), (by first | rfl | (simp; done) | (simp [*]; done)), (by first | rfl | (simp; done) | (simp [*]; done)), H', ⟨Nat.le_refl _⟩, ⟨by repeat (first | (with_reducible first | exact HB.out | apply below_alloc | apply pw_below_drewN | apply below_drew1) | exact HB.out)⟩⟩
      case round =>
        clear H'
        try clear p2
        try clear c3
        try clear c4
        try clear c5
        try clear c6
        try clear c6b0
        try clear c6b1
        try clear p6
        obtain ⟨x7_1, x8_1, rfl, rfl, HA, HK1, HB⟩ := hrel
        cases gk with
        | zero => exact absurd HA.out (by simp [laws_FnWrFull.l0])
        | succ k1 =>
          have H := HA.out
          clear HA
          simp only [laws_FnWrFull.l0] at H
          by_cases c7 : x8_1 < (l0.length : Int)
          · rw [if_pos c7] at H
            have c7b0 : decide (x8_1 < (l0.length : Int)) = true := decide_eq_true c7
            clear c7
            by_cases c8 : 0 ≤ x8_1
            · rw [if_pos c8] at H
              have c8b0 : decide (0 ≤ x8_1) = true := decide_eq_true c8
              clear c8
              by_cases c9 : ((rdOf ByteArray.empty l0 x8_1).size : Int) > 1024
              · rw [if_pos c9] at H
                have c9b0 : decide (1024 < ((rdOf ByteArray.empty l0 x8_1).size : Int)) = true := decide_eq_true c9
                have c9b1 : decide (1024 < (rdOf ByteArray.empty l0 x8_1).size) = true := decide_eq_true (by omega)
                clear c9
                obtain rfl := Option.some.inj H
                have p104 : 0 ≤ (x8_1 : Int) := of_decide_eq_true (by first | (with_reducible assumption) | assumption)
                have q104 : x8_1 < (l0.length : Int) := of_decide_eq_true (by first | (with_reducible assumption) | assumption)
                obtain ⟨ad104, e104, hx104_0⟩ := Kd.at_string HR0.out x8_1 p104 q104
                cases e104
                replace hx104_0 := (HB.out.cell (World.block_lt_of_cell? w _ hx104_0)).trans hx104_0
                replace p104 := eq_true p104
                replace q104 := eq_true q104
                go_wp2
                go_ret
                exact ⟨by first | rfl | (simp [errW_none, errW_some] <;> rfl) | (simp [*, errW_none, errW_some] <;> rfl) | (simp (disch := omega) only [wrap64_id] <;> rfl), by repeat (first | (with_reducible first | exact HB.out | apply below_alloc | apply pw_below_drewN | apply below_drew1) | exact HB.out)⟩
              · rw [if_neg c9] at H
                have c9b0 : decide (1024 < ((rdOf ByteArray.empty l0 x8_1).size : Int)) = false := decide_eq_false c9
                have c9b1 : decide (1024 < (rdOf ByteArray.empty l0 x8_1).size) = false := decide_eq_false (by omega)
                clear c9
                by_cases c10 : x7_1.size + (rdOf ByteArray.empty l0 x8_1).size ≤ 9223372036854775807
                · rw [if_pos c10] at H
                  have c10b0 := eq_true c10
                  have c10b1 : decide (x7_1.size + (rdOf ByteArray.empty l0 x8_1).size ≤ 9223372036854775807) = true := decide_eq_true c10
                  try have c10b2 : (9223372036854775807 < x7_1.size + (rdOf ByteArray.empty l0 x8_1).size) = False := eq_false (Nat.not_lt.2 c10)
                  have H' := Aside0.mk H
                  clear H
                  have p104 : 0 ≤ (x8_1 : Int) := of_decide_eq_true (by first | (with_reducible assumption) | assumption)
                  have q104 : x8_1 < (l0.length : Int) := of_decide_eq_true (by first | (with_reducible assumption) | assumption)
                  obtain ⟨ad104, e104, hx104_0⟩ := Kd.at_string HR0.out x8_1 p104 q104
                  cases e104
                  replace hx104_0 := (HB.out.cell (World.block_lt_of_cell? w _ hx104_0)).trans hx104_0
                  replace p104 := eq_true p104
                  replace q104 := eq_true q104
                  have p105 : 0 ≤ (x8_1 : Int) := of_decide_eq_true (by first | (with_reducible assumption) | assumption)
                  have q105 : x8_1 < (l0.length : Int) := of_decide_eq_true (by first | (with_reducible assumption) | assumption)
                  obtain ⟨ad105, e105, hx105_0⟩ := Kd.at_string HR0.out x8_1 p105 q105
                  obtain rfl : ad104 = ad105 := (by injection e105)
                  replace hx105_0 := (HB.out.cell (World.block_lt_of_cell? w _ hx105_0)).trans hx105_0
                  replace p105 := eq_true p105
                  replace q105 := eq_true q105
                  go_wp2
                  go_roundg k1
                  case measure => have := HK1.out; omega
                  case rel => exact ⟨(x7_1 ++ (rdOf ByteArray.empty l0 x8_1)), (wrap64 (x8_1 + 1)), (by first | rfl | (simp; done) | (simp [*]; done)), (by first | rfl | (simp; done) | (simp [*]; done)), H', ⟨by have := HK1.out; omega⟩, ⟨by repeat (first | (with_reducible first | exact HB.out | apply below_alloc | apply pw_below_drewN | apply below_drew1) | exact HB.out)⟩⟩
                · rw [if_neg c10] at H
                  exact absurd H (by simp)
            · rw [if_neg c8] at H
              exact absurd H (by simp)
          · rw [if_neg c7] at H
            have c7b0 : decide (x8_1 < (l0.length : Int)) = false := decide_eq_false c7
            clear c7
            replace H := Option.bind_eq_some_iff.mp H
            obtain ⟨⟨t106, t107⟩, A110, H⟩ := H
            replace H : ((impl_WrFull.f (([(⟨#[97, 98]⟩ : ByteArray), (⟨#[99]⟩ : ByteArray)] : List ByteArray)) 1 3).bind fun bt111 => (if bt111.2 = true then (if (t107 == (decide ((wrap64 (a2)) ≤ (x7_1.size : Int)))) = true then (if t107 = true then (if 0 ≤ a2 then (if a2 ≤ (x7_1.size : Int) then (some (t106.toList == (x7_1.extract 0 (a2 : Int).toNat).toList)) else (none)) else (none)) else (some true)) else (some false)) else (some false))) = some r := H
            have A11 := Aside0.mk A110
            clear A110
            obtain ⟨y108, hy108⟩ : ∃ y_ : List ByteArray, y_ = (([(⟨#[97, 98]⟩ : ByteArray), (⟨#[99]⟩ : ByteArray)] : List ByteArray)) := ⟨_, rfl⟩
            replace H : ((impl_WrFull.f y108 1 3).bind fun bt111 => (if bt111.2 = true then (if (t107 == (decide ((wrap64 (a2)) ≤ (x7_1.size : Int)))) = true then (if t107 = true then (if 0 ≤ a2 then (if a2 ≤ (x7_1.size : Int) then (some (t106.toList == (x7_1.extract 0 (a2 : Int).toNat).toList)) else (none)) else (none)) else (some true)) else (some false)) else (some false))) = some r := by first | (rw [hy108]; with_reducible exact H) | (have H2_ := (Option.bind_some _ _).symm.trans H; rw [hy108]; with_reducible exact H2_) | (have H2_ := (Option.bind_some _ _).symm.trans H; with_reducible exact H2_) | with_reducible exact H | (rw [hy108]; exact H) | exact H
            have Ny108 := Aside0.mk hy108
            clear hy108
            replace H := Option.bind_eq_some_iff.mp H
            obtain ⟨⟨t111, t112⟩, A120, H⟩ := H
            replace H : (if t112 = true then (if (t107 == (decide ((wrap64 (a2)) ≤ (x7_1.size : Int)))) = true then (if t107 = true then (if 0 ≤ a2 then (if a2 ≤ (x7_1.size : Int) then (some (t106.toList == (x7_1.extract 0 (a2 : Int).toNat).toList)) else (none)) else (none)) else (some true)) else (some false)) else (some false)) = some r := H
            have A12 := Aside0.mk A120
            clear A120
            by_cases c13 : t112 = true
            · subst c13
              have H1 : (if (t107 == (decide ((wrap64 (a2)) ≤ (x7_1.size : Int)))) = true then (if t107 = true then (if 0 ≤ a2 then (if a2 ≤ (x7_1.size : Int) then (some (t106.toList == (x7_1.extract 0 (a2 : Int).toNat).toList)) else (none)) else (none)) else (some true)) else (some false)) = some r := by rw [if_pos rfl] at H; exact H
              clear H
              have H := H1
              clear H1
              by_cases c14 : (t107 == (decide ((wrap64 (a2)) ≤ (x7_1.size : Int)))) = true
              · rw [if_pos c14] at H
                have c14b0 : (t107 == (decide ((wrap64 (a2)) ≤ (x7_1.size : Int)))) = true := c14
                (try (have c14b1 : decide (t107 = (decide ((wrap64 (a2)) ≤ (x7_1.size : Int)))) = true := by simpa using c14))
                (try (have c14b2 : (t107 == (decide ((wrap64 (a2)) ≤ (x7_1.size : Int)))) = true := by simpa using c14))
                clear c14
                by_cases c15 : t107 = true
                · subst c15
                  have H1 : (if 0 ≤ a2 then (if a2 ≤ (x7_1.size : Int) then (some (t106.toList == (x7_1.extract 0 (a2 : Int).toNat).toList)) else (none)) else (none)) = some r := by rw [if_pos rfl] at H; exact H
                  clear H
                  have H := H1
                  clear H1
                  by_cases c16 : 0 ≤ a2
                  · rw [if_pos c16] at H
                    have c16b0 := eq_true c16
                    have c16b1 : decide (0 ≤ a2) = true := decide_eq_true c16
                    clear c16
                    by_cases c17 : a2 ≤ (x7_1.size : Int)
                    · rw [if_pos c17] at H
                      have c17b0 := eq_true c17
                      have c17b1 : decide (a2 ≤ (x7_1.size : Int)) = true := decide_eq_true c17
                      clear c17
                      obtain rfl := Option.some.inj H
                      go_wp2_with (first | ((with_reducible refine gate_callee (f := 5) rfl ?_); refine goesL_ (some 43) rfl rfl Tryd.func5 (by kernel_rfl) rfl #[.slice A0 l0.length c0, .int .i64 (wrap64 (a1)), .int .i64 (wrap64 (a2))] rfl (by (try simp only [List.map_toArray, List.map_cons, List.map_nil]); first | done | rfl | (simp only [List.length_drop, List.length_take]; rfl)) ?_; (with_reducible refine (impl_WrFull.calls _ _ l0 (wrap64 (a1)) (wrap64 (a2)) t106 true _ ?side1 ?side2 ?side9 A11.out).mono ?_); (case side1 => repeat (first | exact (Kd.C_below HR0.out HB.out) | (with_reducible refine Kd.C_alloc ?_ _) | (with_reducible refine Kd.C_drewN ?_ _) | (with_reducible refine Kd.C_drew ?_))); (case side2 => exact HC0.out); (case side9 => exact Gl.up HGL.out (by repeat (first | (with_reducible first | exact HB.out | apply below_alloc | apply pw_below_drewN | apply below_drew1) | exact HB.out))); rintro e w18 ⟨rfl, hb⟩; refine ⟨_, rfl, ?_⟩; have n0_ := Aside0.mk (below_step (by repeat (first | (with_reducible first | exact HB.out | apply below_alloc | apply pw_below_drewN | apply below_drew1) | exact HB.out)) hb); clear HB; have HB := n0_; clear n0_; (try clear hb); (try clear hb2); (try clear hk); (try clear hi)) | ((with_reducible refine gate_dst (N := 47) rfl ?_); (try (refine gate_guard (by rfl) ?_; dsimp only)); refine Kd.R_lit Kd.string _ 9 ?hg (N := 47) ?hd (xs := ([(⟨#[97, 98]⟩ : ByteArray), (⟨#[99]⟩ : ByteArray)] : List ByteArray)) (inner := [.string (⟨#[97, 98]⟩ : ByteArray), .string (⟨#[99]⟩ : ByteArray)]) (ok := fun _ => True) (okp := fun _ => True) ?hr ?hp (fun _ hk => hk) trivial (Below.refl _ _) (Nat.le_refl _) (by simp) ?_; (case hd => rfl); (case hg => rfl); (case hr => first | (go_simp; done) | (go_simp; rfl)); (case hp => exact (Reps.one (show Kd.M Kd.string _ _ _ (⟨#[97, 98]⟩ : ByteArray) [.string (⟨#[97, 98]⟩ : ByteArray)] from rfl) (Reps.one (show Kd.M Kd.string _ _ _ (⟨#[99]⟩ : ByteArray) [.string (⟨#[99]⟩ : ByteArray)] from rfl) (Reps.none _ _)))); intro v109 w19 ho20 hb hg_ hnew_; clear hg_ hnew_; (first | rw [← Ny108.out] at ho20 | (simp only [Int.reduceToNat] at ho20; rw [← Ny108.out] at ho20)); have n0_ := Aside0.mk (Kd.R_lower ho20 (below_size (by repeat (first | (with_reducible first | exact HB.out | apply below_alloc | apply pw_below_drewN | apply below_drew1) | exact HB.out)))); have n1_ := Aside0.mk (below_step (by repeat (first | (with_reducible first | exact HB.out | apply below_alloc | apply pw_below_drewN | apply below_drew1) | exact HB.out)) hb); clear HB; have HO110 := n0_; have HB := n1_; clear n0_ n1_; clear hb ho20; obtain ⟨Ao21, co21, eo21⟩ := Kd.R_slice HO110.out; subst eo21) | ((with_reducible refine gate_callee (f := 5) rfl ?_); refine goesL_ (some 48) rfl rfl Tryd.func5 (by kernel_rfl) rfl #[.slice Ao21 y108.length co21, .int .i64 1, .int .i64 3] rfl (by (try simp only [List.map_toArray, List.map_cons, List.map_nil]); first | done | rfl | (simp only [List.length_drop, List.length_take]; rfl)) ?_; (with_reducible refine (impl_WrFull.calls _ _ y108 1 3 t111 true _ ?side1 ?side2 ?side9 A12.out).mono ?_); (case side1 => repeat (first | exact (Kd.R_reads' HO110.out).2.2 | (with_reducible refine Kd.C_alloc ?_ _) | (with_reducible refine Kd.C_drewN ?_ _) | (with_reducible refine Kd.C_drew ?_))); (case side2 => exact (Kd.R_reads' HO110.out).2.1); (case side9 => exact Gl.up HGL.out (by repeat (first | (with_reducible first | exact HB.out | apply below_alloc | apply pw_below_drewN | apply below_drew1) | exact HB.out))); rintro e w22 ⟨rfl, hb⟩; refine ⟨_, rfl, ?_⟩; have n0_ := Aside0.mk (Kd.R_below (by (with_reducible repeat (first | apply Kd.R_alloc | apply Kd.R_drewN | apply Kd.R_drew)); exact HO110.out) hb); have n1_ := Aside0.mk (below_step (by repeat (first | (with_reducible first | exact HB.out | apply below_alloc | apply pw_below_drewN | apply below_drew1) | exact HB.out)) hb); clear HO110; clear HB; have HO110 := n0_; have HB := n1_; clear n0_ n1_; (try clear hb); (try clear hb2); (try clear hk); (try clear hi)))
                      go_ret
                      exact ⟨by first | rfl | (simp [errW_none, errW_some] <;> rfl) | (simp [*, errW_none, errW_some] <;> rfl) | (simp (disch := omega) only [wrap64_id] <;> rfl), by repeat (first | (with_reducible first | exact HB.out | apply below_alloc | apply pw_below_drewN | apply below_drew1) | exact HB.out)⟩
                    · rw [if_neg c17] at H
                      exact absurd H (by simp)
                  · rw [if_neg c16] at H
                    exact absurd H (by simp)
                · replace c15 := Bool.eq_false_iff.mpr c15
                  subst c15
                  have H1 : (some true) = some r := by rw [if_neg (show ¬ (false = true) by decide)] at H; exact H
                  clear H
                  have H := H1
                  clear H1
                  obtain rfl := Option.some.inj H
                  go_wp2_with (first | ((with_reducible refine gate_callee (f := 5) rfl ?_); refine goesL_ (some 43) rfl rfl Tryd.func5 (by kernel_rfl) rfl #[.slice A0 l0.length c0, .int .i64 (wrap64 (a1)), .int .i64 (wrap64 (a2))] rfl (by (try simp only [List.map_toArray, List.map_cons, List.map_nil]); first | done | rfl | (simp only [List.length_drop, List.length_take]; rfl)) ?_; (with_reducible refine (impl_WrFull.calls _ _ l0 (wrap64 (a1)) (wrap64 (a2)) t106 false _ ?side1 ?side2 ?side9 A11.out).mono ?_); (case side1 => repeat (first | exact (Kd.C_below HR0.out HB.out) | (with_reducible refine Kd.C_alloc ?_ _) | (with_reducible refine Kd.C_drewN ?_ _) | (with_reducible refine Kd.C_drew ?_))); (case side2 => exact HC0.out); (case side9 => exact Gl.up HGL.out (by repeat (first | (with_reducible first | exact HB.out | apply below_alloc | apply pw_below_drewN | apply below_drew1) | exact HB.out))); rintro e w23 ⟨rfl, hb⟩; refine ⟨_, rfl, ?_⟩; have n0_ := Aside0.mk (below_step (by repeat (first | (with_reducible first | exact HB.out | apply below_alloc | apply pw_below_drewN | apply below_drew1) | exact HB.out)) hb); clear HB; have HB := n0_; clear n0_; (try clear hb); (try clear hb2); (try clear hk); (try clear hi)) | ((with_reducible refine gate_dst (N := 47) rfl ?_); (try (refine gate_guard (by rfl) ?_; dsimp only)); refine Kd.R_lit Kd.string _ 9 ?hg (N := 47) ?hd (xs := ([(⟨#[97, 98]⟩ : ByteArray), (⟨#[99]⟩ : ByteArray)] : List ByteArray)) (inner := [.string (⟨#[97, 98]⟩ : ByteArray), .string (⟨#[99]⟩ : ByteArray)]) (ok := fun _ => True) (okp := fun _ => True) ?hr ?hp (fun _ hk => hk) trivial (Below.refl _ _) (Nat.le_refl _) (by simp) ?_; (case hd => rfl); (case hg => rfl); (case hr => first | (go_simp; done) | (go_simp; rfl)); (case hp => exact (Reps.one (show Kd.M Kd.string _ _ _ (⟨#[97, 98]⟩ : ByteArray) [.string (⟨#[97, 98]⟩ : ByteArray)] from rfl) (Reps.one (show Kd.M Kd.string _ _ _ (⟨#[99]⟩ : ByteArray) [.string (⟨#[99]⟩ : ByteArray)] from rfl) (Reps.none _ _)))); intro v109 w24 ho25 hb hg_ hnew_; clear hg_ hnew_; (first | rw [← Ny108.out] at ho25 | (simp only [Int.reduceToNat] at ho25; rw [← Ny108.out] at ho25)); have n0_ := Aside0.mk (Kd.R_lower ho25 (below_size (by repeat (first | (with_reducible first | exact HB.out | apply below_alloc | apply pw_below_drewN | apply below_drew1) | exact HB.out)))); have n1_ := Aside0.mk (below_step (by repeat (first | (with_reducible first | exact HB.out | apply below_alloc | apply pw_below_drewN | apply below_drew1) | exact HB.out)) hb); clear HB; have HO110 := n0_; have HB := n1_; clear n0_ n1_; clear hb ho25; obtain ⟨Ao26, co26, eo26⟩ := Kd.R_slice HO110.out; subst eo26) | ((with_reducible refine gate_callee (f := 5) rfl ?_); refine goesL_ (some 48) rfl rfl Tryd.func5 (by kernel_rfl) rfl #[.slice Ao26 y108.length co26, .int .i64 1, .int .i64 3] rfl (by (try simp only [List.map_toArray, List.map_cons, List.map_nil]); first | done | rfl | (simp only [List.length_drop, List.length_take]; rfl)) ?_; (with_reducible refine (impl_WrFull.calls _ _ y108 1 3 t111 true _ ?side1 ?side2 ?side9 A12.out).mono ?_); (case side1 => repeat (first | exact (Kd.R_reads' HO110.out).2.2 | (with_reducible refine Kd.C_alloc ?_ _) | (with_reducible refine Kd.C_drewN ?_ _) | (with_reducible refine Kd.C_drew ?_))); (case side2 => exact (Kd.R_reads' HO110.out).2.1); (case side9 => exact Gl.up HGL.out (by repeat (first | (with_reducible first | exact HB.out | apply below_alloc | apply pw_below_drewN | apply below_drew1) | exact HB.out))); rintro e w27 ⟨rfl, hb⟩; refine ⟨_, rfl, ?_⟩; have n0_ := Aside0.mk (Kd.R_below (by (with_reducible repeat (first | apply Kd.R_alloc | apply Kd.R_drewN | apply Kd.R_drew)); exact HO110.out) hb); have n1_ := Aside0.mk (below_step (by repeat (first | (with_reducible first | exact HB.out | apply below_alloc | apply pw_below_drewN | apply below_drew1) | exact HB.out)) hb); clear HO110; clear HB; have HO110 := n0_; have HB := n1_; clear n0_ n1_; (try clear hb); (try clear hb2); (try clear hk); (try clear hi)))
                  go_ret
                  exact ⟨by first | rfl | (simp [errW_none, errW_some] <;> rfl) | (simp [*, errW_none, errW_some] <;> rfl) | (simp (disch := omega) only [wrap64_id] <;> rfl), by repeat (first | (with_reducible first | exact HB.out | apply below_alloc | apply pw_below_drewN | apply below_drew1) | exact HB.out)⟩
              · rw [if_neg c14] at H
                have c14b0 : (t107 == (decide ((wrap64 (a2)) ≤ (x7_1.size : Int)))) = false := by simpa using c14
                (try (have c14b1 : decide (t107 = (decide ((wrap64 (a2)) ≤ (x7_1.size : Int)))) = false := by simpa using c14))
                (try (have c14b2 : (t107 == (decide ((wrap64 (a2)) ≤ (x7_1.size : Int)))) = false := by simpa using c14))
                (try (have c14b3 : ¬ (t107 = (decide ((wrap64 (a2)) ≤ (x7_1.size : Int)))) := by simpa using c14))
                clear c14
                obtain rfl := Option.some.inj H
                go_wp2_with (first | ((with_reducible refine gate_callee (f := 5) rfl ?_); refine goesL_ (some 43) rfl rfl Tryd.func5 (by kernel_rfl) rfl #[.slice A0 l0.length c0, .int .i64 (wrap64 (a1)), .int .i64 (wrap64 (a2))] rfl (by (try simp only [List.map_toArray, List.map_cons, List.map_nil]); first | done | rfl | (simp only [List.length_drop, List.length_take]; rfl)) ?_; (with_reducible refine (impl_WrFull.calls _ _ l0 (wrap64 (a1)) (wrap64 (a2)) t106 t107 _ ?side1 ?side2 ?side9 A11.out).mono ?_); (case side1 => repeat (first | exact (Kd.C_below HR0.out HB.out) | (with_reducible refine Kd.C_alloc ?_ _) | (with_reducible refine Kd.C_drewN ?_ _) | (with_reducible refine Kd.C_drew ?_))); (case side2 => exact HC0.out); (case side9 => exact Gl.up HGL.out (by repeat (first | (with_reducible first | exact HB.out | apply below_alloc | apply pw_below_drewN | apply below_drew1) | exact HB.out))); rintro e w28 ⟨rfl, hb⟩; refine ⟨_, rfl, ?_⟩; have n0_ := Aside0.mk (below_step (by repeat (first | (with_reducible first | exact HB.out | apply below_alloc | apply pw_below_drewN | apply below_drew1) | exact HB.out)) hb); clear HB; have HB := n0_; clear n0_; (try clear hb); (try clear hb2); (try clear hk); (try clear hi)) | ((with_reducible refine gate_dst (N := 47) rfl ?_); (try (refine gate_guard (by rfl) ?_; dsimp only)); refine Kd.R_lit Kd.string _ 9 ?hg (N := 47) ?hd (xs := ([(⟨#[97, 98]⟩ : ByteArray), (⟨#[99]⟩ : ByteArray)] : List ByteArray)) (inner := [.string (⟨#[97, 98]⟩ : ByteArray), .string (⟨#[99]⟩ : ByteArray)]) (ok := fun _ => True) (okp := fun _ => True) ?hr ?hp (fun _ hk => hk) trivial (Below.refl _ _) (Nat.le_refl _) (by simp) ?_; (case hd => rfl); (case hg => rfl); (case hr => first | (go_simp; done) | (go_simp; rfl)); (case hp => exact (Reps.one (show Kd.M Kd.string _ _ _ (⟨#[97, 98]⟩ : ByteArray) [.string (⟨#[97, 98]⟩ : ByteArray)] from rfl) (Reps.one (show Kd.M Kd.string _ _ _ (⟨#[99]⟩ : ByteArray) [.string (⟨#[99]⟩ : ByteArray)] from rfl) (Reps.none _ _)))); intro v109 w29 ho30 hb hg_ hnew_; clear hg_ hnew_; (first | rw [← Ny108.out] at ho30 | (simp only [Int.reduceToNat] at ho30; rw [← Ny108.out] at ho30)); have n0_ := Aside0.mk (Kd.R_lower ho30 (below_size (by repeat (first | (with_reducible first | exact HB.out | apply below_alloc | apply pw_below_drewN | apply below_drew1) | exact HB.out)))); have n1_ := Aside0.mk (below_step (by repeat (first | (with_reducible first | exact HB.out | apply below_alloc | apply pw_below_drewN | apply below_drew1) | exact HB.out)) hb); clear HB; have HO110 := n0_; have HB := n1_; clear n0_ n1_; clear hb ho30; obtain ⟨Ao31, co31, eo31⟩ := Kd.R_slice HO110.out; subst eo31) | ((with_reducible refine gate_callee (f := 5) rfl ?_); refine goesL_ (some 48) rfl rfl Tryd.func5 (by kernel_rfl) rfl #[.slice Ao31 y108.length co31, .int .i64 1, .int .i64 3] rfl (by (try simp only [List.map_toArray, List.map_cons, List.map_nil]); first | done | rfl | (simp only [List.length_drop, List.length_take]; rfl)) ?_; (with_reducible refine (impl_WrFull.calls _ _ y108 1 3 t111 true _ ?side1 ?side2 ?side9 A12.out).mono ?_); (case side1 => repeat (first | exact (Kd.R_reads' HO110.out).2.2 | (with_reducible refine Kd.C_alloc ?_ _) | (with_reducible refine Kd.C_drewN ?_ _) | (with_reducible refine Kd.C_drew ?_))); (case side2 => exact (Kd.R_reads' HO110.out).2.1); (case side9 => exact Gl.up HGL.out (by repeat (first | (with_reducible first | exact HB.out | apply below_alloc | apply pw_below_drewN | apply below_drew1) | exact HB.out))); rintro e w32 ⟨rfl, hb⟩; refine ⟨_, rfl, ?_⟩; have n0_ := Aside0.mk (Kd.R_below (by (with_reducible repeat (first | apply Kd.R_alloc | apply Kd.R_drewN | apply Kd.R_drew)); exact HO110.out) hb); have n1_ := Aside0.mk (below_step (by repeat (first | (with_reducible first | exact HB.out | apply below_alloc | apply pw_below_drewN | apply below_drew1) | exact HB.out)) hb); clear HO110; clear HB; have HO110 := n0_; have HB := n1_; clear n0_ n1_; (try clear hb); (try clear hb2); (try clear hk); (try clear hi)))
                go_ret
                exact ⟨by first | rfl | (simp [errW_none, errW_some] <;> rfl) | (simp [*, errW_none, errW_some] <;> rfl) | (simp (disch := omega) only [wrap64_id] <;> rfl), by repeat (first | (with_reducible first | exact HB.out | apply below_alloc | apply pw_below_drewN | apply below_drew1) | exact HB.out)⟩
            · replace c13 := Bool.eq_false_iff.mpr c13
              subst c13
              have H1 : (some false) = some r := by rw [if_neg (show ¬ (false = true) by decide)] at H; exact H
              clear H
              have H := H1
              clear H1
              obtain rfl := Option.some.inj H
              go_wp2_with (first | ((with_reducible refine gate_callee (f := 5) rfl ?_); refine goesL_ (some 43) rfl rfl Tryd.func5 (by kernel_rfl) rfl #[.slice A0 l0.length c0, .int .i64 (wrap64 (a1)), .int .i64 (wrap64 (a2))] rfl (by (try simp only [List.map_toArray, List.map_cons, List.map_nil]); first | done | rfl | (simp only [List.length_drop, List.length_take]; rfl)) ?_; (with_reducible refine (impl_WrFull.calls _ _ l0 (wrap64 (a1)) (wrap64 (a2)) t106 t107 _ ?side1 ?side2 ?side9 A11.out).mono ?_); (case side1 => repeat (first | exact (Kd.C_below HR0.out HB.out) | (with_reducible refine Kd.C_alloc ?_ _) | (with_reducible refine Kd.C_drewN ?_ _) | (with_reducible refine Kd.C_drew ?_))); (case side2 => exact HC0.out); (case side9 => exact Gl.up HGL.out (by repeat (first | (with_reducible first | exact HB.out | apply below_alloc | apply pw_below_drewN | apply below_drew1) | exact HB.out))); rintro e w33 ⟨rfl, hb⟩; refine ⟨_, rfl, ?_⟩; have n0_ := Aside0.mk (below_step (by repeat (first | (with_reducible first | exact HB.out | apply below_alloc | apply pw_below_drewN | apply below_drew1) | exact HB.out)) hb); clear HB; have HB := n0_; clear n0_; (try clear hb); (try clear hb2); (try clear hk); (try clear hi)) | ((with_reducible refine gate_dst (N := 47) rfl ?_); (try (refine gate_guard (by rfl) ?_; dsimp only)); refine Kd.R_lit Kd.string _ 9 ?hg (N := 47) ?hd (xs := ([(⟨#[97, 98]⟩ : ByteArray), (⟨#[99]⟩ : ByteArray)] : List ByteArray)) (inner := [.string (⟨#[97, 98]⟩ : ByteArray), .string (⟨#[99]⟩ : ByteArray)]) (ok := fun _ => True) (okp := fun _ => True) ?hr ?hp (fun _ hk => hk) trivial (Below.refl _ _) (Nat.le_refl _) (by simp) ?_; (case hd => rfl); (case hg => rfl); (case hr => first | (go_simp; done) | (go_simp; rfl)); (case hp => exact (Reps.one (show Kd.M Kd.string _ _ _ (⟨#[97, 98]⟩ : ByteArray) [.string (⟨#[97, 98]⟩ : ByteArray)] from rfl) (Reps.one (show Kd.M Kd.string _ _ _ (⟨#[99]⟩ : ByteArray) [.string (⟨#[99]⟩ : ByteArray)] from rfl) (Reps.none _ _)))); intro v109 w34 ho35 hb hg_ hnew_; clear hg_ hnew_; (first | rw [← Ny108.out] at ho35 | (simp only [Int.reduceToNat] at ho35; rw [← Ny108.out] at ho35)); have n0_ := Aside0.mk (Kd.R_lower ho35 (below_size (by repeat (first | (with_reducible first | exact HB.out | apply below_alloc | apply pw_below_drewN | apply below_drew1) | exact HB.out)))); have n1_ := Aside0.mk (below_step (by repeat (first | (with_reducible first | exact HB.out | apply below_alloc | apply pw_below_drewN | apply below_drew1) | exact HB.out)) hb); clear HB; have HO110 := n0_; have HB := n1_; clear n0_ n1_; clear hb ho35; obtain ⟨Ao36, co36, eo36⟩ := Kd.R_slice HO110.out; subst eo36) | ((with_reducible refine gate_callee (f := 5) rfl ?_); refine goesL_ (some 48) rfl rfl Tryd.func5 (by kernel_rfl) rfl #[.slice Ao36 y108.length co36, .int .i64 1, .int .i64 3] rfl (by (try simp only [List.map_toArray, List.map_cons, List.map_nil]); first | done | rfl | (simp only [List.length_drop, List.length_take]; rfl)) ?_; (with_reducible refine (impl_WrFull.calls _ _ y108 1 3 t111 false _ ?side1 ?side2 ?side9 A12.out).mono ?_); (case side1 => repeat (first | exact (Kd.R_reads' HO110.out).2.2 | (with_reducible refine Kd.C_alloc ?_ _) | (with_reducible refine Kd.C_drewN ?_ _) | (with_reducible refine Kd.C_drew ?_))); (case side2 => exact (Kd.R_reads' HO110.out).2.1); (case side9 => exact Gl.up HGL.out (by repeat (first | (with_reducible first | exact HB.out | apply below_alloc | apply pw_below_drewN | apply below_drew1) | exact HB.out))); rintro e w37 ⟨rfl, hb⟩; refine ⟨_, rfl, ?_⟩; have n0_ := Aside0.mk (Kd.R_below (by (with_reducible repeat (first | apply Kd.R_alloc | apply Kd.R_drewN | apply Kd.R_drew)); exact HO110.out) hb); have n1_ := Aside0.mk (below_step (by repeat (first | (with_reducible first | exact HB.out | apply below_alloc | apply pw_below_drewN | apply below_drew1) | exact HB.out)) hb); clear HO110; clear HB; have HO110 := n0_; have HB := n1_; clear n0_ n1_; (try clear hb); (try clear hb2); (try clear hk); (try clear hi)))
              go_ret
              exact ⟨by first | rfl | (simp [errW_none, errW_some] <;> rfl) | (simp [*, errW_none, errW_some] <;> rfl) | (simp (disch := omega) only [wrap64_id] <;> rfl), by repeat (first | (with_reducible first | exact HB.out | apply below_alloc | apply pw_below_drewN | apply below_drew1) | exact HB.out)⟩
  · replace c5 := Bool.eq_false_iff.mpr c5
    subst c5
    have H1 : (some true) = some r := by rw [if_neg (show ¬ (false = true) by decide)] at H; exact H
    clear H
    have H := H1
    clear H1
    obtain rfl := Option.some.inj H
    go_enter Tryd.func3, Tryd.ntmps3
    go_wp2_with (first | ((with_reducible refine gate_callee (f := 4) rfl ?_); refine goesL_ (some 14) rfl rfl Tryd.func4 (by kernel_rfl) rfl #[.slice A0 l0.length c0] rfl (by (try simp only [List.map_toArray, List.map_cons, List.map_nil]); first | done | rfl | (simp only [List.length_drop, List.length_take]; rfl)) ?_; (with_reducible refine (laws_zzFits5.calls k _ _ l0 false _ ?side1 ?side2 A4.out).mono ?_); (case side1 => repeat (first | exact HR0.out | (with_reducible refine Kd.C_alloc ?_ _) | (with_reducible refine Kd.C_drewN ?_ _) | (with_reducible refine Kd.C_drew ?_))); (case side2 => exact HC0.out); rintro e w' ⟨rfl, ⟨nd, rfl⟩⟩; refine ⟨_, rfl, ?_⟩))
    go_ret
    exact ⟨by first | rfl | (simp [errW_none, errW_some] <;> rfl) | (simp [*, errW_none, errW_some] <;> rfl) | (simp (disch := omega) only [wrap64_id] <;> rfl), by repeat (first | (with_reducible first | exact HB.out | apply below_alloc | apply pw_below_drewN | apply below_drew1) | exact HB.out)⟩

end Go.Proofs.YtodphfcneiodhaaDoor.MFnWrFull
