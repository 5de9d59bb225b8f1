-- Written by a program of this session (myprint.py, out of the translation). Not trusted: Lean checks it.
import Derived.Test.YtpgpkdickcdlpaaMFnAdAddressx0
import Derived.Test.YtpgpkdickcdlpaaMFnAdAddressx1
namespace Go.Proofs.Ytpgpkdickcdlpaa.MFnAdAddress
open Go.RowKit Go.Proofs.YtpgpkdickcdlpaaW.PrintWords Go.Proofs.YtpgpkdickcdlpaaW.PrintLast Go.Proofs.YtpgpkdickcdlpaaW.PrintMore
attribute [local go_sem] max2_int min2_int max_two min_two max_three min_three max_four min_four   -- for this text's walks alone
set_option linter.unusedVariables false
set_option linter.unusedSimpArgs false

/-! ### impl_AdUnescape: function 7 -/
-- GIVENTEXT
-- INFO 5
/-- What a function says of an error: that it is one. -/
def ErrIs : Option (TypeId × Value) → Value → Prop
  | none, v => v = .nilIface
  | some _, v => ∃ x, v = .iface 49 x
def errors_New.f (a0 : ByteArray) : Option (Option (TypeId × Value)) := some (some (49, .nilIface))
set_option maxHeartbeats 2000000 in
set_option maxRecDepth 100000 in
theorem errors_New.calls (a0 : ByteArray) (r1 : Option (TypeId × Value)) (w : World) (h : errors_New.f a0 = some r1) :
    Calls Try.prog 24 #[.string a0] w fun e w' => (∃ v, e = .returned v ∧ ErrIs r1 v) ∧ Below w.heap.size w w' := by
  obtain rfl := Option.some.inj h
  clear h
  have HB := Aside0.mk (Below.refl w.heap.size w)
  have hu := Try.underlying51
  go_enter Try.func24, Try.ntmps24
  go_wp2
  go_ret
  exact ⟨⟨_, rfl, _, rfl⟩, by repeat (first | (with_reducible first | exact HB.out | apply below_alloc | apply pw_below_drewN | apply below_drew1) | exact HB.out)⟩
/-! ### dbus_zzPathUnescape: function 19 -/
def dbus_zzPathUnescape.l0 : Nat → ByteArray → List Int → Int → Option (ByteArray × Option (TypeId × Value))
  | 0, _, _, _ => none
  | k + 1, x0, x4, x5 => if x5 < (x0.size : Int) then (if 0 ≤ x5 then (if (bt x0 x5) = 37 then (if (wrap64 (x5 + 2)) ≥ (x0.size : Int) then ((errors_New.f (⟨#[105, 110, 118, 97, 108, 105, 100, 32, 101, 115, 99, 97, 112, 101]⟩ : ByteArray)).bind fun t104 => (some ((⟨#[]⟩ : ByteArray), t104))) else (if 0 ≤ (wrap64 (x5 + 1)) then (if (wrap64 (x5 + 1)) < (x0.size : Int) then ((dbus_zzHexDigit.f k (bt x0 (wrap64 (x5 + 1)))).bind fun bt105 => (if 0 ≤ (wrap64 (x5 + 2)) then (if (wrap64 (x5 + 2)) < (x0.size : Int) then ((dbus_zzHexDigit.f k (bt x0 (wrap64 (x5 + 2)))).bind fun bt107 => (if bt105.2 = true then (if bt107.2 = true then (if x4.length < 140737488355328 then (dbus_zzPathUnescape.l0 k x0 (x4 ++ [Go.bits .or .u8 ((bt105.1 * 16) % 256) bt107.1]) (wrap64 ((wrap64 (x5 + 2)) + 1))) else (none)) else ((errors_New.f (⟨#[105, 110, 118, 97, 108, 105, 100, 32, 101, 115, 99, 97, 112, 101]⟩ : ByteArray)).bind fun t112 => (some ((⟨#[]⟩ : ByteArray), t112)))) else ((errors_New.f (⟨#[105, 110, 118, 97, 108, 105, 100, 32, 101, 115, 99, 97, 112, 101]⟩ : ByteArray)).bind fun t113 => (some ((⟨#[]⟩ : ByteArray), t113))))) else (none)) else (none))) else (none)) else (none))) else (if x4.length < 140737488355328 then (dbus_zzPathUnescape.l0 k x0 (x4 ++ [bt x0 x5]) (wrap64 (x5 + 1))) else (none))) else (none)) else (some (strOfNums x4, none))
def dbus_zzPathUnescape.f (k : Nat) (a0 : ByteArray) : Option (ByteArray × Option (TypeId × Value)) := dbus_zzPathUnescape.l0 k a0 ([] : List Int) 0
theorem dbus_zzPathUnescape.mono_l : ∀ k, (∀ y0 y1 y2, LeO (dbus_zzPathUnescape.l0 k y0 y1 y2) (dbus_zzPathUnescape.l0 (k + 1) y0 y1 y2))
  | 0 => fun _ _ _ r h => by simp [dbus_zzPathUnescape.l0] at h
  | k + 1 => by
    have ih0 := dbus_zzPathUnescape.mono_l k
    · intro y0 y1 y2
      unfold dbus_zzPathUnescape.l0
      repeat' first
      | (with_reducible exact ih0 _ _ _)
      | (with_reducible exact dbus_zzHexDigit.mono _ _)
      | (with_reducible exact LeO.refl _)
      | (with_reducible exact LeO.none _)
      | (with_reducible refine LeO.ite ?_ ?_)
      | (with_reducible refine LeO.bind ?_ (fun _ => ?_))
      | exact ih0 _ _ _
      | exact dbus_zzHexDigit.mono _ _
      | exact LeO.none _
      | refine LeO.ite ?_ ?_
      | refine LeO.bind ?_ (fun _ => ?_)
theorem dbus_zzPathUnescape.mono : ∀ a0 k, LeO (dbus_zzPathUnescape.f k a0) (dbus_zzPathUnescape.f (k + 1) a0) := by
  intro a0 k
  have ih0 := dbus_zzPathUnescape.mono_l k
  unfold dbus_zzPathUnescape.f
  repeat' first
      | (with_reducible exact ih0 _ _ _)
      | (with_reducible exact dbus_zzHexDigit.mono _ _)
      | (with_reducible exact LeO.refl _)
      | (with_reducible exact LeO.none _)
      | (with_reducible refine LeO.ite ?_ ?_)
      | (with_reducible refine LeO.bind ?_ (fun _ => ?_))
      | exact ih0 _ _ _
      | exact dbus_zzHexDigit.mono _ _
      | exact LeO.none _
      | refine LeO.ite ?_ ?_
      | refine LeO.bind ?_ (fun _ => ?_)
set_option maxHeartbeats 8000000 in
set_option maxRecDepth 100000 in
theorem dbus_zzPathUnescape.calls (k : Nat) (a0 : ByteArray) (r1 : ByteArray) (r2 : Option (TypeId × Value)) (w : World) (h : dbus_zzPathUnescape.f k a0 = some (r1, r2)) :
    Calls Try.prog 19 #[.string a0] w fun e w' => (∃ v, e = .returned (.tuple #[.string r1, v]) ∧ ErrIs r2 v) ∧ Below w.heap.size w w' := by
  have HB := Aside0.mk (Below.refl w.heap.size w)
  have H : (dbus_zzPathUnescape.l0 k a0 ([] : List Int) 0) = some (r1, r2) := h
  clear h
  have H' := Aside0.mk H
  clear H
  go_enter Try.func19, Try.ntmps19
  go_wp2
  go_loopg [4, 5] k (fun kq v4 v5 w' => ∃ (x4_1 : List Int) (x5_1 : Int), v5 = .int .i64 x5_1 ∧ Aside0 (dbus_zzPathUnescape.l0 kq a0 x4_1 x5_1 = some (r1, r2)) ∧ Aside0 (kq ≤ k) ∧ Aside0 (Kd.R (Kd.int .u8) 5 w' w.heap.size (fun _ => True) v4 x4_1) ∧ Aside0 (Below w.heap.size w w'))
  case atStart => exact ⟨(([] : List Int)), (0), (by first | rfl | (simp; done) | (simp [*]; done)), H', ⟨Nat.le_refl _⟩, ⟨by first | exact Kd.R_nil _ _ _ _ _ | exact Kd.N_nil _ _ _ _ _ | exact Kd.V_nil _ _ _ _ _ | exact Kd.Q_nil _ _ _ _ _ | exact Kd.S_nil _ _ _ _ _⟩, ⟨by repeat (first | (with_reducible first | exact HB.out | apply below_alloc | apply pw_below_drewN | apply below_drew1) | exact HB.out)⟩⟩
  case round =>
    clear H'
    try clear c1
    obtain ⟨x4_1, x5_1, rfl, HA, HK1, HO_4, HB⟩ := hrel
    cases gk with
    | zero => exact absurd HA.out (by simp [dbus_zzPathUnescape.l0])
    | succ k1 =>
      have H := HA.out
      clear HA
      simp only [dbus_zzPathUnescape.l0] at H
      by_cases c2 : x5_1 < (a0.size : Int)
      · rw [if_pos c2] at H
        have c2b0 : decide (x5_1 < (a0.size : Int)) = true := decide_eq_true c2
        clear c2
        by_cases c3 : 0 ≤ x5_1
        · rw [if_pos c3] at H
          have c3b0 : decide (0 ≤ x5_1) = true := decide_eq_true c3
          clear c3
          by_cases c5 : (bt a0 x5_1) = 37
          · rw [if_pos c5] at H
            have c5b0 : ((bt a0 x5_1) == 37) = true := beq_iff_eq.mpr c5
            have c5b1 : ((bt a0 x5_1) != 37) = false := bne_eq_false_iff_eq.mpr c5
            clear c5
            by_cases c6 : (wrap64 (x5_1 + 2)) ≥ (a0.size : Int)
            · rw [if_pos c6] at H
              have c6b0 : decide ((a0.size : Int) ≤ (wrap64 (x5_1 + 2))) = true := decide_eq_true c6
              clear c6
              replace H := Option.bind_eq_some_iff.mp H
              obtain ⟨t104, A70, H⟩ := H
              replace H : (some ((⟨#[]⟩ : ByteArray), t104)) = some (r1, r2) := H
              have A7 := Aside0.mk A70
              clear A70
              simp only [Option.some.injEq, Prod.mk.injEq] at H
              obtain ⟨rfl, rfl⟩ := H
              have p4 : 0 ≤ (x5_1 : Int) := of_decide_eq_true (by first | (with_reducible assumption) | assumption)
              have q4 : x5_1 < (a0.size : Int) := of_decide_eq_true (by first | (with_reducible assumption) | assumption)
              have hx4 := bt_at a0 x5_1
              replace p4 := eq_true p4
              replace q4 := eq_true q4
              go_wp2_with (first | ((with_reducible refine gate_callee (f := 24) rfl ?_); refine goesL_ (some 31) rfl rfl Try.func24 (by kernel_rfl) rfl #[.string (⟨#[105, 110, 118, 97, 108, 105, 100, 32, 101, 115, 99, 97, 112, 101]⟩ : ByteArray)] rfl (by (try simp only [List.map_toArray, List.map_cons, List.map_nil]); first | done | rfl | (simp only [List.length_drop, List.length_take]; rfl)) ?_; (with_reducible refine (errors_New.calls (⟨#[105, 110, 118, 97, 108, 105, 100, 32, 101, 115, 99, 97, 112, 101]⟩ : ByteArray) t104 _ A7.out).mono ?_); rintro e w8 ⟨⟨v_, rfl, hv0_⟩, hb⟩; have HV_ := Aside0.mk hv0_; clear hv0_; refine ⟨_, rfl, ?_⟩; have n0_ := Aside0.mk (Kd.R_below (by (with_reducible repeat (first | apply Kd.R_alloc | apply Kd.R_drewN | apply Kd.R_drew)); exact HO_4.out) hb); have n1_ := Aside0.mk (below_step (by repeat (first | (with_reducible first | exact HB.out | apply below_alloc | apply pw_below_drewN | apply below_drew1) | exact HB.out)) hb); clear HO_4; clear HB; have HO_4 := n0_; have HB := n1_; clear n0_ n1_; (try clear hb); (try clear hb2); (try clear hk); (try clear hi); (try simp only [errW_none, errW_some])))
              go_ret2
              first | exact ⟨⟨_, rfl, HV_.out⟩, by repeat (first | (with_reducible first | exact HB.out | apply below_alloc | apply pw_below_drewN | apply below_drew1) | exact HB.out)⟩ | exact ⟨⟨_, rfl, rfl⟩, by repeat (first | (with_reducible first | exact HB.out | apply below_alloc | apply pw_below_drewN | apply below_drew1) | exact HB.out)⟩
            · rw [if_neg c6] at H
              have c6b0 : decide ((a0.size : Int) ≤ (wrap64 (x5_1 + 2))) = false := decide_eq_false c6
              clear c6
              obtain ⟨ji9, hji9⟩ : ∃ j_ : Int, (wrap64 (x5_1 + 1)) = j_ := ⟨_, rfl⟩
              replace H : (if 0 ≤ (ji9) then (if (ji9) < (a0.size : Int) then ((dbus_zzHexDigit.f k1 (bt a0 (ji9))).bind fun bt105 => (if 0 ≤ (wrap64 (x5_1 + 2)) then (if (wrap64 (x5_1 + 2)) < (a0.size : Int) then ((dbus_zzHexDigit.f k1 (bt a0 (wrap64 (x5_1 + 2)))).bind fun bt107 => (if bt105.2 = true then (if bt107.2 = true then (if x4_1.length < 140737488355328 then (dbus_zzPathUnescape.l0 k1 a0 (x4_1 ++ [Go.bits .or .u8 ((bt105.1 * 16) % 256) bt107.1]) (wrap64 ((wrap64 (x5_1 + 2)) + 1))) else (none)) else ((errors_New.f (⟨#[105, 110, 118, 97, 108, 105, 100, 32, 101, 115, 99, 97, 112, 101]⟩ : ByteArray)).bind fun t112 => (some ((⟨#[]⟩ : ByteArray), t112)))) else ((errors_New.f (⟨#[105, 110, 118, 97, 108, 105, 100, 32, 101, 115, 99, 97, 112, 101]⟩ : ByteArray)).bind fun t113 => (some ((⟨#[]⟩ : ByteArray), t113))))) else (none)) else (none))) else (none)) else (none)) = some (r1, r2) := by first | (rw [hji9] at H; exact H) | (simp only [hji9] at H ⊢; exact H)
              have hji9w : (IntKind.i64.wrap (x5_1 + 1)) = ji9 := (i64_w _).trans hji9
              by_cases c10 : 0 ≤ (ji9)
              · rw [if_pos c10] at H
                have c10b0 : decide (0 ≤ (ji9)) = true := decide_eq_true c10
                clear c10
                by_cases c11 : (ji9) < (a0.size : Int)
                · rw [if_pos c11] at H
                  have c11b0 : decide ((ji9) < (a0.size : Int)) = true := decide_eq_true c11
                  clear c11
                  replace H := Option.bind_eq_some_iff.mp H
                  obtain ⟨⟨t105, t106⟩, A130, H⟩ := H
                  replace H : (if 0 ≤ (wrap64 (x5_1 + 2)) then (if (wrap64 (x5_1 + 2)) < (a0.size : Int) then ((dbus_zzHexDigit.f k1 (bt a0 (wrap64 (x5_1 + 2)))).bind fun bt107 => (if t106 = true then (if bt107.2 = true then (if x4_1.length < 140737488355328 then (dbus_zzPathUnescape.l0 k1 a0 (x4_1 ++ [Go.bits .or .u8 ((t105 * 16) % 256) bt107.1]) (wrap64 ((wrap64 (x5_1 + 2)) + 1))) else (none)) else ((errors_New.f (⟨#[105, 110, 118, 97, 108, 105, 100, 32, 101, 115, 99, 97, 112, 101]⟩ : ByteArray)).bind fun t112 => (some ((⟨#[]⟩ : ByteArray), t112)))) else ((errors_New.f (⟨#[105, 110, 118, 97, 108, 105, 100, 32, 101, 115, 99, 97, 112, 101]⟩ : ByteArray)).bind fun t113 => (some ((⟨#[]⟩ : ByteArray), t113))))) else (none)) else (none)) = some (r1, r2) := H
                  have A13 := Aside0.mk A130
                  clear A130
                  obtain ⟨ji14, hji14⟩ : ∃ j_ : Int, (wrap64 (x5_1 + 2)) = j_ := ⟨_, rfl⟩
                  replace H : (if 0 ≤ (ji14) then (if (ji14) < (a0.size : Int) then ((dbus_zzHexDigit.f k1 (bt a0 (ji14))).bind fun bt107 => (if t106 = true then (if bt107.2 = true then (if x4_1.length < 140737488355328 then (dbus_zzPathUnescape.l0 k1 a0 (x4_1 ++ [Go.bits .or .u8 ((t105 * 16) % 256) bt107.1]) (wrap64 ((ji14) + 1))) else (none)) else ((errors_New.f (⟨#[105, 110, 118, 97, 108, 105, 100, 32, 101, 115, 99, 97, 112, 101]⟩ : ByteArray)).bind fun t112 => (some ((⟨#[]⟩ : ByteArray), t112)))) else ((errors_New.f (⟨#[105, 110, 118, 97, 108, 105, 100, 32, 101, 115, 99, 97, 112, 101]⟩ : ByteArray)).bind fun t113 => (some ((⟨#[]⟩ : ByteArray), t113))))) else (none)) else (none)) = some (r1, r2) := by first | (rw [hji14] at H; exact H) | (simp only [hji14] at H ⊢; exact H)
                  (try rw [hji14] at c6b0)
                  (try rw [hji14] at A13)
                  have hji14w : (IntKind.i64.wrap (x5_1 + 2)) = ji14 := (i64_w _).trans hji14
                  by_cases c15 : 0 ≤ (ji14)
                  · rw [if_pos c15] at H
                    have c15b0 : decide (0 ≤ (ji14)) = true := decide_eq_true c15
                    clear c15
                    by_cases c16 : (ji14) < (a0.size : Int)
                    · rw [if_pos c16] at H
                      have c16b0 : decide ((ji14) < (a0.size : Int)) = true := decide_eq_true c16
                      clear c16
                      replace H := Option.bind_eq_some_iff.mp H
                      obtain ⟨⟨t107, t108⟩, A180, H⟩ := H
                      replace H : (if t106 = true then (if t108 = true then (if x4_1.length < 140737488355328 then (dbus_zzPathUnescape.l0 k1 a0 (x4_1 ++ [Go.bits .or .u8 ((t105 * 16) % 256) t107]) (wrap64 ((ji14) + 1))) else (none)) else ((errors_New.f (⟨#[105, 110, 118, 97, 108, 105, 100, 32, 101, 115, 99, 97, 112, 101]⟩ : ByteArray)).bind fun t112 => (some ((⟨#[]⟩ : ByteArray), t112)))) else ((errors_New.f (⟨#[105, 110, 118, 97, 108, 105, 100, 32, 101, 115, 99, 97, 112, 101]⟩ : ByteArray)).bind fun t113 => (some ((⟨#[]⟩ : ByteArray), t113)))) = some (r1, r2) := H
                      have A18 := Aside0.mk A180
                      clear A180
                      by_cases c19 : t106 = true
                      · subst c19
                        have H1 : (if t108 = true then (if x4_1.length < 140737488355328 then (dbus_zzPathUnescape.l0 k1 a0 (x4_1 ++ [Go.bits .or .u8 ((t105 * 16) % 256) t107]) (wrap64 ((ji14) + 1))) else (none)) else ((errors_New.f (⟨#[105, 110, 118, 97, 108, 105, 100, 32, 101, 115, 99, 97, 112, 101]⟩ : ByteArray)).bind fun t112 => (some ((⟨#[]⟩ : ByteArray), t112)))) = some (r1, r2) := by rw [if_pos rfl] at H; exact H
                        clear H
                        have H := H1
                        clear H1
                        by_cases c20 : t108 = true
                        · subst c20
                          have H1 : (if x4_1.length < 140737488355328 then (dbus_zzPathUnescape.l0 k1 a0 (x4_1 ++ [Go.bits .or .u8 ((t105 * 16) % 256) t107]) (wrap64 ((ji14) + 1))) else (none)) = some (r1, r2) := by rw [if_pos rfl] at H; exact H
                          clear H
                          have H := H1
                          clear H1
                          by_cases c21 : x4_1.length < 140737488355328
                          · rw [if_pos c21] at H
                            have LMc21 := Aside0.mk c21
                            clear c21
                            obtain ⟨y109, hy109⟩ : ∃ y_ : List Int, y_ = (x4_1 ++ [Go.bits .or .u8 ((t105 * 16) % 256) t107]) := ⟨_, rfl⟩
                            replace H : (dbus_zzPathUnescape.l0 k1 a0 y109 (wrap64 ((ji14) + 1))) = some (r1, r2) := by first | (rw [hy109]; with_reducible exact H) | (have H2_ := (Option.bind_some _ _).symm.trans H; rw [hy109]; with_reducible exact H2_) | (have H2_ := (Option.bind_some _ _).symm.trans H; with_reducible exact H2_) | with_reducible exact H | (rw [hy109]; exact H) | exact H
                            have Ny109 := Aside0.mk hy109
                            clear hy109
                            have H' := Aside0.mk H
                            clear H
                            have p4 : 0 ≤ (x5_1 : Int) := of_decide_eq_true (by first | (with_reducible assumption) | assumption)
                            have q4 : x5_1 < (a0.size : Int) := of_decide_eq_true (by first | (with_reducible assumption) | assumption)
                            have hx4 := bt_at a0 x5_1
                            replace p4 := eq_true p4
                            replace q4 := eq_true q4
                            have p12 : 0 ≤ ((ji9) : Int) := of_decide_eq_true (by first | (with_reducible assumption) | assumption)
                            have q12 : (ji9) < (a0.size : Int) := of_decide_eq_true (by first | (with_reducible assumption) | assumption)
                            have hx12 := bt_at a0 (ji9)
                            replace p12 := eq_true p12
                            replace q12 := eq_true q12
                            go_wp2_with (first | ((with_reducible refine gate_callee (f := 25) rfl ?_); refine goesL_ (some 37) rfl rfl Try.func25 (by kernel_rfl) rfl #[.int .u8 (bt a0 (ji9))] rfl (by (try simp only [List.map_toArray, List.map_cons, List.map_nil]); first | done | (simp only [hji9]; rfl) | rfl | (simp only [List.length_drop, List.length_take]; rfl)) ?_; (with_reducible refine (dbus_zzHexDigit.calls k1 (bt a0 (ji9)) t105 true _ A13.out).mono ?_); rintro e w' ⟨rfl, ⟨nd, rfl⟩⟩; refine ⟨_, rfl, ?_⟩; have p17 : 0 ≤ ((ji14) : Int) := of_decide_eq_true (by first | (with_reducible assumption) | assumption); have q17 : (ji14) < (a0.size : Int) := of_decide_eq_true (by first | (with_reducible assumption) | assumption); have hx17 := bt_at a0 (ji14); replace p17 := eq_true p17; replace q17 := eq_true q17) | ((with_reducible refine gate_callee (f := 25) rfl ?_); refine goesL_ (some 45) rfl rfl Try.func25 (by kernel_rfl) rfl #[.int .u8 (bt a0 (ji14))] rfl (by (try simp only [List.map_toArray, List.map_cons, List.map_nil]); first | done | (simp only [hji14]; rfl) | rfl | (simp only [List.length_drop, List.length_take]; rfl)) ?_; (with_reducible refine (dbus_zzHexDigit.calls k1 (bt a0 (ji14)) t107 true _ A18.out).mono ?_); rintro e w' ⟨rfl, ⟨nd, rfl⟩⟩; refine ⟨_, rfl, ?_⟩) | ((with_reducible refine gate_builtin (b := .append) (xs := #[.tmp 55, .tmp 60]) rfl ?_); at_builtin; refine Kd.R_append (Kd.int .u8) (w0 := w) w.heap.size rfl (.tmp 55) (.tmp 60) 40 5 (.int .u8 0) 1 rfl Try.underlying40 info5 rfl (by decide) (by omega) u4 x4_1 (Go.bits .or .u8 ((t105 * 16) % 256) t107) [.int .u8 (Go.bits .or .u8 ((t105 * 16) % 256) t107)] (fun _ => True) (fun _ => False) rfl rfl ?aP (fun _ hk => hk.elim) ?aF ?aO ?aB ?aS ?aL ?_; (case aP => exact rfl); (case aB => exact (by repeat (first | (with_reducible first | exact HB.out | apply below_alloc | apply pw_below_drewN | apply below_drew1) | exact HB.out))); (case aF => exact (fun _ _ => trivial)); (case aO => exact (by (with_reducible repeat (first | apply Kd.R_alloc | apply Kd.R_drewN | apply Kd.R_drew)); exact HO_4.out)); (case aS => exact (below_size (by repeat (first | (with_reducible first | exact HB.out | apply below_alloc | apply pw_below_drewN | apply below_drew1) | exact HB.out)))); (case aL => have := LMc21.out; omega); intro v110 w22 ho hb hg hat; rw [← Ny109.out] at ho; have n0_ := Aside0.mk (hb); have n1_ := Aside0.mk (ho); clear HB; clear HO_4; have HB := n0_; have HO111 := n1_; clear n0_ n1_; clear ho hb hg hat))
                            go_roundg k1
                            case measure => have := HK1.out; omega
                            case rel => exact ⟨(y109), (wrap64 ((ji14) + 1)), (by first | rfl | (simp; done) | (simp only [← hji14] <;> (first | rfl | simp)) | (simp [*]; done)), H', ⟨by have := HK1.out; omega⟩, ⟨by (with_reducible repeat (first | apply Kd.R_alloc | apply Kd.R_drewN | apply Kd.R_drew)); exact HO111.out⟩, ⟨by repeat (first | (with_reducible first | exact HB.out | apply below_alloc | apply pw_below_drewN | apply below_drew1) | exact HB.out)⟩⟩
                          · rw [if_neg c21] at H
                            exact absurd H (by simp)
                        · replace c20 := Bool.eq_false_iff.mpr c20
                          subst c20
                          have H1 : ((errors_New.f (⟨#[105, 110, 118, 97, 108, 105, 100, 32, 101, 115, 99, 97, 112, 101]⟩ : ByteArray)).bind fun t112 => (some ((⟨#[]⟩ : ByteArray), t112))) = some (r1, r2) := by rw [if_neg (show ¬ (false = true) by decide)] at H; exact H
                          clear H
                          have H := H1
                          clear H1
                          replace H := Option.bind_eq_some_iff.mp H
                          obtain ⟨t112, A230, H⟩ := H
                          replace H : (some ((⟨#[]⟩ : ByteArray), t112)) = some (r1, r2) := H
                          have A23 := Aside0.mk A230
                          clear A230
                          simp only [Option.some.injEq, Prod.mk.injEq] at H
                          obtain ⟨rfl, rfl⟩ := H
                          have p4 : 0 ≤ (x5_1 : Int) := of_decide_eq_true (by first | (with_reducible assumption) | assumption)
                          have q4 : x5_1 < (a0.size : Int) := of_decide_eq_true (by first | (with_reducible assumption) | assumption)
                          have hx4 := bt_at a0 x5_1
                          replace p4 := eq_true p4
                          replace q4 := eq_true q4
                          have p12 : 0 ≤ ((ji9) : Int) := of_decide_eq_true (by first | (with_reducible assumption) | assumption)
                          have q12 : (ji9) < (a0.size : Int) := of_decide_eq_true (by first | (with_reducible assumption) | assumption)
                          have hx12 := bt_at a0 (ji9)
                          replace p12 := eq_true p12
                          replace q12 := eq_true q12
                          go_wp2_with (first | ((with_reducible refine gate_callee (f := 25) rfl ?_); refine goesL_ (some 37) rfl rfl Try.func25 (by kernel_rfl) rfl #[.int .u8 (bt a0 (ji9))] rfl (by (try simp only [List.map_toArray, List.map_cons, List.map_nil]); first | done | (simp only [hji9]; rfl) | rfl | (simp only [List.length_drop, List.length_take]; rfl)) ?_; (with_reducible refine (dbus_zzHexDigit.calls k1 (bt a0 (ji9)) t105 true _ A13.out).mono ?_); rintro e w' ⟨rfl, ⟨nd, rfl⟩⟩; refine ⟨_, rfl, ?_⟩; have p17 : 0 ≤ ((ji14) : Int) := of_decide_eq_true (by first | (with_reducible assumption) | assumption); have q17 : (ji14) < (a0.size : Int) := of_decide_eq_true (by first | (with_reducible assumption) | assumption); have hx17 := bt_at a0 (ji14); replace p17 := eq_true p17; replace q17 := eq_true q17) | ((with_reducible refine gate_callee (f := 25) rfl ?_); refine goesL_ (some 45) rfl rfl Try.func25 (by kernel_rfl) rfl #[.int .u8 (bt a0 (ji14))] rfl (by (try simp only [List.map_toArray, List.map_cons, List.map_nil]); first | done | (simp only [hji14]; rfl) | rfl | (simp only [List.length_drop, List.length_take]; rfl)) ?_; (with_reducible refine (dbus_zzHexDigit.calls k1 (bt a0 (ji14)) t107 false _ A18.out).mono ?_); rintro e w' ⟨rfl, ⟨nd, rfl⟩⟩; refine ⟨_, rfl, ?_⟩) | ((with_reducible refine gate_callee (f := 24) rfl ?_); refine goesL_ (some 54) rfl rfl Try.func24 (by kernel_rfl) rfl #[.string (⟨#[105, 110, 118, 97, 108, 105, 100, 32, 101, 115, 99, 97, 112, 101]⟩ : ByteArray)] rfl (by (try simp only [List.map_toArray, List.map_cons, List.map_nil]); first | done | rfl | (simp only [List.length_drop, List.length_take]; rfl)) ?_; (with_reducible refine (errors_New.calls (⟨#[105, 110, 118, 97, 108, 105, 100, 32, 101, 115, 99, 97, 112, 101]⟩ : ByteArray) t112 _ A23.out).mono ?_); rintro e w24 ⟨⟨v_, rfl, hv0_⟩, hb⟩; have HV_ := Aside0.mk hv0_; clear hv0_; refine ⟨_, rfl, ?_⟩; have n0_ := Aside0.mk (Kd.R_below (by (with_reducible repeat (first | apply Kd.R_alloc | apply Kd.R_drewN | apply Kd.R_drew)); exact HO_4.out) hb); have n1_ := Aside0.mk (below_step (by repeat (first | (with_reducible first | exact HB.out | apply below_alloc | apply pw_below_drewN | apply below_drew1) | exact HB.out)) hb); clear HO_4; clear HB; have HO_4 := n0_; have HB := n1_; clear n0_ n1_; (try clear hb); (try clear hb2); (try clear hk); (try clear hi); (try simp only [errW_none, errW_some])))
                          go_ret2
                          first | exact ⟨⟨_, rfl, HV_.out⟩, by repeat (first | (with_reducible first | exact HB.out | apply below_alloc | apply pw_below_drewN | apply below_drew1) | exact HB.out)⟩ | exact ⟨⟨_, rfl, rfl⟩, by repeat (first | (with_reducible first | exact HB.out | apply below_alloc | apply pw_below_drewN | apply below_drew1) | exact HB.out)⟩
                      · replace c19 := Bool.eq_false_iff.mpr c19
                        subst c19
                        have H1 : ((errors_New.f (⟨#[105, 110, 118, 97, 108, 105, 100, 32, 101, 115, 99, 97, 112, 101]⟩ : ByteArray)).bind fun t113 => (some ((⟨#[]⟩ : ByteArray), t113))) = some (r1, r2) := by rw [if_neg (show ¬ (false = true) by decide)] at H; exact H
                        clear H
                        have H := H1
                        clear H1
                        replace H := Option.bind_eq_some_iff.mp H
                        obtain ⟨t113, A250, H⟩ := H
                        replace H : (some ((⟨#[]⟩ : ByteArray), t113)) = some (r1, r2) := H
                        have A25 := Aside0.mk A250
                        clear A250
                        simp only [Option.some.injEq, Prod.mk.injEq] at H
                        obtain ⟨rfl, rfl⟩ := H
                        have p4 : 0 ≤ (x5_1 : Int) := of_decide_eq_true (by first | (with_reducible assumption) | assumption)
                        have q4 : x5_1 < (a0.size : Int) := of_decide_eq_true (by first | (with_reducible assumption) | assumption)
                        have hx4 := bt_at a0 x5_1
                        replace p4 := eq_true p4
                        replace q4 := eq_true q4
                        have p12 : 0 ≤ ((ji9) : Int) := of_decide_eq_true (by first | (with_reducible assumption) | assumption)
                        have q12 : (ji9) < (a0.size : Int) := of_decide_eq_true (by first | (with_reducible assumption) | assumption)
                        have hx12 := bt_at a0 (ji9)
                        replace p12 := eq_true p12
                        replace q12 := eq_true q12
                        go_wp2_with (first | ((with_reducible refine gate_callee (f := 25) rfl ?_); refine goesL_ (some 37) rfl rfl Try.func25 (by kernel_rfl) rfl #[.int .u8 (bt a0 (ji9))] rfl (by (try simp only [List.map_toArray, List.map_cons, List.map_nil]); first | done | (simp only [hji9]; rfl) | rfl | (simp only [List.length_drop, List.length_take]; rfl)) ?_; (with_reducible refine (dbus_zzHexDigit.calls k1 (bt a0 (ji9)) t105 false _ A13.out).mono ?_); rintro e w' ⟨rfl, ⟨nd, rfl⟩⟩; refine ⟨_, rfl, ?_⟩; have p17 : 0 ≤ ((ji14) : Int) := of_decide_eq_true (by first | (with_reducible assumption) | assumption); have q17 : (ji14) < (a0.size : Int) := of_decide_eq_true (by first | (with_reducible assumption) | assumption); have hx17 := bt_at a0 (ji14); replace p17 := eq_true p17; replace q17 := eq_true q17) | ((with_reducible refine gate_callee (f := 25) rfl ?_); refine goesL_ (some 45) rfl rfl Try.func25 (by kernel_rfl) rfl #[.int .u8 (bt a0 (ji14))] rfl (by (try simp only [List.map_toArray, List.map_cons, List.map_nil]); first | done | (simp only [hji14]; rfl) | rfl | (simp only [List.length_drop, List.length_take]; rfl)) ?_; (with_reducible refine (dbus_zzHexDigit.calls k1 (bt a0 (ji14)) t107 t108 _ A18.out).mono ?_); rintro e w' ⟨rfl, ⟨nd, rfl⟩⟩; refine ⟨_, rfl, ?_⟩) | ((with_reducible refine gate_callee (f := 24) rfl ?_); refine goesL_ (some 54) rfl rfl Try.func24 (by kernel_rfl) rfl #[.string (⟨#[105, 110, 118, 97, 108, 105, 100, 32, 101, 115, 99, 97, 112, 101]⟩ : ByteArray)] rfl (by (try simp only [List.map_toArray, List.map_cons, List.map_nil]); first | done | rfl | (simp only [List.length_drop, List.length_take]; rfl)) ?_; (with_reducible refine (errors_New.calls (⟨#[105, 110, 118, 97, 108, 105, 100, 32, 101, 115, 99, 97, 112, 101]⟩ : ByteArray) t113 _ A25.out).mono ?_); rintro e w26 ⟨⟨v_, rfl, hv0_⟩, hb⟩; have HV_ := Aside0.mk hv0_; clear hv0_; refine ⟨_, rfl, ?_⟩; have n0_ := Aside0.mk (Kd.R_below (by (with_reducible repeat (first | apply Kd.R_alloc | apply Kd.R_drewN | apply Kd.R_drew)); exact HO_4.out) hb); have n1_ := Aside0.mk (below_step (by repeat (first | (with_reducible first | exact HB.out | apply below_alloc | apply pw_below_drewN | apply below_drew1) | exact HB.out)) hb); clear HO_4; clear HB; have HO_4 := n0_; have HB := n1_; clear n0_ n1_; (try clear hb); (try clear hb2); (try clear hk); (try clear hi); (try simp only [errW_none, errW_some])))
                        go_ret2
                        first | exact ⟨⟨_, rfl, HV_.out⟩, by repeat (first | (with_reducible first | exact HB.out | apply below_alloc | apply pw_below_drewN | apply below_drew1) | exact HB.out)⟩ | exact ⟨⟨_, rfl, rfl⟩, by repeat (first | (with_reducible first | exact HB.out | apply below_alloc | apply pw_below_drewN | apply below_drew1) | exact HB.out)⟩
                    · rw [if_neg c16] at H
                      exact absurd H (by simp)
                  · rw [if_neg c15] at H
                    exact absurd H (by simp)
                · rw [if_neg c11] at H
                  exact absurd H (by simp)
              · rw [if_neg c10] at H
                exact absurd H (by simp)
          · rw [if_neg c5] at H
            have c5b0 : ((bt a0 x5_1) == 37) = false := beq_eq_false_iff_ne.mpr c5
            have c5b1 : ((bt a0 x5_1) != 37) = true := bne_iff_ne.mpr c5
            by_cases c28 : x4_1.length < 140737488355328
            · rw [if_pos c28] at H
              have LMc28 := Aside0.mk c28
              clear c28
              obtain ⟨y101, hy101⟩ : ∃ y_ : List Int, y_ = (x4_1 ++ [bt a0 x5_1]) := ⟨_, rfl⟩
              replace H : (dbus_zzPathUnescape.l0 k1 a0 y101 (wrap64 (x5_1 + 1))) = some (r1, r2) := by first | (rw [hy101]; with_reducible exact H) | (have H2_ := (Option.bind_some _ _).symm.trans H; rw [hy101]; with_reducible exact H2_) | (have H2_ := (Option.bind_some _ _).symm.trans H; with_reducible exact H2_) | with_reducible exact H | (rw [hy101]; exact H) | exact H
              have Ny101 := Aside0.mk hy101
              clear hy101
              have H' := Aside0.mk H
              clear H
              have p4 : 0 ≤ (x5_1 : Int) := of_decide_eq_true (by first | (with_reducible assumption) | assumption)
              have q4 : x5_1 < (a0.size : Int) := of_decide_eq_true (by first | (with_reducible assumption) | assumption)
              have hx4 := bt_at a0 x5_1
              replace p4 := eq_true p4
              replace q4 := eq_true q4
              have p27 : 0 ≤ (x5_1 : Int) := of_decide_eq_true (by first | (with_reducible assumption) | assumption)
              have q27 : x5_1 < (a0.size : Int) := of_decide_eq_true (by first | (with_reducible assumption) | assumption)
              have hx27 := bt_at a0 x5_1
              replace p27 := eq_true p27
              replace q27 := eq_true q27
              go_wp2_with (first | ((with_reducible refine gate_builtin (b := .append) (xs := #[.tmp 20, .tmp 24]) rfl ?_); at_builtin; refine Kd.R_append (Kd.int .u8) (w0 := w) w.heap.size rfl (.tmp 20) (.tmp 24) 40 5 (.int .u8 0) 1 rfl Try.underlying40 info5 rfl (by decide) (by omega) u4 x4_1 (bt a0 x5_1) [.int .u8 (bt a0 x5_1)] (fun _ => True) (fun _ => False) rfl rfl ?aP (fun _ hk => hk.elim) ?aF ?aO ?aB ?aS ?aL ?_; (case aP => exact rfl); (case aB => exact (by repeat (first | (with_reducible first | exact HB.out | apply below_alloc | apply pw_below_drewN | apply below_drew1) | exact HB.out))); (case aF => exact (fun _ _ => trivial)); (case aO => exact (by (with_reducible repeat (first | apply Kd.R_alloc | apply Kd.R_drewN | apply Kd.R_drew)); exact HO_4.out)); (case aS => exact (below_size (by repeat (first | (with_reducible first | exact HB.out | apply below_alloc | apply pw_below_drewN | apply below_drew1) | exact HB.out)))); (case aL => have := LMc28.out; omega); intro v102 w29 ho hb hg hat; rw [← Ny101.out] at ho; have n0_ := Aside0.mk (hb); have n1_ := Aside0.mk (ho); clear HB; clear HO_4; have HB := n0_; have HO103 := n1_; clear n0_ n1_; clear ho hb hg hat))
              go_roundg k1
              case measure => have := HK1.out; omega
              case rel => exact ⟨(y101), (wrap64 (x5_1 + 1)), (by first | rfl | (simp; done) | (simp [*]; done)), H', ⟨by have := HK1.out; omega⟩, ⟨by (with_reducible repeat (first | apply Kd.R_alloc | apply Kd.R_drewN | apply Kd.R_drew)); exact HO103.out⟩, ⟨by repeat (first | (with_reducible first | exact HB.out | apply below_alloc | apply pw_below_drewN | apply below_drew1) | exact HB.out)⟩⟩
            · rw [if_neg c28] at H
              exact absurd H (by simp)
        · rw [if_neg c3] at H
          exact absurd H (by simp)
      · rw [if_neg c2] at H
        have c2b0 : decide (x5_1 < (a0.size : Int)) = false := decide_eq_false c2
        clear c2
        simp only [Option.some.injEq, Prod.mk.injEq] at H
        obtain ⟨rfl, rfl⟩ := H
        have hcv30 := own_string (P := Try.prog) Try.underlying40 Try.underlying5 Try.underlying9 (Kd.own_of_R HO_4.out)
        go_wp2
        go_ret2
        first | exact ⟨⟨_, rfl, HV_.out⟩, by repeat (first | (with_reducible first | exact HB.out | apply below_alloc | apply pw_below_drewN | apply below_drew1) | exact HB.out)⟩ | exact ⟨⟨_, rfl, rfl⟩, by repeat (first | (with_reducible first | exact HB.out | apply below_alloc | apply pw_below_drewN | apply below_drew1) | exact HB.out)⟩
/-! ### dbus_UnescapeBusAddressValue: function 16 -/
def dbus_UnescapeBusAddressValue.f (k : Nat) (a0 : ByteArray) : Option (ByteArray × Option (TypeId × Value)) := (dbus_zzPathUnescape.f k a0).bind fun bt114 => (some (bt114.1, bt114.2))
theorem dbus_UnescapeBusAddressValue.mono : ∀ a0 k, LeO (dbus_UnescapeBusAddressValue.f k a0) (dbus_UnescapeBusAddressValue.f (k + 1) a0) := by
  intro a0 k
  unfold dbus_UnescapeBusAddressValue.f
  repeat' first
      | (with_reducible exact dbus_zzPathUnescape.mono _ _)
      | (with_reducible exact LeO.refl _)
      | (with_reducible exact LeO.none _)
      | (with_reducible refine LeO.ite ?_ ?_)
      | (with_reducible refine LeO.bind ?_ (fun _ => ?_))
      | exact dbus_zzPathUnescape.mono _ _
      | exact LeO.none _
      | refine LeO.ite ?_ ?_
      | refine LeO.bind ?_ (fun _ => ?_)
set_option maxHeartbeats 8000000 in
set_option maxRecDepth 100000 in
theorem dbus_UnescapeBusAddressValue.calls (k : Nat) (a0 : ByteArray) (r1 : ByteArray) (r2 : Option (TypeId × Value)) (w : World) (h : dbus_UnescapeBusAddressValue.f k a0 = some (r1, r2)) :
    Calls Try.prog 16 #[.string a0] w fun e w' => (∃ v, e = .returned (.tuple #[.string r1, v]) ∧ ErrIs r2 v) ∧ Below w.heap.size w w' := by
  have HB := Aside0.mk (Below.refl w.heap.size w)
  have H : ((dbus_zzPathUnescape.f k a0).bind fun bt114 => (some (bt114.1, bt114.2))) = some (r1, r2) := h
  clear h
  replace H := Option.bind_eq_some_iff.mp H
  obtain ⟨⟨t114, t115⟩, A20, H⟩ := H
  replace H : (some (t114, t115)) = some (r1, r2) := H
  have A2 := Aside0.mk A20
  clear A20
  simp only [Option.some.injEq, Prod.mk.injEq] at H
  obtain ⟨rfl, rfl⟩ := H
  go_enter Try.func16, Try.ntmps16
  go_wp2_with (first | ((with_reducible refine gate_callee (f := 19) rfl ?_); refine goesL_ (some 5) rfl rfl Try.func19 (by kernel_rfl) rfl #[.string a0] rfl (by (try simp only [List.map_toArray, List.map_cons, List.map_nil]); first | done | rfl | (simp only [List.length_drop, List.length_take]; rfl)) ?_; (with_reducible refine (dbus_zzPathUnescape.calls k a0 t114 t115 _ A2.out).mono ?_); rintro e w3 ⟨⟨v_, rfl, hv0_⟩, hb⟩; have HV_ := Aside0.mk hv0_; clear hv0_; refine ⟨_, rfl, ?_⟩; have n0_ := Aside0.mk (below_step (by repeat (first | (with_reducible first | exact HB.out | apply below_alloc | apply pw_below_drewN | apply below_drew1) | exact HB.out)) hb); clear HB; have HB := n0_; clear n0_; (try clear hb); (try clear hb2); (try clear hk); (try clear hi); (try simp only [errW_none, errW_some])))
  go_ret2
  first | exact ⟨⟨_, rfl, HV_.out⟩, by repeat (first | (with_reducible first | exact HB.out | apply below_alloc | apply pw_below_drewN | apply below_drew1) | exact HB.out)⟩ | exact ⟨⟨_, rfl, rfl⟩, by repeat (first | (with_reducible first | exact HB.out | apply below_alloc | apply pw_below_drewN | apply below_drew1) | exact HB.out)⟩
/-! ### impl_AdUnescape: function 7 -/
def impl_AdUnescape.f (k : Nat) (a0 : ByteArray) : Option (ByteArray × Bool) := (dbus_UnescapeBusAddressValue.f k a0).bind fun bt116 => (if bt116.2.isNone = true then (some (bt116.1, true)) else (some (bt116.1, false)))
theorem impl_AdUnescape.mono : ∀ a0 k, LeO (impl_AdUnescape.f k a0) (impl_AdUnescape.f (k + 1) a0) := by
  intro a0 k
  unfold impl_AdUnescape.f
  repeat' first
      | (with_reducible exact dbus_UnescapeBusAddressValue.mono _ _)
      | (with_reducible exact LeO.refl _)
      | (with_reducible exact LeO.none _)
      | (with_reducible refine LeO.ite ?_ ?_)
      | (with_reducible refine LeO.bind ?_ (fun _ => ?_))
      | exact dbus_UnescapeBusAddressValue.mono _ _
      | exact LeO.none _
      | refine LeO.ite ?_ ?_
      | refine LeO.bind ?_ (fun _ => ?_)
set_option maxHeartbeats 8000000 in
set_option maxRecDepth 100000 in
theorem impl_AdUnescape.calls (k : Nat) (a0 : ByteArray) (r1 : ByteArray) (r2 : Bool) (w : World) (h : impl_AdUnescape.f k a0 = some (r1, r2)) :
    Calls Try.prog 7 #[.string a0] w fun e w' => e = .returned (.tuple #[.string r1, .bool r2]) ∧ Below w.heap.size w w' := by
  have hu37 := Try.underlying37
  have HB := Aside0.mk (Below.refl w.heap.size w)
  have H : ((dbus_UnescapeBusAddressValue.f k a0).bind fun bt116 => (if bt116.2.isNone = true then (some (bt116.1, true)) else (some (bt116.1, false)))) = some (r1, r2) := h
  clear h
  replace H := Option.bind_eq_some_iff.mp H
  obtain ⟨⟨t116, t117⟩, A20, H⟩ := H
  replace H : (if t117.isNone = true then (some (t116, true)) else (some (t116, false))) = some (r1, r2) := H
  have A2 := Aside0.mk A20
  clear A20
  rcases t117 with _ | q118
  · have H1 : (some (t116, true)) = some (r1, r2) := by rw [if_pos (show (none : Option (TypeId × Value)).isNone = true by rfl)] at H; exact H
    clear H
    have H := H1
    clear H1
    try simp only [errW_none, errW_some]
    simp only [Option.some.injEq, Prod.mk.injEq] at H
    obtain ⟨rfl, rfl⟩ := H
    go_enter Try.func7, Try.ntmps7
    go_wp2_with (first | (go_at_call 16; (with_reducible refine (dbus_UnescapeBusAddressValue.calls k a0 t116 none _ A2.out).mono ?_); rintro e w3 ⟨⟨v_, rfl, hv0_⟩, hb⟩; (cases hv0_); have n0_ := Aside0.mk (below_step (by repeat (first | (with_reducible first | exact HB.out | apply below_alloc | apply pw_below_drewN | apply below_drew1) | exact HB.out)) hb); clear HB; have HB := n0_; clear n0_; (try clear hb); (try clear hb2); (try clear hk); (try clear hi); (try simp only [errW_none, errW_some])))
    repeat (go_quiet (first | (go_at_call 16; (with_reducible refine (dbus_UnescapeBusAddressValue.calls k a0 t116 none _ A2.out).mono ?_); rintro e w3 ⟨⟨v_, rfl, hv0_⟩, hb⟩; (cases hv0_); have n0_ := Aside0.mk (below_step (by repeat (first | (with_reducible first | exact HB.out | apply below_alloc | apply pw_below_drewN | apply below_drew1) | exact HB.out)) hb); clear HB; have HB := n0_; clear n0_; (try clear hb); (try clear hb2); (try clear hk); (try clear hi); (try simp only [errW_none, errW_some]))); try go_wp2_with (first | (go_at_call 16; (with_reducible refine (dbus_UnescapeBusAddressValue.calls k a0 t116 none _ A2.out).mono ?_); rintro e w3 ⟨⟨v_, rfl, hv0_⟩, hb⟩; (cases hv0_); have n0_ := Aside0.mk (below_step (by repeat (first | (with_reducible first | exact HB.out | apply below_alloc | apply pw_below_drewN | apply below_drew1) | exact HB.out)) hb); clear HB; have HB := n0_; clear n0_; (try clear hb); (try clear hb2); (try clear hk); (try clear hi); (try simp only [errW_none, errW_some]))))
    go_ret2
    exact ⟨by first | rfl | (simp [errW_none, errW_some] <;> rfl) | (simp [*, errW_none, errW_some] <;> rfl) | (simp (disch := omega) only [wrap64_id] <;> rfl), by repeat (first | (with_reducible first | exact HB.out | apply below_alloc | apply pw_below_drewN | apply below_drew1) | exact HB.out)⟩
  · have H1 : (some (t116, false)) = some (r1, r2) := by rw [if_neg (show ¬ (some q118).isNone = true by simp)] at H; exact H
    clear H
    have H := H1
    clear H1
    try simp only [errW_none, errW_some]
    simp only [Option.some.injEq, Prod.mk.injEq] at H
    obtain ⟨rfl, rfl⟩ := H
    go_enter Try.func7, Try.ntmps7
    go_wp2_with (first | (go_at_call 16; (with_reducible refine (dbus_UnescapeBusAddressValue.calls k a0 t116 (some q118) _ A2.out).mono ?_); rintro e w4 ⟨⟨v_, rfl, hv0_⟩, hb⟩; (obtain ⟨vx_, rfl⟩ := hv0_); have n0_ := Aside0.mk (below_step (by repeat (first | (with_reducible first | exact HB.out | apply below_alloc | apply pw_below_drewN | apply below_drew1) | exact HB.out)) hb); clear HB; have HB := n0_; clear n0_; (try clear hb); (try clear hb2); (try clear hk); (try clear hi); (try simp only [errW_none, errW_some])))
    repeat (go_quiet (first | (go_at_call 16; (with_reducible refine (dbus_UnescapeBusAddressValue.calls k a0 t116 (some q118) _ A2.out).mono ?_); rintro e w4 ⟨⟨v_, rfl, hv0_⟩, hb⟩; (obtain ⟨vx_, rfl⟩ := hv0_); have n0_ := Aside0.mk (below_step (by repeat (first | (with_reducible first | exact HB.out | apply below_alloc | apply pw_below_drewN | apply below_drew1) | exact HB.out)) hb); clear HB; have HB := n0_; clear n0_; (try clear hb); (try clear hb2); (try clear hk); (try clear hi); (try simp only [errW_none, errW_some]))); try go_wp2_with (first | (go_at_call 16; (with_reducible refine (dbus_UnescapeBusAddressValue.calls k a0 t116 (some q118) _ A2.out).mono ?_); rintro e w4 ⟨⟨v_, rfl, hv0_⟩, hb⟩; (obtain ⟨vx_, rfl⟩ := hv0_); have n0_ := Aside0.mk (below_step (by repeat (first | (with_reducible first | exact HB.out | apply below_alloc | apply pw_below_drewN | apply below_drew1) | exact HB.out)) hb); clear HB; have HB := n0_; clear n0_; (try clear hb); (try clear hb2); (try clear hk); (try clear hi); (try simp only [errW_none, errW_some]))))
    go_ret2
    exact ⟨by first | rfl | (simp [errW_none, errW_some] <;> rfl) | (simp [*, errW_none, errW_some] <;> rfl) | (simp (disch := omega) only [wrap64_id] <;> rfl), by repeat (first | (with_reducible first | exact HB.out | apply below_alloc | apply pw_below_drewN | apply below_drew1) | exact HB.out)⟩

end Go.Proofs.Ytpgpkdickcdlpaa.MFnAdAddress
