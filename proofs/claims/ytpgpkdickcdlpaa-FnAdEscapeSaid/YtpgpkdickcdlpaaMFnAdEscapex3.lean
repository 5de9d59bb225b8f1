-- Written by a program of this session (myprint.py, out of the translation). Not trusted: Lean checks it.
import Derived.Test.YtpgpkdickcdlpaaMFnAdEscapex0
import Derived.Test.YtpgpkdickcdlpaaMFnAdEscapex2
namespace Go.Proofs.Ytpgpkdickcdlpaa.MFnAdEscape
open Go.RowKit Go.Proofs.YtpgpkdickcdlpaaW.PrintWords Go.Proofs.YtpgpkdickcdlpaaW.PrintLast Go.Proofs.YtpgpkdickcdlpaaW.PrintMore
attribute [local go_sem] max2_int min2_int max_two min_two max_three min_three max_four min_four   -- for this text's walks alone
set_option linter.unusedVariables false
set_option linter.unusedSimpArgs false

/-! ### impl_AdEscape: function 8 -/
def impl_AdEscape.f (k : Nat) (a0 : ByteArray) : Option (ByteArray) := (dbus_EscapeBusAddressValue.f k a0).bind fun t102 => (some t102)
theorem impl_AdEscape.mono : ∀ a0 k, LeO (impl_AdEscape.f k a0) (impl_AdEscape.f (k + 1) a0) := by
  intro a0 k
  unfold impl_AdEscape.f
  repeat' first
      | (with_reducible exact dbus_EscapeBusAddressValue.mono _ _)
      | (with_reducible exact LeO.refl _)
      | (with_reducible exact LeO.none _)
      | (with_reducible refine LeO.ite ?_ ?_)
      | (with_reducible refine LeO.bind ?_ (fun _ => ?_))
      | exact dbus_EscapeBusAddressValue.mono _ _
      | exact LeO.none _
      | refine LeO.ite ?_ ?_
      | refine LeO.bind ?_ (fun _ => ?_)
set_option maxHeartbeats 8000000 in
set_option maxRecDepth 100000 in
theorem impl_AdEscape.calls (k : Nat) (a0 : ByteArray) (r : ByteArray) (w : World) (h : impl_AdEscape.f k a0 = some r) :
    Calls Try.prog 8 #[.string a0] w fun e w' => e = .returned (.string r) ∧ Below w.heap.size w w' := by
  have HB := Aside0.mk (Below.refl w.heap.size w)
  have H : ((dbus_EscapeBusAddressValue.f k a0).bind fun t102 => (some t102)) = some r := h
  clear h
  replace H := Option.bind_eq_some_iff.mp H
  obtain ⟨t102, A20, H⟩ := H
  replace H : (some t102) = some r := H
  have A2 := Aside0.mk A20
  clear A20
  obtain rfl := Option.some.inj H
  go_enter Try.func8, Try.ntmps8
  go_wp2_with (first | ((with_reducible refine gate_callee (f := 17) rfl ?_); refine goesL_ (some 4) rfl rfl Try.func17 (by kernel_rfl) rfl #[.string a0] rfl (by (try simp only [List.map_toArray, List.map_cons, List.map_nil]); first | done | rfl | (simp only [List.length_drop, List.length_take]; rfl)) ?_; (with_reducible refine (dbus_EscapeBusAddressValue.calls k a0 t102 _ A2.out).mono ?_); rintro e w3 ⟨rfl, hb⟩; refine ⟨_, rfl, ?_⟩; have n0_ := Aside0.mk (below_step (by repeat (first | (with_reducible first | exact HB.out | apply below_alloc | apply pw_below_drewN | apply below_drew1) | exact HB.out)) hb); clear HB; have HB := n0_; clear n0_; (try clear hb); (try clear hb2); (try clear hk); (try clear hi)))
  go_ret
  exact ⟨by first | rfl | (simp [errW_none, errW_some] <;> rfl) | (simp [*, errW_none, errW_some] <;> rfl) | (simp (disch := omega) only [wrap64_id] <;> rfl), by repeat (first | (with_reducible first | exact HB.out | apply below_alloc | apply pw_below_drewN | apply below_drew1) | exact HB.out)⟩

/-! ### spec_word: function 23 -/
def spec_word.f (a0 : Int) : Option (Bool) := if (Go.bits .or .u8 a0 32) ≥ 97 then (if (Go.bits .or .u8 a0 32) ≤ 122 then (some true) else (if a0 ≥ 48 then (if a0 ≤ 57 then (some true) else (some (a0 == 95))) else (some (a0 == 95)))) else (if a0 ≥ 48 then (if a0 ≤ 57 then (some true) else (some (a0 == 95))) else (some (a0 == 95)))
set_option maxHeartbeats 8000000 in
set_option maxRecDepth 100000 in
theorem spec_word.calls (a0 : Int) (r : Bool) (w : World) (h : spec_word.f a0 = some r) :
    Calls Try.prog 23 #[.int .u8 a0] w fun e w' => e = .returned (.bool r) ∧ Drawn0 w w' := by
  have H : (if (Go.bits .or .u8 a0 32) ≥ 97 then (if (Go.bits .or .u8 a0 32) ≤ 122 then (some true) else (if a0 ≥ 48 then (if a0 ≤ 57 then (some true) else (some (a0 == 95))) else (some (a0 == 95)))) else (if a0 ≥ 48 then (if a0 ≤ 57 then (some true) else (some (a0 == 95))) else (some (a0 == 95)))) = some r := h
  clear h
  by_cases c2 : (Go.bits .or .u8 a0 32) ≥ 97
  · rw [if_pos c2] at H
    have c2b0 : decide (97 ≤ (Go.bits .or .u8 a0 32)) = true := decide_eq_true c2
    clear c2
    by_cases c3 : (Go.bits .or .u8 a0 32) ≤ 122
    · rw [if_pos c3] at H
      have c3b0 : decide ((Go.bits .or .u8 a0 32) ≤ 122) = true := decide_eq_true c3
      clear c3
      obtain rfl := Option.some.inj H
      go_enter Try.func23, Try.ntmps23
      go_wp2
      go_ret
      exact ⟨by first | rfl | (simp; done) | (simp [*]; done), by repeat (first | exact Drawn0.refl _ | apply Drawn0.step)⟩
    · rw [if_neg c3] at H
      have c3b0 : decide ((Go.bits .or .u8 a0 32) ≤ 122) = false := decide_eq_false c3
      clear c3
      by_cases c4 : a0 ≥ 48
      · rw [if_pos c4] at H
        have c4b0 : decide (48 ≤ a0) = true := decide_eq_true c4
        clear c4
        by_cases c5 : a0 ≤ 57
        · rw [if_pos c5] at H
          have c5b0 : decide (a0 ≤ 57) = true := decide_eq_true c5
          clear c5
          obtain rfl := Option.some.inj H
          go_enter Try.func23, Try.ntmps23
          go_wp2
          go_ret
          exact ⟨by first | rfl | (simp; done) | (simp [*]; done), by repeat (first | exact Drawn0.refl _ | apply Drawn0.step)⟩
        · rw [if_neg c5] at H
          have c5b0 : decide (a0 ≤ 57) = false := decide_eq_false c5
          clear c5
          obtain rfl := Option.some.inj H
          go_enter Try.func23, Try.ntmps23
          go_wp2
          go_ret
          exact ⟨by first | rfl | (simp; done) | (simp [*]; done), by repeat (first | exact Drawn0.refl _ | apply Drawn0.step)⟩
      · rw [if_neg c4] at H
        have c4b0 : decide (48 ≤ a0) = false := decide_eq_false c4
        clear c4
        obtain rfl := Option.some.inj H
        go_enter Try.func23, Try.ntmps23
        go_wp2
        go_ret
        exact ⟨by first | rfl | (simp; done) | (simp [*]; done), by repeat (first | exact Drawn0.refl _ | apply Drawn0.step)⟩
  · rw [if_neg c2] at H
    have c2b0 : decide (97 ≤ (Go.bits .or .u8 a0 32)) = false := decide_eq_false c2
    clear c2
    by_cases c6 : a0 ≥ 48
    · rw [if_pos c6] at H
      have c6b0 : decide (48 ≤ a0) = true := decide_eq_true c6
      clear c6
      by_cases c7 : a0 ≤ 57
      · rw [if_pos c7] at H
        have c7b0 : decide (a0 ≤ 57) = true := decide_eq_true c7
        clear c7
        obtain rfl := Option.some.inj H
        go_enter Try.func23, Try.ntmps23
        go_wp2
        go_ret
        exact ⟨by first | rfl | (simp; done) | (simp [*]; done), by repeat (first | exact Drawn0.refl _ | apply Drawn0.step)⟩
      · rw [if_neg c7] at H
        have c7b0 : decide (a0 ≤ 57) = false := decide_eq_false c7
        clear c7
        obtain rfl := Option.some.inj H
        go_enter Try.func23, Try.ntmps23
        go_wp2
        go_ret
        exact ⟨by first | rfl | (simp; done) | (simp [*]; done), by repeat (first | exact Drawn0.refl _ | apply Drawn0.step)⟩
    · rw [if_neg c6] at H
      have c6b0 : decide (48 ≤ a0) = false := decide_eq_false c6
      clear c6
      obtain rfl := Option.some.inj H
      go_enter Try.func23, Try.ntmps23
      go_wp2
      go_ret
      exact ⟨by first | rfl | (simp; done) | (simp [*]; done), by repeat (first | exact Drawn0.refl _ | apply Drawn0.step)⟩

/-! ### spec_plainByte: function 18 -/
def spec_plainByte.f (a0 : Int) : Option (Bool) := (spec_word.f a0).bind fun t103 => (if t103 = true then (some true) else (if a0 = 45 then (some true) else (if a0 = 47 then (some true) else (if a0 = 46 then (some true) else (if a0 = 92 then (some true) else (some (a0 == 42)))))))
set_option maxHeartbeats 8000000 in
set_option maxRecDepth 100000 in
theorem spec_plainByte.calls (a0 : Int) (r : Bool) (w : World) (h : spec_plainByte.f a0 = some r) :
    Calls Try.prog 18 #[.int .u8 a0] w fun e w' => e = .returned (.bool r) ∧ Drawn0 w w' := by
  have H : ((spec_word.f a0).bind fun t103 => (if t103 = true then (some true) else (if a0 = 45 then (some true) else (if a0 = 47 then (some true) else (if a0 = 46 then (some true) else (if a0 = 92 then (some true) else (some (a0 == 42)))))))) = some r := h
  clear h
  replace H := Option.bind_eq_some_iff.mp H
  obtain ⟨t103, A20, H⟩ := H
  replace H : (if t103 = true then (some true) else (if a0 = 45 then (some true) else (if a0 = 47 then (some true) else (if a0 = 46 then (some true) else (if a0 = 92 then (some true) else (some (a0 == 42))))))) = some r := H
  have A2 := Aside0.mk A20
  clear A20
  by_cases c3 : t103 = true
  · subst c3
    have H1 : (some true) = some r := by rw [if_pos rfl] at H; exact H
    clear H
    have H := H1
    clear H1
    obtain rfl := Option.some.inj H
    go_enter Try.func18, Try.ntmps18
    go_wp2_with (first | ((with_reducible refine gate_callee (f := 23) rfl ?_); refine goesL_ (some 4) rfl rfl Try.func23 (by kernel_rfl) rfl #[.int .u8 a0] rfl (by (try simp only [List.map_toArray, List.map_cons, List.map_nil]); first | done | rfl | (simp only [List.length_drop, List.length_take]; rfl)) ?_; (with_reducible refine (spec_word.calls a0 true _ A2.out).mono ?_); rintro e w' ⟨rfl, ⟨nd, rfl⟩⟩; refine ⟨_, rfl, ?_⟩))
    go_ret
    exact ⟨by first | rfl | (simp; done) | (simp [*]; done), by repeat (first | exact Drawn0.refl _ | apply Drawn0.step)⟩
  · replace c3 := Bool.eq_false_iff.mpr c3
    subst c3
    have H1 : (if a0 = 45 then (some true) else (if a0 = 47 then (some true) else (if a0 = 46 then (some true) else (if a0 = 92 then (some true) else (some (a0 == 42)))))) = some r := by rw [if_neg (show ¬ (false = true) by decide)] at H; exact H
    clear H
    have H := H1
    clear H1
    by_cases c4 : a0 = 45
    · rw [if_pos c4] at H
      have c4b0 : (a0 == 45) = true := beq_iff_eq.mpr c4
      have c4b1 : (a0 != 45) = false := bne_eq_false_iff_eq.mpr c4
      clear c4
      obtain rfl := Option.some.inj H
      go_enter Try.func18, Try.ntmps18
      go_wp2_with (first | ((with_reducible refine gate_callee (f := 23) rfl ?_); refine goesL_ (some 4) rfl rfl Try.func23 (by kernel_rfl) rfl #[.int .u8 a0] rfl (by (try simp only [List.map_toArray, List.map_cons, List.map_nil]); first | done | rfl | (simp only [List.length_drop, List.length_take]; rfl)) ?_; (with_reducible refine (spec_word.calls a0 false _ A2.out).mono ?_); rintro e w' ⟨rfl, ⟨nd, rfl⟩⟩; refine ⟨_, rfl, ?_⟩))
      go_ret
      exact ⟨by first | rfl | (simp; done) | (simp [*]; done), by repeat (first | exact Drawn0.refl _ | apply Drawn0.step)⟩
    · rw [if_neg c4] at H
      have c4b0 : (a0 == 45) = false := beq_eq_false_iff_ne.mpr c4
      have c4b1 : (a0 != 45) = true := bne_iff_ne.mpr c4
      by_cases c5 : a0 = 47
      · rw [if_pos c5] at H
        have c5b0 : (a0 == 47) = true := beq_iff_eq.mpr c5
        have c5b1 : (a0 != 47) = false := bne_eq_false_iff_eq.mpr c5
        clear c5
        obtain rfl := Option.some.inj H
        go_enter Try.func18, Try.ntmps18
        go_wp2_with (first | ((with_reducible refine gate_callee (f := 23) rfl ?_); refine goesL_ (some 4) rfl rfl Try.func23 (by kernel_rfl) rfl #[.int .u8 a0] rfl (by (try simp only [List.map_toArray, List.map_cons, List.map_nil]); first | done | rfl | (simp only [List.length_drop, List.length_take]; rfl)) ?_; (with_reducible refine (spec_word.calls a0 false _ A2.out).mono ?_); rintro e w' ⟨rfl, ⟨nd, rfl⟩⟩; refine ⟨_, rfl, ?_⟩))
        go_ret
        exact ⟨by first | rfl | (simp; done) | (simp [*]; done), by repeat (first | exact Drawn0.refl _ | apply Drawn0.step)⟩
      · rw [if_neg c5] at H
        have c5b0 : (a0 == 47) = false := beq_eq_false_iff_ne.mpr c5
        have c5b1 : (a0 != 47) = true := bne_iff_ne.mpr c5
        by_cases c6 : a0 = 46
        · rw [if_pos c6] at H
          have c6b0 : (a0 == 46) = true := beq_iff_eq.mpr c6
          have c6b1 : (a0 != 46) = false := bne_eq_false_iff_eq.mpr c6
          clear c6
          obtain rfl := Option.some.inj H
          go_enter Try.func18, Try.ntmps18
          go_wp2_with (first | ((with_reducible refine gate_callee (f := 23) rfl ?_); refine goesL_ (some 4) rfl rfl Try.func23 (by kernel_rfl) rfl #[.int .u8 a0] rfl (by (try simp only [List.map_toArray, List.map_cons, List.map_nil]); first | done | rfl | (simp only [List.length_drop, List.length_take]; rfl)) ?_; (with_reducible refine (spec_word.calls a0 false _ A2.out).mono ?_); rintro e w' ⟨rfl, ⟨nd, rfl⟩⟩; refine ⟨_, rfl, ?_⟩))
          go_ret
          exact ⟨by first | rfl | (simp; done) | (simp [*]; done), by repeat (first | exact Drawn0.refl _ | apply Drawn0.step)⟩
        · rw [if_neg c6] at H
          have c6b0 : (a0 == 46) = false := beq_eq_false_iff_ne.mpr c6
          have c6b1 : (a0 != 46) = true := bne_iff_ne.mpr c6
          by_cases c7 : a0 = 92
          · rw [if_pos c7] at H
            have c7b0 : (a0 == 92) = true := beq_iff_eq.mpr c7
            have c7b1 : (a0 != 92) = false := bne_eq_false_iff_eq.mpr c7
            clear c7
            obtain rfl := Option.some.inj H
            go_enter Try.func18, Try.ntmps18
            go_wp2_with (first | ((with_reducible refine gate_callee (f := 23) rfl ?_); refine goesL_ (some 4) rfl rfl Try.func23 (by kernel_rfl) rfl #[.int .u8 a0] rfl (by (try simp only [List.map_toArray, List.map_cons, List.map_nil]); first | done | rfl | (simp only [List.length_drop, List.length_take]; rfl)) ?_; (with_reducible refine (spec_word.calls a0 false _ A2.out).mono ?_); rintro e w' ⟨rfl, ⟨nd, rfl⟩⟩; refine ⟨_, rfl, ?_⟩))
            go_ret
            exact ⟨by first | rfl | (simp; done) | (simp [*]; done), by repeat (first | exact Drawn0.refl _ | apply Drawn0.step)⟩
          · rw [if_neg c7] at H
            have c7b0 : (a0 == 92) = false := beq_eq_false_iff_ne.mpr c7
            have c7b1 : (a0 != 92) = true := bne_iff_ne.mpr c7
            obtain rfl := Option.some.inj H
            go_enter Try.func18, Try.ntmps18
            go_wp2_with (first | ((with_reducible refine gate_callee (f := 23) rfl ?_); refine goesL_ (some 4) rfl rfl Try.func23 (by kernel_rfl) rfl #[.int .u8 a0] rfl (by (try simp only [List.map_toArray, List.map_cons, List.map_nil]); first | done | rfl | (simp only [List.length_drop, List.length_take]; rfl)) ?_; (with_reducible refine (spec_word.calls a0 false _ A2.out).mono ?_); rintro e w' ⟨rfl, ⟨nd, rfl⟩⟩; refine ⟨_, rfl, ?_⟩))
            go_ret
            exact ⟨by first | rfl | (simp; done) | (simp [*]; done), by repeat (first | exact Drawn0.refl _ | apply Drawn0.step)⟩

/-! ### spec_EscapeAddress: function 9 -/
def spec_EscapeAddress.l0 : Nat → ByteArray → List Int → Int → Option (ByteArray)
  | 0, _, _, _ => none
  | k + 1, x0, x3, x4 => if x4 < (x0.size : Int) then (if 0 ≤ x4 then ((spec_plainByte.f (bt x0 x4)).bind fun t104 => (if t104 = true then (if x3.length < 140737488355328 then (spec_EscapeAddress.l0 k x0 (x3 ++ [bt x0 x4]) (wrap64 (x4 + 1))) else (none)) else (if 0 ≤ ((bt x0 x4) / 16) then (if ((bt x0 x4) / 16) < 16 then (if 0 ≤ (Go.bits .and .u8 (bt x0 x4) 15) then (if (Go.bits .and .u8 (bt x0 x4) 15) < 16 then ((some (([37, bt (⟨#[48, 49, 50, 51, 52, 53, 54, 55, 56, 57, 97, 98, 99, 100, 101, 102]⟩ : ByteArray) ((bt x0 x4) / 16), bt (⟨#[48, 49, 50, 51, 52, 53, 54, 55, 56, 57, 97, 98, 99, 100, 101, 102]⟩ : ByteArray) (Go.bits .and .u8 (bt x0 x4) 15)] : List Int) : List Int)).bind fun y108 => (if x3.length + y108.length < 140737488355328 then (spec_EscapeAddress.l0 k x0 (x3 ++ y108) (wrap64 (x4 + 1))) else (none))) else (none)) else (none)) else (none)) else (none)))) else (none)) else (some (strOfNums x3))
def spec_EscapeAddress.f (k : Nat) (a0 : ByteArray) : Option (ByteArray) := spec_EscapeAddress.l0 k a0 ([] : List Int) 0
theorem spec_EscapeAddress.mono_l : ∀ k, (∀ y0 y1 y2, LeO (spec_EscapeAddress.l0 k y0 y1 y2) (spec_EscapeAddress.l0 (k + 1) y0 y1 y2))
  | 0 => fun _ _ _ r h => by simp [spec_EscapeAddress.l0] at h
  | k + 1 => by
    have ih0 := spec_EscapeAddress.mono_l k
    · intro y0 y1 y2
      unfold spec_EscapeAddress.l0
      repeat' first
      | (with_reducible exact ih0 _ _ _)
      | (with_reducible exact LeO.refl _)
      | (with_reducible exact LeO.none _)
      | (with_reducible refine LeO.ite ?_ ?_)
      | (with_reducible refine LeO.bind ?_ (fun _ => ?_))
      | exact ih0 _ _ _
      | exact LeO.none _
      | refine LeO.ite ?_ ?_
      | refine LeO.bind ?_ (fun _ => ?_)
theorem spec_EscapeAddress.mono : ∀ a0 k, LeO (spec_EscapeAddress.f k a0) (spec_EscapeAddress.f (k + 1) a0) := by
  intro a0 k
  have ih0 := spec_EscapeAddress.mono_l k
  unfold spec_EscapeAddress.f
  repeat' first
      | (with_reducible exact ih0 _ _ _)
      | (with_reducible exact LeO.refl _)
      | (with_reducible exact LeO.none _)
      | (with_reducible refine LeO.ite ?_ ?_)
      | (with_reducible refine LeO.bind ?_ (fun _ => ?_))
      | exact ih0 _ _ _
      | exact LeO.none _
      | refine LeO.ite ?_ ?_
      | refine LeO.bind ?_ (fun _ => ?_)
def spec_EscapeAddress.T7 : Bool × List (List Nat × List Nat) := (true, [([], []), ([], []), ([], []), ([1, 2], [1, 2]), ([3], [3]), ([4], [4]), ([], []), ([], []), ([6, 7], [6, 7]), ([8], [8]), ([9], [9]), ([5, 10], [5, 10]), ([0, 11], [0, 11]), ([12, 12, 0, 1, 2, 3, 4, 5, 6, 7, 8, 9, 10, 11, 12], [0, 12])])
def spec_EscapeAddress.B7 : List Nat := [0, 0, 0, 6, 14, 30, 0, 0, 192, 448, 960, 2046, 4095, 8191]
theorem spec_EscapeAddress.tab7 : rtab .any (opsOf Try.f9 7) = spec_EscapeAddress.T7 := by kernel_rfl
theorem spec_EscapeAddress.bits7 : waitsOk spec_EscapeAddress.T7.2 spec_EscapeAddress.B7 = true := by kernel_rfl
set_option maxHeartbeats 8000000 in
set_option maxRecDepth 100000 in
theorem spec_EscapeAddress.calls (k : Nat) (a0 : ByteArray) (r : ByteArray) (w : World) (h : spec_EscapeAddress.f k a0 = some r) :
    Calls Try.prog 9 #[.string a0] w fun e w' => e = .returned (.string r) ∧ Below w.heap.size w w' := by
  have HB := Aside0.mk (Below.refl w.heap.size w)
  have H : (spec_EscapeAddress.l0 k a0 ([] : List Int) 0) = some r := h
  clear h
  have H' := Aside0.mk H
  clear H
  go_enter Try.func9, Try.ntmps9
  go_wp2
  go_loopg [3, 4] k (fun kq v3 v4 w' => ∃ (x3_1 : List Int) (x4_1 : Int), v4 = .int .i64 x4_1 ∧ Aside0 (spec_EscapeAddress.l0 kq a0 x3_1 x4_1 = some r) ∧ Aside0 (kq ≤ k) ∧ Aside0 (Kd.R (Kd.int .u8) 5 w' w.heap.size (fun _ => True) v3 x3_1) ∧ Aside0 (Below w.heap.size w w'))
  case atStart => exact ⟨(([] : List Int)), (0), (by first | rfl | (simp; done) | (simp [*]; done)), H', ⟨Nat.le_refl _⟩, ⟨by first | exact Kd.R_nil _ _ _ _ _ | exact Kd.N_nil _ _ _ _ _ | exact Kd.V_nil _ _ _ _ _ | exact Kd.Q_nil _ _ _ _ _ | exact Kd.S_nil _ _ _ _ _⟩, ⟨by repeat (first | (with_reducible first | exact HB.out | apply below_alloc | apply pw_below_drewN | apply below_drew1) | exact HB.out)⟩⟩
  case round =>
    clear H'
    obtain ⟨x3_1, x4_1, rfl, HA, HK1, HO_3, HB⟩ := hrel
    cases gk with
    | zero => exact absurd HA.out (by simp [spec_EscapeAddress.l0])
    | succ k1 =>
      have H := HA.out
      clear HA
      simp only [spec_EscapeAddress.l0] at H
      by_cases c2 : x4_1 < (a0.size : Int)
      · rw [if_pos c2] at H
        have c2b0 : decide (x4_1 < (a0.size : Int)) = true := decide_eq_true c2
        clear c2
        by_cases c3 : 0 ≤ x4_1
        · rw [if_pos c3] at H
          have c3b0 : decide (0 ≤ x4_1) = true := decide_eq_true c3
          clear c3
          replace H := Option.bind_eq_some_iff.mp H
          obtain ⟨t104, A50, H⟩ := H
          replace H : (if t104 = true then (if x3_1.length < 140737488355328 then (spec_EscapeAddress.l0 k1 a0 (x3_1 ++ [bt a0 x4_1]) (wrap64 (x4_1 + 1))) else (none)) else (if 0 ≤ ((bt a0 x4_1) / 16) then (if ((bt a0 x4_1) / 16) < 16 then (if 0 ≤ (Go.bits .and .u8 (bt a0 x4_1) 15) then (if (Go.bits .and .u8 (bt a0 x4_1) 15) < 16 then ((some (([37, bt (⟨#[48, 49, 50, 51, 52, 53, 54, 55, 56, 57, 97, 98, 99, 100, 101, 102]⟩ : ByteArray) ((bt a0 x4_1) / 16), bt (⟨#[48, 49, 50, 51, 52, 53, 54, 55, 56, 57, 97, 98, 99, 100, 101, 102]⟩ : ByteArray) (Go.bits .and .u8 (bt a0 x4_1) 15)] : List Int) : List Int)).bind fun y108 => (if x3_1.length + y108.length < 140737488355328 then (spec_EscapeAddress.l0 k1 a0 (x3_1 ++ y108) (wrap64 (x4_1 + 1))) else (none))) else (none)) else (none)) else (none)) else (none))) = some r := H
          have A5 := Aside0.mk A50
          clear A50
          by_cases c6 : t104 = true
          · subst c6
            have H1 : (if x3_1.length < 140737488355328 then (spec_EscapeAddress.l0 k1 a0 (x3_1 ++ [bt a0 x4_1]) (wrap64 (x4_1 + 1))) else (none)) = some r := by rw [if_pos rfl] at H; exact H
            clear H
            have H := H1
            clear H1
            by_cases c8 : x3_1.length < 140737488355328
            · rw [if_pos c8] at H
              have LMc8 := Aside0.mk c8
              clear c8
              obtain ⟨y105, hy105⟩ : ∃ y_ : List Int, y_ = (x3_1 ++ [bt a0 x4_1]) := ⟨_, rfl⟩
              replace H : (spec_EscapeAddress.l0 k1 a0 y105 (wrap64 (x4_1 + 1))) = some r := by first | (rw [hy105]; with_reducible exact H) | (have H2_ := (Option.bind_some _ _).symm.trans H; rw [hy105]; with_reducible exact H2_) | (have H2_ := (Option.bind_some _ _).symm.trans H; with_reducible exact H2_) | with_reducible exact H | (rw [hy105]; exact H) | exact H
              have Ny105 := Aside0.mk hy105
              clear hy105
              have H' := Aside0.mk H
              clear H
              have p4 : 0 ≤ (x4_1 : Int) := of_decide_eq_true (by first | (with_reducible assumption) | assumption)
              have q4 : x4_1 < (a0.size : Int) := of_decide_eq_true (by first | (with_reducible assumption) | assumption)
              have hx4 := bt_at a0 x4_1
              replace p4 := eq_true p4
              replace q4 := eq_true q4
              go_wp2_with (first | ((with_reducible refine gate_callee (f := 18) rfl ?_); refine goesL_ (some 14) rfl rfl Try.func18 (by kernel_rfl) rfl #[.int .u8 (bt a0 x4_1)] rfl (by (try simp only [List.map_toArray, List.map_cons, List.map_nil]); first | done | rfl | (simp only [List.length_drop, List.length_take]; rfl)) ?_; (with_reducible refine (spec_plainByte.calls (bt a0 x4_1) true _ A5.out).mono ?_); rintro e w' ⟨rfl, ⟨nd, rfl⟩⟩; refine ⟨_, rfl, ?_⟩; have p7 : 0 ≤ (x4_1 : Int) := of_decide_eq_true (by first | (with_reducible assumption) | assumption); have q7 : x4_1 < (a0.size : Int) := of_decide_eq_true (by first | (with_reducible assumption) | assumption); have hx7 := bt_at a0 x4_1; replace p7 := eq_true p7; replace q7 := eq_true q7) | ((with_reducible refine gate_builtin (b := .append) (xs := #[.tmp 15, .tmp 19]) rfl ?_); at_builtin; refine Kd.R_append (Kd.int .u8) (w0 := w) w.heap.size rfl (.tmp 15) (.tmp 19) 40 5 (.int .u8 0) 1 rfl Try.underlying40 info5 rfl (by decide) (by omega) u3 x3_1 (bt a0 x4_1) [.int .u8 (bt a0 x4_1)] (fun _ => True) (fun _ => False) rfl rfl ?aP (fun _ hk => hk.elim) ?aF ?aO ?aB ?aS ?aL ?_; (case aP => exact rfl); (case aB => exact (by repeat (first | (with_reducible first | exact HB.out | apply below_alloc | apply pw_below_drewN | apply below_drew1) | exact HB.out))); (case aF => exact (fun _ _ => trivial)); (case aO => exact (by (with_reducible repeat (first | apply Kd.R_alloc | apply Kd.R_drewN | apply Kd.R_drew)); exact HO_3.out)); (case aS => exact (below_size (by repeat (first | (with_reducible first | exact HB.out | apply below_alloc | apply pw_below_drewN | apply below_drew1) | exact HB.out)))); (case aL => have := LMc8.out; omega); intro v106 w9 ho hb hg hat; rw [← Ny105.out] at ho; have n0_ := Aside0.mk (hb); have n1_ := Aside0.mk (ho); clear HB; clear HO_3; have HB := n0_; have HO107 := n1_; clear n0_ n1_; clear ho hb hg hat))
              go_roundg k1
              case measure => have := HK1.out; omega
              case rel => exact ⟨(y105), (wrap64 (x4_1 + 1)), (by first | rfl | (simp; done) | (simp [*]; done)), H', ⟨by have := HK1.out; omega⟩, ⟨by (with_reducible repeat (first | apply Kd.R_alloc | apply Kd.R_drewN | apply Kd.R_drew)); exact HO107.out⟩, ⟨by repeat (first | (with_reducible first | exact HB.out | apply below_alloc | apply pw_below_drewN | apply below_drew1) | exact HB.out)⟩⟩
            · rw [if_neg c8] at H
              exact absurd H (by simp)
          · replace c6 := Bool.eq_false_iff.mpr c6
            subst c6
            have H1 : (if 0 ≤ ((bt a0 x4_1) / 16) then (if ((bt a0 x4_1) / 16) < 16 then (if 0 ≤ (Go.bits .and .u8 (bt a0 x4_1) 15) then (if (Go.bits .and .u8 (bt a0 x4_1) 15) < 16 then ((some (([37, bt (⟨#[48, 49, 50, 51, 52, 53, 54, 55, 56, 57, 97, 98, 99, 100, 101, 102]⟩ : ByteArray) ((bt a0 x4_1) / 16), bt (⟨#[48, 49, 50, 51, 52, 53, 54, 55, 56, 57, 97, 98, 99, 100, 101, 102]⟩ : ByteArray) (Go.bits .and .u8 (bt a0 x4_1) 15)] : List Int) : List Int)).bind fun y108 => (if x3_1.length + y108.length < 140737488355328 then (spec_EscapeAddress.l0 k1 a0 (x3_1 ++ y108) (wrap64 (x4_1 + 1))) else (none))) else (none)) else (none)) else (none)) else (none)) = some r := by rw [if_neg (show ¬ (false = true) by decide)] at H; exact H
            clear H
            have H := H1
            clear H1
            obtain ⟨ji11, hji11⟩ : ∃ j_ : Int, ((bt a0 x4_1) / 16) = j_ := ⟨_, rfl⟩
            replace H : (if 0 ≤ (ji11) then (if (ji11) < 16 then (if 0 ≤ (Go.bits .and .u8 (bt a0 x4_1) 15) then (if (Go.bits .and .u8 (bt a0 x4_1) 15) < 16 then ((some (([37, bt (⟨#[48, 49, 50, 51, 52, 53, 54, 55, 56, 57, 97, 98, 99, 100, 101, 102]⟩ : ByteArray) (ji11), bt (⟨#[48, 49, 50, 51, 52, 53, 54, 55, 56, 57, 97, 98, 99, 100, 101, 102]⟩ : ByteArray) (Go.bits .and .u8 (bt a0 x4_1) 15)] : List Int) : List Int)).bind fun y108 => (if x3_1.length + y108.length < 140737488355328 then (spec_EscapeAddress.l0 k1 a0 (x3_1 ++ y108) (wrap64 (x4_1 + 1))) else (none))) else (none)) else (none)) else (none)) else (none)) = some r := by first | (rw [hji11] at H; exact H) | (simp only [hji11] at H ⊢; exact H)
            (try rw [hji11] at A5)
            by_cases c12 : 0 ≤ (ji11)
            · rw [if_pos c12] at H
              have c12b0 : decide (0 ≤ (ji11)) = true := decide_eq_true c12
              clear c12
              by_cases c13 : (ji11) < 16
              · rw [if_pos c13] at H
                have c13b0 : decide ((ji11) < 16) = true := decide_eq_true c13
                clear c13
                by_cases c16 : 0 ≤ (Go.bits .and .u8 (bt a0 x4_1) 15)
                · rw [if_pos c16] at H
                  have c16b0 : decide (0 ≤ (Go.bits .and .u8 (bt a0 x4_1) 15)) = true := decide_eq_true c16
                  clear c16
                  by_cases c17 : (Go.bits .and .u8 (bt a0 x4_1) 15) < 16
                  · rw [if_pos c17] at H
                    have c17b0 : decide ((Go.bits .and .u8 (bt a0 x4_1) 15) < 16) = true := decide_eq_true c17
                    clear c17
                    obtain ⟨y108, hy108⟩ : ∃ y_ : List Int, y_ = (([37, bt (⟨#[48, 49, 50, 51, 52, 53, 54, 55, 56, 57, 97, 98, 99, 100, 101, 102]⟩ : ByteArray) (ji11), bt (⟨#[48, 49, 50, 51, 52, 53, 54, 55, 56, 57, 97, 98, 99, 100, 101, 102]⟩ : ByteArray) (Go.bits .and .u8 (bt a0 x4_1) 15)] : List Int)) := ⟨_, rfl⟩
                    replace H : (if x3_1.length + y108.length < 140737488355328 then (spec_EscapeAddress.l0 k1 a0 (x3_1 ++ y108) (wrap64 (x4_1 + 1))) else (none)) = some r := by first | (rw [hy108]; with_reducible exact H) | (have H2_ := (Option.bind_some _ _).symm.trans H; rw [hy108]; with_reducible exact H2_) | (have H2_ := (Option.bind_some _ _).symm.trans H; with_reducible exact H2_) | with_reducible exact H | (rw [hy108]; exact H) | exact H
                    have Ny108 := Aside0.mk hy108
                    clear hy108
                    by_cases c19 : x3_1.length + y108.length < 140737488355328
                    · rw [if_pos c19] at H
                      have LMc19 := Aside0.mk c19
                      clear c19
                      obtain ⟨y111, hy111⟩ : ∃ y_ : List Int, y_ = (x3_1 ++ y108) := ⟨_, rfl⟩
                      replace H : (spec_EscapeAddress.l0 k1 a0 y111 (wrap64 (x4_1 + 1))) = some r := by first | (rw [hy111]; with_reducible exact H) | (have H2_ := (Option.bind_some _ _).symm.trans H; rw [hy111]; with_reducible exact H2_) | (have H2_ := (Option.bind_some _ _).symm.trans H; with_reducible exact H2_) | with_reducible exact H | (rw [hy111]; exact H) | exact H
                      have Ny111 := Aside0.mk hy111
                      clear hy111
                      have H' := Aside0.mk H
                      clear H
                      have p4 : 0 ≤ (x4_1 : Int) := of_decide_eq_true (by first | (with_reducible assumption) | assumption)
                      have q4 : x4_1 < (a0.size : Int) := of_decide_eq_true (by first | (with_reducible assumption) | assumption)
                      have hx4 := bt_at a0 x4_1
                      replace p4 := eq_true p4
                      replace q4 := eq_true q4
                      try go_wp2_with (first | ((with_reducible refine gate_callee (f := 18) rfl ?_); refine goesL_ (some 14) rfl rfl Try.func18 (by kernel_rfl) rfl #[.int .u8 (bt a0 x4_1)] rfl (by (try simp only [List.map_toArray, List.map_cons, List.map_nil]); first | done | rfl | (simp only [List.length_drop, List.length_take]; rfl)) ?_; (with_reducible refine (spec_plainByte.calls (bt a0 x4_1) false _ A5.out).mono ?_); rintro e w' ⟨rfl, ⟨nd, rfl⟩⟩; refine ⟨_, rfl, ?_⟩))
                      (try (rw [drewN_self wr]; generalize hq_ : World.drewN wr _ = wr; have n0_ : Aside0 (Kd.R (Kd.int .u8) 5 wr w.heap.size (fun _ => True) u3 x3_1) := ⟨by rw [← hq_]; exact (by (with_reducible repeat (first | apply Kd.R_alloc | apply Kd.R_drewN | apply Kd.R_drew)); exact HO_3.out)⟩; have n1_ : Aside0 (Below w.heap.size w wr) := ⟨by rw [← hq_]; exact (by repeat (first | (with_reducible first | exact HB.out | apply below_alloc | apply pw_below_drewN | apply below_drew1) | exact HB.out))⟩; clear HO_3 HB hq_; have HO_3 := n0_; have HB := n1_; clear n0_ n1_))
                      have n0_ := Aside0.mk (Kd.R_drew HO_3.out)
                      have n1_ := Aside0.mk (below_drew1 HB.out)
                      clear HO_3
                      clear HB
                      have HO_3 := n0_
                      have HB := n1_
                      clear n0_ n1_
                      have p10 : 0 ≤ (x4_1 : Int) := of_decide_eq_true (by first | (with_reducible assumption) | assumption)
                      have q10 : x4_1 < (a0.size : Int) := of_decide_eq_true (by first | (with_reducible assumption) | assumption)
                      have hx10 := bt_at a0 x4_1
                      replace p10 := eq_true p10
                      replace q10 := eq_true q10
                      have p14 : 0 ≤ ((ji11) : Int) := of_decide_eq_true (by first | (with_reducible assumption) | assumption)
                      have q14 : (ji11) < (16 : Int) := of_decide_eq_true (by first | (with_reducible assumption) | assumption)
                      have hx14 := bt_at (⟨#[48, 49, 50, 51, 52, 53, 54, 55, 56, 57, 97, 98, 99, 100, 101, 102]⟩ : ByteArray) (ji11)
                      replace p14 := eq_true p14
                      replace q14 := eq_true q14
                      have p15 : 0 ≤ (x4_1 : Int) := of_decide_eq_true (by first | (with_reducible assumption) | assumption)
                      have q15 : x4_1 < (a0.size : Int) := of_decide_eq_true (by first | (with_reducible assumption) | assumption)
                      have hx15 := bt_at a0 x4_1
                      replace p15 := eq_true p15
                      replace q15 := eq_true q15
                      have p18 : 0 ≤ ((Go.bits .and .u8 (bt a0 x4_1) 15) : Int) := of_decide_eq_true (by first | (with_reducible assumption) | assumption)
                      have q18 : (Go.bits .and .u8 (bt a0 x4_1) 15) < (16 : Int) := of_decide_eq_true (by first | (with_reducible assumption) | assumption)
                      have hx18 := bt_at (⟨#[48, 49, 50, 51, 52, 53, 54, 55, 56, 57, 97, 98, 99, 100, 101, 102]⟩ : ByteArray) (Go.bits .and .u8 (bt a0 x4_1) 15)
                      replace p18 := eq_true p18
                      replace q18 := eq_true q18
                      refine start_ (n := 14) (S := fun w' => True) (ds := []) #[false, false, false, false, false, false, false, false, false, false, false, false, false, false] (by kernel_rfl) rfl rfl trivial (fun hHeld => ?_); refine with_tabW spec_EscapeAddress.tab7 spec_EscapeAddress.bits7 (fun HT_ HW_ => ?_)
                      generalize wr.drew = w20 at HO_3 HB hHeld ⊢
                      refine pure_ (i := 0) (N := some 21) (v := ?_) (a' := ?_) #[true, false, false, false, false, false, false, false, false, false, false, false, false, false] rfl rfl (any_of HT_.out (by kernel_rfl)) (fun _ _ _ h => h) (Or.inl ⟨by rfl, ?_⟩) ?_ ?_
                      rotate_left
                      · intro w'
                        go_simp
                        with_reducible rfl
                      rotate_left
                      · simp only [Act.put, List.setIfInBounds_toArray, List.set_cons_zero, List.set_cons_succ, i64_w, i32_w]
                        rfl
                      refine pure_ (i := 1) (N := some 22) (v := ?_) (a' := ?_) #[true, true, false, false, false, false, false, false, false, false, false, false, false, false] rfl rfl (any_of HT_.out (by kernel_rfl)) (fun _ _ _ h => h) (Or.inl ⟨by rfl, ?_⟩) ?_ ?_
                      rotate_left
                      · intro w'
                        go_simp
                        with_reducible rfl
                      rotate_left
                      · simp only [Act.put, List.setIfInBounds_toArray, List.set_cons_zero, List.set_cons_succ, i64_w, i32_w]
                        rfl
                      refine pure_ (i := 2) (N := some 23) (v := ?_) (a' := ?_) #[true, true, true, false, false, false, false, false, false, false, false, false, false, false] rfl rfl (any_of HT_.out (by kernel_rfl)) (fun _ _ _ h => h) (Or.inl ⟨by rfl, ?_⟩) ?_ ?_
                      rotate_left
                      · intro w'
                        go_simp
                        with_reducible rfl
                      rotate_left
                      · simp only [Act.put, List.setIfInBounds_toArray, List.set_cons_zero, List.set_cons_succ, i64_w, i32_w]
                        rfl
                      refine pure_ (i := 6) (N := some 27) (v := ?_) (a' := ?_) #[true, true, true, false, false, false, true, false, false, false, false, false, false, false] rfl rfl (any_of HT_.out (by kernel_rfl)) (fun _ _ _ h => h) (Or.inl ⟨by rfl, ?_⟩) ?_ ?_
                      rotate_left
                      · intro w'
                        go_simp
                        with_reducible rfl
                      rotate_left
                      · simp only [Act.put, List.setIfInBounds_toArray, List.set_cons_zero, List.set_cons_succ, i64_w, i32_w]
                        rfl
                      refine pure_ (i := 7) (N := some 28) (v := ?_) (a' := ?_) #[true, true, true, false, false, false, true, true, false, false, false, false, false, false] rfl rfl (any_of HT_.out (by kernel_rfl)) (fun _ _ _ h => h) (Or.inl ⟨by rfl, ?_⟩) ?_ ?_
                      rotate_left
                      · intro w'
                        go_simp
                        with_reducible rfl
                      rotate_left
                      · simp only [Act.put, List.setIfInBounds_toArray, List.set_cons_zero, List.set_cons_succ, i64_w, i32_w]
                        rfl
                      refine take_ (i := 3) (N := some 24) (v := ?_) (a' := ?_) #[true, true, true, true, false, false, true, true, false, false, false, false, false, false] rfl rfl (take_ofW HT_.out HW_.out (by kernel_rfl)) (fun _ _ _ h => h) (Or.inl ⟨by rfl, ?_⟩) hHeld ?_ ?_
                      rotate_left
                      · intro w' _
                        go_simp
                        with_reducible rfl
                      rotate_left
                      · simp only [Act.put, List.setIfInBounds_toArray, List.set_cons_zero, List.set_cons_succ, i64_w, i32_w]
                        rfl
                      refine pure_ (i := 4) (N := some 25) (v := ?_) (a' := ?_) #[true, true, true, true, true, false, true, true, false, false, false, false, false, false] rfl rfl (any_of HT_.out (by kernel_rfl)) (fun _ _ _ h => h) (Or.inl ⟨by rfl, ?_⟩) ?_ ?_
                      rotate_left
                      · intro w'
                        go_simp
                        with_reducible rfl
                      rotate_left
                      · simp only [Act.put, List.setIfInBounds_toArray, List.set_cons_zero, List.set_cons_succ, i64_w, i32_w]
                        rfl
                      refine take_ (i := 5) (N := some 26) (v := ?_) (a' := ?_) #[true, true, true, true, true, true, true, true, false, false, false, false, false, false] rfl rfl (take_ofW HT_.out HW_.out (by kernel_rfl)) (fun _ _ _ h => h) (Or.inl ⟨by rfl, ?_⟩) hHeld ?_ ?_
                      rotate_left
                      · intro w' _
                        go_simp
                        with_reducible rfl
                      rotate_left
                      · simp only [Act.put, List.setIfInBounds_toArray, List.set_cons_zero, List.set_cons_succ, i64_w, i32_w]
                        rfl
                      refine take_ (i := 8) (N := some 29) (v := ?_) (a' := ?_) #[true, true, true, true, true, true, true, true, true, false, false, false, false, false] rfl rfl (take_ofW HT_.out HW_.out (by kernel_rfl)) (fun _ _ _ h => h) (Or.inl ⟨by rfl, ?_⟩) hHeld ?_ ?_
                      rotate_left
                      · intro w' _
                        go_simp
                        with_reducible rfl
                      rotate_left
                      · simp only [Act.put, List.setIfInBounds_toArray, List.set_cons_zero, List.set_cons_succ, i64_w, i32_w]
                        rfl
                      refine pure_ (i := 9) (N := some 30) (v := ?_) (a' := ?_) #[true, true, true, true, true, true, true, true, true, true, false, false, false, false] rfl rfl (any_of HT_.out (by kernel_rfl)) (fun _ _ _ h => h) (Or.inl ⟨by rfl, ?_⟩) ?_ ?_
                      rotate_left
                      · intro w'
                        go_simp
                        with_reducible rfl
                      rotate_left
                      · simp only [Act.put, List.setIfInBounds_toArray, List.set_cons_zero, List.set_cons_succ, i64_w, i32_w]
                        rfl
                      refine take_ (i := 10) (N := some 31) (v := ?_) (a' := ?_) #[true, true, true, true, true, true, true, true, true, true, true, false, false, false] rfl rfl (take_ofW HT_.out HW_.out (by kernel_rfl)) (fun _ _ _ h => h) (Or.inl ⟨by rfl, ?_⟩) hHeld ?_ ?_
                      rotate_left
                      · intro w' _
                        go_simp
                        with_reducible rfl
                      rotate_left
                      · simp only [Act.put, List.setIfInBounds_toArray, List.set_cons_zero, List.set_cons_succ, i64_w, i32_w]
                        rfl
                      refine one_ (i := 11) (N := some 32) #[true, true, true, true, true, true, true, true, true, true, true, true, false, false] rfl rfl (one_of HT_.out (by kernel_rfl)) (by decide) (fun K hK => ?_)
                      refine Kd.R_lit_step (Kd.int .u8) _ 5 ?hg (N := 32) ?hd (xs := ([37, bt (⟨#[48, 49, 50, 51, 52, 53, 54, 55, 56, 57, 97, 98, 99, 100, 101, 102]⟩ : ByteArray) (ji11), bt (⟨#[48, 49, 50, 51, 52, 53, 54, 55, 56, 57, 97, 98, 99, 100, 101, 102]⟩ : ByteArray) (Go.bits .and .u8 (bt a0 x4_1) 15)] : List Int)) (inner := [.int .u8 37, .int .u8 (bt (⟨#[48, 49, 50, 51, 52, 53, 54, 55, 56, 57, 97, 98, 99, 100, 101, 102]⟩ : ByteArray) (ji11)), .int .u8 (bt (⟨#[48, 49, 50, 51, 52, 53, 54, 55, 56, 57, 97, 98, 99, 100, 101, 102]⟩ : ByteArray) (Go.bits .and .u8 (bt a0 x4_1) 15))]) (ok := fun _ => True) (okp := fun _ => True) ?hr ?hp (fun _ hk => hk) trivial (Below.refl _ _) (Nat.le_refl _) (by simp) ?_; (case hd => rfl); (case hg => rfl); (case hr => first | (go_simp; done) | (go_simp; rfl)); (case hp => exact (Reps.one (show Kd.M (Kd.int .u8) _ _ _ 37 [.int .u8 37] from rfl) (Reps.one (show Kd.M (Kd.int .u8) _ _ _ (bt (⟨#[48, 49, 50, 51, 52, 53, 54, 55, 56, 57, 97, 98, 99, 100, 101, 102]⟩ : ByteArray) (ji11)) [.int .u8 (bt (⟨#[48, 49, 50, 51, 52, 53, 54, 55, 56, 57, 97, 98, 99, 100, 101, 102]⟩ : ByteArray) (ji11))] from rfl) (Reps.one (show Kd.M (Kd.int .u8) _ _ _ (bt (⟨#[48, 49, 50, 51, 52, 53, 54, 55, 56, 57, 97, 98, 99, 100, 101, 102]⟩ : ByteArray) (Go.bits .and .u8 (bt a0 x4_1) 15)) [.int .u8 (bt (⟨#[48, 49, 50, 51, 52, 53, 54, 55, 56, 57, 97, 98, 99, 100, 101, 102]⟩ : ByteArray) (Go.bits .and .u8 (bt a0 x4_1) 15))] from rfl) (Reps.none _ _)))))
                      intro v109 w21 ho22 hb hg_ hnew_
                      clear hg_ hnew_
                      (first | rw [← Ny108.out] at ho22 | (simp only [Int.reduceToNat] at ho22; rw [← Ny108.out] at ho22))
                      have n0_ := Aside0.mk (Kd.R_elder' (by (with_reducible repeat (first | apply Kd.R_alloc | apply Kd.R_drewN | apply Kd.R_drew)); exact HO_3.out) (Kd.R_base ho22) hb)
                      have n1_ := Aside0.mk (Kd.R_lower (Kd.R_new' ho22 (Kd.R_lt (by (with_reducible repeat (first | apply Kd.R_alloc | apply Kd.R_drewN | apply Kd.R_drew)); exact HO_3.out))) (below_size (by repeat (first | (with_reducible first | exact HB.out | apply below_alloc | apply pw_below_drewN | apply below_drew1) | exact HB.out))))
                      have n2_ := Aside0.mk (below_step (by repeat (first | (with_reducible first | exact HB.out | apply below_alloc | apply pw_below_drewN | apply below_drew1) | exact HB.out)) hb)
                      clear HO_3
                      clear HB
                      have HO_3 := n0_
                      have HO110 := n1_
                      have HB := n2_
                      clear n0_ n1_ n2_
                      clear hb ho22
                      obtain ⟨Ao24, co24, eo24⟩ := Kd.R_slice HO110.out
                      (first | subst eo24 | (injection eo24 with f1_ f2_ f3_; have f4_ := f1_.symm; have f5_ := f3_.symm; clear f1_ f2_ f3_; subst f4_; subst f5_))
                      refine hK.out _ _ trivial (fun hHeld => ?_)
                      clear hK K
                      refine norm_ (a' := ?_) ?_ ?_
                      rotate_left
                      · show Act.put _ (some 32) _ = _
                        simp only [Act.put, List.setIfInBounds_toArray, List.set_cons_zero, List.set_cons_succ, i64_w, i32_w]
                        rfl
                      refine one_ (i := 12) (N := some 33) #[true, true, true, true, true, true, true, true, true, true, true, true, true, false] rfl rfl (one_of HT_.out (by kernel_rfl)) (by decide) (fun K hK => ?_)
                      refine Kd.R_append_rows_step (Kd.int .u8) (w0 := w) w.heap.size (by rfl) (.tmp 21) (.tmp 32) 40 5 (.int .u8 0) 1 rfl Try.underlying40 info5 rfl (by decide) (by omega) u3 x3_1 y108 _ _ _ (fun k_ => some k_ ≠ (.slice Ao24 y108.length co24 : Value).ownBlock) (fun _ => False) rfl rfl ?aO ?aR (fun _ _ h => h) (fun _ h => h.elim) ?aF ?aB ?aS ?aL ?_
                      (case aR => repeat (first | exact (Kd.R_reads' HO110.out).2.2 | (with_reducible refine Kd.C_alloc ?_ _) | (with_reducible refine Kd.C_drewN ?_ _) | (with_reducible refine Kd.C_drew ?_)))
                      (case aB => exact (by repeat (first | (with_reducible first | exact HB.out | apply below_alloc | apply pw_below_drewN | apply below_drew1) | exact HB.out)))
                      (case aF => exact (fun k_ hk => Kd.fresh' (Kd.R_lt (by (with_reducible repeat (first | apply Kd.R_alloc | apply Kd.R_drewN | apply Kd.R_drew)); exact HO110.out)) k_ hk))
                      (case aO => exact (by (with_reducible repeat (first | apply Kd.R_alloc | apply Kd.R_drewN | apply Kd.R_drew)); exact Kd.R_mono HO_3.out (fun _ hk => hk.2)))
                      (case aS => exact (below_size (by repeat (first | (with_reducible first | exact HB.out | apply below_alloc | apply pw_below_drewN | apply below_drew1) | exact HB.out))))
                      (case aL => have := LMc19.out; omega)
                      intro v112 w23 ho hb hg hat
                      rw [← Ny111.out] at ho
                      have n0_ := Aside0.mk (Kd.R_after (ok := (fun _ => True)) (by (with_reducible repeat (first | apply Kd.R_alloc | apply Kd.R_drewN | apply Kd.R_drew)); exact HO110.out) hg hat)
                      have n1_ := Aside0.mk (hb)
                      have n2_ := Aside0.mk (ho)
                      clear HO110
                      clear HB
                      clear HO_3
                      have HO110 := n0_
                      have HB := n1_
                      have HO113 := n2_
                      clear n0_ n1_ n2_
                      clear ho hb hg hat
                      refine hK.out _ _ trivial (fun hHeld => ?_)
                      clear hK K
                      refine norm_ (a' := ?_) ?_ ?_
                      rotate_left
                      · show Act.put _ (some 33) _ = _
                        simp only [Act.put, List.setIfInBounds_toArray, List.set_cons_zero, List.set_cons_succ, i64_w, i32_w]
                        rfl
                      refine pure_ (i := 13) (N := some 3) (v := ?_) (a' := ?_) #[true, true, true, true, true, true, true, true, true, true, true, true, true, true] rfl rfl (any_of HT_.out (by kernel_rfl)) (fun _ _ _ h => h) (Or.inl ⟨by rfl, ?_⟩) ?_ ?_
                      rotate_left
                      · intro w'
                        go_simp
                        with_reducible rfl
                      rotate_left
                      · simp only [Act.put, List.setIfInBounds_toArray, List.set_cons_zero, List.set_cons_succ, i64_w, i32_w]
                        rfl
                      refine done_ (done_of HT_.out (by kernel_rfl)) ?_
                      try go_wp2
                      go_roundg k1
                      case measure => have := HK1.out; omega
                      case rel => exact ⟨(y111), (wrap64 (x4_1 + 1)), (by first | rfl | (simp; done) | (simp [*]; done)), H', ⟨by have := HK1.out; omega⟩, ⟨by (with_reducible repeat (first | apply Kd.R_alloc | apply Kd.R_drewN | apply Kd.R_drew)); exact Kd.R_mono HO113.out (fun _ hk => trivial)⟩, ⟨by repeat (first | (with_reducible first | exact HB.out | apply below_alloc | apply pw_below_drewN | apply below_drew1) | exact HB.out)⟩⟩
                    · rw [if_neg c19] at H
                      exact absurd H (by simp)
                  · rw [if_neg c17] at H
                    exact absurd H (by simp)
                · rw [if_neg c16] at H
                  exact absurd H (by simp)
              · rw [if_neg c13] at H
                exact absurd H (by simp)
            · rw [if_neg c12] at H
              exact absurd H (by simp)
        · rw [if_neg c3] at H
          exact absurd H (by simp)
      · rw [if_neg c2] at H
        have c2b0 : decide (x4_1 < (a0.size : Int)) = false := decide_eq_false c2
        clear c2
        obtain rfl := Option.some.inj H
        have hcv25 := own_string (P := Try.prog) Try.underlying40 Try.underlying5 Try.underlying9 (Kd.own_of_R HO_3.out)
        go_wp2
        go_ret
        exact ⟨by first | rfl | (simp [errW_none, errW_some] <;> rfl) | (simp [*, errW_none, errW_some] <;> rfl) | (simp (disch := omega) only [wrap64_id] <;> rfl), by repeat (first | (with_reducible first | exact HB.out | apply below_alloc | apply pw_below_drewN | apply below_drew1) | exact HB.out)⟩

/-! ### laws_FnAdEscape: function 4 -/
def laws_FnAdEscape.f (k : Nat) (a0 : ByteArray) : Option (Bool) := if (a0.size : Int) > 2147483647 then (some true) else (if (a0.size : Int) > 4096 then (some true) else ((impl_AdEscape.f k a0).bind fun t114 => ((spec_EscapeAddress.f k a0).bind fun t115 => (if t114.toList = t115.toList then ((impl_AdEscape.f k (⟨#[97]⟩ : ByteArray)).bind fun t116 => (some (t116.toList == ([97] : List UInt8)))) else (some false)))))
theorem laws_FnAdEscape.mono : ∀ a0 k, LeO (laws_FnAdEscape.f k a0) (laws_FnAdEscape.f (k + 1) a0) := by
  intro a0 k
  unfold laws_FnAdEscape.f
  repeat' first
      | (with_reducible exact impl_AdEscape.mono _ _)
      | (with_reducible exact spec_EscapeAddress.mono _ _)
      | (with_reducible exact LeO.refl _)
      | (with_reducible exact LeO.none _)
      | (with_reducible refine LeO.ite ?_ ?_)
      | (with_reducible refine LeO.bind ?_ (fun _ => ?_))
      | exact impl_AdEscape.mono _ _
      | exact spec_EscapeAddress.mono _ _
      | exact LeO.none _
      | refine LeO.ite ?_ ?_
      | refine LeO.bind ?_ (fun _ => ?_)
set_option maxHeartbeats 8000000 in
set_option maxRecDepth 100000 in
theorem laws_FnAdEscape.calls (k : Nat) (a0 : ByteArray) (r : Bool) (w : World) (h : laws_FnAdEscape.f k a0 = some r) :
    Calls Try.prog 4 #[.string a0] w fun e w' => e = .returned (.bool r) ∧ Below w.heap.size w w' := by
  have HB := Aside0.mk (Below.refl w.heap.size w)
  have H : (if (a0.size : Int) > 2147483647 then (some true) else (if (a0.size : Int) > 4096 then (some true) else ((impl_AdEscape.f k a0).bind fun t114 => ((spec_EscapeAddress.f k a0).bind fun t115 => (if t114.toList = t115.toList then ((impl_AdEscape.f k (⟨#[97]⟩ : ByteArray)).bind fun t116 => (some (t116.toList == ([97] : List UInt8)))) else (some false)))))) = some r := h
  clear h
  by_cases c2 : (a0.size : Int) > 2147483647
  · rw [if_pos c2] at H
    have c2b0 : decide (2147483647 < (a0.size : Int)) = true := decide_eq_true c2
    have c2b1 : decide (2147483647 < a0.size) = true := decide_eq_true (by omega)
    clear c2
    obtain rfl := Option.some.inj H
    go_enter Try.func4, Try.ntmps4
    go_wp2
    go_ret
    exact ⟨by first | rfl | (simp [errW_none, errW_some] <;> rfl) | (simp [*, errW_none, errW_some] <;> rfl) | (simp (disch := omega) only [wrap64_id] <;> rfl), by repeat (first | (with_reducible first | exact HB.out | apply below_alloc | apply pw_below_drewN | apply below_drew1) | exact HB.out)⟩
  · rw [if_neg c2] at H
    have c2b0 : decide (2147483647 < (a0.size : Int)) = false := decide_eq_false c2
    have c2b1 : decide (2147483647 < a0.size) = false := decide_eq_false (by omega)
    clear c2
    by_cases c3 : (a0.size : Int) > 4096
    · rw [if_pos c3] at H
      have c3b0 : decide (4096 < (a0.size : Int)) = true := decide_eq_true c3
      have c3b1 : decide (4096 < a0.size) = true := decide_eq_true (by omega)
      clear c3
      obtain rfl := Option.some.inj H
      go_enter Try.func4, Try.ntmps4
      go_wp2
      go_ret
      exact ⟨by first | rfl | (simp [errW_none, errW_some] <;> rfl) | (simp [*, errW_none, errW_some] <;> rfl) | (simp (disch := omega) only [wrap64_id] <;> rfl), by repeat (first | (with_reducible first | exact HB.out | apply below_alloc | apply pw_below_drewN | apply below_drew1) | exact HB.out)⟩
    · rw [if_neg c3] at H
      have c3b0 : decide (4096 < (a0.size : Int)) = false := decide_eq_false c3
      have c3b1 : decide (4096 < a0.size) = false := decide_eq_false (by omega)
      clear c3
      replace H := Option.bind_eq_some_iff.mp H
      obtain ⟨t114, A40, H⟩ := H
      replace H : ((spec_EscapeAddress.f k a0).bind fun t115 => (if t114.toList = t115.toList then ((impl_AdEscape.f k (⟨#[97]⟩ : ByteArray)).bind fun t116 => (some (t116.toList == ([97] : List UInt8)))) else (some false))) = some r := H
      have A4 := Aside0.mk A40
      clear A40
      replace H := Option.bind_eq_some_iff.mp H
      obtain ⟨t115, A50, H⟩ := H
      replace H : (if t114.toList = t115.toList then ((impl_AdEscape.f k (⟨#[97]⟩ : ByteArray)).bind fun t116 => (some (t116.toList == ([97] : List UInt8)))) else (some false)) = some r := H
      have A5 := Aside0.mk A50
      clear A50
      by_cases c6 : t114.toList = t115.toList
      · rw [if_pos c6] at H
        have c6b0 : (t114.toList == t115.toList) = true := beq_iff_eq.mpr c6
        have c6b1 : (t114.toList != t115.toList) = false := bne_eq_false_iff_eq.mpr c6
        clear c6
        replace H := Option.bind_eq_some_iff.mp H
        obtain ⟨t116, A70, H⟩ := H
        replace H : (some (t116.toList == ([97] : List UInt8))) = some r := H
        have A7 := Aside0.mk A70
        clear A70
        obtain rfl := Option.some.inj H
        go_enter Try.func4, Try.ntmps4
        go_wp2_with (first | (go_at_call 8; (with_reducible refine (impl_AdEscape.calls k a0 t114 _ A4.out).mono ?_); rintro e w8 ⟨rfl, hb⟩; have n0_ := Aside0.mk (below_step (by repeat (first | (with_reducible first | exact HB.out | apply below_alloc | apply pw_below_drewN | apply below_drew1) | exact HB.out)) hb); clear HB; have HB := n0_; clear n0_; (try clear hb); (try clear hb2); (try clear hk); (try clear hi)) | (go_at_call 9; (with_reducible refine (spec_EscapeAddress.calls k a0 t115 _ A5.out).mono ?_); rintro e w9 ⟨rfl, hb⟩; have n0_ := Aside0.mk (below_step (by repeat (first | (with_reducible first | exact HB.out | apply below_alloc | apply pw_below_drewN | apply below_drew1) | exact HB.out)) hb); clear HB; have HB := n0_; clear n0_; (try clear hb); (try clear hb2); (try clear hk); (try clear hi)) | (go_at_call 8; (with_reducible refine (impl_AdEscape.calls k (⟨#[97]⟩ : ByteArray) t116 _ A7.out).mono ?_); rintro e w10 ⟨rfl, hb⟩; have n0_ := Aside0.mk (below_step (by repeat (first | (with_reducible first | exact HB.out | apply below_alloc | apply pw_below_drewN | apply below_drew1) | exact HB.out)) hb); clear HB; have HB := n0_; clear n0_; (try clear hb); (try clear hb2); (try clear hk); (try clear hi)))
        go_ret
        exact ⟨by first | rfl | (simp [errW_none, errW_some] <;> rfl) | (simp [*, errW_none, errW_some] <;> rfl) | (simp (disch := omega) only [wrap64_id] <;> rfl), by repeat (first | (with_reducible first | exact HB.out | apply below_alloc | apply pw_below_drewN | apply below_drew1) | exact HB.out)⟩
      · rw [if_neg c6] at H
        have c6b0 : (t114.toList == t115.toList) = false := beq_eq_false_iff_ne.mpr c6
        have c6b1 : (t114.toList != t115.toList) = true := bne_iff_ne.mpr c6
        obtain rfl := Option.some.inj H
        go_enter Try.func4, Try.ntmps4
        go_wp2_with (first | (go_at_call 8; (with_reducible refine (impl_AdEscape.calls k a0 t114 _ A4.out).mono ?_); rintro e w11 ⟨rfl, hb⟩; have n0_ := Aside0.mk (below_step (by repeat (first | (with_reducible first | exact HB.out | apply below_alloc | apply pw_below_drewN | apply below_drew1) | exact HB.out)) hb); clear HB; have HB := n0_; clear n0_; (try clear hb); (try clear hb2); (try clear hk); (try clear hi)) | (go_at_call 9; (with_reducible refine (spec_EscapeAddress.calls k a0 t115 _ A5.out).mono ?_); rintro e w12 ⟨rfl, hb⟩; have n0_ := Aside0.mk (below_step (by repeat (first | (with_reducible first | exact HB.out | apply below_alloc | apply pw_below_drewN | apply below_drew1) | exact HB.out)) hb); clear HB; have HB := n0_; clear n0_; (try clear hb); (try clear hb2); (try clear hk); (try clear hi)))
        go_ret
        exact ⟨by first | rfl | (simp [errW_none, errW_some] <;> rfl) | (simp [*, errW_none, errW_some] <;> rfl) | (simp (disch := omega) only [wrap64_id] <;> rfl), by repeat (first | (with_reducible first | exact HB.out | apply below_alloc | apply pw_below_drewN | apply below_drew1) | exact HB.out)⟩

/-- THE ONE PURE STATEMENT of laws_FnAdEscape: yours. -/
def laws_FnAdEscape.Pure : Prop := ∀ (a0 : ByteArray), a0.size ≤ 140737488351232 → ∃ k, laws_FnAdEscape.f k a0 = some true
theorem laws_FnAdEscape.walk (P : laws_FnAdEscape.Pure) (a0 : ByteArray) (w : World) (w0 : a0.size ≤ 140737488351232) :
    Calls Try.prog 4 #[.string a0] w fun e w' => e = .returned (.bool true) ∧ Below w.heap.size w w' := by
  obtain ⟨k, h⟩ := P a0 w0
  refine (laws_FnAdEscape.calls k a0 true w h).mono ?_
  rintro e w' ⟨rfl, hd⟩
  exact ⟨rfl, hd⟩

end Go.Proofs.Ytpgpkdickcdlpaa.MFnAdEscape
