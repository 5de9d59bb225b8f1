-- Written by a program of this session (myprint.py, out of the translation). Not trusted: Lean checks it.
import Derived.Test.YtcdbhpmnilfpfaaMFnNmAllx0
import Derived.Test.YtcdbhpmnilfpfaaMFnNmAllx1
import Derived.Test.YtcdbhpmnilfpfaaMFnNmAllx5
namespace Go.Proofs.Ytcdbhpmnilfpfaa.MFnNmAll
open Go.RowKit Go.Proofs.YtcdbhpmnilfpfaaW.PrintWords Go.Proofs.YtcdbhpmnilfpfaaW.PrintLast Go.Proofs.YtcdbhpmnilfpfaaW.PrintMore
attribute [local go_sem] max2_int min2_int max_two min_two max_three min_three max_four min_four   -- for this text's walks alone
set_option linter.unusedVariables false
set_option linter.unusedSimpArgs false

/-! ### dbus_isValidInterface: function 22 -/
-- GIVENTEXT
theorem dbus_isValidInterface.own_iter {w : World} {base : Nat} {e : TypeId} {size n : Nat} {v : Value} {xs : List Value} (h : w.ownsRow base e size v n xs) {k : Nat} {s : ByteArray} {pos : Nat} (hk : w.heap[k]? = some (.stringIter s pos)) (pos' : Nat) : (w.iterAt k s pos').ownsRow base e size v n xs := by
  refine ⟨h.1, ?_⟩
  rcases h.2 with hn | ⟨g, cap, cur, hv, hb, hg, rest⟩
  · exact .inl hn
  · refine .inr ⟨g, cap, cur, hv, hb, ?_, rest⟩
    rw [Lib.iterAt_other _ _ _ _ _ (by intro q; rw [q, hk] at hg; cases hg)]
    exact hg
theorem dbus_isValidInterface.r_iter {w : World} {base e : Nat} {v : Value} {xs : List ByteArray} (h : Kd.R Kd.string e w base (fun _ => True) v xs) {k : Nat} {s : ByteArray} {pos : Nat} (hk : w.heap[k]? = some (.stringIter s pos)) (pos' : Nat) : Kd.R Kd.string e (w.iterAt k s pos') base (fun _ => True) v xs :=
  Kd.R_of_own (dbus_isValidInterface.own_iter (Kd.own_of_R h) hk pos') (fun _ _ => trivial)
mutual
def dbus_isValidInterface.j0 : Nat → ByteArray → Bool → Option (Bool)
  | 0, _, _ => none
  | k + 1, x0, x20 => if x20 = true then (some false) else ((dbus_zzSplit.f k x0 (⟨#[46]⟩ : ByteArray)).bind fun t118 => (if (t118.length : Int) < 2 then (some false) else (dbus_isValidInterface.l0 k t118 (t118.length : Int) 0)))
def dbus_isValidInterface.l0 : Nat → List ByteArray → Int → Int → Option (Bool)
  | 0, _, _, _ => none
  | k + 1, x26, x27, x28 => if x28 < x27 then (if 0 ≤ x28 then (if x28 < (x26.length : Int) then (if ((rdOf ByteArray.empty x26 x28).size : Int) = 0 then (some false) else (if 0 < ((rdOf ByteArray.empty x26 x28).size : Int) then (if (bt (rdOf ByteArray.empty x26 x28) 0) ≥ 48 then (dbus_isValidInterface.j2 k (rdOf ByteArray.empty x26 x28) x26 x27 x28 (decide ((bt (rdOf ByteArray.empty x26 x28) 0) ≤ 57))) else (dbus_isValidInterface.j2 k (rdOf ByteArray.empty x26 x28) x26 x27 x28 false)) else (none))) else (none)) else (none)) else (some true)
def dbus_isValidInterface.j2 : Nat → ByteArray → List ByteArray → Int → Int → Bool → Option (Bool)
  | 0, _, _, _, _, _ => none
  | k + 1, x5, x26, x27, x28, x42 => if x42 = true then (some false) else (dbus_isValidInterface.l1 k x26 x27 x28 x5 0)
def dbus_isValidInterface.l1 : Nat → List ByteArray → Int → Int → ByteArray → Int → Option (Bool)
  | 0, _, _, _, _, _ => none
  | k + 1, x26, x27, x28, x43, x44 => if x44.toNat < x43.size then ((dbus_isMemberChar.f ((Utf8.decode x43 x44.toNat).1 : Int)).bind fun t122 => (if t122 = true then (dbus_isValidInterface.l1 k x26 x27 x28 x43 ((x44.toNat + (Utf8.decode x43 x44.toNat).2 : Nat) : Int)) else (some false))) else (dbus_isValidInterface.l0 k x26 x27 (wrap64 (x28 + 1)))
end
def dbus_isValidInterface.f (k : Nat) (a0 : ByteArray) : Option (Bool) := if (a0.size : Int) = 0 then (dbus_isValidInterface.j0 k a0 true) else (if (a0.size : Int) > 255 then (dbus_isValidInterface.j0 k a0 true) else (if 0 < (a0.size : Int) then (dbus_isValidInterface.j0 k a0 ((bt a0 0) == 46)) else (none)))
theorem dbus_isValidInterface.mono_l : ∀ k, (∀ y0 y1, LeO (dbus_isValidInterface.j0 k y0 y1) (dbus_isValidInterface.j0 (k + 1) y0 y1)) ∧ (∀ y0 y1 y2, LeO (dbus_isValidInterface.l0 k y0 y1 y2) (dbus_isValidInterface.l0 (k + 1) y0 y1 y2)) ∧ (∀ y0 y1 y2 y3 y4, LeO (dbus_isValidInterface.j2 k y0 y1 y2 y3 y4) (dbus_isValidInterface.j2 (k + 1) y0 y1 y2 y3 y4)) ∧ (∀ y0 y1 y2 y3 y4, LeO (dbus_isValidInterface.l1 k y0 y1 y2 y3 y4) (dbus_isValidInterface.l1 (k + 1) y0 y1 y2 y3 y4))
  | 0 => ⟨fun _ _ r h => by simp [dbus_isValidInterface.j0] at h, fun _ _ _ r h => by simp [dbus_isValidInterface.l0] at h, fun _ _ _ _ _ r h => by simp [dbus_isValidInterface.j2] at h, fun _ _ _ _ _ r h => by simp [dbus_isValidInterface.l1] at h⟩
  | k + 1 => by
    obtain ⟨ih0, ih1, ih2, ih3⟩ := dbus_isValidInterface.mono_l k
    refine ⟨?_, ?_, ?_, ?_⟩
    · intro y0 y1
      unfold dbus_isValidInterface.j0
      repeat' first
      | (with_reducible exact ih0 _ _)
      | (with_reducible exact ih1 _ _ _)
      | (with_reducible exact ih2 _ _ _ _ _)
      | (with_reducible exact ih3 _ _ _ _ _)
      | (with_reducible exact dbus_zzSplit.mono _ _ _)
      | (with_reducible exact LeO.refl _)
      | (with_reducible exact LeO.none _)
      | (with_reducible refine LeO.ite ?_ ?_)
      | (with_reducible refine LeO.bind ?_ (fun _ => ?_))
      | exact ih0 _ _
      | exact ih1 _ _ _
      | exact ih2 _ _ _ _ _
      | exact ih3 _ _ _ _ _
      | exact dbus_zzSplit.mono _ _ _
      | exact LeO.none _
      | refine LeO.ite ?_ ?_
      | refine LeO.bind ?_ (fun _ => ?_)
    · intro y0 y1 y2
      unfold dbus_isValidInterface.l0
      repeat' first
      | (with_reducible exact ih0 _ _)
      | (with_reducible exact ih1 _ _ _)
      | (with_reducible exact ih2 _ _ _ _ _)
      | (with_reducible exact ih3 _ _ _ _ _)
      | (with_reducible exact dbus_zzSplit.mono _ _ _)
      | (with_reducible exact LeO.refl _)
      | (with_reducible exact LeO.none _)
      | (with_reducible refine LeO.ite ?_ ?_)
      | (with_reducible refine LeO.bind ?_ (fun _ => ?_))
      | exact ih0 _ _
      | exact ih1 _ _ _
      | exact ih2 _ _ _ _ _
      | exact ih3 _ _ _ _ _
      | exact dbus_zzSplit.mono _ _ _
      | exact LeO.none _
      | refine LeO.ite ?_ ?_
      | refine LeO.bind ?_ (fun _ => ?_)
    · intro y0 y1 y2 y3 y4
      unfold dbus_isValidInterface.j2
      repeat' first
      | (with_reducible exact ih0 _ _)
      | (with_reducible exact ih1 _ _ _)
      | (with_reducible exact ih2 _ _ _ _ _)
      | (with_reducible exact ih3 _ _ _ _ _)
      | (with_reducible exact dbus_zzSplit.mono _ _ _)
      | (with_reducible exact LeO.refl _)
      | (with_reducible exact LeO.none _)
      | (with_reducible refine LeO.ite ?_ ?_)
      | (with_reducible refine LeO.bind ?_ (fun _ => ?_))
      | exact ih0 _ _
      | exact ih1 _ _ _
      | exact ih2 _ _ _ _ _
      | exact ih3 _ _ _ _ _
      | exact dbus_zzSplit.mono _ _ _
      | exact LeO.none _
      | refine LeO.ite ?_ ?_
      | refine LeO.bind ?_ (fun _ => ?_)
    · intro y0 y1 y2 y3 y4
      unfold dbus_isValidInterface.l1
      repeat' first
      | (with_reducible exact ih0 _ _)
      | (with_reducible exact ih1 _ _ _)
      | (with_reducible exact ih2 _ _ _ _ _)
      | (with_reducible exact ih3 _ _ _ _ _)
      | (with_reducible exact dbus_zzSplit.mono _ _ _)
      | (with_reducible exact LeO.refl _)
      | (with_reducible exact LeO.none _)
      | (with_reducible refine LeO.ite ?_ ?_)
      | (with_reducible refine LeO.bind ?_ (fun _ => ?_))
      | exact ih0 _ _
      | exact ih1 _ _ _
      | exact ih2 _ _ _ _ _
      | exact ih3 _ _ _ _ _
      | exact dbus_zzSplit.mono _ _ _
      | exact LeO.none _
      | refine LeO.ite ?_ ?_
      | refine LeO.bind ?_ (fun _ => ?_)
theorem dbus_isValidInterface.mono : ∀ a0 k, LeO (dbus_isValidInterface.f k a0) (dbus_isValidInterface.f (k + 1) a0) := by
  intro a0 k
  obtain ⟨ih0, ih1, ih2, ih3⟩ := dbus_isValidInterface.mono_l k
  unfold dbus_isValidInterface.f
  repeat' first
      | (with_reducible exact ih0 _ _)
      | (with_reducible exact ih1 _ _ _)
      | (with_reducible exact ih2 _ _ _ _ _)
      | (with_reducible exact ih3 _ _ _ _ _)
      | (with_reducible exact dbus_zzSplit.mono _ _ _)
      | (with_reducible exact LeO.refl _)
      | (with_reducible exact LeO.none _)
      | (with_reducible refine LeO.ite ?_ ?_)
      | (with_reducible refine LeO.bind ?_ (fun _ => ?_))
      | exact ih0 _ _
      | exact ih1 _ _ _
      | exact ih2 _ _ _ _ _
      | exact ih3 _ _ _ _ _
      | exact dbus_zzSplit.mono _ _ _
      | exact LeO.none _
      | refine LeO.ite ?_ ?_
      | refine LeO.bind ?_ (fun _ => ?_)
set_option maxHeartbeats 8000000 in
set_option maxRecDepth 100000 in
theorem dbus_isValidInterface.calls (k : Nat) (a0 : ByteArray) (r : Bool) (w : World) (h : dbus_isValidInterface.f k a0 = some r) :
    Calls Try.prog 22 #[.string a0] w fun e w' => e = .returned (.bool r) ∧ Below w.heap.size w w' := by
  have HB := Aside0.mk (Below.refl w.heap.size w)
  have H : (if (a0.size : Int) = 0 then (dbus_isValidInterface.j0 k a0 true) else (if (a0.size : Int) > 255 then (dbus_isValidInterface.j0 k a0 true) else (if 0 < (a0.size : Int) then (dbus_isValidInterface.j0 k a0 ((bt a0 0) == 46)) else (none)))) = some r := h
  clear h
  have HC2 := Aside0.mk H
  clear H
  go_enter Try.func22, Try.ntmps22
  go_upto_region 1 with (fail)
  go_cut [20] (fun v20 wc => ∃ (kq : Nat) (x20_1 : Bool), v20 = .bool x20_1 ∧ Aside0 (dbus_isValidInterface.j0 kq a0 x20_1 = some r) ∧ Aside0 (kq ≤ k) ∧ Aside0 (Below w.heap.size w wc))
  case first =>
    have H := HC2.out
    clear HC2
    by_cases c3 : (a0.size : Int) = 0
    · rw [if_pos c3] at H
      have c3b0 : ((a0.size : Int) == 0) = true := beq_iff_eq.mpr c3
      have c3b1 : ((a0.size : Int) != 0) = false := bne_eq_false_iff_eq.mpr c3
      clear c3
      (first | rw [c3b0] | (simp only [i64_w, i32_w]; rw [c3b0]) | skip)
      have H' := Aside0.mk H
      clear H
      go_wp2
      go_meet
      case rel => exact ⟨_, (true), (by first | rfl | (simp; done) | (simp [*]; done)), H', ⟨by first | omega | exact Nat.le_refl _⟩, ⟨by repeat (first | (with_reducible first | exact HB.out | apply below_alloc | apply pw_below_drewN | apply below_drew1) | exact HB.out)⟩⟩
    · rw [if_neg c3] at H
      have c3b0 : ((a0.size : Int) == 0) = false := beq_eq_false_iff_ne.mpr c3
      have c3b1 : ((a0.size : Int) != 0) = true := bne_iff_ne.mpr c3
      (first | rw [c3b0] | (simp only [i64_w, i32_w]; rw [c3b0]) | skip)
      by_cases c4 : (a0.size : Int) > 255
      · rw [if_pos c4] at H
        have c4b0 : decide (255 < (a0.size : Int)) = true := decide_eq_true c4
        have c4b1 : decide (255 < a0.size) = true := decide_eq_true (by omega)
        clear c4
        have H' := Aside0.mk H
        clear H
        go_wp2
        go_meet
        case rel => exact ⟨_, (true), (by first | rfl | (simp; done) | (simp [*]; done)), H', ⟨by first | omega | exact Nat.le_refl _⟩, ⟨by repeat (first | (with_reducible first | exact HB.out | apply below_alloc | apply pw_below_drewN | apply below_drew1) | exact HB.out)⟩⟩
      · rw [if_neg c4] at H
        have c4b0 : decide (255 < (a0.size : Int)) = false := decide_eq_false c4
        have c4b1 : decide (255 < a0.size) = false := decide_eq_false (by omega)
        clear c4
        by_cases c5 : 0 < (a0.size : Int)
        · rw [if_pos c5] at H
          have c5b0 : decide (0 < (a0.size : Int)) = true := decide_eq_true c5
          have c5b1 : decide (0 < a0.size) = true := decide_eq_true (by omega)
          clear c5
          have H' := Aside0.mk H
          clear H
          have p6 : 0 ≤ (0 : Int) := (by omega)
          have q6 : 0 < a0.size := (by have : (0 : Int) < (a0.size : Int) := of_decide_eq_true (by first | (with_reducible assumption) | assumption); omega)
          have hx6 : ∀ h : 0 < a0.size, ((a0[0]'h).toNat : Int) = bt a0 0 := bt_at a0 0
          clear p6
          have qi6 : (0 < (a0.size : Int)) = True := eq_true (of_decide_eq_true (by first | (with_reducible assumption) | assumption))
          replace q6 := eq_true q6
          go_wp2
          go_meet
          case rel => exact ⟨_, (((bt a0 0) == 46)), (by first | rfl | (simp; done) | (simp [*]; done)), H', ⟨by first | omega | exact Nat.le_refl _⟩, ⟨by repeat (first | (with_reducible first | exact HB.out | apply below_alloc | apply pw_below_drewN | apply below_drew1) | exact HB.out)⟩⟩
        · rw [if_neg c5] at H
          exact absurd H (by simp)
  case rest =>
    clear HC2
    try clear c2
    try clear p2
    try clear c3
    try clear c3b0
    try clear c3b1
    try clear c4
    try clear c4b0
    try clear c4b1
    try clear c5
    try clear c5b0
    try clear c5b1
    try clear p6
    try clear q6
    try clear hx6
    try clear qi6
    try clear p6
    try clear q6
    obtain ⟨kq, x20_1, rfl, HA, HJ1, HB⟩ := hcut
    cases kq with
    | zero => exact absurd HA.out (by simp [dbus_isValidInterface.j0])
    | succ kj1 =>
      have H := HA.out
      clear HA
      simp only [dbus_isValidInterface.j0] at H
      by_cases c7 : x20_1 = true
      · subst c7
        have H1 : (some false) = some r := by rw [if_pos rfl] at H; exact H
        clear H
        have H := H1
        clear H1
        obtain rfl := Option.some.inj H
        go_wp2
        go_ret
        exact ⟨by first | rfl | (simp [errW_none, errW_some] <;> rfl) | (simp [*, errW_none, errW_some] <;> rfl) | (simp (disch := omega) only [wrap64_id] <;> rfl), by repeat (first | (with_reducible first | exact HB.out | apply below_alloc | apply pw_below_drewN | apply below_drew1) | exact HB.out)⟩
      · replace c7 := Bool.eq_false_iff.mpr c7
        subst c7
        have H1 : ((dbus_zzSplit.f kj1 a0 (⟨#[46]⟩ : ByteArray)).bind fun t118 => (if (t118.length : Int) < 2 then (some false) else (dbus_isValidInterface.l0 kj1 t118 (t118.length : Int) 0))) = some r := by rw [if_neg (show ¬ (false = true) by decide)] at H; exact H
        clear H
        have H := H1
        clear H1
        replace H := Option.bind_eq_some_iff.mp H
        obtain ⟨t118, A80, H⟩ := H
        replace H : (if (t118.length : Int) < 2 then (some false) else (dbus_isValidInterface.l0 kj1 t118 (t118.length : Int) 0)) = some r := H
        have A8 := Aside0.mk A80
        clear A80
        by_cases c9 : (t118.length : Int) < 2
        · rw [if_pos c9] at H
          have c9b0 : decide ((t118.length : Int) < 2) = true := decide_eq_true c9
          have c9b1 : decide (t118.length < 2) = true := decide_eq_true (by omega)
          clear c9
          obtain rfl := Option.some.inj H
          go_wp2_with (first | ((with_reducible refine gate_callee (f := 20) rfl ?_); refine goesL_ (some 22) rfl rfl Try.func20 (by kernel_rfl) rfl #[.string a0, .string (⟨#[46]⟩ : ByteArray)] rfl (by (try simp only [List.map_toArray, List.map_cons, List.map_nil]); first | done | rfl | (simp only [List.length_drop, List.length_take]; rfl)) ?_; (with_reducible refine (dbus_zzSplit.calls kj1 a0 (⟨#[46]⟩ : ByteArray) t118 _ A8.out).mono ?_); rintro e w10 ⟨v119, rfl, ho0, hb⟩; refine ⟨_, rfl, ?_⟩; have n0_ := Aside0.mk (Kd.R_lower ho0 (below_size (by repeat (first | (with_reducible first | exact HB.out | apply below_alloc | apply pw_below_drewN | apply below_drew1) | exact HB.out)))); have n1_ := Aside0.mk (below_step (by repeat (first | (with_reducible first | exact HB.out | apply below_alloc | apply pw_below_drewN | apply below_drew1) | exact HB.out)) hb); clear HB; have HO120 := n0_; have HB := n1_; clear n0_ n1_; (try clear hb); (try clear hb2); (try clear hk); (try clear hi); (try clear ho0); obtain ⟨Ao11, co11, eo11⟩ := Kd.R_slice HO120.out; subst eo11))
          go_ret
          exact ⟨by first | rfl | (simp [errW_none, errW_some] <;> rfl) | (simp [*, errW_none, errW_some] <;> rfl) | (simp (disch := omega) only [wrap64_id] <;> rfl), by repeat (first | (with_reducible first | exact HB.out | apply below_alloc | apply pw_below_drewN | apply below_drew1) | exact HB.out)⟩
        · rw [if_neg c9] at H
          have c9b0 : decide ((t118.length : Int) < 2) = false := decide_eq_false c9
          have c9b1 : decide (t118.length < 2) = false := decide_eq_false (by omega)
          clear c9
          have H' := Aside0.mk H
          clear H
          go_wp2_with (first | ((with_reducible refine gate_callee (f := 20) rfl ?_); refine goesL_ (some 22) rfl rfl Try.func20 (by kernel_rfl) rfl #[.string a0, .string (⟨#[46]⟩ : ByteArray)] rfl (by (try simp only [List.map_toArray, List.map_cons, List.map_nil]); first | done | rfl | (simp only [List.length_drop, List.length_take]; rfl)) ?_; (with_reducible refine (dbus_zzSplit.calls kj1 a0 (⟨#[46]⟩ : ByteArray) t118 _ A8.out).mono ?_); rintro e w12 ⟨v119, rfl, ho0, hb⟩; refine ⟨_, rfl, ?_⟩; have n0_ := Aside0.mk (Kd.R_lower ho0 (below_size (by repeat (first | (with_reducible first | exact HB.out | apply below_alloc | apply pw_below_drewN | apply below_drew1) | exact HB.out)))); have n1_ := Aside0.mk (below_step (by repeat (first | (with_reducible first | exact HB.out | apply below_alloc | apply pw_below_drewN | apply below_drew1) | exact HB.out)) hb); clear HB; have HO120 := n0_; have HB := n1_; clear n0_ n1_; (try clear hb); (try clear hb2); (try clear hk); (try clear hi); (try clear ho0); obtain ⟨Ao13, co13, eo13⟩ := Kd.R_slice HO120.out; subst eo13))
          go_loopg [28] kj1 (fun kq v28 w' => ∃ (x28_2 : Int), v28 = .int .i64 x28_2 ∧ Aside0 (dbus_isValidInterface.l0 kq t118 (t118.length : Int) x28_2 = some r) ∧ Aside0 (kq ≤ kj1) ∧ Aside0 (Kd.R Kd.string 9 w' w.heap.size (fun _ => True) (.slice Ao13 t118.length co13) t118) ∧ Aside0 (Below w.heap.size w w'))
          case atStart => exact ⟨(0), (by first | rfl | (simp; done) | (simp [*]; done)), H', ⟨Nat.le_refl _⟩, ⟨by (with_reducible repeat (first | apply Kd.R_alloc | apply Kd.R_drewN | apply Kd.R_drew)); exact HO120.out⟩, ⟨by repeat (first | (with_reducible first | exact HB.out | apply below_alloc | apply pw_below_drewN | apply below_drew1) | exact HB.out)⟩⟩
          case round =>
            clear H'
            try clear c2
            try clear p2
            try clear c3
            try clear c3b0
            try clear c3b1
            try clear c4
            try clear c4b0
            try clear c4b1
            try clear c5
            try clear c5b0
            try clear c5b1
            try clear p6
            try clear q6
            try clear hx6
            try clear qi6
            try clear c7
            try clear c9
            try clear c9b0
            try clear c9b1
            try clear p2
            try clear p6
            try clear q6
            obtain ⟨x28_2, rfl, HA, HK2, HO_26, HB⟩ := hrel
            cases gk with
            | zero => exact absurd HA.out (by simp [dbus_isValidInterface.l0])
            | succ k2 =>
              have H := HA.out
              clear HA
              simp only [dbus_isValidInterface.l0] at H
              by_cases c14 : x28_2 < (t118.length : Int)
              · rw [if_pos c14] at H
                have c14b0 : decide (x28_2 < (t118.length : Int)) = true := decide_eq_true c14
                clear c14
                by_cases c15 : 0 ≤ x28_2
                · rw [if_pos c15] at H
                  have c15b0 : decide (0 ≤ x28_2) = true := decide_eq_true c15
                  clear c15
                  by_cases c16 : x28_2 < (t118.length : Int)
                  · rw [if_pos c16] at H
                    have c16b0 : decide (x28_2 < (t118.length : Int)) = true := decide_eq_true c16
                    clear c16
                    by_cases c17 : ((rdOf ByteArray.empty t118 x28_2).size : Int) = 0
                    · rw [if_pos c17] at H
                      have c17b0 : (((rdOf ByteArray.empty t118 x28_2).size : Int) == 0) = true := beq_iff_eq.mpr c17
                      have c17b1 : (((rdOf ByteArray.empty t118 x28_2).size : Int) != 0) = false := bne_eq_false_iff_eq.mpr c17
                      clear c17
                      obtain rfl := Option.some.inj H
                      have p121 : 0 ≤ (x28_2 : Int) := of_decide_eq_true (by first | (with_reducible assumption) | assumption)
                      have q121 : x28_2 < (t118.length : Int) := of_decide_eq_true (by first | (with_reducible assumption) | assumption)
                      obtain ⟨ad121, e121, hx121_0⟩ := Kd.at_string (Kd.R_reads' HO_26.out).2.2 x28_2 p121 q121
                      cases e121
                      replace p121 := eq_true p121
                      replace q121 := eq_true q121
                      go_wp2
                      go_ret
                      exact ⟨by first | rfl | (simp [errW_none, errW_some] <;> rfl) | (simp [*, errW_none, errW_some] <;> rfl) | (simp (disch := omega) only [wrap64_id] <;> rfl), by repeat (first | (with_reducible first | exact HB.out | apply below_alloc | apply pw_below_drewN | apply below_drew1) | exact HB.out)⟩
                    · rw [if_neg c17] at H
                      have c17b0 : (((rdOf ByteArray.empty t118 x28_2).size : Int) == 0) = false := beq_eq_false_iff_ne.mpr c17
                      have c17b1 : (((rdOf ByteArray.empty t118 x28_2).size : Int) != 0) = true := bne_iff_ne.mpr c17
                      have HC18 := Aside0.mk H
                      clear H
                      have p121 : 0 ≤ (x28_2 : Int) := of_decide_eq_true (by first | (with_reducible assumption) | assumption)
                      have q121 : x28_2 < (t118.length : Int) := of_decide_eq_true (by first | (with_reducible assumption) | assumption)
                      obtain ⟨ad121, e121, hx121_0⟩ := Kd.at_string (Kd.R_reads' HO_26.out).2.2 x28_2 p121 q121
                      cases e121
                      replace p121 := eq_true p121
                      replace q121 := eq_true q121
                      go_upto_region 11 with (fail)
                      go_cut [42] (fun v42 wc => ∃ (kq : Nat) (x42_17 : Bool), v42 = .bool x42_17 ∧ Aside0 (dbus_isValidInterface.j2 kq (rdOf ByteArray.empty t118 x28_2) t118 (t118.length : Int) x28_2 x42_17 = some r) ∧ Aside0 (kq ≤ k2) ∧ Aside0 (Kd.R Kd.string 9 wc w.heap.size (fun _ => True) (.slice (some ad121) t118.length co13) t118) ∧ Aside0 (Below w.heap.size w wc))
                      case first =>
                        have H := HC18.out
                        clear HC18
                        by_cases c19 : 0 < ((rdOf ByteArray.empty t118 x28_2).size : Int)
                        · rw [if_pos c19] at H
                          have c19b0 : decide (0 < ((rdOf ByteArray.empty t118 x28_2).size : Int)) = true := decide_eq_true c19
                          have c19b1 : decide (0 < (rdOf ByteArray.empty t118 x28_2).size) = true := decide_eq_true (by omega)
                          clear c19
                          (first | rw [c19b0] | (simp only [i64_w, i32_w]; rw [c19b0]) | skip)
                          by_cases c21 : (bt (rdOf ByteArray.empty t118 x28_2) 0) ≥ 48
                          · rw [if_pos c21] at H
                            have c21b0 : decide (48 ≤ (bt (rdOf ByteArray.empty t118 x28_2) 0)) = true := decide_eq_true c21
                            clear c21
                            have H' := Aside0.mk H
                            clear H
                            have p20 : 0 ≤ (0 : Int) := (by omega)
                            have q20 : 0 < (rdOf ByteArray.empty t118 x28_2).size := (by have : (0 : Int) < ((rdOf ByteArray.empty t118 x28_2).size : Int) := of_decide_eq_true (by first | (with_reducible assumption) | assumption); omega)
                            have hx20 : ∀ h : 0 < (rdOf ByteArray.empty t118 x28_2).size, (((rdOf ByteArray.empty t118 x28_2)[0]'h).toNat : Int) = bt (rdOf ByteArray.empty t118 x28_2) 0 := bt_at (rdOf ByteArray.empty t118 x28_2) 0
                            clear p20
                            have qi20 : (0 < ((rdOf ByteArray.empty t118 x28_2).size : Int)) = True := eq_true (of_decide_eq_true (by first | (with_reducible assumption) | assumption))
                            replace q20 := eq_true q20
                            have p22 : 0 ≤ (0 : Int) := (by omega)
                            have q22 : 0 < (rdOf ByteArray.empty t118 x28_2).size := (by have : (0 : Int) < ((rdOf ByteArray.empty t118 x28_2).size : Int) := of_decide_eq_true (by first | (with_reducible assumption) | assumption); omega)
                            have hx22 : ∀ h : 0 < (rdOf ByteArray.empty t118 x28_2).size, (((rdOf ByteArray.empty t118 x28_2)[0]'h).toNat : Int) = bt (rdOf ByteArray.empty t118 x28_2) 0 := bt_at (rdOf ByteArray.empty t118 x28_2) 0
                            clear p22
                            have qi22 : (0 < ((rdOf ByteArray.empty t118 x28_2).size : Int)) = True := eq_true (of_decide_eq_true (by first | (with_reducible assumption) | assumption))
                            replace q22 := eq_true q22
                            go_wp2
                            go_meet
                            case rel => exact ⟨_, (decide ((bt (rdOf ByteArray.empty t118 x28_2) 0) ≤ 57)), (by first | rfl | (simp; done) | (simp [*]; done)), H', ⟨by have := HJ1.out; have := HK2.out; first | omega | exact Nat.le_refl _⟩, ⟨by (with_reducible repeat (first | apply Kd.R_alloc | apply Kd.R_drewN | apply Kd.R_drew)); exact HO_26.out⟩, ⟨by repeat (first | (with_reducible first | exact HB.out | apply below_alloc | apply pw_below_drewN | apply below_drew1) | exact HB.out)⟩⟩
                          · rw [if_neg c21] at H
                            have c21b0 : decide (48 ≤ (bt (rdOf ByteArray.empty t118 x28_2) 0)) = false := decide_eq_false c21
                            clear c21
                            have H' := Aside0.mk H
                            clear H
                            have p20 : 0 ≤ (0 : Int) := (by omega)
                            have q20 : 0 < (rdOf ByteArray.empty t118 x28_2).size := (by have : (0 : Int) < ((rdOf ByteArray.empty t118 x28_2).size : Int) := of_decide_eq_true (by first | (with_reducible assumption) | assumption); omega)
                            have hx20 : ∀ h : 0 < (rdOf ByteArray.empty t118 x28_2).size, (((rdOf ByteArray.empty t118 x28_2)[0]'h).toNat : Int) = bt (rdOf ByteArray.empty t118 x28_2) 0 := bt_at (rdOf ByteArray.empty t118 x28_2) 0
                            clear p20
                            have qi20 : (0 < ((rdOf ByteArray.empty t118 x28_2).size : Int)) = True := eq_true (of_decide_eq_true (by first | (with_reducible assumption) | assumption))
                            replace q20 := eq_true q20
                            go_wp2
                            go_meet
                            case rel => exact ⟨_, (false), (by first | rfl | (simp; done) | (simp [*]; done)), H', ⟨by have := HJ1.out; have := HK2.out; first | omega | exact Nat.le_refl _⟩, ⟨by (with_reducible repeat (first | apply Kd.R_alloc | apply Kd.R_drewN | apply Kd.R_drew)); exact HO_26.out⟩, ⟨by repeat (first | (with_reducible first | exact HB.out | apply below_alloc | apply pw_below_drewN | apply below_drew1) | exact HB.out)⟩⟩
                        · rw [if_neg c19] at H
                          exact absurd H (by simp)
                      case rest =>
                        clear HC18
                        try clear c1
                        try clear p1
                        try clear q1
                        try clear hx1
                        try clear c2
                        try clear p2
                        try clear q2
                        try clear hx2
                        try clear qi2
                        try clear c3
                        try clear c3b0
                        try clear c3b1
                        try clear c4
                        try clear c4b0
                        try clear c4b1
                        try clear c5
                        try clear c5b0
                        try clear c5b1
                        try clear p6
                        try clear q6
                        try clear hx6
                        try clear qi6
                        try clear c7
                        try clear c9
                        try clear c9b0
                        try clear c9b1
                        try clear p12
                        try clear q12
                        try clear hx12
                        try clear c14
                        try clear c14b0
                        try clear c15
                        try clear c15b0
                        try clear c16
                        try clear c16b0
                        try clear c17
                        try clear c17b0
                        try clear c17b1
                        try clear c19
                        try clear c19b0
                        try clear c19b1
                        try clear c20
                        try clear p20
                        try clear q20
                        try clear hx20
                        try clear qi20
                        try clear c21
                        try clear c21b0
                        try clear c22
                        try clear p22
                        try clear q22
                        try clear hx22
                        try clear qi22
                        try clear hx121_0
                        try clear p121
                        try clear p2
                        try clear p20
                        try clear p22
                        try clear p6
                        try clear q121
                        try clear q20
                        try clear q22
                        try clear q6
                        obtain ⟨kq, x42_17, rfl, HA, HJ17, HO_26, HB⟩ := hcut
                        cases kq with
                        | zero => exact absurd HA.out (by simp [dbus_isValidInterface.j2])
                        | succ kj17 =>
                          have H := HA.out
                          clear HA
                          simp only [dbus_isValidInterface.j2] at H
                          by_cases c23 : x42_17 = true
                          · subst c23
                            have H1 : (some false) = some r := by rw [if_pos rfl] at H; exact H
                            clear H
                            have H := H1
                            clear H1
                            obtain rfl := Option.some.inj H
                            go_wp2
                            go_ret
                            exact ⟨by first | rfl | (simp [errW_none, errW_some] <;> rfl) | (simp [*, errW_none, errW_some] <;> rfl) | (simp (disch := omega) only [wrap64_id] <;> rfl), by repeat (first | (with_reducible first | exact HB.out | apply below_alloc | apply pw_below_drewN | apply below_drew1) | exact HB.out)⟩
                          · replace c23 := Bool.eq_false_iff.mpr c23
                            subst c23
                            have H1 : (dbus_isValidInterface.l1 kj17 t118 (t118.length : Int) x28_2 (rdOf ByteArray.empty t118 x28_2) 0) = some r := by rw [if_neg (show ¬ (false = true) by decide)] at H; exact H
                            clear H
                            have H := H1
                            clear H1
                            have H' := Aside0.mk H
                            clear H
                            go_wp2
                            generalize hib : wc.heap.size = ib
                            have HSZ : Aside0 (w.heap.size ≤ ib) := ⟨by rw [← hib]; exact below_size HB.out⟩
                            generalize hvv : rdOf ByteArray.empty t118 x28_2 = vv at *
                            go_loopg [] kj17 (fun kq w' => ∃ (pos : Nat), Aside0 (dbus_isValidInterface.l1 kq t118 (t118.length : Int) x28_2 vv (pos : Int) = some r) ∧ Aside0 (kq ≤ kj17) ∧ Aside0 (w'.heap[ib]? = some (.stringIter vv pos)) ∧ Aside0 (Kd.R Kd.string 9 w' w.heap.size (fun _ => True) (.slice (some ad121) t118.length co13) t118) ∧ Aside0 (Below w.heap.size w w'))
                            case atStart => exact ⟨0, H', ⟨Nat.le_refl _⟩, ⟨by rw [← hib]; exact World.iter_heap _ _ _⟩, ⟨by first | exact Kd.R_alloc HO_26.out _ | (apply Kd.R_alloc (w := wc); exact HO_26.out)⟩, ⟨by first | exact below_alloc HB.out _ | exact HB.out.alloc _⟩⟩
                            case round =>
                              clear H' hib hvv
                              try clear c1
                              try clear p1
                              try clear q1
                              try clear hx1
                              try clear c2
                              try clear p2
                              try clear q2
                              try clear hx2
                              try clear qi2
                              try clear c3
                              try clear c3b0
                              try clear c3b1
                              try clear c4
                              try clear c4b0
                              try clear c4b1
                              try clear c5
                              try clear c5b0
                              try clear c5b1
                              try clear p6
                              try clear q6
                              try clear hx6
                              try clear qi6
                              try clear c7
                              try clear c9
                              try clear c9b0
                              try clear c9b1
                              try clear p12
                              try clear q12
                              try clear hx12
                              try clear c14
                              try clear c14b0
                              try clear c15
                              try clear c15b0
                              try clear c16
                              try clear c16b0
                              try clear c17
                              try clear c17b0
                              try clear c17b1
                              try clear c19
                              try clear c19b0
                              try clear c19b1
                              try clear c20
                              try clear p20
                              try clear q20
                              try clear hx20
                              try clear qi20
                              try clear c21
                              try clear c21b0
                              try clear c22
                              try clear p22
                              try clear q22
                              try clear hx22
                              try clear qi22
                              try clear c23
                              try clear hx121_0
                              try clear p1
                              try clear p12
                              try clear p121
                              try clear p2
                              try clear p20
                              try clear p22
                              try clear p6
                              try clear q1
                              try clear q12
                              try clear q121
                              try clear q2
                              try clear q20
                              try clear q22
                              try clear q6
                              obtain ⟨pos, HA, HK4, HI, HO_26, HB⟩ := hrel
                              cases gk with
                              | zero => exact absurd HA.out (by simp [dbus_isValidInterface.l1])
                              | succ k4 =>
                                have H := HA.out
                                clear HA
                                simp only [dbus_isValidInterface.l1, Int.toNat_natCast] at H
                                by_cases hp : pos < vv.size
                                · rw [if_pos hp] at H
                                  replace H := Option.bind_eq_some_iff.mp H
                                  obtain ⟨tm, A230, H⟩ := H
                                  have A23 := Aside0.mk A230
                                  clear A230
                                  have hnx : ∀ ty, (Instr.next (.pointer (some ⟨ib, 0, none⟩)) true ty).run Try.prog wr = _ := fun ty => Lib.run_next_any_at wr ib vv pos ty HI.out hp
                                  have hit2 := Aside0.mk (Lib.iterAt_heap wr ib vv pos (pos + (Utf8.decode vv pos).2) HI.out)
                                  have hbw2 := Aside0.mk (Lib.below_iterAt HB.out (k := ib) HSZ.out vv (pos + (Utf8.decode vv pos).2))
                                  have hro2 := Aside0.mk (dbus_isValidInterface.r_iter HO_26.out HI.out (pos + (Utf8.decode vv pos).2))
                                  obtain ⟨W1, hW1⟩ : ∃ W1, W1 = wr.iterAt ib vv (pos + (Utf8.decode vv pos).2) := ⟨_, rfl⟩
                                  rw [← hW1] at hnx hit2 hbw2 hro2
                                  clear hW1 HI HB HO_26 hp
                                  have HB := hbw2
                                  have HO_26 := hro2
                                  clear hbw2 hro2
                                  generalize ((Utf8.decode vv pos).1 : Int) = c at *
                                  cases tm with
                                  | true =>
                                    simp only [if_true] at H
                                    have H' := Aside0.mk H
                                    clear H
                                    go_wp2_with (first | (go_at_call 21; (with_reducible refine (dbus_isMemberChar.calls c true _ A23.out).mono ?_); rintro e w' ⟨rfl, ⟨nd2, rfl⟩⟩))
                                    go_roundg k4
                                    case measure => have := HJ1.out; have := HK2.out; have := HJ17.out; have := HK4.out; omega
                                    case rel => exact ⟨_, H', ⟨by have := HJ1.out; have := HK2.out; have := HJ17.out; have := HK4.out; omega⟩, ⟨hit2.out⟩, ⟨by (with_reducible repeat (first | apply Kd.R_alloc | apply Kd.R_drewN | apply Kd.R_drew)); exact HO_26.out⟩, ⟨by repeat (first | (with_reducible first | exact HB.out | apply below_alloc | apply pw_below_drewN | apply below_drew1) | exact HB.out)⟩⟩
                                  | false =>
                                    simp only [Bool.false_eq_true, if_false] at H
                                    obtain rfl := Option.some.inj H
                                    clear H
                                    go_wp2_with (first | (go_at_call 21; (with_reducible refine (dbus_isMemberChar.calls c false _ A23.out).mono ?_); rintro e w' ⟨rfl, ⟨nd2, rfl⟩⟩))
                                    go_ret
                                    exact ⟨rfl, by repeat (first | (with_reducible first | exact HB.out | apply below_alloc | apply pw_below_drewN | apply below_drew1) | exact HB.out)⟩
                                · rw [if_neg hp] at H
                                  have H' := Aside0.mk H
                                  clear H
                                  have hnx : ∀ ty, (Instr.next (.pointer (some ⟨ib, 0, none⟩)) true ty).run Try.prog wr = _ := fun ty => Lib.run_next_end_at wr ib vv pos ty HI.out hp
                                  go_wp2
                                  go_roundg k4
                                  case measure => have := HJ1.out; have := HK2.out; have := HJ17.out; have := HK4.out; omega
                                  case rel => exact ⟨(wrap64 (x28_2 + 1)), (by first | rfl | (simp; done) | (simp [*]; done)), H', ⟨by have := HJ1.out; have := HK2.out; have := HJ17.out; have := HK4.out; omega⟩, ⟨by (with_reducible repeat (first | apply Kd.R_alloc | apply Kd.R_drewN | apply Kd.R_drew)); exact HO_26.out⟩, ⟨by repeat (first | (with_reducible first | exact HB.out | apply below_alloc | apply pw_below_drewN | apply below_drew1) | exact HB.out)⟩⟩
                  · rw [if_neg c16] at H
                    exact absurd H (by simp)
                · rw [if_neg c15] at H
                  exact absurd H (by simp)
              · rw [if_neg c14] at H
                have c14b0 : decide (x28_2 < (t118.length : Int)) = false := decide_eq_false c14
                clear c14
                obtain rfl := Option.some.inj H
                go_wp2
                go_ret
                exact ⟨by first | rfl | (simp [errW_none, errW_some] <;> rfl) | (simp [*, errW_none, errW_some] <;> rfl) | (simp (disch := omega) only [wrap64_id] <;> rfl), by repeat (first | (with_reducible first | exact HB.out | apply below_alloc | apply pw_below_drewN | apply below_drew1) | exact HB.out)⟩

end Go.Proofs.Ytcdbhpmnilfpfaa.MFnNmAll
