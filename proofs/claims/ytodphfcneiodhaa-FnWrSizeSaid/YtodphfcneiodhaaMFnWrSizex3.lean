-- Written by a program of this session (myprint.py, out of the translation). Not trusted: Lean checks it.
import Derived.Test.YtodphfcneiodhaaMFnWrSizex0
import Derived.Test.YtodphfcneiodhaaMFnWrSizex2
namespace Go.Proofs.Ytodphfcneiodhaa.MFnWrSize
open Go.RowKit Go.Proofs.YtodphfcneiodhaaW.PrintWords Go.Proofs.YtodphfcneiodhaaW.PrintLast Go.Proofs.YtodphfcneiodhaaW.PrintMore
attribute [local go_sem] max2_int min2_int max_two min_two max_three min_three max_four min_four   -- for this text's walks alone
set_option linter.unusedVariables false
set_option linter.unusedSimpArgs false

/-! ### spec_complete: function 15 -/
def spec_complete.f (k : Nat) (a0 : ByteArray) : Option (Int) := (spec_Complete.f k a0 32 32 32).bind fun t106 => (some t106)
theorem spec_complete.mono : ∀ a0 k, LeO (spec_complete.f k a0) (spec_complete.f (k + 1) a0) := by
  intro a0 k
  unfold spec_complete.f
  repeat' first
      | (with_reducible exact spec_Complete.mono _ _ _ _ _)
      | (with_reducible exact LeO.refl _)
      | (with_reducible exact LeO.none _)
      | (with_reducible refine LeO.ite ?_ ?_)
      | (with_reducible refine LeO.bind ?_ (fun _ => ?_))
      | exact spec_Complete.mono _ _ _ _ _
      | exact LeO.none _
      | refine LeO.ite ?_ ?_
      | refine LeO.bind ?_ (fun _ => ?_)
set_option maxHeartbeats 8000000 in
set_option maxRecDepth 100000 in
theorem spec_complete.calls (k : Nat) (a0 : ByteArray) (r : Int) (w : World) (h : spec_complete.f k a0 = some r) :
    Calls Try.prog 15 #[.string a0] w fun e w' => e = .returned (.int .i64 r) ∧ Drawn0 w w' := by
  have H : ((spec_Complete.f k a0 32 32 32).bind fun t106 => (some t106)) = some r := h
  clear h
  replace H := Option.bind_eq_some_iff.mp H
  obtain ⟨t106, A20, H⟩ := H
  replace H : (some t106) = some r := H
  have A2 := Aside0.mk A20
  clear A20
  obtain rfl := Option.some.inj H
  go_enter Try.func15, Try.ntmps15
  go_wp2_with (first | ((with_reducible refine gate_callee (f := 18) rfl ?_); refine goesL_ (some 4) rfl rfl Try.func18 (by kernel_rfl) rfl #[.string a0, .int .i64 32, .int .i64 32, .int .i64 32] rfl (by (try simp only [List.map_toArray, List.map_cons, List.map_nil]); first | done | rfl | (simp only [List.length_drop, List.length_take]; rfl)) ?_; (with_reducible refine (spec_Complete.calls k a0 32 32 32 t106 _ A2.out).mono ?_); rintro e w' ⟨rfl, ⟨nd, rfl⟩⟩; refine ⟨_, rfl, ?_⟩))
  go_ret
  exact ⟨by first | rfl | (simp; done) | (simp [*]; done), by repeat (first | exact Drawn0.refl _ | apply Drawn0.step)⟩

/-! ### spec_Types: function 11 -/
def spec_Types.l0 : Nat → ByteArray → List ByteArray → Option (List ByteArray × Bool)
  | 0, _, _ => none
  | k + 1, x0, x4 => if x0.toList = ([] : List UInt8) then (some (x4, true)) else ((spec_complete.f k x0).bind fun t107 => (if t107 = 0 then (some (([] : List ByteArray), false)) else (if 0 ≤ t107 then (if t107 ≤ (x0.size : Int) then (if x4.length < 8796093022208 then (spec_Types.l0 k (x0.extract (t107 : Int).toNat x0.size) (x4 ++ [x0.extract 0 (t107 : Int).toNat])) else (none)) else (none)) else (none))))
def spec_Types.f (k : Nat) (a0 : ByteArray) : Option (List ByteArray × Bool) := if (a0.size : Int) > 255 then (some (([] : List ByteArray), false)) else (spec_Types.l0 k a0 ([] : List ByteArray))
theorem spec_Types.mono_l : ∀ k, (∀ y0 y1, LeO (spec_Types.l0 k y0 y1) (spec_Types.l0 (k + 1) y0 y1))
  | 0 => fun _ _ r h => by simp [spec_Types.l0] at h
  | k + 1 => by
    have ih0 := spec_Types.mono_l k
    · intro y0 y1
      unfold spec_Types.l0
      repeat' first
      | (with_reducible exact ih0 _ _)
      | (with_reducible exact spec_complete.mono _ _)
      | (with_reducible exact LeO.refl _)
      | (with_reducible exact LeO.none _)
      | (with_reducible refine LeO.ite ?_ ?_)
      | (with_reducible refine LeO.bind ?_ (fun _ => ?_))
      | exact ih0 _ _
      | exact spec_complete.mono _ _
      | exact LeO.none _
      | refine LeO.ite ?_ ?_
      | refine LeO.bind ?_ (fun _ => ?_)
theorem spec_Types.mono : ∀ a0 k, LeO (spec_Types.f k a0) (spec_Types.f (k + 1) a0) := by
  intro a0 k
  have ih0 := spec_Types.mono_l k
  unfold spec_Types.f
  repeat' first
      | (with_reducible exact ih0 _ _)
      | (with_reducible exact spec_complete.mono _ _)
      | (with_reducible exact LeO.refl _)
      | (with_reducible exact LeO.none _)
      | (with_reducible refine LeO.ite ?_ ?_)
      | (with_reducible refine LeO.bind ?_ (fun _ => ?_))
      | exact ih0 _ _
      | exact spec_complete.mono _ _
      | exact LeO.none _
      | refine LeO.ite ?_ ?_
      | refine LeO.bind ?_ (fun _ => ?_)
set_option maxHeartbeats 8000000 in
set_option maxRecDepth 100000 in
theorem spec_Types.calls (k : Nat) (a0 : ByteArray) (r1 : List ByteArray) (r2 : Bool) (w : World) (h : spec_Types.f k a0 = some (r1, r2)) :
    Calls Try.prog 11 #[.string a0] w fun e w' => ∃ v0_ : Value, e = .returned (.tuple #[v0_, .bool r2]) ∧ Kd.R Kd.string 9 w' w.heap.size (fun _ => True) v0_ r1 ∧ Below w.heap.size w w' := by
  have HB := Aside0.mk (Below.refl w.heap.size w)
  have H : (if (a0.size : Int) > 255 then (some (([] : List ByteArray), false)) else (spec_Types.l0 k a0 ([] : List ByteArray))) = some (r1, r2) := h
  clear h
  by_cases c2 : (a0.size : Int) > 255
  · rw [if_pos c2] at H
    have c2b0 : decide (255 < (a0.size : Int)) = true := decide_eq_true c2
    have c2b1 : decide (255 < a0.size) = true := decide_eq_true (by omega)
    clear c2
    simp only [Option.some.injEq, Prod.mk.injEq] at H
    obtain ⟨rfl, rfl⟩ := H
    go_enter Try.func11, Try.ntmps11
    go_wp2
    go_ret2
    exact ⟨_, by first | rfl | (simp [errW_none, errW_some] <;> rfl) | (simp [*, errW_none, errW_some] <;> rfl), by first | exact Kd.R_nil _ _ _ _ _ | exact Kd.N_nil _ _ _ _ _ | exact Kd.V_nil _ _ _ _ _ | exact Kd.Q_nil _ _ _ _ _ | exact Kd.S_nil _ _ _ _ _, by repeat (first | (with_reducible first | exact HB.out | apply below_alloc | apply pw_below_drewN | apply below_drew1) | exact HB.out)⟩
  · rw [if_neg c2] at H
    have c2b0 : decide (255 < (a0.size : Int)) = false := decide_eq_false c2
    have c2b1 : decide (255 < a0.size) = false := decide_eq_false (by omega)
    clear c2
    have H' := Aside0.mk H
    clear H
    go_enter Try.func11, Try.ntmps11
    go_wp2
    go_loopg [0, 4] k (fun kq v0 v4 w' => ∃ (x0_1 : ByteArray) (x4_1 : List ByteArray), v0 = .string x0_1 ∧ Aside0 (spec_Types.l0 kq x0_1 x4_1 = some (r1, r2)) ∧ Aside0 (kq ≤ k) ∧ Aside0 (Kd.R Kd.string 9 w' w.heap.size (fun _ => True) v4 x4_1) ∧ Aside0 (Below w.heap.size w w'))
    case atStart => exact ⟨(a0), (([] : List ByteArray)), (by first | rfl | (simp; done) | (simp [*]; done)), H', ⟨Nat.le_refl _⟩, ⟨by first | exact Kd.R_nil _ _ _ _ _ | exact Kd.N_nil _ _ _ _ _ | exact Kd.V_nil _ _ _ _ _ | exact Kd.Q_nil _ _ _ _ _ | exact Kd.S_nil _ _ _ _ _⟩, ⟨by repeat (first | (with_reducible first | exact HB.out | apply below_alloc | apply pw_below_drewN | apply below_drew1) | exact HB.out)⟩⟩
    case round =>
      clear H'
      try clear c1
      try clear c2
      try clear c2b0
      try clear c2b1
      try clear p2
      obtain ⟨x0_1, x4_1, rfl, HA, HK1, HO_4, HB⟩ := hrel
      cases gk with
      | zero => exact absurd HA.out (by simp [spec_Types.l0])
      | succ k1 =>
        have H := HA.out
        clear HA
        simp only [spec_Types.l0] at H
        by_cases c3 : x0_1.toList = ([] : List UInt8)
        · rw [if_pos c3] at H
          have c3b0 : (x0_1.toList == ([] : List UInt8)) = true := beq_iff_eq.mpr c3
          have c3b1 : (x0_1.toList != ([] : List UInt8)) = false := bne_eq_false_iff_eq.mpr c3
          clear c3
          simp only [Option.some.injEq, Prod.mk.injEq] at H
          obtain ⟨rfl, rfl⟩ := H
          go_wp2
          go_ret2
          exact ⟨_, by first | rfl | (simp [errW_none, errW_some] <;> rfl) | (simp [*, errW_none, errW_some] <;> rfl), by (with_reducible repeat (first | apply Kd.R_alloc | apply Kd.R_drewN | apply Kd.R_drew)); exact HO_4.out, by repeat (first | (with_reducible first | exact HB.out | apply below_alloc | apply pw_below_drewN | apply below_drew1) | exact HB.out)⟩
        · rw [if_neg c3] at H
          have c3b0 : (x0_1.toList == ([] : List UInt8)) = false := beq_eq_false_iff_ne.mpr c3
          have c3b1 : (x0_1.toList != ([] : List UInt8)) = true := bne_iff_ne.mpr c3
          replace H := Option.bind_eq_some_iff.mp H
          obtain ⟨t107, A40, H⟩ := H
          replace H : (if t107 = 0 then (some (([] : List ByteArray), false)) else (if 0 ≤ t107 then (if t107 ≤ (x0_1.size : Int) then (if x4_1.length < 8796093022208 then (spec_Types.l0 k1 (x0_1.extract (t107 : Int).toNat x0_1.size) (x4_1 ++ [x0_1.extract 0 (t107 : Int).toNat])) else (none)) else (none)) else (none))) = some (r1, r2) := H
          have A4 := Aside0.mk A40
          clear A40
          by_cases c5 : t107 = 0
          · rw [if_pos c5] at H
            have c5b0 : (t107 == 0) = true := beq_iff_eq.mpr c5
            have c5b1 : (t107 != 0) = false := bne_eq_false_iff_eq.mpr c5
            clear c5
            simp only [Option.some.injEq, Prod.mk.injEq] at H
            obtain ⟨rfl, rfl⟩ := H
            go_wp2_with (first | ((with_reducible refine gate_callee (f := 15) rfl ?_); refine goesL_ (some 12) rfl rfl Try.func15 (by kernel_rfl) rfl #[.string x0_1] rfl (by (try simp only [List.map_toArray, List.map_cons, List.map_nil]); first | done | rfl | (simp only [List.length_drop, List.length_take]; rfl)) ?_; (with_reducible refine (spec_complete.calls k1 x0_1 t107 _ A4.out).mono ?_); rintro e w' ⟨rfl, ⟨nd, rfl⟩⟩; refine ⟨_, rfl, ?_⟩))
            go_ret2
            exact ⟨_, by first | rfl | (simp [errW_none, errW_some] <;> rfl) | (simp [*, errW_none, errW_some] <;> rfl), by first | exact Kd.R_nil _ _ _ _ _ | exact Kd.N_nil _ _ _ _ _ | exact Kd.V_nil _ _ _ _ _ | exact Kd.Q_nil _ _ _ _ _ | exact Kd.S_nil _ _ _ _ _, by repeat (first | (with_reducible first | exact HB.out | apply below_alloc | apply pw_below_drewN | apply below_drew1) | exact HB.out)⟩
          · rw [if_neg c5] at H
            have c5b0 : (t107 == 0) = false := beq_eq_false_iff_ne.mpr c5
            have c5b1 : (t107 != 0) = true := bne_iff_ne.mpr c5
            by_cases c6 : 0 ≤ t107
            · rw [if_pos c6] at H
              have c6b0 := eq_true c6
              have c6b1 : decide (0 ≤ t107) = true := decide_eq_true c6
              clear c6
              by_cases c7 : t107 ≤ (x0_1.size : Int)
              · rw [if_pos c7] at H
                have c7b0 := eq_true c7
                have c7b1 : decide (t107 ≤ (x0_1.size : Int)) = true := decide_eq_true c7
                clear c7
                by_cases c8 : x4_1.length < 8796093022208
                · rw [if_pos c8] at H
                  have LMc8 := Aside0.mk c8
                  clear c8
                  obtain ⟨y108, hy108⟩ : ∃ y_ : List ByteArray, y_ = (x4_1 ++ [x0_1.extract 0 (t107 : Int).toNat]) := ⟨_, rfl⟩
                  replace H : (spec_Types.l0 k1 (x0_1.extract (t107 : Int).toNat x0_1.size) y108) = some (r1, r2) := by first | (rw [hy108]; with_reducible exact H) | (have H2_ := (Option.bind_some _ _).symm.trans H; rw [hy108]; with_reducible exact H2_) | (have H2_ := (Option.bind_some _ _).symm.trans H; with_reducible exact H2_) | with_reducible exact H | (rw [hy108]; exact H) | exact H
                  have Ny108 := Aside0.mk hy108
                  clear hy108
                  have c9b0 := eq_true (of_decide_eq_true (by first | (with_reducible assumption) | assumption) : 0 ≤ t107)
                  have c10b0 := eq_true (of_decide_eq_true (by first | (with_reducible assumption) | assumption) : t107 ≤ (x0_1.size : Int))
                  have H' := Aside0.mk H
                  clear H
                  go_wp2_with (first | ((with_reducible refine gate_callee (f := 15) rfl ?_); refine goesL_ (some 12) rfl rfl Try.func15 (by kernel_rfl) rfl #[.string x0_1] rfl (by (try simp only [List.map_toArray, List.map_cons, List.map_nil]); first | done | rfl | (simp only [List.length_drop, List.length_take]; rfl)) ?_; (with_reducible refine (spec_complete.calls k1 x0_1 t107 _ A4.out).mono ?_); rintro e w' ⟨rfl, ⟨nd, rfl⟩⟩; refine ⟨_, rfl, ?_⟩) | ((with_reducible refine gate_builtin (b := .append) (xs := #[.tmp 15, .tmp 19]) rfl ?_); at_builtin; refine Kd.R_append Kd.string (w0 := w) w.heap.size rfl (.tmp 15) (.tmp 19) 24 9 (.string ⟨#[]⟩) 16 rfl Try.underlying24 info9 rfl (by decide) (by omega) u4 x4_1 (x0_1.extract 0 (t107 : Int).toNat) [.string (x0_1.extract 0 (t107 : Int).toNat)] (fun _ => True) (fun _ => False) rfl rfl ?aP (fun _ hk => hk.elim) ?aF ?aO ?aB ?aS ?aL ?_; (case aP => exact rfl); (case aB => exact (by repeat (first | (with_reducible first | exact HB.out | apply below_alloc | apply pw_below_drewN | apply below_drew1) | exact HB.out))); (case aF => exact (fun _ _ => trivial)); (case aO => exact (by (with_reducible repeat (first | apply Kd.R_alloc | apply Kd.R_drewN | apply Kd.R_drew)); exact HO_4.out)); (case aS => exact (below_size (by repeat (first | (with_reducible first | exact HB.out | apply below_alloc | apply pw_below_drewN | apply below_drew1) | exact HB.out)))); (case aL => have := LMc8.out; omega); intro v109 w11 ho hb hg hat; rw [← Ny108.out] at ho; have n0_ := Aside0.mk (hb); have n1_ := Aside0.mk (ho); clear HB; clear HO_4; have HB := n0_; have HO110 := n1_; clear n0_ n1_; clear ho hb hg hat))
                  go_roundg k1
                  case measure => have := HK1.out; omega
                  case rel => exact ⟨(x0_1.extract (t107 : Int).toNat x0_1.size), (y108), (by first | rfl | (simp; done) | (simp [*]; done)), H', ⟨by have := HK1.out; omega⟩, ⟨by (with_reducible repeat (first | apply Kd.R_alloc | apply Kd.R_drewN | apply Kd.R_drew)); exact HO110.out⟩, ⟨by repeat (first | (with_reducible first | exact HB.out | apply below_alloc | apply pw_below_drewN | apply below_drew1) | exact HB.out)⟩⟩
                · rw [if_neg c8] at H
                  exact absurd H (by simp)
              · rw [if_neg c7] at H
                exact absurd H (by simp)
            · rw [if_neg c6] at H
              exact absurd H (by simp)

/-! ### spec_Valid: function 7 -/
def spec_Valid.f (k : Nat) (a0 : ByteArray) : Option (Bool) := (spec_Types.f k a0).bind fun bt111 => (some bt111.2)
theorem spec_Valid.mono : ∀ a0 k, LeO (spec_Valid.f k a0) (spec_Valid.f (k + 1) a0) := by
  intro a0 k
  unfold spec_Valid.f
  repeat' first
      | (with_reducible exact spec_Types.mono _ _)
      | (with_reducible exact LeO.refl _)
      | (with_reducible exact LeO.none _)
      | (with_reducible refine LeO.ite ?_ ?_)
      | (with_reducible refine LeO.bind ?_ (fun _ => ?_))
      | exact spec_Types.mono _ _
      | exact LeO.none _
      | refine LeO.ite ?_ ?_
      | refine LeO.bind ?_ (fun _ => ?_)
set_option maxHeartbeats 8000000 in
set_option maxRecDepth 100000 in
theorem spec_Valid.calls (k : Nat) (a0 : ByteArray) (r : Bool) (w : World) (h : spec_Valid.f k a0 = some r) :
    Calls Try.prog 7 #[.string a0] w fun e w' => e = .returned (.bool r) ∧ Below w.heap.size w w' := by
  have HB := Aside0.mk (Below.refl w.heap.size w)
  have H : ((spec_Types.f k a0).bind fun bt111 => (some bt111.2)) = some r := h
  clear h
  replace H := Option.bind_eq_some_iff.mp H
  obtain ⟨⟨t111, t112⟩, A20, H⟩ := H
  replace H : (some t112) = some r := H
  have A2 := Aside0.mk A20
  clear A20
  obtain rfl := Option.some.inj H
  go_enter Try.func7, Try.ntmps7
  go_wp2_with (first | ((with_reducible refine gate_callee (f := 11) rfl ?_); refine goesL_ (some 7) rfl rfl Try.func11 (by kernel_rfl) rfl #[.string a0] rfl (by (try simp only [List.map_toArray, List.map_cons, List.map_nil]); first | done | rfl | (simp only [List.length_drop, List.length_take]; rfl)) ?_; (with_reducible refine (spec_Types.calls k a0 t111 t112 _ A2.out).mono ?_); rintro e w3 ⟨v113, rfl, ho0, hb⟩; refine ⟨_, rfl, ?_⟩; have n0_ := Aside0.mk (Kd.R_lower ho0 (below_size (by repeat (first | (with_reducible first | exact HB.out | apply below_alloc | apply pw_below_drewN | apply below_drew1) | exact HB.out)))); have n1_ := Aside0.mk (below_step (by repeat (first | (with_reducible first | exact HB.out | apply below_alloc | apply pw_below_drewN | apply below_drew1) | exact HB.out)) hb); clear HB; have HO114 := n0_; have HB := n1_; clear n0_ n1_; (try clear hb); (try clear hb2); (try clear hk); (try clear hi); (try clear ho0)))
  go_ret
  exact ⟨by first | rfl | (simp [errW_none, errW_some] <;> rfl) | (simp [*, errW_none, errW_some] <;> rfl), by repeat (first | (with_reducible first | exact HB.out | apply below_alloc | apply pw_below_drewN | apply below_drew1) | exact HB.out)⟩

/-! ### spec_Size: function 8 -/
mutual
def spec_Size.j0 : Nat → Int → Bool → Option (Int)
  | 0, _, _ => none
  | k + 1, x3, x6 => if x6 = true then (some 2) else (if x3 = 98 then (spec_Size.j1 k x3 (x3 == 98)) else (if x3 = 105 then (spec_Size.j1 k x3 (x3 == 105)) else (if x3 = 117 then (spec_Size.j1 k x3 (x3 == 117)) else (spec_Size.j1 k x3 (x3 == 104)))))
def spec_Size.j1 : Nat → Int → Bool → Option (Int)
  | 0, _, _ => none
  | k + 1, x3, x9 => if x9 = true then (some 4) else (if x3 = 120 then (some 8) else (if x3 = 116 then (some 8) else (if x3 = 100 then (some 8) else (some 0))))
end
def spec_Size.f (k : Nat) (a0 : Int) : Option (Int) := if a0 = 121 then (some 1) else (if a0 = 110 then (spec_Size.j0 k a0 (a0 == 110)) else (spec_Size.j0 k a0 (a0 == 113)))
theorem spec_Size.mono_l : ∀ k, (∀ y0 y1, LeO (spec_Size.j0 k y0 y1) (spec_Size.j0 (k + 1) y0 y1)) ∧ (∀ y0 y1, LeO (spec_Size.j1 k y0 y1) (spec_Size.j1 (k + 1) y0 y1))
  | 0 => ⟨fun _ _ r h => by simp [spec_Size.j0] at h, fun _ _ r h => by simp [spec_Size.j1] at h⟩
  | k + 1 => by
    obtain ⟨ih0, ih1⟩ := spec_Size.mono_l k
    refine ⟨?_, ?_⟩
    · intro y0 y1
      unfold spec_Size.j0
      repeat' first
      | (with_reducible exact ih0 _ _)
      | (with_reducible exact ih1 _ _)
      | (with_reducible exact LeO.refl _)
      | (with_reducible exact LeO.none _)
      | (with_reducible refine LeO.ite ?_ ?_)
      | (with_reducible refine LeO.bind ?_ (fun _ => ?_))
      | exact ih0 _ _
      | exact ih1 _ _
      | exact LeO.none _
      | refine LeO.ite ?_ ?_
      | refine LeO.bind ?_ (fun _ => ?_)
    · intro y0 y1
      unfold spec_Size.j1
      repeat' first
      | (with_reducible exact ih0 _ _)
      | (with_reducible exact ih1 _ _)
      | (with_reducible exact LeO.refl _)
      | (with_reducible exact LeO.none _)
      | (with_reducible refine LeO.ite ?_ ?_)
      | (with_reducible refine LeO.bind ?_ (fun _ => ?_))
      | exact ih0 _ _
      | exact ih1 _ _
      | exact LeO.none _
      | refine LeO.ite ?_ ?_
      | refine LeO.bind ?_ (fun _ => ?_)
theorem spec_Size.mono : ∀ a0 k, LeO (spec_Size.f k a0) (spec_Size.f (k + 1) a0) := by
  intro a0 k
  obtain ⟨ih0, ih1⟩ := spec_Size.mono_l k
  unfold spec_Size.f
  repeat' first
      | (with_reducible exact ih0 _ _)
      | (with_reducible exact ih1 _ _)
      | (with_reducible exact LeO.refl _)
      | (with_reducible exact LeO.none _)
      | (with_reducible refine LeO.ite ?_ ?_)
      | (with_reducible refine LeO.bind ?_ (fun _ => ?_))
      | exact ih0 _ _
      | exact ih1 _ _
      | exact LeO.none _
      | refine LeO.ite ?_ ?_
      | refine LeO.bind ?_ (fun _ => ?_)
set_option maxHeartbeats 8000000 in
set_option maxRecDepth 100000 in
theorem spec_Size.calls (k : Nat) (a0 : Int) (r : Int) (w : World) (h : spec_Size.f k a0 = some r) :
    Calls Try.prog 8 #[.int .u8 a0] w fun e w' => e = .returned (.int .i64 r) ∧ Drawn0 w w' := by
  have H : (if a0 = 121 then (some 1) else (if a0 = 110 then (spec_Size.j0 k a0 (a0 == 110)) else (spec_Size.j0 k a0 (a0 == 113)))) = some r := h
  clear h
  by_cases c2 : a0 = 121
  · rw [if_pos c2] at H
    have c2b0 : (a0 == 121) = true := beq_iff_eq.mpr c2
    have c2b1 : (a0 != 121) = false := bne_eq_false_iff_eq.mpr c2
    clear c2
    obtain rfl := Option.some.inj H
    go_enter Try.func8, Try.ntmps8
    go_wp2
    go_ret
    exact ⟨by first | rfl | (simp; done) | (simp [*]; done), by repeat (first | exact Drawn0.refl _ | apply Drawn0.step)⟩
  · rw [if_neg c2] at H
    have c2b0 : (a0 == 121) = false := beq_eq_false_iff_ne.mpr c2
    have c2b1 : (a0 != 121) = true := bne_iff_ne.mpr c2
    have HC3 := Aside0.mk H
    clear H
    go_enter Try.func8, Try.ntmps8
    go_upto_if 6 with (fail)
    go_cut [6] (fun v6 wc => ∃ (kq : Nat) (x6_2 : Bool), v6 = .bool x6_2 ∧ Aside0 (spec_Size.j0 kq a0 x6_2 = some r) ∧ Aside0 (kq ≤ k) ∧ Drawn0 w wc)
    case first =>
      have H := HC3.out
      clear HC3
      by_cases c4 : a0 = 110
      · rw [if_pos c4] at H
        have c4b0 : (a0 == 110) = true := beq_iff_eq.mpr c4
        have c4b1 : (a0 != 110) = false := bne_eq_false_iff_eq.mpr c4
        clear c4
        (first | rw [c4b0] | (simp only [i64_w, i32_w]; rw [c4b0]) | skip)
        have H' := Aside0.mk H
        clear H
        go_wp2
        go_meet
        case rel => exact ⟨_, ((a0 == 110)), (by first | rfl | (simp; done) | (simp [*]; done)), H', ⟨by first | omega | exact Nat.le_refl _⟩, by repeat (first | exact Drawn0.refl _ | apply Drawn0.step)⟩
      · rw [if_neg c4] at H
        have c4b0 : (a0 == 110) = false := beq_eq_false_iff_ne.mpr c4
        have c4b1 : (a0 != 110) = true := bne_iff_ne.mpr c4
        (first | rw [c4b0] | (simp only [i64_w, i32_w]; rw [c4b0]) | skip)
        have H' := Aside0.mk H
        clear H
        go_wp2
        go_meet
        case rel => exact ⟨_, ((a0 == 113)), (by first | rfl | (simp; done) | (simp [*]; done)), H', ⟨by first | omega | exact Nat.le_refl _⟩, by repeat (first | exact Drawn0.refl _ | apply Drawn0.step)⟩
    case rest =>
      clear HC3
      try clear c2
      try clear c2b0
      try clear c2b1
      try clear p2
      try clear c4
      try clear c4b0
      try clear c4b1
      obtain ⟨kq, x6_2, rfl, HA, HJ2, ⟨mc2, rfl⟩⟩ := hcut
      cases kq with
      | zero => exact absurd HA.out (by simp [spec_Size.j0])
      | succ kj2 =>
        have H := HA.out
        clear HA
        simp only [spec_Size.j0] at H
        by_cases c5 : x6_2 = true
        · subst c5
          have H1 : (some 2) = some r := by rw [if_pos rfl] at H; exact H
          clear H
          have H := H1
          clear H1
          obtain rfl := Option.some.inj H
          go_wp2
          go_ret
          exact ⟨by first | rfl | (simp; done) | (simp [*]; done), by repeat (first | exact Drawn0.refl _ | apply Drawn0.step)⟩
        · replace c5 := Bool.eq_false_iff.mpr c5
          subst c5
          have H1 : (if a0 = 98 then (spec_Size.j1 kj2 a0 (a0 == 98)) else (if a0 = 105 then (spec_Size.j1 kj2 a0 (a0 == 105)) else (if a0 = 117 then (spec_Size.j1 kj2 a0 (a0 == 117)) else (spec_Size.j1 kj2 a0 (a0 == 104))))) = some r := by rw [if_neg (show ¬ (false = true) by decide)] at H; exact H
          clear H
          have H := H1
          clear H1
          have HC6 := Aside0.mk H
          clear H
          go_upto_if 9 with (fail)
          go_cut [9] (fun v9 wc => ∃ (kq : Nat) (x9_5 : Bool), v9 = .bool x9_5 ∧ Aside0 (spec_Size.j1 kq a0 x9_5 = some r) ∧ Aside0 (kq ≤ kj2) ∧ Drawn0 w wc)
          case first =>
            have H := HC6.out
            clear HC6
            by_cases c7 : a0 = 98
            · rw [if_pos c7] at H
              have c7b0 : (a0 == 98) = true := beq_iff_eq.mpr c7
              have c7b1 : (a0 != 98) = false := bne_eq_false_iff_eq.mpr c7
              clear c7
              (first | rw [c7b0] | (simp only [i64_w, i32_w]; rw [c7b0]) | skip)
              have H' := Aside0.mk H
              clear H
              go_wp2
              go_meet
              case rel => exact ⟨_, ((a0 == 98)), (by first | rfl | (simp; done) | (simp [*]; done)), H', ⟨by have := HJ2.out; first | omega | exact Nat.le_refl _⟩, by repeat (first | exact Drawn0.refl _ | apply Drawn0.step)⟩
            · rw [if_neg c7] at H
              have c7b0 : (a0 == 98) = false := beq_eq_false_iff_ne.mpr c7
              have c7b1 : (a0 != 98) = true := bne_iff_ne.mpr c7
              (first | rw [c7b0] | (simp only [i64_w, i32_w]; rw [c7b0]) | skip)
              by_cases c8 : a0 = 105
              · rw [if_pos c8] at H
                have c8b0 : (a0 == 105) = true := beq_iff_eq.mpr c8
                have c8b1 : (a0 != 105) = false := bne_eq_false_iff_eq.mpr c8
                clear c8
                have H' := Aside0.mk H
                clear H
                go_wp2
                go_meet
                case rel => exact ⟨_, ((a0 == 105)), (by first | rfl | (simp; done) | (simp [*]; done)), H', ⟨by have := HJ2.out; first | omega | exact Nat.le_refl _⟩, by repeat (first | exact Drawn0.refl _ | apply Drawn0.step)⟩
              · rw [if_neg c8] at H
                have c8b0 : (a0 == 105) = false := beq_eq_false_iff_ne.mpr c8
                have c8b1 : (a0 != 105) = true := bne_iff_ne.mpr c8
                by_cases c9 : a0 = 117
                · rw [if_pos c9] at H
                  have c9b0 : (a0 == 117) = true := beq_iff_eq.mpr c9
                  have c9b1 : (a0 != 117) = false := bne_eq_false_iff_eq.mpr c9
                  clear c9
                  have H' := Aside0.mk H
                  clear H
                  go_wp2
                  go_meet
                  case rel => exact ⟨_, ((a0 == 117)), (by first | rfl | (simp; done) | (simp [*]; done)), H', ⟨by have := HJ2.out; first | omega | exact Nat.le_refl _⟩, by repeat (first | exact Drawn0.refl _ | apply Drawn0.step)⟩
                · rw [if_neg c9] at H
                  have c9b0 : (a0 == 117) = false := beq_eq_false_iff_ne.mpr c9
                  have c9b1 : (a0 != 117) = true := bne_iff_ne.mpr c9
                  have H' := Aside0.mk H
                  clear H
                  go_wp2
                  go_meet
                  case rel => exact ⟨_, ((a0 == 104)), (by first | rfl | (simp; done) | (simp [*]; done)), H', ⟨by have := HJ2.out; first | omega | exact Nat.le_refl _⟩, by repeat (first | exact Drawn0.refl _ | apply Drawn0.step)⟩
          case rest =>
            clear HC6
            try clear c2
            try clear c2b0
            try clear c2b1
            try clear p2
            try clear c4
            try clear c4b0
            try clear c4b1
            try clear c5
            try clear c7
            try clear c7b0
            try clear c7b1
            try clear c8
            try clear c8b0
            try clear c8b1
            try clear c9
            try clear c9b0
            try clear c9b1
            try clear p2
            obtain ⟨kq, x9_5, rfl, HA, HJ5, ⟨mc5, rfl⟩⟩ := hcut
            cases kq with
            | zero => exact absurd HA.out (by simp [spec_Size.j1])
            | succ kj5 =>
              have H := HA.out
              clear HA
              simp only [spec_Size.j1] at H
              by_cases c10 : x9_5 = true
              · subst c10
                have H1 : (some 4) = some r := by rw [if_pos rfl] at H; exact H
                clear H
                have H := H1
                clear H1
                obtain rfl := Option.some.inj H
                go_wp2
                go_ret
                exact ⟨by first | rfl | (simp; done) | (simp [*]; done), by repeat (first | exact Drawn0.refl _ | apply Drawn0.step)⟩
              · replace c10 := Bool.eq_false_iff.mpr c10
                subst c10
                have H1 : (if a0 = 120 then (some 8) else (if a0 = 116 then (some 8) else (if a0 = 100 then (some 8) else (some 0)))) = some r := by rw [if_neg (show ¬ (false = true) by decide)] at H; exact H
                clear H
                have H := H1
                clear H1
                by_cases c11 : a0 = 120
                · rw [if_pos c11] at H
                  have c11b0 : (a0 == 120) = true := beq_iff_eq.mpr c11
                  have c11b1 : (a0 != 120) = false := bne_eq_false_iff_eq.mpr c11
                  clear c11
                  obtain rfl := Option.some.inj H
                  go_wp2
                  go_ret
                  exact ⟨by first | rfl | (simp; done) | (simp [*]; done), by repeat (first | exact Drawn0.refl _ | apply Drawn0.step)⟩
                · rw [if_neg c11] at H
                  have c11b0 : (a0 == 120) = false := beq_eq_false_iff_ne.mpr c11
                  have c11b1 : (a0 != 120) = true := bne_iff_ne.mpr c11
                  by_cases c12 : a0 = 116
                  · rw [if_pos c12] at H
                    have c12b0 : (a0 == 116) = true := beq_iff_eq.mpr c12
                    have c12b1 : (a0 != 116) = false := bne_eq_false_iff_eq.mpr c12
                    clear c12
                    obtain rfl := Option.some.inj H
                    go_wp2
                    go_ret
                    exact ⟨by first | rfl | (simp; done) | (simp [*]; done), by repeat (first | exact Drawn0.refl _ | apply Drawn0.step)⟩
                  · rw [if_neg c12] at H
                    have c12b0 : (a0 == 116) = false := beq_eq_false_iff_ne.mpr c12
                    have c12b1 : (a0 != 116) = true := bne_iff_ne.mpr c12
                    by_cases c13 : a0 = 100
                    · rw [if_pos c13] at H
                      have c13b0 : (a0 == 100) = true := beq_iff_eq.mpr c13
                      have c13b1 : (a0 != 100) = false := bne_eq_false_iff_eq.mpr c13
                      clear c13
                      obtain rfl := Option.some.inj H
                      go_wp2
                      go_ret
                      exact ⟨by first | rfl | (simp; done) | (simp [*]; done), by repeat (first | exact Drawn0.refl _ | apply Drawn0.step)⟩
                    · rw [if_neg c13] at H
                      have c13b0 : (a0 == 100) = false := beq_eq_false_iff_ne.mpr c13
                      have c13b1 : (a0 != 100) = true := bne_iff_ne.mpr c13
                      obtain rfl := Option.some.inj H
                      go_wp2
                      go_ret
                      exact ⟨by first | rfl | (simp; done) | (simp [*]; done), by repeat (first | exact Drawn0.refl _ | apply Drawn0.step)⟩

end Go.Proofs.Ytodphfcneiodhaa.MFnWrSize
