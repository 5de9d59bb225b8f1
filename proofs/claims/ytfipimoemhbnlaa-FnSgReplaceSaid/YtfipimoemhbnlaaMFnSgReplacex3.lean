-- Written by a program of this session (myprint.py, out of the translation). Not trusted: Lean checks it.
import Derived.Test.YtfipimoemhbnlaaMFnSgReplacex0
import Derived.Test.YtfipimoemhbnlaaMFnSgReplacex2
namespace Go.Proofs.Ytfipimoemhbnlaa.MFnSgReplace
open Go.RowKit Go.Proofs.YtfipimoemhbnlaaW.PrintWords Go.Proofs.YtfipimoemhbnlaaW.PrintLast Go.Proofs.YtfipimoemhbnlaaW.PrintMore
attribute [local go_sem] max2_int min2_int max_two min_two max_three min_three max_four min_four   -- for this text's walks alone
set_option linter.unusedVariables false
set_option linter.unusedSimpArgs false

/-! ### spec_complete: function 22 -/
def spec_complete.f (k : Nat) (a0 : ByteArray) : Option (Int) := (spec_Complete.f k a0 32 32 32).bind fun t106 => (some t106)
theorem spec_complete.mono : ∀ a0 k, LeO (spec_complete.f k a0) (spec_complete.f (k + 1) a0) := by
  intro a0 k
  unfold spec_complete.f
  repeat' first
      | (with_reducible exact spec_Complete.mono _ _ _ _ _)
      | (with_reducible exact LeO.refl _)
      | (with_reducible exact LeO.none _)
      | (with_reducible refine LeO.ite ?_ ?_)
      | (with_reducible refine LeO.bind ?_ (fun _ => ?_))
      | exact spec_Complete.mono _ _ _ _ _
      | exact LeO.none _
      | refine LeO.ite ?_ ?_
      | refine LeO.bind ?_ (fun _ => ?_)
set_option maxHeartbeats 8000000 in
set_option maxRecDepth 100000 in
theorem spec_complete.calls (k : Nat) (a0 : ByteArray) (r : Int) (w : World) (h : spec_complete.f k a0 = some r) :
    Calls Try.prog 22 #[.string a0] w fun e w' => e = .returned (.int .i64 r) ∧ Drawn0 w w' := by
  have H : ((spec_Complete.f k a0 32 32 32).bind fun t106 => (some t106)) = some r := h
  clear h
  replace H := Option.bind_eq_some_iff.mp H
  obtain ⟨t106, A20, H⟩ := H
  replace H : (some t106) = some r := H
  have A2 := Aside0.mk A20
  clear A20
  obtain rfl := Option.some.inj H
  go_enter Try.func22, Try.ntmps22
  go_wp2_with (first | ((with_reducible refine gate_callee (f := 25) rfl ?_); refine goesL_ (some 4) rfl rfl Try.func25 (by kernel_rfl) rfl #[.string a0, .int .i64 32, .int .i64 32, .int .i64 32] rfl (by (try simp only [List.map_toArray, List.map_cons, List.map_nil]); first | done | rfl | (simp only [List.length_drop, List.length_take]; rfl)) ?_; (with_reducible refine (spec_Complete.calls k a0 32 32 32 t106 _ A2.out).mono ?_); rintro e w' ⟨rfl, ⟨nd, rfl⟩⟩; refine ⟨_, rfl, ?_⟩))
  go_ret
  exact ⟨by first | rfl | (simp; done) | (simp [*]; done), by repeat (first | exact Drawn0.refl _ | apply Drawn0.step)⟩

/-! ### spec_Types: function 15 -/
def spec_Types.l0 : Nat → ByteArray → List ByteArray → Option (List ByteArray × Bool)
  | 0, _, _ => none
  | k + 1, x0, x4 => if x0.toList = ([] : List UInt8) then (some (x4, true)) else ((spec_complete.f k x0).bind fun t107 => (if t107 = 0 then (some (([] : List ByteArray), false)) else (if 0 ≤ t107 then (if t107 ≤ (x0.size : Int) then (if x4.length < 8796093022208 then (spec_Types.l0 k (x0.extract (t107 : Int).toNat x0.size) (x4 ++ [x0.extract 0 (t107 : Int).toNat])) else (none)) else (none)) else (none))))
def spec_Types.f (k : Nat) (a0 : ByteArray) : Option (List ByteArray × Bool) := if (a0.size : Int) > 255 then (some (([] : List ByteArray), false)) else (spec_Types.l0 k a0 ([] : List ByteArray))
theorem spec_Types.mono_l : ∀ k, (∀ y0 y1, LeO (spec_Types.l0 k y0 y1) (spec_Types.l0 (k + 1) y0 y1))
  | 0 => fun _ _ r h => by simp [spec_Types.l0] at h
  | k + 1 => by
    have ih0 := spec_Types.mono_l k
    · intro y0 y1
      unfold spec_Types.l0
      repeat' first
      | (with_reducible exact ih0 _ _)
      | (with_reducible exact spec_complete.mono _ _)
      | (with_reducible exact LeO.refl _)
      | (with_reducible exact LeO.none _)
      | (with_reducible refine LeO.ite ?_ ?_)
      | (with_reducible refine LeO.bind ?_ (fun _ => ?_))
      | exact ih0 _ _
      | exact spec_complete.mono _ _
      | exact LeO.none _
      | refine LeO.ite ?_ ?_
      | refine LeO.bind ?_ (fun _ => ?_)
theorem spec_Types.mono : ∀ a0 k, LeO (spec_Types.f k a0) (spec_Types.f (k + 1) a0) := by
  intro a0 k
  have ih0 := spec_Types.mono_l k
  unfold spec_Types.f
  repeat' first
      | (with_reducible exact ih0 _ _)
      | (with_reducible exact spec_complete.mono _ _)
      | (with_reducible exact LeO.refl _)
      | (with_reducible exact LeO.none _)
      | (with_reducible refine LeO.ite ?_ ?_)
      | (with_reducible refine LeO.bind ?_ (fun _ => ?_))
      | exact ih0 _ _
      | exact spec_complete.mono _ _
      | exact LeO.none _
      | refine LeO.ite ?_ ?_
      | refine LeO.bind ?_ (fun _ => ?_)
set_option maxHeartbeats 8000000 in
set_option maxRecDepth 100000 in
theorem spec_Types.calls (k : Nat) (a0 : ByteArray) (r1 : List ByteArray) (r2 : Bool) (w : World) (h : spec_Types.f k a0 = some (r1, r2)) :
    Calls Try.prog 15 #[.string a0] w fun e w' => ∃ v0_ : Value, e = .returned (.tuple #[v0_, .bool r2]) ∧ Kd.R Kd.string 9 w' w.heap.size (fun _ => True) v0_ r1 ∧ Below w.heap.size w w' := by
  have HB := Aside0.mk (Below.refl w.heap.size w)
  have H : (if (a0.size : Int) > 255 then (some (([] : List ByteArray), false)) else (spec_Types.l0 k a0 ([] : List ByteArray))) = some (r1, r2) := h
  clear h
  by_cases c2 : (a0.size : Int) > 255
  · rw [if_pos c2] at H
    have c2b0 : decide (255 < (a0.size : Int)) = true := decide_eq_true c2
    have c2b1 : decide (255 < a0.size) = true := decide_eq_true (by omega)
    clear c2
    simp only [Option.some.injEq, Prod.mk.injEq] at H
    obtain ⟨rfl, rfl⟩ := H
    go_enter Try.func15, Try.ntmps15
    go_wp2
    go_ret2
    exact ⟨_, by first | rfl | (simp [errW_none, errW_some] <;> rfl) | (simp [*, errW_none, errW_some] <;> rfl) | (simp (disch := omega) only [wrap64_id] <;> rfl), by first | exact Kd.R_nil _ _ _ _ _ | exact Kd.N_nil _ _ _ _ _ | exact Kd.V_nil _ _ _ _ _ | exact Kd.Q_nil _ _ _ _ _ | exact Kd.S_nil _ _ _ _ _, by repeat (first | (with_reducible first | exact HB.out | apply below_alloc | apply pw_below_drewN | apply below_drew1) | exact HB.out)⟩
  · rw [if_neg c2] at H
    have c2b0 : decide (255 < (a0.size : Int)) = false := decide_eq_false c2
    have c2b1 : decide (255 < a0.size) = false := decide_eq_false (by omega)
    clear c2
    have H' := Aside0.mk H
    clear H
    go_enter Try.func15, Try.ntmps15
    go_wp2
    go_loopg [0, 4] k (fun kq v0 v4 w' => ∃ (x0_1 : ByteArray) (x4_1 : List ByteArray), v0 = .string x0_1 ∧ Aside0 (spec_Types.l0 kq x0_1 x4_1 = some (r1, r2)) ∧ Aside0 (kq ≤ k) ∧ Aside0 (Kd.R Kd.string 9 w' w.heap.size (fun _ => True) v4 x4_1) ∧ Aside0 (Below w.heap.size w w'))
    case atStart => exact ⟨(a0), (([] : List ByteArray)), (by first | rfl | (simp; done) | (simp [*]; done)), H', ⟨Nat.le_refl _⟩, ⟨by first | exact Kd.R_nil _ _ _ _ _ | exact Kd.N_nil _ _ _ _ _ | exact Kd.V_nil _ _ _ _ _ | exact Kd.Q_nil _ _ _ _ _ | exact Kd.S_nil _ _ _ _ _⟩, ⟨by repeat (first | (with_reducible first | exact HB.out | apply below_alloc | apply pw_below_drewN | apply below_drew1) | exact HB.out)⟩⟩
    case round =>
      clear H'
      try clear c1
      try clear c2
      try clear c2b0
      try clear c2b1
      try clear p2
      obtain ⟨x0_1, x4_1, rfl, HA, HK1, HO_4, HB⟩ := hrel
      cases gk with
      | zero => exact absurd HA.out (by simp [spec_Types.l0])
      | succ k1 =>
        have H := HA.out
        clear HA
        simp only [spec_Types.l0] at H
        by_cases c3 : x0_1.toList = ([] : List UInt8)
        · rw [if_pos c3] at H
          have c3b0 : (x0_1.toList == ([] : List UInt8)) = true := beq_iff_eq.mpr c3
          have c3b1 : (x0_1.toList != ([] : List UInt8)) = false := bne_eq_false_iff_eq.mpr c3
          clear c3
          simp only [Option.some.injEq, Prod.mk.injEq] at H
          obtain ⟨rfl, rfl⟩ := H
          go_wp2
          go_ret2
          exact ⟨_, by first | rfl | (simp [errW_none, errW_some] <;> rfl) | (simp [*, errW_none, errW_some] <;> rfl) | (simp (disch := omega) only [wrap64_id] <;> rfl), by (with_reducible repeat (first | apply Kd.R_alloc | apply Kd.R_drewN | apply Kd.R_drew)); exact HO_4.out, by repeat (first | (with_reducible first | exact HB.out | apply below_alloc | apply pw_below_drewN | apply below_drew1) | exact HB.out)⟩
        · rw [if_neg c3] at H
          have c3b0 : (x0_1.toList == ([] : List UInt8)) = false := beq_eq_false_iff_ne.mpr c3
          have c3b1 : (x0_1.toList != ([] : List UInt8)) = true := bne_iff_ne.mpr c3
          replace H := Option.bind_eq_some_iff.mp H
          obtain ⟨t107, A40, H⟩ := H
          replace H : (if t107 = 0 then (some (([] : List ByteArray), false)) else (if 0 ≤ t107 then (if t107 ≤ (x0_1.size : Int) then (if x4_1.length < 8796093022208 then (spec_Types.l0 k1 (x0_1.extract (t107 : Int).toNat x0_1.size) (x4_1 ++ [x0_1.extract 0 (t107 : Int).toNat])) else (none)) else (none)) else (none))) = some (r1, r2) := H
          have A4 := Aside0.mk A40
          clear A40
          by_cases c5 : t107 = 0
          · rw [if_pos c5] at H
            have c5b0 : (t107 == 0) = true := beq_iff_eq.mpr c5
            have c5b1 : (t107 != 0) = false := bne_eq_false_iff_eq.mpr c5
            clear c5
            simp only [Option.some.injEq, Prod.mk.injEq] at H
            obtain ⟨rfl, rfl⟩ := H
            go_wp2_with (first | ((with_reducible refine gate_callee (f := 22) rfl ?_); refine goesL_ (some 12) rfl rfl Try.func22 (by kernel_rfl) rfl #[.string x0_1] rfl (by (try simp only [List.map_toArray, List.map_cons, List.map_nil]); first | done | rfl | (simp only [List.length_drop, List.length_take]; rfl)) ?_; (with_reducible refine (spec_complete.calls k1 x0_1 t107 _ A4.out).mono ?_); rintro e w' ⟨rfl, ⟨nd, rfl⟩⟩; refine ⟨_, rfl, ?_⟩))
            go_ret2
            exact ⟨_, by first | rfl | (simp [errW_none, errW_some] <;> rfl) | (simp [*, errW_none, errW_some] <;> rfl) | (simp (disch := omega) only [wrap64_id] <;> rfl), by first | exact Kd.R_nil _ _ _ _ _ | exact Kd.N_nil _ _ _ _ _ | exact Kd.V_nil _ _ _ _ _ | exact Kd.Q_nil _ _ _ _ _ | exact Kd.S_nil _ _ _ _ _, by repeat (first | (with_reducible first | exact HB.out | apply below_alloc | apply pw_below_drewN | apply below_drew1) | exact HB.out)⟩
          · rw [if_neg c5] at H
            have c5b0 : (t107 == 0) = false := beq_eq_false_iff_ne.mpr c5
            have c5b1 : (t107 != 0) = true := bne_iff_ne.mpr c5
            by_cases c6 : 0 ≤ t107
            · rw [if_pos c6] at H
              have c6b0 := eq_true c6
              have c6b1 : decide (0 ≤ t107) = true := decide_eq_true c6
              clear c6
              by_cases c7 : t107 ≤ (x0_1.size : Int)
              · rw [if_pos c7] at H
                have c7b0 := eq_true c7
                have c7b1 : decide (t107 ≤ (x0_1.size : Int)) = true := decide_eq_true c7
                clear c7
                by_cases c8 : x4_1.length < 8796093022208
                · rw [if_pos c8] at H
                  have LMc8 := Aside0.mk c8
                  clear c8
                  obtain ⟨y108, hy108⟩ : ∃ y_ : List ByteArray, y_ = (x4_1 ++ [x0_1.extract 0 (t107 : Int).toNat]) := ⟨_, rfl⟩
                  replace H : (spec_Types.l0 k1 (x0_1.extract (t107 : Int).toNat x0_1.size) y108) = some (r1, r2) := by first | (rw [hy108]; with_reducible exact H) | (have H2_ := (Option.bind_some _ _).symm.trans H; rw [hy108]; with_reducible exact H2_) | (have H2_ := (Option.bind_some _ _).symm.trans H; with_reducible exact H2_) | with_reducible exact H | (rw [hy108]; exact H) | exact H
                  have Ny108 := Aside0.mk hy108
                  clear hy108
                  have c9b0 := eq_true (of_decide_eq_true (by first | (with_reducible assumption) | assumption) : 0 ≤ t107)
                  have c10b0 := eq_true (of_decide_eq_true (by first | (with_reducible assumption) | assumption) : t107 ≤ (x0_1.size : Int))
                  have H' := Aside0.mk H
                  clear H
                  go_wp2_with (first | ((with_reducible refine gate_callee (f := 22) rfl ?_); refine goesL_ (some 12) rfl rfl Try.func22 (by kernel_rfl) rfl #[.string x0_1] rfl (by (try simp only [List.map_toArray, List.map_cons, List.map_nil]); first | done | rfl | (simp only [List.length_drop, List.length_take]; rfl)) ?_; (with_reducible refine (spec_complete.calls k1 x0_1 t107 _ A4.out).mono ?_); rintro e w' ⟨rfl, ⟨nd, rfl⟩⟩; refine ⟨_, rfl, ?_⟩) | ((with_reducible refine gate_builtin (b := .append) (xs := #[.tmp 15, .tmp 19]) rfl ?_); at_builtin; refine Kd.R_append Kd.string (w0 := w) w.heap.size rfl (.tmp 15) (.tmp 19) 34 9 (.string ⟨#[]⟩) 16 rfl Try.underlying34 info9 rfl (by decide) (by omega) u4 x4_1 (x0_1.extract 0 (t107 : Int).toNat) [.string (x0_1.extract 0 (t107 : Int).toNat)] (fun _ => True) (fun _ => False) rfl rfl ?aP (fun _ hk => hk.elim) ?aF ?aO ?aB ?aS ?aL ?_; (case aP => exact rfl); (case aB => exact (by repeat (first | (with_reducible first | exact HB.out | apply below_alloc | apply pw_below_drewN | apply below_drew1) | exact HB.out))); (case aF => exact (fun _ _ => trivial)); (case aO => exact (by (with_reducible repeat (first | apply Kd.R_alloc | apply Kd.R_drewN | apply Kd.R_drew)); exact HO_4.out)); (case aS => exact (below_size (by repeat (first | (with_reducible first | exact HB.out | apply below_alloc | apply pw_below_drewN | apply below_drew1) | exact HB.out)))); (case aL => have := LMc8.out; omega); intro v109 w11 ho hb hg hat; rw [← Ny108.out] at ho; have n0_ := Aside0.mk (hb); have n1_ := Aside0.mk (ho); clear HB; clear HO_4; have HB := n0_; have HO110 := n1_; clear n0_ n1_; clear ho hb hg hat))
                  go_roundg k1
                  case measure => have := HK1.out; omega
                  case rel => exact ⟨(x0_1.extract (t107 : Int).toNat x0_1.size), (y108), (by first | rfl | (simp; done) | (simp [*]; done)), H', ⟨by have := HK1.out; omega⟩, ⟨by (with_reducible repeat (first | apply Kd.R_alloc | apply Kd.R_drewN | apply Kd.R_drew)); exact HO110.out⟩, ⟨by repeat (first | (with_reducible first | exact HB.out | apply below_alloc | apply pw_below_drewN | apply below_drew1) | exact HB.out)⟩⟩
                · rw [if_neg c8] at H
                  exact absurd H (by simp)
              · rw [if_neg c7] at H
                exact absurd H (by simp)
            · rw [if_neg c6] at H
              exact absurd H (by simp)

/-! ### spec_Valid: function 12 -/
def spec_Valid.f (k : Nat) (a0 : ByteArray) : Option (Bool) := (spec_Types.f k a0).bind fun bt111 => (some bt111.2)
theorem spec_Valid.mono : ∀ a0 k, LeO (spec_Valid.f k a0) (spec_Valid.f (k + 1) a0) := by
  intro a0 k
  unfold spec_Valid.f
  repeat' first
      | (with_reducible exact spec_Types.mono _ _)
      | (with_reducible exact LeO.refl _)
      | (with_reducible exact LeO.none _)
      | (with_reducible refine LeO.ite ?_ ?_)
      | (with_reducible refine LeO.bind ?_ (fun _ => ?_))
      | exact spec_Types.mono _ _
      | exact LeO.none _
      | refine LeO.ite ?_ ?_
      | refine LeO.bind ?_ (fun _ => ?_)
set_option maxHeartbeats 8000000 in
set_option maxRecDepth 100000 in
theorem spec_Valid.calls (k : Nat) (a0 : ByteArray) (r : Bool) (w : World) (h : spec_Valid.f k a0 = some r) :
    Calls Try.prog 12 #[.string a0] w fun e w' => e = .returned (.bool r) ∧ Below w.heap.size w w' := by
  have HB := Aside0.mk (Below.refl w.heap.size w)
  have H : ((spec_Types.f k a0).bind fun bt111 => (some bt111.2)) = some r := h
  clear h
  replace H := Option.bind_eq_some_iff.mp H
  obtain ⟨⟨t111, t112⟩, A20, H⟩ := H
  replace H : (some t112) = some r := H
  have A2 := Aside0.mk A20
  clear A20
  obtain rfl := Option.some.inj H
  go_enter Try.func12, Try.ntmps12
  go_wp2_with (first | ((with_reducible refine gate_callee (f := 15) rfl ?_); refine goesL_ (some 7) rfl rfl Try.func15 (by kernel_rfl) rfl #[.string a0] rfl (by (try simp only [List.map_toArray, List.map_cons, List.map_nil]); first | done | rfl | (simp only [List.length_drop, List.length_take]; rfl)) ?_; (with_reducible refine (spec_Types.calls k a0 t111 t112 _ A2.out).mono ?_); rintro e w3 ⟨v113, rfl, ho0, hb⟩; refine ⟨_, rfl, ?_⟩; have n0_ := Aside0.mk (Kd.R_lower ho0 (below_size (by repeat (first | (with_reducible first | exact HB.out | apply below_alloc | apply pw_below_drewN | apply below_drew1) | exact HB.out)))); have n1_ := Aside0.mk (below_step (by repeat (first | (with_reducible first | exact HB.out | apply below_alloc | apply pw_below_drewN | apply below_drew1) | exact HB.out)) hb); clear HB; have HO114 := n0_; have HB := n1_; clear n0_ n1_; (try clear hb); (try clear hb2); (try clear hk); (try clear hi); (try clear ho0)))
  go_ret
  exact ⟨by first | rfl | (simp [errW_none, errW_some] <;> rfl) | (simp [*, errW_none, errW_some] <;> rfl) | (simp (disch := omega) only [wrap64_id] <;> rfl), by repeat (first | (with_reducible first | exact HB.out | apply below_alloc | apply pw_below_drewN | apply below_drew1) | exact HB.out)⟩

/-- A state of type 59 at block g of W; what its slices lead to came in by w0. -/
def IsS59 (w0 W : World) (g : Nat) (f0 : Int) (f1 : Int) (f2 : Int) : Prop := W.heap[g]? = some (.cells #[.int .i64 f0, .int .i64 f1, .int .i64 f2] 59 (0, 0)) ∧ w0.heap.size ≤ g
theorem IsS59.grown {w0 W : World} {g : Nat} {f0 : Int} {f1 : Int} {f2 : Int} {W1 : World} {row : Option Nat} (h : IsS59 w0 W g f0 f1 f2) (hw : W.grownBy W1 row) (hne : some g ≠ row) : IsS59 w0 W1 g f0 f1 f2 := by
  obtain ⟨hb, hg⟩ := h
  exact ⟨blk_grown hb hw hne, hg⟩
theorem IsS59.own_neN {w0 W : World} {g : Nat} {f0 : Int} {f1 : Int} {f2 : Int} {α : Type} {d : Kd α} {e : Nat} {base : Nat} {ok : Nat → Prop} {v : Value} {xs : List α} (h : IsS59 w0 W g f0 f1 f2) (ho : Kd.N d e W base ok v xs) (ht : e ≠ 59) : some g ≠ v.ownBlock := by
  obtain ⟨hb, hg⟩ := h
  exact Kd.N_ne ho hb ht
theorem IsS59.fresh {w0 W : World} {g : Nat} {f0 : Int} {f1 : Int} {f2 : Int} (h : IsS59 w0 W g f0 f1 f2) : ∀ k, W.heap.size ≤ k → k ≠ g := by
  obtain ⟨hb, hg⟩ := h
  exact Kd.freshB hb
theorem IsS59.kept {w0 W : World} {g : Nat} {f0 : Int} {f1 : Int} {f2 : Int} {W1 : World} {S : Nat → Prop} (h : IsS59 w0 W g f0 f1 f2) (hk : Kept W W1 S) (hne : ¬ S g) : IsS59 w0 W1 g f0 f1 f2 := by
  obtain ⟨hb, hg⟩ := h
  exact ⟨blk_kept hb hk hne, hg⟩
theorem IsS59.below {w0 W : World} {g : Nat} {f0 : Int} {f1 : Int} {f2 : Int} {W1 : World} (h : IsS59 w0 W g f0 f1 f2) (hw : Below W.heap.size W W1) : IsS59 w0 W1 g f0 f1 f2 := h.grown (grown_of_below hw none) (by simp)
theorem IsS59.alloc {w0 W : World} {g : Nat} {f0 : Int} {f1 : Int} {f2 : Int} (h : IsS59 w0 W g f0 f1 f2) (o : Obj) : IsS59 w0 (W.alloc o) g f0 f1 f2 := h.below (below_alloc (Below.refl _ _) o)
theorem IsS59.drewN {w0 W : World} {g : Nat} {f0 : Int} {f1 : Int} {f2 : Int} (h : IsS59 w0 W g f0 f1 f2) (m : Nat) : IsS59 w0 (W.drewN m) g f0 f1 f2 := h
theorem IsS59.drew {w0 W : World} {g : Nat} {f0 : Int} {f1 : Int} {f2 : Int} (h : IsS59 w0 W g f0 f1 f2) : IsS59 w0 W.drew g f0 f1 f2 := h
theorem IsS59.at_ {w0 W : World} {g : Nat} {f0 : Int} {f1 : Int} {f2 : Int} {w' : World} {m : Nat} (hq : W.drewN m = w') (h : IsS59 w0 W g f0 f1 f2) : IsS59 w0 w' g f0 f1 f2 := by subst hq; exact IsS59.drewN h m
theorem IsS59.apart {w0 W : World} {g : Nat} {f0 : Int} {f1 : Int} {f2 : Int} {α : Type} {d : Kd α} {e : Nat} {base : Nat} {ok : Nat → Prop} {v : Value} {xs : List α} (h : IsS59 w0 W g f0 f1 f2) (ho : d.R e W base ok v xs) (ht : ∀ q, q ∈ e :: d.E → q ≠ 59) : d.R e W base (fun k => ok k ∧ k ≠ g) v xs := by
  obtain ⟨hb, hg⟩ := h
  exact Kd.R_types ho hb ht
theorem IsS59.own_ne {w0 W : World} {g : Nat} {f0 : Int} {f1 : Int} {f2 : Int} {α : Type} {d : Kd α} {e : Nat} {base : Nat} {ok : Nat → Prop} {v : Value} {xs : List α} (h : IsS59 w0 W g f0 f1 f2) (ho : d.R e W base ok v xs) (ht : e ≠ 59) : some g ≠ v.ownBlock := by
  obtain ⟨hb, hg⟩ := h
  exact Kd.R_ne ho hb ht
theorem IsS59.apartQ {w0 W : World} {g : Nat} {f0 : Int} {f1 : Int} {f2 : Int} {α : Type} {d : Kd α} {e : Nat} {base : Nat} {ok : Nat → Prop} {v : Value} {xs : List α} (h : IsS59 w0 W g f0 f1 f2) (ho : d.Q e W base ok v xs) (ht : ∀ q, q ∈ e :: d.E → q ≠ 59) : d.Q e W base (fun k => ok k ∧ k ≠ g) v xs := by
  obtain ⟨hb, hg⟩ := h
  exact Kd.Q_types ho hb ht
theorem IsS59.own_neQ {w0 W : World} {g : Nat} {f0 : Int} {f1 : Int} {f2 : Int} {α : Type} {d : Kd α} {e : Nat} {base : Nat} {ok : Nat → Prop} {v : Value} {xs : List α} (h : IsS59 w0 W g f0 f1 f2) (ho : d.Q e W base ok v xs) (ht : e ≠ 59) : some g ≠ v.ownBlock := by
  obtain ⟨hb, hg⟩ := h
  exact Kd.Q_ne ho hb ht
theorem IsS59.apartS {w0 W : World} {g : Nat} {f0 : Int} {f1 : Int} {f2 : Int} {α : Type} {d : Kd α} {e : Nat} {base : Nat} {ok : Nat → Prop} {v : Value} {xs : List α} (h : IsS59 w0 W g f0 f1 f2) (ho : d.S e W base ok v xs) (ht : ∀ q, q ∈ e :: d.E → q ≠ 59) : d.S e W base (fun k => ok k ∧ k ≠ g) v xs := by
  obtain ⟨hb, hg⟩ := h
  exact Kd.S_types ho hb ht
theorem IsS59.own_neS {w0 W : World} {g : Nat} {f0 : Int} {f1 : Int} {f2 : Int} {α : Type} {d : Kd α} {e : Nat} {base : Nat} {ok : Nat → Prop} {v : Value} {xs : List α} (h : IsS59 w0 W g f0 f1 f2) (ho : d.S e W base ok v xs) (ht : e ≠ 59) : some g ≠ v.ownBlock := by
  obtain ⟨hb, hg⟩ := h
  exact Kd.S_ne ho hb ht
theorem IsS59.lt {w0 W : World} {g : Nat} {f0 : Int} {f1 : Int} {f2 : Int} (h : IsS59 w0 W g f0 f1 f2) : g < W.heap.size := by
  obtain ⟨hb, hg⟩ := h
  exact blk_lt hb
theorem IsS59.ge {w0 W : World} {g : Nat} {f0 : Int} {f1 : Int} {f2 : Int} (h : IsS59 w0 W g f0 f1 f2) : w0.heap.size ≤ g := by
  obtain ⟨hb, hg⟩ := h
  exact hg
theorem IsS59.ne_blk {w0 W : World} {g : Nat} {f0 : Int} {f1 : Int} {f2 : Int} {a : Nat} {cs : Array Value} {t : TypeId} {fr : Nat × Nat} (h : IsS59 w0 W g f0 f1 f2) (hb2 : W.heap[a]? = some (.cells cs t fr)) (ht : t ≠ 59) : g ≠ a := by
  obtain ⟨hb, hg⟩ := h
  rintro rfl
  rw [hb] at hb2
  injection hb2 with hb2
  injection hb2 with _ ht2
  exact ht ht2.symm
theorem IsS59.far {w0 W : World} {g : Nat} {f0 : Int} {f1 : Int} {f2 : Int} {p : Addr} (h : IsS59 w0 W g f0 f1 f2) (hne : g ≠ p.block) (u : Value) : IsS59 w0 (W.setCell p u) g f0 f1 f2 := by
  obtain ⟨hb, hg⟩ := h
  exact ⟨blk_far hb hne u, hg⟩
theorem cellS59_0 {W : World} {g : Nat} {f0 : Int} {f1 : Int} {f2 : Int} (h : W.heap[g]? = some (.cells #[.int .i64 f0, .int .i64 f1, .int .i64 f2] 59 (0, 0))) : W.cell? ⟨g, 0, none⟩ = some (.int .i64 f0) := (blk_cell h 0).trans rfl
theorem IsS59.set_0 {w0 W : World} {g : Nat} {f0 : Int} {f1 : Int} {f2 : Int} (h : IsS59 w0 W g f0 f1 f2) (x : Int) : IsS59 w0 (W.setCell ⟨g, 0, none⟩ (.int .i64 x)) g x f1 f2 := by
  obtain ⟨hb, hg⟩ := h
  exact ⟨by simpa using blk_set hb 0 (.int .i64 x), hg⟩
theorem cellS59_1 {W : World} {g : Nat} {f0 : Int} {f1 : Int} {f2 : Int} (h : W.heap[g]? = some (.cells #[.int .i64 f0, .int .i64 f1, .int .i64 f2] 59 (0, 0))) : W.cell? ⟨g, 1, none⟩ = some (.int .i64 f1) := (blk_cell h 1).trans rfl
theorem IsS59.set_1 {w0 W : World} {g : Nat} {f0 : Int} {f1 : Int} {f2 : Int} (h : IsS59 w0 W g f0 f1 f2) (x : Int) : IsS59 w0 (W.setCell ⟨g, 1, none⟩ (.int .i64 x)) g f0 x f2 := by
  obtain ⟨hb, hg⟩ := h
  exact ⟨by simpa using blk_set hb 1 (.int .i64 x), hg⟩
theorem cellS59_2 {W : World} {g : Nat} {f0 : Int} {f1 : Int} {f2 : Int} (h : W.heap[g]? = some (.cells #[.int .i64 f0, .int .i64 f1, .int .i64 f2] 59 (0, 0))) : W.cell? ⟨g, 2, none⟩ = some (.int .i64 f2) := (blk_cell h 2).trans rfl
theorem IsS59.set_2 {w0 W : World} {g : Nat} {f0 : Int} {f1 : Int} {f2 : Int} (h : IsS59 w0 W g f0 f1 f2) (x : Int) : IsS59 w0 (W.setCell ⟨g, 2, none⟩ (.int .i64 x)) g f0 f1 x := by
  obtain ⟨hb, hg⟩ := h
  exact ⟨by simpa using blk_set hb 2 (.int .i64 x), hg⟩
theorem IsS59.new (w0 W : World) (f0 : Int) (f1 : Int) (f2 : Int) (hB : Below w0.heap.size w0 W) : IsS59 w0 (W.alloc (.cells #[.int .i64 f0, .int .i64 f1, .int .i64 f2] 59)) W.heap.size f0 f1 f2 := ⟨by simpa using heap_alloc_new W _, hB.size⟩

/-! ### dbus_depthCounter_Valid: function 26 -/
def dbus_depthCounter_Valid.f (s0_0 : Int) (s0_1 : Int) (s0_2 : Int) : Option (Bool × Int × Int × Int) := if s0_0 ≤ 32 then (if s0_1 ≤ 32 then (some (decide (s0_2 ≤ 32), s0_0, s0_1, s0_2)) else (some (false, s0_0, s0_1, s0_2))) else (some (false, s0_0, s0_1, s0_2))
set_option maxHeartbeats 8000000 in
set_option maxRecDepth 100000 in
theorem dbus_depthCounter_Valid.calls (g : Nat) (s0_0 : Int) (s0_1 : Int) (s0_2 : Int) (r1 : Bool) (r2 : Int) (r3 : Int) (r4 : Int) (w0 w : World) (hI : IsS59 w0 w g s0_0 s0_1 s0_2) (hB : Below w0.heap.size w0 w) (h : dbus_depthCounter_Valid.f s0_0 s0_1 s0_2 = some (r1, r2, r3, r4)) :
    Calls Try.prog 26 #[.pointer (some ⟨g, 0, none⟩)] w fun e w' => e = .returned (.bool r1) ∧ IsS59 w0 w' g r2 r3 r4 ∧ Below w0.heap.size w0 w' ∧ KeepBut w w' g none := by
  have HI0 := Aside0.mk hI
  have HK := Aside0.mk (KeepBut.refl w g none)
  have HL := Aside0.mk hB.size
  clear hI
  have HW0 := Aside0.mk hB.size
  have HB := Aside0.mk hB
  clear hB
  have H : (if s0_0 ≤ 32 then (if s0_1 ≤ 32 then (some (decide (s0_2 ≤ 32), s0_0, s0_1, s0_2)) else (some (false, s0_0, s0_1, s0_2))) else (some (false, s0_0, s0_1, s0_2))) = some (r1, r2, r3, r4) := h
  clear h
  by_cases c2 : s0_0 ≤ 32
  · rw [if_pos c2] at H
    have c2b0 : decide (s0_0 ≤ 32) = true := decide_eq_true c2
    clear c2
    by_cases c3 : s0_1 ≤ 32
    · rw [if_pos c3] at H
      have c3b0 : decide (s0_1 ≤ 32) = true := decide_eq_true c3
      clear c3
      simp only [Option.some.injEq, Prod.mk.injEq] at H
      obtain ⟨rfl, rfl, rfl, rfl⟩ := H
      obtain ⟨HGz4, hgz4⟩ := HI0.out
      have hcz4_0 := cellS59_0 HGz4
      have hcz4_1 := cellS59_1 HGz4
      have hcz4_2 := cellS59_2 HGz4
      have hfz4_0 := blk_frozen HGz4 0
      have hfz4_1 := blk_frozen HGz4 1
      have hfz4_2 := blk_frozen HGz4 2
      clear HGz4 hgz4
      go_enter Try.func26, Try.ntmps26
      go_wp2
      go_ret
      exact ⟨by first | rfl | (simp [errW_none, errW_some] <;> rfl) | (simp [*, errW_none, errW_some] <;> rfl) | (simp (disch := omega) only [wrap64_id] <;> rfl), by repeat (first | (with_reducible first | exact HI0.out | apply IsS59.alloc | apply IsS59.drewN | apply IsS59.drew | apply IsS59.set_0 | apply IsS59.set_1 | apply IsS59.set_2) | exact HI0.out), by repeat (first | (with_reducible first | exact HB.out | apply below_alloc | apply pw_below_drewN | apply below_drew1 | refine below_set ?_ (IsS59.ge HI0.out)) | exact HB.out), by repeat (first | (with_reducible first | exact HK.out | apply KeepBut.set_ | apply keep_drewN | apply keep_drew | apply keep_alloc) | exact HK.out)⟩
    · rw [if_neg c3] at H
      have c3b0 : decide (s0_1 ≤ 32) = false := decide_eq_false c3
      clear c3
      simp only [Option.some.injEq, Prod.mk.injEq] at H
      obtain ⟨rfl, rfl, rfl, rfl⟩ := H
      obtain ⟨HGz5, hgz5⟩ := HI0.out
      have hcz5_0 := cellS59_0 HGz5
      have hcz5_1 := cellS59_1 HGz5
      have hcz5_2 := cellS59_2 HGz5
      have hfz5_0 := blk_frozen HGz5 0
      have hfz5_1 := blk_frozen HGz5 1
      have hfz5_2 := blk_frozen HGz5 2
      clear HGz5 hgz5
      go_enter Try.func26, Try.ntmps26
      go_wp2
      go_ret
      exact ⟨by first | rfl | (simp [errW_none, errW_some] <;> rfl) | (simp [*, errW_none, errW_some] <;> rfl) | (simp (disch := omega) only [wrap64_id] <;> rfl), by repeat (first | (with_reducible first | exact HI0.out | apply IsS59.alloc | apply IsS59.drewN | apply IsS59.drew | apply IsS59.set_0 | apply IsS59.set_1 | apply IsS59.set_2) | exact HI0.out), by repeat (first | (with_reducible first | exact HB.out | apply below_alloc | apply pw_below_drewN | apply below_drew1 | refine below_set ?_ (IsS59.ge HI0.out)) | exact HB.out), by repeat (first | (with_reducible first | exact HK.out | apply KeepBut.set_ | apply keep_drewN | apply keep_drew | apply keep_alloc) | exact HK.out)⟩
  · rw [if_neg c2] at H
    have c2b0 : decide (s0_0 ≤ 32) = false := decide_eq_false c2
    clear c2
    simp only [Option.some.injEq, Prod.mk.injEq] at H
    obtain ⟨rfl, rfl, rfl, rfl⟩ := H
    obtain ⟨HGz6, hgz6⟩ := HI0.out
    have hcz6_0 := cellS59_0 HGz6
    have hcz6_1 := cellS59_1 HGz6
    have hcz6_2 := cellS59_2 HGz6
    have hfz6_0 := blk_frozen HGz6 0
    have hfz6_1 := blk_frozen HGz6 1
    have hfz6_2 := blk_frozen HGz6 2
    clear HGz6 hgz6
    go_enter Try.func26, Try.ntmps26
    go_wp2
    go_ret
    exact ⟨by first | rfl | (simp [errW_none, errW_some] <;> rfl) | (simp [*, errW_none, errW_some] <;> rfl) | (simp (disch := omega) only [wrap64_id] <;> rfl), by repeat (first | (with_reducible first | exact HI0.out | apply IsS59.alloc | apply IsS59.drewN | apply IsS59.drew | apply IsS59.set_0 | apply IsS59.set_1 | apply IsS59.set_2) | exact HI0.out), by repeat (first | (with_reducible first | exact HB.out | apply below_alloc | apply pw_below_drewN | apply below_drew1 | refine below_set ?_ (IsS59.ge HI0.out)) | exact HB.out), by repeat (first | (with_reducible first | exact HK.out | apply KeepBut.set_ | apply keep_drewN | apply keep_drew | apply keep_alloc) | exact HK.out)⟩

end Go.Proofs.Ytfipimoemhbnlaa.MFnSgReplace
