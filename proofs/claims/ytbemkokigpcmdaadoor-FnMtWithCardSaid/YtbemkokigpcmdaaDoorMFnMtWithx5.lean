-- Written by a program of this session (myprint.py, out of the translation). Not trusted: Lean checks it.
import Derived.Test.YtbemkokigpcmdaaDoorMFnMtWithx0
import Derived.Test.YtbemkokigpcmdaaDoorMFnMtWithx4
namespace Go.Proofs.YtbemkokigpcmdaaDoor.MFnMtWith
open Go.RowKit Go.Proofs.YtbemkokigpcmdaaDoorW.PrintWords Go.Proofs.YtbemkokigpcmdaaDoorW.PrintLast Go.Proofs.YtbemkokigpcmdaaDoorW.PrintMore
attribute [local go_sem] max2_int min2_int max_two min_two max_three min_three max_four min_four   -- for this text's walks alone
set_option linter.unusedVariables false
set_option linter.unusedSimpArgs false

/-! ### impl_MtWith: function 4 -/
def impl_MtWith.f (k : Nat) (a0 : Int) (a1 : Int) (a2 : ByteArray) : Option (ByteArray × ByteArray × Bool) := (impl_with.f k a0 a1 a2).bind fun bt188 => (some (bt188.1, bt188.2.1, bt188.2.2))
theorem impl_MtWith.mono : ∀ a0 a1 a2 k, LeO (impl_MtWith.f k a0 a1 a2) (impl_MtWith.f (k + 1) a0 a1 a2) := by
  intro a0 a1 a2 k
  unfold impl_MtWith.f
  repeat' first
      | (with_reducible exact impl_with.mono _ _ _ _)
      | (with_reducible exact LeO.refl _)
      | (with_reducible exact LeO.none _)
      | (with_reducible refine LeO.ite ?_ ?_)
      | (with_reducible refine LeO.bind ?_ (fun _ => ?_))
      | exact impl_with.mono _ _ _ _
      | exact LeO.none _
      | refine LeO.ite ?_ ?_
      | refine LeO.bind ?_ (fun _ => ?_)
set_option maxHeartbeats 8000000 in
set_option maxRecDepth 100000 in
theorem impl_MtWith.calls (k : Nat) (a0 : Int) (a1 : Int) (a2 : ByteArray) (r1 : ByteArray) (r2 : ByteArray) (r3 : Bool) (w : World) (h : impl_MtWith.f k a0 a1 a2 = some (r1, r2, r3)) :
    Calls Tryd.prog 4 #[.int .i64 a0, .int .i64 a1, .string a2] w fun e w' => e = .returned (.tuple #[.string r1, .string r2, .bool r3]) ∧ Below w.heap.size w w' := by
  have HB := Aside0.mk (Below.refl w.heap.size w)
  have H : ((impl_with.f k a0 a1 a2).bind fun bt188 => (some (bt188.1, bt188.2.1, bt188.2.2))) = some (r1, r2, r3) := h
  clear h
  replace H := Option.bind_eq_some_iff.mp H
  obtain ⟨⟨t188, t189, t190⟩, A40, H⟩ := H
  replace H : (some (t188, t189, t190)) = some (r1, r2, r3) := H
  have A4 := Aside0.mk A40
  clear A40
  simp only [Option.some.injEq, Prod.mk.injEq] at H
  obtain ⟨rfl, rfl, rfl⟩ := H
  go_enter Tryd.func4, Tryd.ntmps4
  go_wp2_with (first | ((with_reducible refine gate_callee (f := 6) rfl ?_); refine goesL_ (some 12) rfl rfl Tryd.func6 (by kernel_rfl) rfl #[.int .i64 a0, .int .i64 a1, .string a2] rfl (by (try simp only [List.map_toArray, List.map_cons, List.map_nil]); first | done | rfl | (simp only [List.length_drop, List.length_take]; rfl)) ?_; (with_reducible refine (impl_with.calls k a0 a1 a2 t188 t189 t190 _ A4.out).mono ?_); rintro e w5 ⟨rfl, hb⟩; refine ⟨_, rfl, ?_⟩; have n0_ := Aside0.mk (below_step (by repeat (first | (with_reducible first | exact HB.out | apply below_alloc | apply pw_below_drewN | apply below_drew1) | exact HB.out)) hb); clear HB; have HB := n0_; clear n0_; (try clear hb); (try clear hb2); (try clear hk); (try clear hi)))
  go_ret3
  exact ⟨by first | rfl | (simp [errW_none, errW_some] <;> rfl) | (simp [*, errW_none, errW_some] <;> rfl) | (simp (disch := omega) only [wrap64_id] <;> rfl), by repeat (first | (with_reducible first | exact HB.out | apply below_alloc | apply pw_below_drewN | apply below_drew1) | exact HB.out)⟩

/-! ### spec_Decimal: function 7 -/
mutual
def spec_Decimal.l0 : Nat → Int → List Int → Bool → Option (ByteArray)
  | 0, _, _, _ => none
  | k + 1, x0, x3, x4 => if x4 = true then (if x3.length < 140737488355328 then (spec_Decimal.l0 k (IntKind.u64.wrap (Int.tdiv x0 10)) (x3 ++ [(IntKind.u64.wrap (48 + (Int.tmod x0 10))) % 256]) false) else (none)) else (if x0 > 0 then (if x3.length < 140737488355328 then (spec_Decimal.l0 k (IntKind.u64.wrap (Int.tdiv x0 10)) (x3 ++ [(IntKind.u64.wrap (48 + (Int.tmod x0 10))) % 256]) false) else (none)) else (spec_Decimal.l1 k x3 0 (wrap64 ((x3.length : Int) - 1))))
def spec_Decimal.l1 : Nat → List Int → Int → Int → Option (ByteArray)
  | 0, _, _, _ => none
  | k + 1, x3, x5, x6 => if x5 < x6 then (if 0 ≤ x6 then (if x6 < (x3.length : Int) then (if 0 ≤ x5 then (if x5 < (x3.length : Int) then (spec_Decimal.l1 k ((x3.set (x5 : Int).toNat (rd x3 x6)).set (x6 : Int).toNat (rd x3 x5)) (wrap64 (x5 + 1)) (wrap64 (x6 - 1))) else (none)) else (none)) else (none)) else (none)) else (some (strOfNums x3))
end
def spec_Decimal.f (k : Nat) (a0 : Int) : Option (ByteArray) := spec_Decimal.l0 k a0 (([] : List Int)) true
theorem spec_Decimal.mono_l : ∀ k, (∀ y0 y1 y2, LeO (spec_Decimal.l0 k y0 y1 y2) (spec_Decimal.l0 (k + 1) y0 y1 y2)) ∧ (∀ y0 y1 y2, LeO (spec_Decimal.l1 k y0 y1 y2) (spec_Decimal.l1 (k + 1) y0 y1 y2))
  | 0 => ⟨fun _ _ _ r h => by simp [spec_Decimal.l0] at h, fun _ _ _ r h => by simp [spec_Decimal.l1] at h⟩
  | k + 1 => by
    obtain ⟨ih0, ih1⟩ := spec_Decimal.mono_l k
    refine ⟨?_, ?_⟩
    · intro y0 y1 y2
      unfold spec_Decimal.l0
      repeat' first
      | (with_reducible exact ih0 _ _ _)
      | (with_reducible exact ih1 _ _ _)
      | (with_reducible exact LeO.refl _)
      | (with_reducible exact LeO.none _)
      | (with_reducible refine LeO.ite ?_ ?_)
      | (with_reducible refine LeO.bind ?_ (fun _ => ?_))
      | exact ih0 _ _ _
      | exact ih1 _ _ _
      | exact LeO.none _
      | refine LeO.ite ?_ ?_
      | refine LeO.bind ?_ (fun _ => ?_)
    · intro y0 y1 y2
      unfold spec_Decimal.l1
      repeat' first
      | (with_reducible exact ih0 _ _ _)
      | (with_reducible exact ih1 _ _ _)
      | (with_reducible exact LeO.refl _)
      | (with_reducible exact LeO.none _)
      | (with_reducible refine LeO.ite ?_ ?_)
      | (with_reducible refine LeO.bind ?_ (fun _ => ?_))
      | exact ih0 _ _ _
      | exact ih1 _ _ _
      | exact LeO.none _
      | refine LeO.ite ?_ ?_
      | refine LeO.bind ?_ (fun _ => ?_)
theorem spec_Decimal.mono : ∀ a0 k, LeO (spec_Decimal.f k a0) (spec_Decimal.f (k + 1) a0) := by
  intro a0 k
  obtain ⟨ih0, ih1⟩ := spec_Decimal.mono_l k
  unfold spec_Decimal.f
  repeat' first
      | (with_reducible exact ih0 _ _ _)
      | (with_reducible exact ih1 _ _ _)
      | (with_reducible exact LeO.refl _)
      | (with_reducible exact LeO.none _)
      | (with_reducible refine LeO.ite ?_ ?_)
      | (with_reducible refine LeO.bind ?_ (fun _ => ?_))
      | exact ih0 _ _ _
      | exact ih1 _ _ _
      | exact LeO.none _
      | refine LeO.ite ?_ ?_
      | refine LeO.bind ?_ (fun _ => ?_)
def spec_Decimal.T10 : Bool × List (List Nat × List Nat) := (true, [([], []), ([], []), ([], []), ([], []), ([], []), ([], []), ([4, 5], [4, 5]), ([6], [6]), ([], []), ([], []), ([8, 9], [8, 9]), ([10], [10]), ([0, 1, 0, 1, 4, 5, 6, 7, 11], [0, 1]), ([12, 7, 0, 1, 4, 5, 6, 7, 11], [7, 12]), ([2, 3, 0, 1, 2, 3, 4, 5, 6, 7, 8, 9, 10, 11, 12, 13], [2, 3]), ([14, 11, 13, 0, 1, 2, 3, 4, 5, 6, 7, 8, 9, 10, 11, 12, 13], [11, 14])])
def spec_Decimal.B10 : List Nat := [0, 0, 0, 0, 0, 0, 48, 112, 0, 0, 768, 1792, 4083, 8179, 16383, 32767]
theorem spec_Decimal.tab10 : rtab .any (opsOf Tryd.f7 10) = spec_Decimal.T10 := by kernel_rfl
theorem spec_Decimal.bits10 : waitsOk spec_Decimal.T10.2 spec_Decimal.B10 = true := by kernel_rfl
set_option maxHeartbeats 8000000 in
set_option maxRecDepth 100000 in
theorem spec_Decimal.calls (k : Nat) (a0 : Int) (r : ByteArray) (w : World) (h : spec_Decimal.f k a0 = some r) :
    Calls Tryd.prog 7 #[.int .u64 a0] w fun e w' => e = .returned (.string r) ∧ Below w.heap.size w w' := by
  have HB := Aside0.mk (Below.refl w.heap.size w)
  have H : (spec_Decimal.l0 k a0 (([] : List Int)) true) = some r := h
  clear h
  obtain ⟨y191, hy191⟩ : ∃ y_ : List Int, y_ = (([] : List Int)) := ⟨_, rfl⟩
  replace H : (spec_Decimal.l0 k a0 y191 true) = some r := by first | (rw [hy191]; with_reducible exact H) | (have H2_ := (Option.bind_some _ _).symm.trans H; rw [hy191]; with_reducible exact H2_) | (have H2_ := (Option.bind_some _ _).symm.trans H; with_reducible exact H2_) | with_reducible exact H | (rw [hy191]; exact H) | exact H
  have Ny191 := Aside0.mk hy191
  clear hy191
  have H' := Aside0.mk H
  clear H
  go_enter Tryd.func7, Tryd.ntmps7
  go_wp2_with (first | ((with_reducible refine gate_dst (N := 7) rfl ?_); refine Kd.R_lit (Kd.int .u8) _ 5 ?hg (N := 7) ?hd (xs := ([] : List Int)) (inner := []) (ok := fun _ => True) (okp := fun _ => True) ?hr ?hp (fun _ hk => hk) trivial (Below.refl _ _) (Nat.le_refl _) (by simp) ?_; (case hd => rfl); (case hg => rfl); (case hr => first | (go_simp; done) | (go_simp; rfl)); (case hp => exact (Reps.none _ _)); intro v192 w2 ho3 hb hg_ hnew_; clear hg_ hnew_; (first | rw [← Ny191.out] at ho3 | (simp only [Int.reduceToNat] at ho3; rw [← Ny191.out] at ho3)); have n0_ := Aside0.mk (Kd.R_lower ho3 (below_size (by repeat (first | (with_reducible first | exact HB.out | apply below_alloc | apply pw_below_drewN | apply below_drew1) | exact HB.out)))); have n1_ := Aside0.mk (below_step (by repeat (first | (with_reducible first | exact HB.out | apply below_alloc | apply pw_below_drewN | apply below_drew1) | exact HB.out)) hb); clear HB; have HO193 := n0_; have HB := n1_; clear n0_ n1_; clear hb ho3))
  go_loopg [0, 3, 4] k (fun kq v0 v3 v4 w' => ∃ (x0_1 : Int) (x3_1 : List Int) (x4_1 : Bool), v0 = .int .u64 x0_1 ∧ v4 = .bool x4_1 ∧ Aside0 (spec_Decimal.l0 kq x0_1 x3_1 x4_1 = some r) ∧ Aside0 (kq ≤ k) ∧ Aside0 (Kd.R (Kd.int .u8) 5 w' w.heap.size (fun _ => True) v3 x3_1) ∧ Aside0 (Below w.heap.size w w'))
  case atStart => exact ⟨(a0), (y191), (true), (by first | rfl | (simp; done) | (simp [*]; done)), (by first | rfl | (simp; done) | (simp [*]; done)), H', ⟨Nat.le_refl _⟩, ⟨by (with_reducible repeat (first | apply Kd.R_alloc | apply Kd.R_drewN | apply Kd.R_drew)); exact HO193.out⟩, ⟨by repeat (first | (with_reducible first | exact HB.out | apply below_alloc | apply pw_below_drewN | apply below_drew1) | exact HB.out)⟩⟩
  case round =>
    clear H'
    try clear p2
    obtain ⟨x0_1, x3_1, x4_1, rfl, rfl, HA, HK1, HO_3, HB⟩ := hrel
    cases gk with
    | zero => exact absurd HA.out (by simp [spec_Decimal.l0])
    | succ k1 =>
      have H := HA.out
      clear HA
      simp only [spec_Decimal.l0] at H
      by_cases c4 : x4_1 = true
      · subst c4
        have H1 : (if x3_1.length < 140737488355328 then (spec_Decimal.l0 k1 (IntKind.u64.wrap (Int.tdiv x0_1 10)) (x3_1 ++ [(IntKind.u64.wrap (48 + (Int.tmod x0_1 10))) % 256]) false) else (none)) = some r := by rw [if_pos rfl] at H; exact H
        clear H
        have H := H1
        clear H1
        by_cases c5 : x3_1.length < 140737488355328
        · rw [if_pos c5] at H
          have LMc5 := Aside0.mk c5
          clear c5
          obtain ⟨y194, hy194⟩ : ∃ y_ : List Int, y_ = (x3_1 ++ [(IntKind.u64.wrap (48 + (Int.tmod x0_1 10))) % 256]) := ⟨_, rfl⟩
          replace H : (spec_Decimal.l0 k1 (IntKind.u64.wrap (Int.tdiv x0_1 10)) y194 false) = some r := by first | (rw [hy194]; with_reducible exact H) | (have H2_ := (Option.bind_some _ _).symm.trans H; rw [hy194]; with_reducible exact H2_) | (have H2_ := (Option.bind_some _ _).symm.trans H; with_reducible exact H2_) | with_reducible exact H | (rw [hy194]; exact H) | exact H
          have Ny194 := Aside0.mk hy194
          clear hy194
          have H' := Aside0.mk H
          clear H
          go_wp2_with (first | ((with_reducible refine gate_builtin (b := .append) (xs := #[.tmp 13, .tmp 18]) rfl ?_); at_builtin; refine Kd.R_append (Kd.int .u8) (w0 := w) w.heap.size rfl (.tmp 13) (.tmp 18) 34 5 (.int .u8 0) 1 rfl Tryd.underlying34 info5 rfl (by decide) (by omega) u3 x3_1 ((IntKind.u64.wrap (48 + (Int.tmod x0_1 10))) % 256) [.int .u8 ((IntKind.u64.wrap (48 + (Int.tmod x0_1 10))) % 256)] (fun _ => True) (fun _ => False) rfl rfl ?aP (fun _ hk => hk.elim) ?aF ?aO ?aB ?aS ?aL ?_; (case aP => exact rfl); (case aB => exact (by repeat (first | (with_reducible first | exact HB.out | apply below_alloc | apply pw_below_drewN | apply below_drew1) | exact HB.out))); (case aF => exact (fun _ _ => trivial)); (case aO => exact (by (with_reducible repeat (first | apply Kd.R_alloc | apply Kd.R_drewN | apply Kd.R_drew)); exact HO_3.out)); (case aS => exact (below_size (by repeat (first | (with_reducible first | exact HB.out | apply below_alloc | apply pw_below_drewN | apply below_drew1) | exact HB.out)))); (case aL => have := LMc5.out; omega); intro v195 w6 ho hb hg hat; rw [← Ny194.out] at ho; have n0_ := Aside0.mk (hb); have n1_ := Aside0.mk (ho); clear HB; clear HO_3; have HB := n0_; have HO196 := n1_; clear n0_ n1_; clear ho hb hg hat))
          go_roundg k1
          case measure => have := HK1.out; omega
          case rel => exact ⟨(IntKind.u64.wrap (Int.tdiv x0_1 10)), (y194), (false), (by first | rfl | (simp; done) | (simp [*]; done)), (by first | rfl | (simp; done) | (simp [*]; done)), H', ⟨by have := HK1.out; omega⟩, ⟨by (with_reducible repeat (first | apply Kd.R_alloc | apply Kd.R_drewN | apply Kd.R_drew)); exact HO196.out⟩, ⟨by repeat (first | (with_reducible first | exact HB.out | apply below_alloc | apply pw_below_drewN | apply below_drew1) | exact HB.out)⟩⟩
        · rw [if_neg c5] at H
          exact absurd H (by simp)
      · replace c4 := Bool.eq_false_iff.mpr c4
        subst c4
        have H1 : (if x0_1 > 0 then (if x3_1.length < 140737488355328 then (spec_Decimal.l0 k1 (IntKind.u64.wrap (Int.tdiv x0_1 10)) (x3_1 ++ [(IntKind.u64.wrap (48 + (Int.tmod x0_1 10))) % 256]) false) else (none)) else (spec_Decimal.l1 k1 x3_1 0 (wrap64 ((x3_1.length : Int) - 1)))) = some r := by rw [if_neg (show ¬ (false = true) by decide)] at H; exact H
        clear H
        have H := H1
        clear H1
        by_cases c7 : x0_1 > 0
        · rw [if_pos c7] at H
          have c7b0 : decide (0 < x0_1) = true := decide_eq_true c7
          clear c7
          by_cases c8 : x3_1.length < 140737488355328
          · rw [if_pos c8] at H
            have LMc8 := Aside0.mk c8
            clear c8
            obtain ⟨y197, hy197⟩ : ∃ y_ : List Int, y_ = (x3_1 ++ [(IntKind.u64.wrap (48 + (Int.tmod x0_1 10))) % 256]) := ⟨_, rfl⟩
            replace H : (spec_Decimal.l0 k1 (IntKind.u64.wrap (Int.tdiv x0_1 10)) y197 false) = some r := by first | (rw [hy197]; with_reducible exact H) | (have H2_ := (Option.bind_some _ _).symm.trans H; rw [hy197]; with_reducible exact H2_) | (have H2_ := (Option.bind_some _ _).symm.trans H; with_reducible exact H2_) | with_reducible exact H | (rw [hy197]; exact H) | exact H
            have Ny197 := Aside0.mk hy197
            clear hy197
            have H' := Aside0.mk H
            clear H
            go_wp2_with (first | ((with_reducible refine gate_builtin (b := .append) (xs := #[.tmp 13, .tmp 18]) rfl ?_); at_builtin; refine Kd.R_append (Kd.int .u8) (w0 := w) w.heap.size rfl (.tmp 13) (.tmp 18) 34 5 (.int .u8 0) 1 rfl Tryd.underlying34 info5 rfl (by decide) (by omega) u3 x3_1 ((IntKind.u64.wrap (48 + (Int.tmod x0_1 10))) % 256) [.int .u8 ((IntKind.u64.wrap (48 + (Int.tmod x0_1 10))) % 256)] (fun _ => True) (fun _ => False) rfl rfl ?aP (fun _ hk => hk.elim) ?aF ?aO ?aB ?aS ?aL ?_; (case aP => exact rfl); (case aB => exact (by repeat (first | (with_reducible first | exact HB.out | apply below_alloc | apply pw_below_drewN | apply below_drew1) | exact HB.out))); (case aF => exact (fun _ _ => trivial)); (case aO => exact (by (with_reducible repeat (first | apply Kd.R_alloc | apply Kd.R_drewN | apply Kd.R_drew)); exact HO_3.out)); (case aS => exact (below_size (by repeat (first | (with_reducible first | exact HB.out | apply below_alloc | apply pw_below_drewN | apply below_drew1) | exact HB.out)))); (case aL => have := LMc8.out; omega); intro v198 w9 ho hb hg hat; rw [← Ny197.out] at ho; have n0_ := Aside0.mk (hb); have n1_ := Aside0.mk (ho); clear HB; clear HO_3; have HB := n0_; have HO199 := n1_; clear n0_ n1_; clear ho hb hg hat))
            go_roundg k1
            case measure => have := HK1.out; omega
            case rel => exact ⟨(IntKind.u64.wrap (Int.tdiv x0_1 10)), (y197), (false), (by first | rfl | (simp; done) | (simp [*]; done)), (by first | rfl | (simp; done) | (simp [*]; done)), H', ⟨by have := HK1.out; omega⟩, ⟨by (with_reducible repeat (first | apply Kd.R_alloc | apply Kd.R_drewN | apply Kd.R_drew)); exact HO199.out⟩, ⟨by repeat (first | (with_reducible first | exact HB.out | apply below_alloc | apply pw_below_drewN | apply below_drew1) | exact HB.out)⟩⟩
          · rw [if_neg c8] at H
            exact absurd H (by simp)
        · rw [if_neg c7] at H
          have c7b0 : decide (0 < x0_1) = false := decide_eq_false c7
          clear c7
          have H' := Aside0.mk H
          clear H
          obtain ⟨Ao10, co10, eo10⟩ := Kd.R_slice HO_3.out
          subst eo10
          go_wp2
          go_loopg [5, 6] k1 (fun kq v5 v6 w' => ∃ (x3_2 : List Int) (x5_2 : Int) (x6_2 : Int), v5 = .int .i64 x5_2 ∧ v6 = .int .i64 x6_2 ∧ Aside0 (spec_Decimal.l1 kq x3_2 x5_2 x6_2 = some r) ∧ Aside0 (kq ≤ k1) ∧ Aside0 (Kd.R (Kd.int .u8) 5 w' w.heap.size (fun _ => True) (.slice Ao10 x3_1.length co10) x3_2) ∧ Aside0 (Below w.heap.size w w'))
          case atStart => exact ⟨(x3_1), (0), (wrap64 ((x3_1.length : Int) - 1)), (by first | rfl | (simp; done) | (simp [*]; done)), (by first | rfl | (simp; done) | (simp [*]; done)), H', ⟨Nat.le_refl _⟩, ⟨by (with_reducible repeat (first | apply Kd.R_alloc | apply Kd.R_drewN | apply Kd.R_drew)); exact HO_3.out⟩, ⟨by repeat (first | (with_reducible first | exact HB.out | apply below_alloc | apply pw_below_drewN | apply below_drew1) | exact HB.out)⟩⟩
          case round =>
            clear H'
            try clear p2
            try clear c4
            try clear c5
            try clear p6
            try clear c7
            try clear c7b0
            try clear c8
            try clear p2
            obtain ⟨x3_2, x5_2, x6_2, rfl, rfl, HA, HK2, HO_3, HB⟩ := hrel
            have hl3_2 := (Kd.R_reads' HO_3.out).1
            rw [hl3_2] at HO_3
            (try simp only [hl3_2])
            cases gk with
            | zero => exact absurd HA.out (by simp [spec_Decimal.l1])
            | succ k2 =>
              have H := HA.out
              clear HA
              simp only [spec_Decimal.l1] at H
              by_cases c11 : x5_2 < x6_2
              · rw [if_pos c11] at H
                have c11b0 : decide (x5_2 < x6_2) = true := decide_eq_true c11
                clear c11
                by_cases c12 : 0 ≤ x6_2
                · rw [if_pos c12] at H
                  have c12b0 : decide (0 ≤ x6_2) = true := decide_eq_true c12
                  clear c12
                  by_cases c13 : x6_2 < (x3_2.length : Int)
                  · rw [if_pos c13] at H
                    have c13b0 : decide (x6_2 < (x3_2.length : Int)) = true := decide_eq_true c13
                    clear c13
                    by_cases c14 : 0 ≤ x5_2
                    · rw [if_pos c14] at H
                      have c14b0 : decide (0 ≤ x5_2) = true := decide_eq_true c14
                      clear c14
                      by_cases c15 : x5_2 < (x3_2.length : Int)
                      · rw [if_pos c15] at H
                        have c15b0 : decide (x5_2 < (x3_2.length : Int)) = true := decide_eq_true c15
                        clear c15
                        obtain ⟨y202, hy202⟩ : ∃ y_ : List Int, y_ = (x3_2.set (x5_2 : Int).toNat (rd x3_2 x6_2)) := ⟨_, rfl⟩
                        replace H : (spec_Decimal.l1 k2 (y202.set (x6_2 : Int).toNat (rd x3_2 x5_2)) (wrap64 (x5_2 + 1)) (wrap64 (x6_2 - 1))) = some r := by first | (rw [hy202]; with_reducible exact H) | (have H2_ := (Option.bind_some _ _).symm.trans H; rw [hy202]; with_reducible exact H2_) | (have H2_ := (Option.bind_some _ _).symm.trans H; with_reducible exact H2_) | with_reducible exact H | (rw [hy202]; exact H) | exact H
                        have Ny202 := Aside0.mk hy202
                        clear hy202
                        obtain ⟨y203, hy203⟩ : ∃ y_ : List Int, y_ = (y202.set (x6_2 : Int).toNat (rd x3_2 x5_2)) := ⟨_, rfl⟩
                        replace H : (spec_Decimal.l1 k2 y203 (wrap64 (x5_2 + 1)) (wrap64 (x6_2 - 1))) = some r := by first | (rw [hy203]; with_reducible exact H) | (have H2_ := (Option.bind_some _ _).symm.trans H; rw [hy203]; with_reducible exact H2_) | (have H2_ := (Option.bind_some _ _).symm.trans H; with_reducible exact H2_) | with_reducible exact H | (rw [hy203]; exact H) | exact H
                        have Ny203 := Aside0.mk hy203
                        clear hy203
                        have H' := Aside0.mk H
                        clear H
                        try go_wp2
                        have n0_ := Aside0.mk (Kd.R_drew HO_3.out)
                        have n1_ := Aside0.mk (below_drew1 HB.out)
                        clear HO_3
                        clear HB
                        have HO_3 := n0_
                        have HB := n1_
                        clear n0_ n1_
                        have p200 : 0 ≤ (x6_2 : Int) := of_decide_eq_true (by first | (with_reducible assumption) | assumption)
                        have q200 : x6_2 < (x3_2.length : Int) := of_decide_eq_true (by first | (with_reducible assumption) | assumption)
                        obtain ⟨ad200, e200, hx200_0⟩ := Kd.at_int (Kd.R_reads' HO_3.out).2.2 x6_2 p200 q200
                        cases e200
                        replace p200 := eq_true p200
                        replace q200 := eq_true q200
                        have p201 : 0 ≤ (x5_2 : Int) := of_decide_eq_true (by first | (with_reducible assumption) | assumption)
                        have q201 : x5_2 < (x3_2.length : Int) := of_decide_eq_true (by first | (with_reducible assumption) | assumption)
                        obtain ⟨ad201, e201, hx201_0⟩ := Kd.at_int (Kd.R_reads' HO_3.out).2.2 x5_2 p201 q201
                        obtain rfl : ad200 = ad201 := (by injection e201)
                        replace p201 := eq_true p201
                        replace q201 := eq_true q201
                        have p16 : 0 ≤ (x5_2 : Int) := of_decide_eq_true (by first | (with_reducible assumption) | assumption)
                        have q16 : (x5_2 : Int) < ((x3_2.length : Int) : Int) := of_decide_eq_true (by first | (with_reducible assumption) | assumption)
                        obtain ⟨go16, co16, eo16, gb16, gl16, cl16, HG16⟩ := Kd.R_form HO_3.out (by omega)
                        (first | cases eo16 | (injection eo16 with ea_ en_ ec_; (first | subst ea_ | (injection ea_ with ea_; subst ea_)); subst ec_; clear en_))
                        have GB16 := Aside0.mk gb16
                        have GG16 := Aside0.mk HG16
                        clear gb16 gl16 HG16
                        (first | simp only [add_plain] at hx200_0 | skip)
                        (first | simp only [add_plain] at hx201_0 | skip)
                        obtain ⟨hx16_0, hf16_0⟩ := Kd.R_celln 0 HO_3.out (x5_2 : Int) p16 q16
                        replace p16 := eq_true p16
                        replace q16 := eq_true q16
                        have HP19 := Kd.R_putn HO_3.out (x5_2 : Int) (rd x3_2 x6_2)
                        rw [← Ny202.out] at HP19
                        have HQ19 := Aside0.mk HP19
                        clear HP19
                        have p17 : 0 ≤ (x6_2 : Int) := of_decide_eq_true (by first | (with_reducible assumption) | assumption)
                        have q17 : (x6_2 : Int) < ((x3_2.length : Int) : Int) := of_decide_eq_true (by first | (with_reducible assumption) | assumption)
                        obtain ⟨hx17_0, hf17_0⟩ := Kd.R_celln 0 HQ19.out (x6_2 : Int) p17 q17
                        replace p17 := eq_true p17
                        replace q17 := eq_true q17
                        have HP20 := Kd.R_putn HQ19.out (x6_2 : Int) (rd x3_2 x5_2)
                        rw [← Ny203.out] at HP20
                        have HQ20 := Aside0.mk HP20
                        clear HP20
                        refine start_ (n := 16) (S := fun w' => w'.cell? ⟨go16, (x6_2).toNat, none⟩ = some (.int .u8 (rd x3_2 x6_2)) ∧ w'.cell? ⟨go16, (x5_2).toNat, none⟩ = some (.int .u8 (rd x3_2 x5_2))) (ds := [13, 15]) #[false, false, false, false, false, false, false, false, false, false, false, false, false, false, false, false] (by kernel_rfl) rfl rfl ⟨hx200_0, hx201_0⟩ (fun hHeld => ?_); refine with_tabW spec_Decimal.tab10 spec_Decimal.bits10 (fun HT_ HW_ => ?_)
                        generalize wr.drew = w18 at HO_3 HB GG16 HQ19 HQ20 hf16_0 hf17_0 hx16_0 hx17_0 hx200_0 hx201_0 hHeld ⊢
                        refine pure_ (i := 0) (N := some 32) (v := ?_) (a' := ?_) #[true, false, false, false, false, false, false, false, false, false, false, false, false, false, false, false] rfl rfl (any_of HT_.out (by kernel_rfl)) (fun _ _ _ h => h) (Or.inl ⟨by rfl, ?_⟩) ?_ ?_
                        rotate_left
                        · intro w'
                          go_simp
                          with_reducible rfl
                        rotate_left
                        · simp only [Act.put, List.setIfInBounds_toArray, List.set_cons_zero, List.set_cons_succ, i64_w, i32_w]
                          rfl
                        refine pure_ (i := 1) (N := some 33) (v := ?_) (a' := ?_) #[true, true, false, false, false, false, false, false, false, false, false, false, false, false, false, false] rfl rfl (any_of HT_.out (by kernel_rfl)) (fun _ _ _ h => h) (Or.inl ⟨by rfl, ?_⟩) ?_ ?_
                        rotate_left
                        · intro w'
                          go_simp
                          with_reducible rfl
                        rotate_left
                        · simp only [Act.put, List.setIfInBounds_toArray, List.set_cons_zero, List.set_cons_succ, i64_w, i32_w]
                          rfl
                        refine pure_ (i := 2) (N := some 34) (v := ?_) (a' := ?_) #[true, true, true, false, false, false, false, false, false, false, false, false, false, false, false, false] rfl rfl (any_of HT_.out (by kernel_rfl)) (fun _ _ _ h => h) (Or.inl ⟨by rfl, ?_⟩) ?_ ?_
                        rotate_left
                        · intro w'
                          go_simp
                          with_reducible rfl
                        rotate_left
                        · simp only [Act.put, List.setIfInBounds_toArray, List.set_cons_zero, List.set_cons_succ, i64_w, i32_w]
                          rfl
                        refine pure_ (i := 3) (N := some 35) (v := ?_) (a' := ?_) #[true, true, true, true, false, false, false, false, false, false, false, false, false, false, false, false] rfl rfl (any_of HT_.out (by kernel_rfl)) (fun _ _ _ h => h) (Or.inl ⟨by rfl, ?_⟩) ?_ ?_
                        rotate_left
                        · intro w'
                          go_simp
                          with_reducible rfl
                        rotate_left
                        · simp only [Act.put, List.setIfInBounds_toArray, List.set_cons_zero, List.set_cons_succ, i64_w, i32_w]
                          rfl
                        refine pure_ (i := 4) (N := some 36) (v := ?_) (a' := ?_) #[true, true, true, true, true, false, false, false, false, false, false, false, false, false, false, false] rfl rfl (any_of HT_.out (by kernel_rfl)) (fun _ _ _ h => h) (Or.inl ⟨by rfl, ?_⟩) ?_ ?_
                        rotate_left
                        · intro w'
                          go_simp
                          with_reducible rfl
                        rotate_left
                        · simp only [Act.put, List.setIfInBounds_toArray, List.set_cons_zero, List.set_cons_succ, i64_w, i32_w]
                          rfl
                        refine pure_ (i := 5) (N := some 37) (v := ?_) (a' := ?_) #[true, true, true, true, true, true, false, false, false, false, false, false, false, false, false, false] rfl rfl (any_of HT_.out (by kernel_rfl)) (fun _ _ _ h => h) (Or.inl ⟨by rfl, ?_⟩) ?_ ?_
                        rotate_left
                        · intro w'
                          go_simp
                          with_reducible rfl
                        rotate_left
                        · simp only [Act.put, List.setIfInBounds_toArray, List.set_cons_zero, List.set_cons_succ, i64_w, i32_w]
                          rfl
                        refine pure_ (i := 6) (N := some 38) (v := ?_) (a' := ?_) #[true, true, true, true, true, true, true, false, false, false, false, false, false, false, false, false] rfl rfl (any_of HT_.out (by kernel_rfl)) (fun _ _ _ h => h) (Or.inl ⟨by rfl, ?_⟩) ?_ ?_
                        rotate_left
                        · intro w'
                          go_simp
                          with_reducible rfl
                        rotate_left
                        · simp only [Act.put, List.setIfInBounds_toArray, List.set_cons_zero, List.set_cons_succ, i64_w, i32_w]
                          rfl
                        refine pure_ (i := 8) (N := some 40) (v := ?_) (a' := ?_) #[true, true, true, true, true, true, true, false, true, false, false, false, false, false, false, false] rfl rfl (any_of HT_.out (by kernel_rfl)) (fun _ _ _ h => h) (Or.inl ⟨by rfl, ?_⟩) ?_ ?_
                        rotate_left
                        · intro w'
                          go_simp
                          with_reducible rfl
                        rotate_left
                        · simp only [Act.put, List.setIfInBounds_toArray, List.set_cons_zero, List.set_cons_succ, i64_w, i32_w]
                          rfl
                        refine pure_ (i := 9) (N := some 41) (v := ?_) (a' := ?_) #[true, true, true, true, true, true, true, false, true, true, false, false, false, false, false, false] rfl rfl (any_of HT_.out (by kernel_rfl)) (fun _ _ _ h => h) (Or.inl ⟨by rfl, ?_⟩) ?_ ?_
                        rotate_left
                        · intro w'
                          go_simp
                          with_reducible rfl
                        rotate_left
                        · simp only [Act.put, List.setIfInBounds_toArray, List.set_cons_zero, List.set_cons_succ, i64_w, i32_w]
                          rfl
                        refine pure_ (i := 10) (N := some 42) (v := ?_) (a' := ?_) #[true, true, true, true, true, true, true, false, true, true, true, false, false, false, false, false] rfl rfl (any_of HT_.out (by kernel_rfl)) (fun _ _ _ h => h) (Or.inl ⟨by rfl, ?_⟩) ?_ ?_
                        rotate_left
                        · intro w'
                          go_simp
                          with_reducible rfl
                        rotate_left
                        · simp only [Act.put, List.setIfInBounds_toArray, List.set_cons_zero, List.set_cons_succ, i64_w, i32_w]
                          rfl
                        refine take_ (i := 7) (N := some 39) (v := ?_) (a' := ?_) #[true, true, true, true, true, true, true, true, true, true, true, false, false, false, false, false] rfl rfl (take_ofW HT_.out HW_.out (by kernel_rfl)) (fun _ _ _ h => h) (Or.inl ⟨by rfl, ?_⟩) hHeld ?_ ?_
                        rotate_left
                        · rintro w' ⟨s0, s1⟩
                          go_simp
                          with_reducible rfl
                        rotate_left
                        · simp only [Act.put, List.setIfInBounds_toArray, List.set_cons_zero, List.set_cons_succ, i64_w, i32_w]
                          rfl
                        refine take_ (i := 11) (N := some 43) (v := ?_) (a' := ?_) #[true, true, true, true, true, true, true, true, true, true, true, true, false, false, false, false] rfl rfl (take_ofW HT_.out HW_.out (by kernel_rfl)) (fun _ _ _ h => h) (Or.inl ⟨by rfl, ?_⟩) hHeld ?_ ?_
                        rotate_left
                        · rintro w' ⟨s0, s1⟩
                          go_simp
                          with_reducible rfl
                        rotate_left
                        · simp only [Act.put, List.setIfInBounds_toArray, List.set_cons_zero, List.set_cons_succ, i64_w, i32_w]
                          rfl
                        refine pure_ (i := 12) (N := some 44) (v := ?_) (a' := ?_) #[true, true, true, true, true, true, true, true, true, true, true, true, true, false, false, false] rfl rfl (any_of HT_.out (by kernel_rfl)) (fun _ _ _ h => h) (Or.inl ⟨by rfl, ?_⟩) ?_ ?_
                        rotate_left
                        · intro w'
                          go_simp
                          with_reducible rfl
                        rotate_left
                        · simp only [Act.put, List.setIfInBounds_toArray, List.set_cons_zero, List.set_cons_succ, i64_w, i32_w]
                          rfl
                        refine last_ (i := 13) (N := none) #[true, true, true, true, true, true, true, true, true, true, true, true, true, true, false, false] rfl rfl (one_of HT_.out (by kernel_rfl)) (by decide) (fun K hK => ?_)
                        refine skip_ (w1 := ?_) (by rfl) rfl ?_ ?_
                        rotate_left
                        · go_simp
                          rfl
                        refine hK.out _ _ ?_
                        clear hK K
                        refine pure_ (i := 14) (N := some 45) (v := ?_) (a' := ?_) #[true, true, true, true, true, true, true, true, true, true, true, true, true, true, true, false] rfl rfl (any_of HT_.out (by kernel_rfl)) (fun _ _ _ h => h) (Or.inl ⟨by rfl, ?_⟩) ?_ ?_
                        rotate_left
                        · intro w'
                          go_simp
                          with_reducible rfl
                        rotate_left
                        · simp only [Act.put, List.setIfInBounds_toArray, List.set_cons_zero, List.set_cons_succ, i64_w, i32_w]
                          rfl
                        refine last_ (i := 15) (N := none) #[true, true, true, true, true, true, true, true, true, true, true, true, true, true, true, true] rfl rfl (one_of HT_.out (by kernel_rfl)) (by decide) (fun K hK => ?_)
                        refine skip_ (w1 := ?_) (by rfl) rfl ?_ ?_
                        rotate_left
                        · go_simp
                          rfl
                        refine hK.out _ _ ?_
                        clear hK K
                        refine done_ (done_of HT_.out (by kernel_rfl)) ?_
                        try go_wp2
                        (try simp only [← hl3_2])
                        go_roundg k2
                        case measure => have := HK1.out; have := HK2.out; omega
                        case rel => exact ⟨(y203), (wrap64 (x5_2 + 1)), (wrap64 (x6_2 - 1)), (by first | rfl | (simp; done) | (simp [*]; done)), (by first | rfl | (simp; done) | (simp [*]; done)), H', ⟨by have := HK1.out; have := HK2.out; omega⟩, ⟨by (try simp only [hl3_2]); (with_reducible repeat (first | apply Kd.R_alloc | apply Kd.R_drewN | apply Kd.R_drew)); exact HQ20.out⟩, ⟨by repeat (first | (with_reducible first | exact HB.out | apply below_alloc | apply pw_below_drewN | apply below_drew1 | refine below_set ?_ GB16.out | refine below_set ?_ GB16.out) | exact HB.out)⟩⟩
                      · rw [if_neg c15] at H
                        exact absurd H (by simp)
                    · rw [if_neg c14] at H
                      exact absurd H (by simp)
                  · rw [if_neg c13] at H
                    exact absurd H (by simp)
                · rw [if_neg c12] at H
                  exact absurd H (by simp)
              · rw [if_neg c11] at H
                have c11b0 : decide (x5_2 < x6_2) = false := decide_eq_false c11
                clear c11
                obtain rfl := Option.some.inj H
                have hcv21 := own_string (P := Tryd.prog) Tryd.underlying34 Tryd.underlying5 Tryd.underlying9 (Kd.own_of_R HO_3.out)
                go_wp2
                go_ret
                exact ⟨by first | rfl | (simp [errW_none, errW_some] <;> rfl) | (simp [*, errW_none, errW_some] <;> rfl) | (simp (disch := omega) only [wrap64_id] <;> rfl), by repeat (first | (with_reducible first | exact HB.out | apply below_alloc | apply pw_below_drewN | apply below_drew1) | exact HB.out)⟩

/-! ### laws_mtKeyOf: function 5 -/
def laws_mtKeyOf.f (k : Nat) (a0 : Int) (a1 : Int) : Option (ByteArray) := if a0 = 6 then ((spec_Decimal.f k (IntKind.u64.wrap (a1))).bind fun t204 => (if 3 + t204.size ≤ 9223372036854775807 then (some ((⟨#[97, 114, 103]⟩ : ByteArray) ++ t204)) else (none))) else (if a0 = 7 then ((spec_Decimal.f k (IntKind.u64.wrap (a1))).bind fun t205 => (if 3 + t205.size ≤ 9223372036854775807 then (if ((⟨#[97, 114, 103]⟩ : ByteArray) ++ t205).size + 4 ≤ 9223372036854775807 then (some (((⟨#[97, 114, 103]⟩ : ByteArray) ++ t205) ++ (⟨#[112, 97, 116, 104]⟩ : ByteArray))) else (none)) else (none))) else ((some (([(⟨#[115, 101, 110, 100, 101, 114]⟩ : ByteArray), (⟨#[105, 110, 116, 101, 114, 102, 97, 99, 101]⟩ : ByteArray), (⟨#[109, 101, 109, 98, 101, 114]⟩ : ByteArray), (⟨#[112, 97, 116, 104]⟩ : ByteArray), (⟨#[112, 97, 116, 104, 95, 110, 97, 109, 101, 115, 112, 97, 99, 101]⟩ : ByteArray), (⟨#[100, 101, 115, 116, 105, 110, 97, 116, 105, 111, 110]⟩ : ByteArray), (⟨#[]⟩ : ByteArray), (⟨#[]⟩ : ByteArray), (⟨#[97, 114, 103, 48, 110, 97, 109, 101, 115, 112, 97, 99, 101]⟩ : ByteArray), (⟨#[101, 97, 118, 101, 115, 100, 114, 111, 112]⟩ : ByteArray)] : List ByteArray) : List ByteArray)).bind fun y206 => (if 0 ≤ a0 then (if a0 < (y206.length : Int) then (some (rdOf ByteArray.empty y206 a0)) else (none)) else (none))))
theorem laws_mtKeyOf.mono : ∀ a0 a1 k, LeO (laws_mtKeyOf.f k a0 a1) (laws_mtKeyOf.f (k + 1) a0 a1) := by
  intro a0 a1 k
  unfold laws_mtKeyOf.f
  repeat' first
      | (with_reducible exact spec_Decimal.mono _ _)
      | (with_reducible exact LeO.refl _)
      | (with_reducible exact LeO.none _)
      | (with_reducible refine LeO.ite ?_ ?_)
      | (with_reducible refine LeO.bind ?_ (fun _ => ?_))
      | exact spec_Decimal.mono _ _
      | exact LeO.none _
      | refine LeO.ite ?_ ?_
      | refine LeO.bind ?_ (fun _ => ?_)
set_option maxHeartbeats 8000000 in
set_option maxRecDepth 100000 in
theorem laws_mtKeyOf.calls (k : Nat) (a0 : Int) (a1 : Int) (r : ByteArray) (w : World) (h : laws_mtKeyOf.f k a0 a1 = some r) :
    Calls Tryd.prog 5 #[.int .i64 a0, .int .i64 a1] w fun e w' => e = .returned (.string r) ∧ Below w.heap.size w w' := by
  have HB := Aside0.mk (Below.refl w.heap.size w)
  have H : (if a0 = 6 then ((spec_Decimal.f k (IntKind.u64.wrap (a1))).bind fun t204 => (if 3 + t204.size ≤ 9223372036854775807 then (some ((⟨#[97, 114, 103]⟩ : ByteArray) ++ t204)) else (none))) else (if a0 = 7 then ((spec_Decimal.f k (IntKind.u64.wrap (a1))).bind fun t205 => (if 3 + t205.size ≤ 9223372036854775807 then (if ((⟨#[97, 114, 103]⟩ : ByteArray) ++ t205).size + 4 ≤ 9223372036854775807 then (some (((⟨#[97, 114, 103]⟩ : ByteArray) ++ t205) ++ (⟨#[112, 97, 116, 104]⟩ : ByteArray))) else (none)) else (none))) else ((some (([(⟨#[115, 101, 110, 100, 101, 114]⟩ : ByteArray), (⟨#[105, 110, 116, 101, 114, 102, 97, 99, 101]⟩ : ByteArray), (⟨#[109, 101, 109, 98, 101, 114]⟩ : ByteArray), (⟨#[112, 97, 116, 104]⟩ : ByteArray), (⟨#[112, 97, 116, 104, 95, 110, 97, 109, 101, 115, 112, 97, 99, 101]⟩ : ByteArray), (⟨#[100, 101, 115, 116, 105, 110, 97, 116, 105, 111, 110]⟩ : ByteArray), (⟨#[]⟩ : ByteArray), (⟨#[]⟩ : ByteArray), (⟨#[97, 114, 103, 48, 110, 97, 109, 101, 115, 112, 97, 99, 101]⟩ : ByteArray), (⟨#[101, 97, 118, 101, 115, 100, 114, 111, 112]⟩ : ByteArray)] : List ByteArray) : List ByteArray)).bind fun y206 => (if 0 ≤ a0 then (if a0 < (y206.length : Int) then (some (rdOf ByteArray.empty y206 a0)) else (none)) else (none))))) = some r := h
  clear h
  by_cases c3 : a0 = 6
  · rw [if_pos c3] at H
    have c3b0 : (a0 == 6) = true := beq_iff_eq.mpr c3
    have c3b1 : (a0 != 6) = false := bne_eq_false_iff_eq.mpr c3
    clear c3
    replace H := Option.bind_eq_some_iff.mp H
    obtain ⟨t204, A40, H⟩ := H
    replace H : (if 3 + t204.size ≤ 9223372036854775807 then (some ((⟨#[97, 114, 103]⟩ : ByteArray) ++ t204)) else (none)) = some r := H
    have A4 := Aside0.mk A40
    clear A40
    by_cases c5 : 3 + t204.size ≤ 9223372036854775807
    · rw [if_pos c5] at H
      have c5b0 := eq_true c5
      have c5b1 : decide (3 + t204.size ≤ 9223372036854775807) = true := decide_eq_true c5
      try have c5b2 : (9223372036854775807 < 3 + t204.size) = False := eq_false (Nat.not_lt.2 c5)
      obtain rfl := Option.some.inj H
      go_enter Tryd.func5, Tryd.ntmps5
      go_wp2_with (first | ((with_reducible refine gate_callee (f := 7) rfl ?_); refine goesL_ (some 10) rfl rfl Tryd.func7 (by kernel_rfl) rfl #[.int .u64 (IntKind.u64.wrap (a1))] rfl (by (try simp only [List.map_toArray, List.map_cons, List.map_nil]); first | done | rfl | (simp only [List.length_drop, List.length_take]; rfl)) ?_; (with_reducible refine (spec_Decimal.calls k (IntKind.u64.wrap (a1)) t204 _ A4.out).mono ?_); rintro e w6 ⟨rfl, hb⟩; refine ⟨_, rfl, ?_⟩; have n0_ := Aside0.mk (below_step (by repeat (first | (with_reducible first | exact HB.out | apply below_alloc | apply pw_below_drewN | apply below_drew1) | exact HB.out)) hb); clear HB; have HB := n0_; clear n0_; (try clear hb); (try clear hb2); (try clear hk); (try clear hi)))
      go_ret
      exact ⟨by first | rfl | (simp [errW_none, errW_some] <;> rfl) | (simp [*, errW_none, errW_some] <;> rfl) | (simp (disch := omega) only [wrap64_id] <;> rfl), by repeat (first | (with_reducible first | exact HB.out | apply below_alloc | apply pw_below_drewN | apply below_drew1) | exact HB.out)⟩
    · rw [if_neg c5] at H
      exact absurd H (by simp)
  · rw [if_neg c3] at H
    have c3b0 : (a0 == 6) = false := beq_eq_false_iff_ne.mpr c3
    have c3b1 : (a0 != 6) = true := bne_iff_ne.mpr c3
    by_cases c7 : a0 = 7
    · rw [if_pos c7] at H
      have c7b0 : (a0 == 7) = true := beq_iff_eq.mpr c7
      have c7b1 : (a0 != 7) = false := bne_eq_false_iff_eq.mpr c7
      clear c7
      replace H := Option.bind_eq_some_iff.mp H
      obtain ⟨t205, A80, H⟩ := H
      replace H : (if 3 + t205.size ≤ 9223372036854775807 then (if ((⟨#[97, 114, 103]⟩ : ByteArray) ++ t205).size + 4 ≤ 9223372036854775807 then (some (((⟨#[97, 114, 103]⟩ : ByteArray) ++ t205) ++ (⟨#[112, 97, 116, 104]⟩ : ByteArray))) else (none)) else (none)) = some r := H
      have A8 := Aside0.mk A80
      clear A80
      by_cases c9 : 3 + t205.size ≤ 9223372036854775807
      · rw [if_pos c9] at H
        have c9b0 := eq_true c9
        have c9b1 : decide (3 + t205.size ≤ 9223372036854775807) = true := decide_eq_true c9
        try have c9b2 : (9223372036854775807 < 3 + t205.size) = False := eq_false (Nat.not_lt.2 c9)
        by_cases c10 : ((⟨#[97, 114, 103]⟩ : ByteArray) ++ t205).size + 4 ≤ 9223372036854775807
        · rw [if_pos c10] at H
          have c10b0 := eq_true c10
          have c10b1 : decide (((⟨#[97, 114, 103]⟩ : ByteArray) ++ t205).size + 4 ≤ 9223372036854775807) = true := decide_eq_true c10
          try have c10b2 : (9223372036854775807 < ((⟨#[97, 114, 103]⟩ : ByteArray) ++ t205).size + 4) = False := eq_false (Nat.not_lt.2 c10)
          (try have c10e : 3 + t205.size + 4 ≤ 9223372036854775807 := by (have h_ := c10; simp only [ByteArray.size_append] at h_; exact h_))
          (try have c10e0 := eq_true c10e)
          (try have c10e1 : decide (3 + t205.size + 4 ≤ 9223372036854775807) = true := decide_eq_true c10e)
          (try have c10e2 : (9223372036854775807 < 3 + t205.size + 4) = False := eq_false (Nat.not_lt.2 c10e))
          obtain rfl := Option.some.inj H
          go_enter Tryd.func5, Tryd.ntmps5
          go_wp2_with (first | ((with_reducible refine gate_callee (f := 7) rfl ?_); refine goesL_ (some 16) rfl rfl Tryd.func7 (by kernel_rfl) rfl #[.int .u64 (IntKind.u64.wrap (a1))] rfl (by (try simp only [List.map_toArray, List.map_cons, List.map_nil]); first | done | rfl | (simp only [List.length_drop, List.length_take]; rfl)) ?_; (with_reducible refine (spec_Decimal.calls k (IntKind.u64.wrap (a1)) t205 _ A8.out).mono ?_); rintro e w11 ⟨rfl, hb⟩; refine ⟨_, rfl, ?_⟩; have n0_ := Aside0.mk (below_step (by repeat (first | (with_reducible first | exact HB.out | apply below_alloc | apply pw_below_drewN | apply below_drew1) | exact HB.out)) hb); clear HB; have HB := n0_; clear n0_; (try clear hb); (try clear hb2); (try clear hk); (try clear hi)))
          go_ret
          exact ⟨by first | rfl | (simp [errW_none, errW_some] <;> rfl) | (simp [*, errW_none, errW_some] <;> rfl) | (simp (disch := omega) only [wrap64_id] <;> rfl), by repeat (first | (with_reducible first | exact HB.out | apply below_alloc | apply pw_below_drewN | apply below_drew1) | exact HB.out)⟩
        · rw [if_neg c10] at H
          exact absurd H (by simp)
      · rw [if_neg c9] at H
        exact absurd H (by simp)
    · rw [if_neg c7] at H
      have c7b0 : (a0 == 7) = false := beq_eq_false_iff_ne.mpr c7
      have c7b1 : (a0 != 7) = true := bne_iff_ne.mpr c7
      obtain ⟨y206, hy206⟩ : ∃ y_ : List ByteArray, y_ = (([(⟨#[115, 101, 110, 100, 101, 114]⟩ : ByteArray), (⟨#[105, 110, 116, 101, 114, 102, 97, 99, 101]⟩ : ByteArray), (⟨#[109, 101, 109, 98, 101, 114]⟩ : ByteArray), (⟨#[112, 97, 116, 104]⟩ : ByteArray), (⟨#[112, 97, 116, 104, 95, 110, 97, 109, 101, 115, 112, 97, 99, 101]⟩ : ByteArray), (⟨#[100, 101, 115, 116, 105, 110, 97, 116, 105, 111, 110]⟩ : ByteArray), (⟨#[]⟩ : ByteArray), (⟨#[]⟩ : ByteArray), (⟨#[97, 114, 103, 48, 110, 97, 109, 101, 115, 112, 97, 99, 101]⟩ : ByteArray), (⟨#[101, 97, 118, 101, 115, 100, 114, 111, 112]⟩ : ByteArray)] : List ByteArray)) := ⟨_, rfl⟩
      replace H : (if 0 ≤ a0 then (if a0 < (y206.length : Int) then (some (rdOf ByteArray.empty y206 a0)) else (none)) else (none)) = some r := by first | (rw [hy206]; with_reducible exact H) | (have H2_ := (Option.bind_some _ _).symm.trans H; rw [hy206]; with_reducible exact H2_) | (have H2_ := (Option.bind_some _ _).symm.trans H; with_reducible exact H2_) | with_reducible exact H | (rw [hy206]; exact H) | exact H
      have Ny206 := Aside0.mk hy206
      clear hy206
      by_cases c12 : 0 ≤ a0
      · rw [if_pos c12] at H
        have c12b0 : decide (0 ≤ a0) = true := decide_eq_true c12
        clear c12
        by_cases c13 : a0 < (y206.length : Int)
        · rw [if_pos c13] at H
          have c13b0 : decide (a0 < (y206.length : Int)) = true := decide_eq_true c13
          clear c13
          obtain rfl := Option.some.inj H
          go_enter Tryd.func5, Tryd.ntmps5
          go_wp2_with (first | ((with_reducible refine gate_dst (N := 19) rfl ?_); refine Kd.R_lit Kd.string _ 9 ?hg (N := 19) ?hd (xs := ([(⟨#[115, 101, 110, 100, 101, 114]⟩ : ByteArray), (⟨#[105, 110, 116, 101, 114, 102, 97, 99, 101]⟩ : ByteArray), (⟨#[109, 101, 109, 98, 101, 114]⟩ : ByteArray), (⟨#[112, 97, 116, 104]⟩ : ByteArray), (⟨#[112, 97, 116, 104, 95, 110, 97, 109, 101, 115, 112, 97, 99, 101]⟩ : ByteArray), (⟨#[100, 101, 115, 116, 105, 110, 97, 116, 105, 111, 110]⟩ : ByteArray), (⟨#[]⟩ : ByteArray), (⟨#[]⟩ : ByteArray), (⟨#[97, 114, 103, 48, 110, 97, 109, 101, 115, 112, 97, 99, 101]⟩ : ByteArray), (⟨#[101, 97, 118, 101, 115, 100, 114, 111, 112]⟩ : ByteArray)] : List ByteArray)) (inner := [.string (⟨#[115, 101, 110, 100, 101, 114]⟩ : ByteArray), .string (⟨#[105, 110, 116, 101, 114, 102, 97, 99, 101]⟩ : ByteArray), .string (⟨#[109, 101, 109, 98, 101, 114]⟩ : ByteArray), .string (⟨#[112, 97, 116, 104]⟩ : ByteArray), .string (⟨#[112, 97, 116, 104, 95, 110, 97, 109, 101, 115, 112, 97, 99, 101]⟩ : ByteArray), .string (⟨#[100, 101, 115, 116, 105, 110, 97, 116, 105, 111, 110]⟩ : ByteArray), .string (⟨#[]⟩ : ByteArray), .string (⟨#[]⟩ : ByteArray), .string (⟨#[97, 114, 103, 48, 110, 97, 109, 101, 115, 112, 97, 99, 101]⟩ : ByteArray), .string (⟨#[101, 97, 118, 101, 115, 100, 114, 111, 112]⟩ : ByteArray)]) (ok := fun _ => True) (okp := fun _ => True) ?hr ?hp (fun _ hk => hk) trivial (Below.refl _ _) (Nat.le_refl _) (by simp) ?_; (case hd => rfl); (case hg => rfl); (case hr => first | (go_simp; done) | (go_simp; rfl)); (case hp => exact (Reps.one (show Kd.M Kd.string _ _ _ (⟨#[115, 101, 110, 100, 101, 114]⟩ : ByteArray) [.string (⟨#[115, 101, 110, 100, 101, 114]⟩ : ByteArray)] from rfl) (Reps.one (show Kd.M Kd.string _ _ _ (⟨#[105, 110, 116, 101, 114, 102, 97, 99, 101]⟩ : ByteArray) [.string (⟨#[105, 110, 116, 101, 114, 102, 97, 99, 101]⟩ : ByteArray)] from rfl) (Reps.one (show Kd.M Kd.string _ _ _ (⟨#[109, 101, 109, 98, 101, 114]⟩ : ByteArray) [.string (⟨#[109, 101, 109, 98, 101, 114]⟩ : ByteArray)] from rfl) (Reps.one (show Kd.M Kd.string _ _ _ (⟨#[112, 97, 116, 104]⟩ : ByteArray) [.string (⟨#[112, 97, 116, 104]⟩ : ByteArray)] from rfl) (Reps.one (show Kd.M Kd.string _ _ _ (⟨#[112, 97, 116, 104, 95, 110, 97, 109, 101, 115, 112, 97, 99, 101]⟩ : ByteArray) [.string (⟨#[112, 97, 116, 104, 95, 110, 97, 109, 101, 115, 112, 97, 99, 101]⟩ : ByteArray)] from rfl) (Reps.one (show Kd.M Kd.string _ _ _ (⟨#[100, 101, 115, 116, 105, 110, 97, 116, 105, 111, 110]⟩ : ByteArray) [.string (⟨#[100, 101, 115, 116, 105, 110, 97, 116, 105, 111, 110]⟩ : ByteArray)] from rfl) (Reps.one (show Kd.M Kd.string _ _ _ (⟨#[]⟩ : ByteArray) [.string (⟨#[]⟩ : ByteArray)] from rfl) (Reps.one (show Kd.M Kd.string _ _ _ (⟨#[]⟩ : ByteArray) [.string (⟨#[]⟩ : ByteArray)] from rfl) (Reps.one (show Kd.M Kd.string _ _ _ (⟨#[97, 114, 103, 48, 110, 97, 109, 101, 115, 112, 97, 99, 101]⟩ : ByteArray) [.string (⟨#[97, 114, 103, 48, 110, 97, 109, 101, 115, 112, 97, 99, 101]⟩ : ByteArray)] from rfl) (Reps.one (show Kd.M Kd.string _ _ _ (⟨#[101, 97, 118, 101, 115, 100, 114, 111, 112]⟩ : ByteArray) [.string (⟨#[101, 97, 118, 101, 115, 100, 114, 111, 112]⟩ : ByteArray)] from rfl) (Reps.none _ _)))))))))))); intro v207 w14 ho15 hb hg_ hnew_; clear hg_ hnew_; (first | rw [← Ny206.out] at ho15 | (simp only [Int.reduceToNat] at ho15; rw [← Ny206.out] at ho15)); have n0_ := Aside0.mk (Kd.R_lower ho15 (below_size (by repeat (first | (with_reducible first | exact HB.out | apply below_alloc | apply pw_below_drewN | apply below_drew1) | exact HB.out)))); have n1_ := Aside0.mk (below_step (by repeat (first | (with_reducible first | exact HB.out | apply below_alloc | apply pw_below_drewN | apply below_drew1) | exact HB.out)) hb); clear HB; have HO208 := n0_; have HB := n1_; clear n0_ n1_; clear hb ho15; obtain ⟨Ao16, co16, eo16⟩ := Kd.R_slice HO208.out; subst eo16; have p209 : 0 ≤ (a0 : Int) := of_decide_eq_true (by first | (with_reducible assumption) | assumption); have q209 : a0 < (y206.length : Int) := of_decide_eq_true (by first | (with_reducible assumption) | assumption); obtain ⟨ad209, e209, hx209_0⟩ := Kd.at_string (Kd.R_reads' HO208.out).2.2 a0 p209 q209; cases e209; replace p209 := eq_true p209; replace q209 := eq_true q209))
          go_ret
          exact ⟨by first | rfl | (simp [errW_none, errW_some] <;> rfl) | (simp [*, errW_none, errW_some] <;> rfl) | (simp (disch := omega) only [wrap64_id] <;> rfl), by repeat (first | (with_reducible first | exact HB.out | apply below_alloc | apply pw_below_drewN | apply below_drew1) | exact HB.out)⟩
        · rw [if_neg c13] at H
          exact absurd H (by simp)
      · rw [if_neg c12] at H
        exact absurd H (by simp)

/-! ### laws_FnMtWith: function 3 -/
mutual
def laws_FnMtWith.j0 : Nat → Int → Int → ByteArray → Bool → Option (Bool)
  | 0, _, _, _, _ => none
  | k + 1, x0, x1, x2, x24 => if x24 = true then (some true) else (if x0 = 9 then (laws_FnMtWith.j1 k x0 x1 x2 x2 (x2.toList != ([116, 114, 117, 101] : List UInt8))) else (laws_FnMtWith.j1 k x0 x1 x2 x2 false))
def laws_FnMtWith.j1 : Nat → Int → Int → ByteArray → ByteArray → Bool → Option (Bool)
  | 0, _, _, _, _, _ => none
  | k + 1, x0, x1, x2, x7, x31 => if x31 = true then ((impl_MtWith.f k (wrap64 (x0)) (wrap64 (x1)) x2).bind fun bt210 => (if bt210.2.2 = true then ((laws_mtKeyOf.f k (wrap64 (x0)) (wrap64 (x1))).bind fun t213 => (if bt210.1.toList = t213.toList then (some (bt210.2.1.toList == ([102, 97, 108, 115, 101] : List UInt8))) else (some false))) else (some false))) else ((impl_MtWith.f k (wrap64 (x0)) (wrap64 (x1)) x2).bind fun bt214 => (if bt214.2.2 = true then ((laws_mtKeyOf.f k (wrap64 (x0)) (wrap64 (x1))).bind fun t217 => (if bt214.1.toList = t217.toList then (some (bt214.2.1.toList == x7.toList)) else (some false))) else (some false)))
end
def laws_FnMtWith.f (k : Nat) (a0 : Int) (a1 : Int) (a2 : ByteArray) : Option (Bool) := if (a2.size : Int) > 2147483647 then (some true) else (if a0 > 9 then (laws_FnMtWith.j0 k a0 a1 a2 true) else (if a1 > 63 then (laws_FnMtWith.j0 k a0 a1 a2 true) else (laws_FnMtWith.j0 k a0 a1 a2 (decide ((a2.size : Int) > 4096)))))
theorem laws_FnMtWith.mono_l : ∀ k, (∀ y0 y1 y2 y3, LeO (laws_FnMtWith.j0 k y0 y1 y2 y3) (laws_FnMtWith.j0 (k + 1) y0 y1 y2 y3)) ∧ (∀ y0 y1 y2 y3 y4, LeO (laws_FnMtWith.j1 k y0 y1 y2 y3 y4) (laws_FnMtWith.j1 (k + 1) y0 y1 y2 y3 y4))
  | 0 => ⟨fun _ _ _ _ r h => by simp [laws_FnMtWith.j0] at h, fun _ _ _ _ _ r h => by simp [laws_FnMtWith.j1] at h⟩
  | k + 1 => by
    obtain ⟨ih0, ih1⟩ := laws_FnMtWith.mono_l k
    refine ⟨?_, ?_⟩
    · intro y0 y1 y2 y3
      unfold laws_FnMtWith.j0
      repeat' first
      | (with_reducible exact ih0 _ _ _ _)
      | (with_reducible exact ih1 _ _ _ _ _)
      | (with_reducible exact impl_MtWith.mono _ _ _ _)
      | (with_reducible exact laws_mtKeyOf.mono _ _ _)
      | (with_reducible exact LeO.refl _)
      | (with_reducible exact LeO.none _)
      | (with_reducible refine LeO.ite ?_ ?_)
      | (with_reducible refine LeO.bind ?_ (fun _ => ?_))
      | exact ih0 _ _ _ _
      | exact ih1 _ _ _ _ _
      | exact impl_MtWith.mono _ _ _ _
      | exact laws_mtKeyOf.mono _ _ _
      | exact LeO.none _
      | refine LeO.ite ?_ ?_
      | refine LeO.bind ?_ (fun _ => ?_)
    · intro y0 y1 y2 y3 y4
      unfold laws_FnMtWith.j1
      repeat' first
      | (with_reducible exact ih0 _ _ _ _)
      | (with_reducible exact ih1 _ _ _ _ _)
      | (with_reducible exact impl_MtWith.mono _ _ _ _)
      | (with_reducible exact laws_mtKeyOf.mono _ _ _)
      | (with_reducible exact LeO.refl _)
      | (with_reducible exact LeO.none _)
      | (with_reducible refine LeO.ite ?_ ?_)
      | (with_reducible refine LeO.bind ?_ (fun _ => ?_))
      | exact ih0 _ _ _ _
      | exact ih1 _ _ _ _ _
      | exact impl_MtWith.mono _ _ _ _
      | exact laws_mtKeyOf.mono _ _ _
      | exact LeO.none _
      | refine LeO.ite ?_ ?_
      | refine LeO.bind ?_ (fun _ => ?_)
theorem laws_FnMtWith.mono : ∀ a0 a1 a2 k, LeO (laws_FnMtWith.f k a0 a1 a2) (laws_FnMtWith.f (k + 1) a0 a1 a2) := by
  intro a0 a1 a2 k
  obtain ⟨ih0, ih1⟩ := laws_FnMtWith.mono_l k
  unfold laws_FnMtWith.f
  repeat' first
      | (with_reducible exact ih0 _ _ _ _)
      | (with_reducible exact ih1 _ _ _ _ _)
      | (with_reducible exact impl_MtWith.mono _ _ _ _)
      | (with_reducible exact laws_mtKeyOf.mono _ _ _)
      | (with_reducible exact LeO.refl _)
      | (with_reducible exact LeO.none _)
      | (with_reducible refine LeO.ite ?_ ?_)
      | (with_reducible refine LeO.bind ?_ (fun _ => ?_))
      | exact ih0 _ _ _ _
      | exact ih1 _ _ _ _ _
      | exact impl_MtWith.mono _ _ _ _
      | exact laws_mtKeyOf.mono _ _ _
      | exact LeO.none _
      | refine LeO.ite ?_ ?_
      | refine LeO.bind ?_ (fun _ => ?_)
set_option maxHeartbeats 8000000 in
set_option maxRecDepth 100000 in
theorem laws_FnMtWith.calls (k : Nat) (a0 : Int) (a1 : Int) (a2 : ByteArray) (r : Bool) (w : World) (h : laws_FnMtWith.f k a0 a1 a2 = some r) :
    Calls Tryd.prog 3 #[.int .u8 a0, .int .u8 a1, .string a2] w fun e w' => e = .returned (.bool r) ∧ Below w.heap.size w w' := by
  have HB := Aside0.mk (Below.refl w.heap.size w)
  have H : (if (a2.size : Int) > 2147483647 then (some true) else (if a0 > 9 then (laws_FnMtWith.j0 k a0 a1 a2 true) else (if a1 > 63 then (laws_FnMtWith.j0 k a0 a1 a2 true) else (laws_FnMtWith.j0 k a0 a1 a2 (decide ((a2.size : Int) > 4096)))))) = some r := h
  clear h
  by_cases c4 : (a2.size : Int) > 2147483647
  · rw [if_pos c4] at H
    have c4b0 : decide (2147483647 < (a2.size : Int)) = true := decide_eq_true c4
    have c4b1 : decide (2147483647 < a2.size) = true := decide_eq_true (by omega)
    clear c4
    obtain rfl := Option.some.inj H
    go_enter Tryd.func3, Tryd.ntmps3
    go_wp2
    go_ret
    exact ⟨by first | rfl | (simp [errW_none, errW_some] <;> rfl) | (simp [*, errW_none, errW_some] <;> rfl) | (simp (disch := omega) only [wrap64_id] <;> rfl), by repeat (first | (with_reducible first | exact HB.out | apply below_alloc | apply pw_below_drewN | apply below_drew1) | exact HB.out)⟩
  · rw [if_neg c4] at H
    have c4b0 : decide (2147483647 < (a2.size : Int)) = false := decide_eq_false c4
    have c4b1 : decide (2147483647 < a2.size) = false := decide_eq_false (by omega)
    clear c4
    have HC5 := Aside0.mk H
    clear H
    go_enter Tryd.func3, Tryd.ntmps3
    go_upto_region 3 with (fail)
    go_cut [24] (fun v24 wc => ∃ (kq : Nat) (x24_4 : Bool), v24 = .bool x24_4 ∧ Aside0 (laws_FnMtWith.j0 kq a0 a1 a2 x24_4 = some r) ∧ Aside0 (kq ≤ k) ∧ Aside0 (Below w.heap.size w wc))
    case first =>
      have H := HC5.out
      clear HC5
      by_cases c6 : a0 > 9
      · rw [if_pos c6] at H
        have c6b0 : decide (9 < a0) = true := decide_eq_true c6
        clear c6
        (first | rw [c6b0] | (simp only [i64_w, i32_w]; rw [c6b0]) | skip)
        have H' := Aside0.mk H
        clear H
        go_wp2
        go_meet
        case rel => exact ⟨_, (true), (by first | rfl | (simp; done) | (simp [*]; done)), H', ⟨by first | omega | exact Nat.le_refl _⟩, ⟨by repeat (first | (with_reducible first | exact HB.out | apply below_alloc | apply pw_below_drewN | apply below_drew1) | exact HB.out)⟩⟩
      · rw [if_neg c6] at H
        have c6b0 : decide (9 < a0) = false := decide_eq_false c6
        clear c6
        (first | rw [c6b0] | (simp only [i64_w, i32_w]; rw [c6b0]) | skip)
        by_cases c7 : a1 > 63
        · rw [if_pos c7] at H
          have c7b0 : decide (63 < a1) = true := decide_eq_true c7
          clear c7
          have H' := Aside0.mk H
          clear H
          go_wp2
          go_meet
          case rel => exact ⟨_, (true), (by first | rfl | (simp; done) | (simp [*]; done)), H', ⟨by first | omega | exact Nat.le_refl _⟩, ⟨by repeat (first | (with_reducible first | exact HB.out | apply below_alloc | apply pw_below_drewN | apply below_drew1) | exact HB.out)⟩⟩
        · rw [if_neg c7] at H
          have c7b0 : decide (63 < a1) = false := decide_eq_false c7
          clear c7
          have H' := Aside0.mk H
          clear H
          go_wp2
          go_meet
          case rel => exact ⟨_, (decide ((a2.size : Int) > 4096)), (by first | rfl | (simp; done) | (simp [*]; done)), H', ⟨by first | omega | exact Nat.le_refl _⟩, ⟨by repeat (first | (with_reducible first | exact HB.out | apply below_alloc | apply pw_below_drewN | apply below_drew1) | exact HB.out)⟩⟩
    case rest =>
      clear HC5
      try clear p2
      try clear c3
      try clear c4
      try clear c4b0
      try clear c4b1
      try clear c6
      try clear c6b0
      try clear p6
      try clear c7
      try clear c7b0
      obtain ⟨kq, x24_4, rfl, HA, HJ4, HB⟩ := hcut
      cases kq with
      | zero => exact absurd HA.out (by simp [laws_FnMtWith.j0])
      | succ kj4 =>
        have H := HA.out
        clear HA
        simp only [laws_FnMtWith.j0] at H
        by_cases c8 : x24_4 = true
        · subst c8
          have H1 : (some true) = some r := by rw [if_pos rfl] at H; exact H
          clear H
          have H := H1
          clear H1
          obtain rfl := Option.some.inj H
          go_wp2
          go_ret
          exact ⟨by first | rfl | (simp [errW_none, errW_some] <;> rfl) | (simp [*, errW_none, errW_some] <;> rfl) | (simp (disch := omega) only [wrap64_id] <;> rfl), by repeat (first | (with_reducible first | exact HB.out | apply below_alloc | apply pw_below_drewN | apply below_drew1) | exact HB.out)⟩
        · replace c8 := Bool.eq_false_iff.mpr c8
          subst c8
          have H1 : (if a0 = 9 then (laws_FnMtWith.j1 kj4 a0 a1 a2 a2 (a2.toList != ([116, 114, 117, 101] : List UInt8))) else (laws_FnMtWith.j1 kj4 a0 a1 a2 a2 false)) = some r := by rw [if_neg (show ¬ (false = true) by decide)] at H; exact H
          clear H
          have H := H1
          clear H1
          have HC9 := Aside0.mk H
          clear H
          go_upto_region 6 with (fail)
          go_cut [31] (fun v31 wc => ∃ (kq : Nat) (x31_8 : Bool), v31 = .bool x31_8 ∧ Aside0 (laws_FnMtWith.j1 kq a0 a1 a2 a2 x31_8 = some r) ∧ Aside0 (kq ≤ kj4) ∧ Aside0 (Below w.heap.size w wc))
          case first =>
            have H := HC9.out
            clear HC9
            by_cases c10 : a0 = 9
            · rw [if_pos c10] at H
              have c10b0 : (a0 == 9) = true := beq_iff_eq.mpr c10
              have c10b1 : (a0 != 9) = false := bne_eq_false_iff_eq.mpr c10
              clear c10
              (first | rw [c10b0] | (simp only [i64_w, i32_w]; rw [c10b0]) | skip)
              have H' := Aside0.mk H
              clear H
              go_wp2
              go_meet
              case rel => exact ⟨_, ((a2.toList != ([116, 114, 117, 101] : List UInt8))), (by first | rfl | (simp; done) | (simp [*]; done)), H', ⟨by have := HJ4.out; first | omega | exact Nat.le_refl _⟩, ⟨by repeat (first | (with_reducible first | exact HB.out | apply below_alloc | apply pw_below_drewN | apply below_drew1) | exact HB.out)⟩⟩
            · rw [if_neg c10] at H
              have c10b0 : (a0 == 9) = false := beq_eq_false_iff_ne.mpr c10
              have c10b1 : (a0 != 9) = true := bne_iff_ne.mpr c10
              (first | rw [c10b0] | (simp only [i64_w, i32_w]; rw [c10b0]) | skip)
              have H' := Aside0.mk H
              clear H
              go_wp2
              go_meet
              case rel => exact ⟨_, (false), (by first | rfl | (simp; done) | (simp [*]; done)), H', ⟨by have := HJ4.out; first | omega | exact Nat.le_refl _⟩, ⟨by repeat (first | (with_reducible first | exact HB.out | apply below_alloc | apply pw_below_drewN | apply below_drew1) | exact HB.out)⟩⟩
          case rest =>
            clear HC9
            try clear c1
            try clear p2
            try clear c3
            try clear c4
            try clear c4b0
            try clear c4b1
            try clear c6
            try clear c6b0
            try clear p6
            try clear c7
            try clear c7b0
            try clear c8
            try clear c10
            try clear c10b0
            try clear c10b1
            try clear p2
            try clear p6
            obtain ⟨kq, x31_8, rfl, HA, HJ8, HB⟩ := hcut
            cases kq with
            | zero => exact absurd HA.out (by simp [laws_FnMtWith.j1])
            | succ kj8 =>
              have H := HA.out
              clear HA
              simp only [laws_FnMtWith.j1] at H
              by_cases c11 : x31_8 = true
              · subst c11
                have H1 : ((impl_MtWith.f kj8 (wrap64 (a0)) (wrap64 (a1)) a2).bind fun bt210 => (if bt210.2.2 = true then ((laws_mtKeyOf.f kj8 (wrap64 (a0)) (wrap64 (a1))).bind fun t213 => (if bt210.1.toList = t213.toList then (some (bt210.2.1.toList == ([102, 97, 108, 115, 101] : List UInt8))) else (some false))) else (some false))) = some r := by rw [if_pos rfl] at H; exact H
                clear H
                have H := H1
                clear H1
                replace H := Option.bind_eq_some_iff.mp H
                obtain ⟨⟨t210, t211, t212⟩, A120, H⟩ := H
                replace H : (if t212 = true then ((laws_mtKeyOf.f kj8 (wrap64 (a0)) (wrap64 (a1))).bind fun t213 => (if t210.toList = t213.toList then (some (t211.toList == ([102, 97, 108, 115, 101] : List UInt8))) else (some false))) else (some false)) = some r := H
                have A12 := Aside0.mk A120
                clear A120
                by_cases c13 : t212 = true
                · subst c13
                  have H1 : ((laws_mtKeyOf.f kj8 (wrap64 (a0)) (wrap64 (a1))).bind fun t213 => (if t210.toList = t213.toList then (some (t211.toList == ([102, 97, 108, 115, 101] : List UInt8))) else (some false))) = some r := by rw [if_pos rfl] at H; exact H
                  clear H
                  have H := H1
                  clear H1
                  replace H := Option.bind_eq_some_iff.mp H
                  obtain ⟨t213, A140, H⟩ := H
                  replace H : (if t210.toList = t213.toList then (some (t211.toList == ([102, 97, 108, 115, 101] : List UInt8))) else (some false)) = some r := H
                  have A14 := Aside0.mk A140
                  clear A140
                  by_cases c15 : t210.toList = t213.toList
                  · rw [if_pos c15] at H
                    have c15b0 : (t210.toList == t213.toList) = true := beq_iff_eq.mpr c15
                    have c15b1 : (t210.toList != t213.toList) = false := bne_eq_false_iff_eq.mpr c15
                    clear c15
                    obtain rfl := Option.some.inj H
                    go_wp2_with (first | ((with_reducible refine gate_callee (f := 4) rfl ?_); refine goesL_ (some 38) rfl rfl Tryd.func4 (by kernel_rfl) rfl #[.int .i64 (wrap64 (a0)), .int .i64 (wrap64 (a1)), .string a2] rfl (by (try simp only [List.map_toArray, List.map_cons, List.map_nil]); first | done | rfl | (simp only [List.length_drop, List.length_take]; rfl)) ?_; (with_reducible refine (impl_MtWith.calls kj8 (wrap64 (a0)) (wrap64 (a1)) a2 t210 t211 true _ A12.out).mono ?_); rintro e w16 ⟨rfl, hb⟩; refine ⟨_, rfl, ?_⟩; have n0_ := Aside0.mk (below_step (by repeat (first | (with_reducible first | exact HB.out | apply below_alloc | apply pw_below_drewN | apply below_drew1) | exact HB.out)) hb); clear HB; have HB := n0_; clear n0_; (try clear hb); (try clear hb2); (try clear hk); (try clear hi)) | (go_at_call 5; (with_reducible refine (laws_mtKeyOf.calls kj8 (wrap64 (a0)) (wrap64 (a1)) t213 _ A14.out).mono ?_); rintro e w17 ⟨rfl, hb⟩; have n0_ := Aside0.mk (below_step (by repeat (first | (with_reducible first | exact HB.out | apply below_alloc | apply pw_below_drewN | apply below_drew1) | exact HB.out)) hb); clear HB; have HB := n0_; clear n0_; (try clear hb); (try clear hb2); (try clear hk); (try clear hi)))
                    go_ret
                    exact ⟨by first | rfl | (simp [errW_none, errW_some] <;> rfl) | (simp [*, errW_none, errW_some] <;> rfl) | (simp (disch := omega) only [wrap64_id] <;> rfl), by repeat (first | (with_reducible first | exact HB.out | apply below_alloc | apply pw_below_drewN | apply below_drew1) | exact HB.out)⟩
                  · rw [if_neg c15] at H
                    have c15b0 : (t210.toList == t213.toList) = false := beq_eq_false_iff_ne.mpr c15
                    have c15b1 : (t210.toList != t213.toList) = true := bne_iff_ne.mpr c15
                    obtain rfl := Option.some.inj H
                    go_wp2_with (first | ((with_reducible refine gate_callee (f := 4) rfl ?_); refine goesL_ (some 38) rfl rfl Tryd.func4 (by kernel_rfl) rfl #[.int .i64 (wrap64 (a0)), .int .i64 (wrap64 (a1)), .string a2] rfl (by (try simp only [List.map_toArray, List.map_cons, List.map_nil]); first | done | rfl | (simp only [List.length_drop, List.length_take]; rfl)) ?_; (with_reducible refine (impl_MtWith.calls kj8 (wrap64 (a0)) (wrap64 (a1)) a2 t210 t211 true _ A12.out).mono ?_); rintro e w18 ⟨rfl, hb⟩; refine ⟨_, rfl, ?_⟩; have n0_ := Aside0.mk (below_step (by repeat (first | (with_reducible first | exact HB.out | apply below_alloc | apply pw_below_drewN | apply below_drew1) | exact HB.out)) hb); clear HB; have HB := n0_; clear n0_; (try clear hb); (try clear hb2); (try clear hk); (try clear hi)) | (go_at_call 5; (with_reducible refine (laws_mtKeyOf.calls kj8 (wrap64 (a0)) (wrap64 (a1)) t213 _ A14.out).mono ?_); rintro e w19 ⟨rfl, hb⟩; have n0_ := Aside0.mk (below_step (by repeat (first | (with_reducible first | exact HB.out | apply below_alloc | apply pw_below_drewN | apply below_drew1) | exact HB.out)) hb); clear HB; have HB := n0_; clear n0_; (try clear hb); (try clear hb2); (try clear hk); (try clear hi)))
                    go_ret
                    exact ⟨by first | rfl | (simp [errW_none, errW_some] <;> rfl) | (simp [*, errW_none, errW_some] <;> rfl) | (simp (disch := omega) only [wrap64_id] <;> rfl), by repeat (first | (with_reducible first | exact HB.out | apply below_alloc | apply pw_below_drewN | apply below_drew1) | exact HB.out)⟩
                · replace c13 := Bool.eq_false_iff.mpr c13
                  subst c13
                  have H1 : (some false) = some r := by rw [if_neg (show ¬ (false = true) by decide)] at H; exact H
                  clear H
                  have H := H1
                  clear H1
                  obtain rfl := Option.some.inj H
                  go_wp2_with (first | ((with_reducible refine gate_callee (f := 4) rfl ?_); refine goesL_ (some 38) rfl rfl Tryd.func4 (by kernel_rfl) rfl #[.int .i64 (wrap64 (a0)), .int .i64 (wrap64 (a1)), .string a2] rfl (by (try simp only [List.map_toArray, List.map_cons, List.map_nil]); first | done | rfl | (simp only [List.length_drop, List.length_take]; rfl)) ?_; (with_reducible refine (impl_MtWith.calls kj8 (wrap64 (a0)) (wrap64 (a1)) a2 t210 t211 false _ A12.out).mono ?_); rintro e w20 ⟨rfl, hb⟩; refine ⟨_, rfl, ?_⟩; have n0_ := Aside0.mk (below_step (by repeat (first | (with_reducible first | exact HB.out | apply below_alloc | apply pw_below_drewN | apply below_drew1) | exact HB.out)) hb); clear HB; have HB := n0_; clear n0_; (try clear hb); (try clear hb2); (try clear hk); (try clear hi)))
                  go_ret
                  exact ⟨by first | rfl | (simp [errW_none, errW_some] <;> rfl) | (simp [*, errW_none, errW_some] <;> rfl) | (simp (disch := omega) only [wrap64_id] <;> rfl), by repeat (first | (with_reducible first | exact HB.out | apply below_alloc | apply pw_below_drewN | apply below_drew1) | exact HB.out)⟩
              · replace c11 := Bool.eq_false_iff.mpr c11
                subst c11
                have H1 : ((impl_MtWith.f kj8 (wrap64 (a0)) (wrap64 (a1)) a2).bind fun bt214 => (if bt214.2.2 = true then ((laws_mtKeyOf.f kj8 (wrap64 (a0)) (wrap64 (a1))).bind fun t217 => (if bt214.1.toList = t217.toList then (some (bt214.2.1.toList == a2.toList)) else (some false))) else (some false))) = some r := by rw [if_neg (show ¬ (false = true) by decide)] at H; exact H
                clear H
                have H := H1
                clear H1
                replace H := Option.bind_eq_some_iff.mp H
                obtain ⟨⟨t214, t215, t216⟩, A210, H⟩ := H
                replace H : (if t216 = true then ((laws_mtKeyOf.f kj8 (wrap64 (a0)) (wrap64 (a1))).bind fun t217 => (if t214.toList = t217.toList then (some (t215.toList == a2.toList)) else (some false))) else (some false)) = some r := H
                have A21 := Aside0.mk A210
                clear A210
                by_cases c22 : t216 = true
                · subst c22
                  have H1 : ((laws_mtKeyOf.f kj8 (wrap64 (a0)) (wrap64 (a1))).bind fun t217 => (if t214.toList = t217.toList then (some (t215.toList == a2.toList)) else (some false))) = some r := by rw [if_pos rfl] at H; exact H
                  clear H
                  have H := H1
                  clear H1
                  replace H := Option.bind_eq_some_iff.mp H
                  obtain ⟨t217, A230, H⟩ := H
                  replace H : (if t214.toList = t217.toList then (some (t215.toList == a2.toList)) else (some false)) = some r := H
                  have A23 := Aside0.mk A230
                  clear A230
                  by_cases c24 : t214.toList = t217.toList
                  · rw [if_pos c24] at H
                    have c24b0 : (t214.toList == t217.toList) = true := beq_iff_eq.mpr c24
                    have c24b1 : (t214.toList != t217.toList) = false := bne_eq_false_iff_eq.mpr c24
                    clear c24
                    obtain rfl := Option.some.inj H
                    go_wp2_with (first | ((with_reducible refine gate_callee (f := 4) rfl ?_); refine goesL_ (some 38) rfl rfl Tryd.func4 (by kernel_rfl) rfl #[.int .i64 (wrap64 (a0)), .int .i64 (wrap64 (a1)), .string a2] rfl (by (try simp only [List.map_toArray, List.map_cons, List.map_nil]); first | done | rfl | (simp only [List.length_drop, List.length_take]; rfl)) ?_; (with_reducible refine (impl_MtWith.calls kj8 (wrap64 (a0)) (wrap64 (a1)) a2 t214 t215 true _ A21.out).mono ?_); rintro e w25 ⟨rfl, hb⟩; refine ⟨_, rfl, ?_⟩; have n0_ := Aside0.mk (below_step (by repeat (first | (with_reducible first | exact HB.out | apply below_alloc | apply pw_below_drewN | apply below_drew1) | exact HB.out)) hb); clear HB; have HB := n0_; clear n0_; (try clear hb); (try clear hb2); (try clear hk); (try clear hi)) | (go_at_call 5; (with_reducible refine (laws_mtKeyOf.calls kj8 (wrap64 (a0)) (wrap64 (a1)) t217 _ A23.out).mono ?_); rintro e w26 ⟨rfl, hb⟩; have n0_ := Aside0.mk (below_step (by repeat (first | (with_reducible first | exact HB.out | apply below_alloc | apply pw_below_drewN | apply below_drew1) | exact HB.out)) hb); clear HB; have HB := n0_; clear n0_; (try clear hb); (try clear hb2); (try clear hk); (try clear hi)))
                    go_ret
                    exact ⟨by first | rfl | (simp [errW_none, errW_some] <;> rfl) | (simp [*, errW_none, errW_some] <;> rfl) | (simp (disch := omega) only [wrap64_id] <;> rfl), by repeat (first | (with_reducible first | exact HB.out | apply below_alloc | apply pw_below_drewN | apply below_drew1) | exact HB.out)⟩
                  · rw [if_neg c24] at H
                    have c24b0 : (t214.toList == t217.toList) = false := beq_eq_false_iff_ne.mpr c24
                    have c24b1 : (t214.toList != t217.toList) = true := bne_iff_ne.mpr c24
                    obtain rfl := Option.some.inj H
                    go_wp2_with (first | ((with_reducible refine gate_callee (f := 4) rfl ?_); refine goesL_ (some 38) rfl rfl Tryd.func4 (by kernel_rfl) rfl #[.int .i64 (wrap64 (a0)), .int .i64 (wrap64 (a1)), .string a2] rfl (by (try simp only [List.map_toArray, List.map_cons, List.map_nil]); first | done | rfl | (simp only [List.length_drop, List.length_take]; rfl)) ?_; (with_reducible refine (impl_MtWith.calls kj8 (wrap64 (a0)) (wrap64 (a1)) a2 t214 t215 true _ A21.out).mono ?_); rintro e w27 ⟨rfl, hb⟩; refine ⟨_, rfl, ?_⟩; have n0_ := Aside0.mk (below_step (by repeat (first | (with_reducible first | exact HB.out | apply below_alloc | apply pw_below_drewN | apply below_drew1) | exact HB.out)) hb); clear HB; have HB := n0_; clear n0_; (try clear hb); (try clear hb2); (try clear hk); (try clear hi)) | (go_at_call 5; (with_reducible refine (laws_mtKeyOf.calls kj8 (wrap64 (a0)) (wrap64 (a1)) t217 _ A23.out).mono ?_); rintro e w28 ⟨rfl, hb⟩; have n0_ := Aside0.mk (below_step (by repeat (first | (with_reducible first | exact HB.out | apply below_alloc | apply pw_below_drewN | apply below_drew1) | exact HB.out)) hb); clear HB; have HB := n0_; clear n0_; (try clear hb); (try clear hb2); (try clear hk); (try clear hi)))
                    go_ret
                    exact ⟨by first | rfl | (simp [errW_none, errW_some] <;> rfl) | (simp [*, errW_none, errW_some] <;> rfl) | (simp (disch := omega) only [wrap64_id] <;> rfl), by repeat (first | (with_reducible first | exact HB.out | apply below_alloc | apply pw_below_drewN | apply below_drew1) | exact HB.out)⟩
                · replace c22 := Bool.eq_false_iff.mpr c22
                  subst c22
                  have H1 : (some false) = some r := by rw [if_neg (show ¬ (false = true) by decide)] at H; exact H
                  clear H
                  have H := H1
                  clear H1
                  obtain rfl := Option.some.inj H
                  go_wp2_with (first | ((with_reducible refine gate_callee (f := 4) rfl ?_); refine goesL_ (some 38) rfl rfl Tryd.func4 (by kernel_rfl) rfl #[.int .i64 (wrap64 (a0)), .int .i64 (wrap64 (a1)), .string a2] rfl (by (try simp only [List.map_toArray, List.map_cons, List.map_nil]); first | done | rfl | (simp only [List.length_drop, List.length_take]; rfl)) ?_; (with_reducible refine (impl_MtWith.calls kj8 (wrap64 (a0)) (wrap64 (a1)) a2 t214 t215 false _ A21.out).mono ?_); rintro e w29 ⟨rfl, hb⟩; refine ⟨_, rfl, ?_⟩; have n0_ := Aside0.mk (below_step (by repeat (first | (with_reducible first | exact HB.out | apply below_alloc | apply pw_below_drewN | apply below_drew1) | exact HB.out)) hb); clear HB; have HB := n0_; clear n0_; (try clear hb); (try clear hb2); (try clear hk); (try clear hi)))
                  go_ret
                  exact ⟨by first | rfl | (simp [errW_none, errW_some] <;> rfl) | (simp [*, errW_none, errW_some] <;> rfl) | (simp (disch := omega) only [wrap64_id] <;> rfl), by repeat (first | (with_reducible first | exact HB.out | apply below_alloc | apply pw_below_drewN | apply below_drew1) | exact HB.out)⟩

/-- THE ONE PURE STATEMENT of laws_FnMtWith: yours. -/
def laws_FnMtWith.Pure : Prop := ∀ (a0 : Int) (a1 : Int) (a2 : ByteArray), (Lit.int .u8 a0).wf = true → (Lit.int .u8 a1).wf = true → a2.size ≤ 140737488351232 → ∃ k, laws_FnMtWith.f k a0 a1 a2 = some true
theorem laws_FnMtWith.walk (P : laws_FnMtWith.Pure) (a0 : Int) (a1 : Int) (a2 : ByteArray) (w : World) (w0 : (Lit.int .u8 a0).wf = true) (w1 : (Lit.int .u8 a1).wf = true) (w2 : a2.size ≤ 140737488351232) :
    Calls Tryd.prog 3 #[.int .u8 a0, .int .u8 a1, .string a2] w fun e w' => e = .returned (.bool true) ∧ Below w.heap.size w w' := by
  obtain ⟨k, h⟩ := P a0 a1 a2 w0 w1 w2
  refine (laws_FnMtWith.calls k a0 a1 a2 true w h).mono ?_
  rintro e w' ⟨rfl, hd⟩
  exact ⟨rfl, hd⟩

end Go.Proofs.YtbemkokigpcmdaaDoor.MFnMtWith
