-- Written by a program of this session (myprint.py, out of the translation). Not trusted: Lean checks it.
import Derived.Test.YtngbhojjjkdofaaDoorMFnVtBytesHexx0
import Derived.Test.YtngbhojjjkdofaaDoorMFnVtBytesHexx8
namespace Go.Proofs.YtngbhojjjkdofaaDoor.MFnVtBytesHex
open Go.RowKit Go.Proofs.YtngbhojjjkdofaaDoorW.PrintWords Go.Proofs.YtngbhojjjkdofaaDoorW.PrintLast Go.Proofs.YtngbhojjjkdofaaDoorW.PrintMore
attribute [local go_sem] max2_int min2_int max_two min_two max_three min_three max_four min_four   -- for this text's walks alone
set_option linter.unusedVariables false
set_option linter.unusedSimpArgs false

/-! ### laws_vtHex: function 9 -/
def laws_vtHex.l0 : Nat → Int → ByteArray → Option (ByteArray)
  | 0, _, _ => none
  | k + 1, x1, x5 => if (x5.size : Int) < x1 then (if 1 + x5.size ≤ 9223372036854775807 then (laws_vtHex.l0 k x1 ((⟨#[48]⟩ : ByteArray) ++ x5)) else (none)) else (some x5)
def laws_vtHex.f (k : Nat) (a0 : Int) (a1 : Int) : Option (ByteArray) := (strconv_FormatUint_8.f a0 16).bind fun t137 => (laws_vtHex.l0 k a1 t137)
theorem laws_vtHex.mono_l : ∀ k, (∀ y0 y1, LeO (laws_vtHex.l0 k y0 y1) (laws_vtHex.l0 (k + 1) y0 y1))
  | 0 => fun _ _ r h => by simp [laws_vtHex.l0] at h
  | k + 1 => by
    have ih0 := laws_vtHex.mono_l k
    · intro y0 y1
      unfold laws_vtHex.l0
      repeat' first
      | (with_reducible exact ih0 _ _)
      | (with_reducible exact LeO.refl _)
      | (with_reducible exact LeO.none _)
      | (with_reducible refine LeO.ite ?_ ?_)
      | (with_reducible refine LeO.bind ?_ (fun _ => ?_))
      | exact ih0 _ _
      | exact LeO.none _
      | refine LeO.ite ?_ ?_
      | refine LeO.bind ?_ (fun _ => ?_)
theorem laws_vtHex.mono : ∀ a0 a1 k, LeO (laws_vtHex.f k a0 a1) (laws_vtHex.f (k + 1) a0 a1) := by
  intro a0 a1 k
  have ih0 := laws_vtHex.mono_l k
  unfold laws_vtHex.f
  repeat' first
      | (with_reducible exact ih0 _ _)
      | (with_reducible exact LeO.refl _)
      | (with_reducible exact LeO.none _)
      | (with_reducible refine LeO.ite ?_ ?_)
      | (with_reducible refine LeO.bind ?_ (fun _ => ?_))
      | exact ih0 _ _
      | exact LeO.none _
      | refine LeO.ite ?_ ?_
      | refine LeO.bind ?_ (fun _ => ?_)
set_option maxHeartbeats 8000000 in
set_option maxRecDepth 100000 in
theorem laws_vtHex.calls (k : Nat) (a0 : Int) (a1 : Int) (r : ByteArray) (w : World) (hT : Gt w) (h : laws_vtHex.f k a0 a1 = some r) :
    Calls Tryd.prog 9 #[.int .u64 a0, .int .i64 a1] w fun e w' => e = .returned (.string r) ∧ Below w.heap.size w w' := by
  have HTT := Aside0.mk hT
  clear hT
  have HB := Aside0.mk (Below.refl w.heap.size w)
  have H : ((strconv_FormatUint_8.f a0 16).bind fun t137 => (laws_vtHex.l0 k a1 t137)) = some r := h
  clear h
  replace H := Option.bind_eq_some_iff.mp H
  obtain ⟨t137, A30, H⟩ := H
  replace H : (laws_vtHex.l0 k a1 t137) = some r := H
  have A3 := Aside0.mk A30
  clear A30
  have H' := Aside0.mk H
  clear H
  go_enter Tryd.func9, Tryd.ntmps9
  go_wp2_with (first | ((with_reducible refine gate_callee (f := 8) rfl ?_); refine goesL_ (some 7) rfl rfl Tryd.func8 (by kernel_rfl) rfl #[.int .u64 a0, .int .i64 16] rfl (by (try simp only [List.map_toArray, List.map_cons, List.map_nil]); first | done | rfl | (simp only [List.length_drop, List.length_take]; rfl)) ?_; (with_reducible refine (strconv_FormatUint_8.calls a0 16 t137 _ (Gt.up HTT.out (by repeat (first | (with_reducible first | exact HB.out | apply below_alloc | apply pw_below_drewN | apply below_drew1) | exact HB.out))) A3.out).mono ?_); rintro e w4 ⟨rfl, hb⟩; refine ⟨_, rfl, ?_⟩; have n0_ := Aside0.mk (below_step (by repeat (first | (with_reducible first | exact HB.out | apply below_alloc | apply pw_below_drewN | apply below_drew1) | exact HB.out)) hb); clear HB; have HB := n0_; clear n0_; (try clear hb); (try clear hb2); (try clear hk); (try clear hi)))
  go_loopg [5] k (fun kq v5 w' => ∃ (x5_1 : ByteArray), v5 = .string x5_1 ∧ Aside0 (laws_vtHex.l0 kq a1 x5_1 = some r) ∧ Aside0 (kq ≤ k) ∧ Aside0 (Below w.heap.size w w'))
  case atStart => exact ⟨(t137), (by first | rfl | (simp; done) | (simp [*]; done)), H', ⟨Nat.le_refl _⟩, ⟨by repeat (first | (with_reducible first | exact HB.out | apply below_alloc | apply pw_below_drewN | apply below_drew1) | exact HB.out)⟩⟩
  case round =>
    clear H'
    try clear p2
    obtain ⟨x5_1, rfl, HA, HK1, HB⟩ := hrel
    cases gk with
    | zero => exact absurd HA.out (by simp [laws_vtHex.l0])
    | succ k1 =>
      have H := HA.out
      clear HA
      simp only [laws_vtHex.l0] at H
      by_cases c5 : (x5_1.size : Int) < a1
      · rw [if_pos c5] at H
        have c5b0 : decide ((x5_1.size : Int) < a1) = true := decide_eq_true c5
        clear c5
        by_cases c6 : 1 + x5_1.size ≤ 9223372036854775807
        · rw [if_pos c6] at H
          have c6b0 := eq_true c6
          have c6b1 : decide (1 + x5_1.size ≤ 9223372036854775807) = true := decide_eq_true c6
          try have c6b2 : (9223372036854775807 < 1 + x5_1.size) = False := eq_false (Nat.not_lt.2 c6)
          have H' := Aside0.mk H
          clear H
          go_wp2
          go_roundg k1
          case measure => have := HK1.out; omega
          case rel => exact ⟨((⟨#[48]⟩ : ByteArray) ++ x5_1), (by first | rfl | (simp; done) | (simp [*]; done)), H', ⟨by have := HK1.out; omega⟩, ⟨by repeat (first | (with_reducible first | exact HB.out | apply below_alloc | apply pw_below_drewN | apply below_drew1) | exact HB.out)⟩⟩
        · rw [if_neg c6] at H
          exact absurd H (by simp)
      · rw [if_neg c5] at H
        have c5b0 : decide ((x5_1.size : Int) < a1) = false := decide_eq_false c5
        clear c5
        obtain rfl := Option.some.inj H
        go_wp2
        go_ret
        exact ⟨by first | rfl | (simp [errW_none, errW_some] <;> rfl) | (simp [*, errW_none, errW_some] <;> rfl) | (simp (disch := omega) only [wrap64_id] <;> rfl), by repeat (first | (with_reducible first | exact HB.out | apply below_alloc | apply pw_below_drewN | apply below_drew1) | exact HB.out)⟩

end Go.Proofs.YtngbhojjjkdofaaDoor.MFnVtBytesHex
