-- Written by a program of this session (myprint.py, out of the translation). Not trusted: Lean checks it.
import Derived.Test.YtbemkokigpcmdaaDoorMFnMtWithx0
import Derived.Test.YtbemkokigpcmdaaDoorMFnMtWithx1
import Derived.Test.YtbemkokigpcmdaaDoorMFnMtWithx2
namespace Go.Proofs.YtbemkokigpcmdaaDoor.MFnMtWith
open Go.RowKit Go.Proofs.YtbemkokigpcmdaaDoorW.PrintWords Go.Proofs.YtbemkokigpcmdaaDoorW.PrintLast Go.Proofs.YtbemkokigpcmdaaDoorW.PrintMore
attribute [local go_sem] max2_int min2_int max_two min_two max_three min_three max_four min_four   -- for this text's walks alone
set_option linter.unusedVariables false
set_option linter.unusedSimpArgs false

/-! ### strconv_Itoa_26: function 26 -/
def strconv_Itoa_26.f (a0 : Int) : Option (ByteArray) := (strconv_FormatInt.f a0 10).bind fun t139 => (some t139)
set_option maxHeartbeats 8000000 in
set_option maxRecDepth 100000 in
theorem strconv_Itoa_26.calls (a0 : Int) (r : ByteArray) (w : World) (h : strconv_Itoa_26.f a0 = some r) :
    Calls Tryd.prog 26 #[.int .i64 a0] w fun e w' => e = .returned (.string r) ∧ Drawn0 w w' := by
  have H : ((strconv_FormatInt.f a0 10).bind fun t139 => (some t139)) = some r := h
  clear h
  replace H := Option.bind_eq_some_iff.mp H
  obtain ⟨t139, A20, H⟩ := H
  replace H : (some t139) = some r := H
  have A2 := Aside0.mk A20
  clear A20
  obtain rfl := Option.some.inj H
  go_enter Tryd.func26, Tryd.ntmps26
  go_wp2_with (first | ((with_reducible refine gate_callee (f := 28) rfl ?_); refine goesL_ (some 4) rfl rfl Tryd.func28 (by kernel_rfl) rfl #[.int .i64 a0, .int .i64 10] rfl (by (try simp only [List.map_toArray, List.map_cons, List.map_nil]); first | done | rfl | (simp only [List.length_drop, List.length_take]; rfl)) ?_; (with_reducible refine (strconv_FormatInt.calls a0 10 t139 _ A2.out).mono ?_); rintro e w' ⟨rfl, ⟨nd, rfl⟩⟩; refine ⟨_, rfl, ?_⟩))
  go_ret
  exact ⟨by first | rfl | (simp; done) | (simp [*]; done), by repeat (first | exact Drawn0.refl _ | apply Drawn0.step)⟩

/-! ### strconv_Itoa_23: function 23 -/
def strconv_Itoa_23.f (a0 : Int) : Option (ByteArray) := (strconv_Itoa_26.f a0).bind fun t140 => (some t140)
set_option maxHeartbeats 8000000 in
set_option maxRecDepth 100000 in
theorem strconv_Itoa_23.calls (a0 : Int) (r : ByteArray) (w : World) (h : strconv_Itoa_23.f a0 = some r) :
    Calls Tryd.prog 23 #[.int .i64 a0] w fun e w' => e = .returned (.string r) ∧ Drawn0 w w' := by
  have H : ((strconv_Itoa_26.f a0).bind fun t140 => (some t140)) = some r := h
  clear h
  replace H := Option.bind_eq_some_iff.mp H
  obtain ⟨t140, A20, H⟩ := H
  replace H : (some t140) = some r := H
  have A2 := Aside0.mk A20
  clear A20
  obtain rfl := Option.some.inj H
  go_enter Tryd.func23, Tryd.ntmps23
  go_wp2_with (first | ((with_reducible refine gate_callee (f := 26) rfl ?_); refine goesL_ (some 4) rfl rfl Tryd.func26 (by kernel_rfl) rfl #[.int .i64 a0] rfl (by (try simp only [List.map_toArray, List.map_cons, List.map_nil]); first | done | rfl | (simp only [List.length_drop, List.length_take]; rfl)) ?_; (with_reducible refine (strconv_Itoa_26.calls a0 t140 _ A2.out).mono ?_); rintro e w' ⟨rfl, ⟨nd, rfl⟩⟩; refine ⟨_, rfl, ?_⟩))
  go_ret
  exact ⟨by first | rfl | (simp; done) | (simp [*]; done), by repeat (first | exact Drawn0.refl _ | apply Drawn0.step)⟩

/-! ### dbus_WithMatchArg: function 17 -/
def dbus_WithMatchArg.j0 : Nat → Int → ByteArray → Bool → ByteArray → ByteArray → Option (ByteArray × ByteArray)
  | 0, _, _, _, _, _ => none
  | k + 1, x0, x1, x10, x142000, x142001 => if x10 = true then (none) else ((strconv_Itoa_23.f x0).bind fun t142 => (if 3 + t142.size ≤ 9223372036854775807 then ((dbus_WithMatchOption.f ((⟨#[97, 114, 103]⟩ : ByteArray) ++ t142) x1).bind fun bt143 => (some (bt143.1, bt143.2))) else (none)))
def dbus_WithMatchArg.f (k : Nat) (a0 : Int) (a1 : ByteArray) : Option (ByteArray × ByteArray) := if a0 < 0 then (dbus_WithMatchArg.j0 k a0 a1 true (⟨#[]⟩ : ByteArray) (⟨#[]⟩ : ByteArray)) else (dbus_WithMatchArg.j0 k a0 a1 (decide (a0 > 63)) (⟨#[]⟩ : ByteArray) (⟨#[]⟩ : ByteArray))
theorem dbus_WithMatchArg.mono_l : ∀ k, (∀ y0 y1 y2 y3 y4, LeO (dbus_WithMatchArg.j0 k y0 y1 y2 y3 y4) (dbus_WithMatchArg.j0 (k + 1) y0 y1 y2 y3 y4))
  | 0 => fun _ _ _ _ _ r h => by simp [dbus_WithMatchArg.j0] at h
  | k + 1 => by
    have ih0 := dbus_WithMatchArg.mono_l k
    · intro y0 y1 y2 y3 y4
      unfold dbus_WithMatchArg.j0
      repeat' first
      | (with_reducible exact ih0 _ _ _ _ _)
      | (with_reducible exact LeO.refl _)
      | (with_reducible exact LeO.none _)
      | (with_reducible refine LeO.ite ?_ ?_)
      | (with_reducible refine LeO.bind ?_ (fun _ => ?_))
      | exact ih0 _ _ _ _ _
      | exact LeO.none _
      | refine LeO.ite ?_ ?_
      | refine LeO.bind ?_ (fun _ => ?_)
theorem dbus_WithMatchArg.mono : ∀ a0 a1 k, LeO (dbus_WithMatchArg.f k a0 a1) (dbus_WithMatchArg.f (k + 1) a0 a1) := by
  intro a0 a1 k
  have ih0 := dbus_WithMatchArg.mono_l k
  unfold dbus_WithMatchArg.f
  repeat' first
      | (with_reducible exact ih0 _ _ _ _ _)
      | (with_reducible exact LeO.refl _)
      | (with_reducible exact LeO.none _)
      | (with_reducible refine LeO.ite ?_ ?_)
      | (with_reducible refine LeO.bind ?_ (fun _ => ?_))
      | exact ih0 _ _ _ _ _
      | exact LeO.none _
      | refine LeO.ite ?_ ?_
      | refine LeO.bind ?_ (fun _ => ?_)
set_option maxHeartbeats 8000000 in
set_option maxRecDepth 100000 in
theorem dbus_WithMatchArg.calls (k : Nat) (a0 : Int) (a1 : ByteArray) (r1 : ByteArray) (r2 : ByteArray) (w : World) (h : dbus_WithMatchArg.f k a0 a1 = some (r1, r2)) :
    Calls Tryd.prog 17 #[.int .i64 a0, .string a1] w fun e w' => e = .returned (.agg #[.string r1, .string r2]) ∧ Below w.heap.size w w' := by
  have hu32 := Tryd.underlying32
  have HB := Aside0.mk (Below.refl w.heap.size w)
  have H : (if a0 < 0 then (dbus_WithMatchArg.j0 k a0 a1 true (⟨#[]⟩ : ByteArray) (⟨#[]⟩ : ByteArray)) else (dbus_WithMatchArg.j0 k a0 a1 (decide (a0 > 63)) (⟨#[]⟩ : ByteArray) (⟨#[]⟩ : ByteArray))) = some (r1, r2) := h
  clear h
  have HC3 := Aside0.mk H
  clear H
  go_enter Tryd.func17, Tryd.ntmps17
  go_upto_region 1 with (first | ((with_reducible refine gate_dst (N := 4) rfl ?_); refine box_event ?hg (N := 4) ?hd (cs := #[.string (⟨#[]⟩ : ByteArray), .string (⟨#[]⟩ : ByteArray)]) (t := 32) ?hr ?_; (case hd => rfl); (case hg => rfl); (case hr => first | (go_simp; done) | (go_simp; rfl)); intro gb141 hg w4 hbox hb; have n0_ := Aside0.mk (below_step (by repeat (first | (with_reducible first | exact HB.out | apply below_alloc | apply pw_below_drewN | apply below_drew1) | exact HB.out)) hb); have n1_ := Aside0.mk (hbox); have n2_ := Aside0.mk ((by rw [hg]; exact (below_size (by repeat (first | (with_reducible first | exact HB.out | apply below_alloc | apply pw_below_drewN | apply below_drew1) | exact HB.out))) : w.heap.size ≤ gb141)); have n3_ := Aside0.mk ((by rw [hg]; exact (below_size (by repeat (first | (with_reducible first | exact HB.out | apply below_alloc | apply pw_below_drewN | apply below_drew1) | exact HB.out))) : w.heap.size ≤ gb141)); clear HB; have HB := n0_; have BK141 := n1_; have GW141 := n2_; have GE141 := n3_; clear n0_ n1_ n2_ n3_; clear hb hbox hg))
  (try simp only [Act.put, List.setIfInBounds_toArray, List.set_cons_zero, List.set_cons_succ])
  go_cut [10] (fun v10 wc => ∃ (kq : Nat) (x10_2 : Bool), v10 = .bool x10_2 ∧ Aside0 (dbus_WithMatchArg.j0 kq a0 a1 x10_2 (⟨#[]⟩ : ByteArray) (⟨#[]⟩ : ByteArray) = some (r1, r2)) ∧ Aside0 (kq ≤ k) ∧ Aside0 (wc.heap[gb141]? = some (.cells #[.string (⟨#[]⟩ : ByteArray), .string (⟨#[]⟩ : ByteArray)] 32 (0, 0))) ∧ Aside0 (Below w.heap.size w wc))
  case first =>
    have H := HC3.out
    clear HC3
    by_cases c5 : a0 < 0
    · rw [if_pos c5] at H
      have c5b0 : decide (a0 < 0) = true := decide_eq_true c5
      clear c5
      (first | rw [c5b0] | (simp only [i64_w, i32_w]; rw [c5b0]) | skip)
      have H' := Aside0.mk H
      clear H
      go_wp2
      go_meet
      case rel => exact ⟨_, (true), (by first | rfl | (simp; done) | (simp [*]; done)), H', ⟨by first | omega | exact Nat.le_refl _⟩, ⟨by (with_reducible repeat (first | refine blk_drewN ?_ _ | refine blk_drew ?_ | refine blk_alloc ?_ _)); exact BK141.out⟩, ⟨by repeat (first | (with_reducible first | exact HB.out | apply below_alloc | apply pw_below_drewN | apply below_drew1 | refine below_set ?_ GE141.out) | exact HB.out)⟩⟩
    · rw [if_neg c5] at H
      have c5b0 : decide (a0 < 0) = false := decide_eq_false c5
      clear c5
      (first | rw [c5b0] | (simp only [i64_w, i32_w]; rw [c5b0]) | skip)
      have H' := Aside0.mk H
      clear H
      go_wp2
      go_meet
      case rel => exact ⟨_, (decide (a0 > 63)), (by first | rfl | (simp; done) | (simp [*]; done)), H', ⟨by first | omega | exact Nat.le_refl _⟩, ⟨by (with_reducible repeat (first | refine blk_drewN ?_ _ | refine blk_drew ?_ | refine blk_alloc ?_ _)); exact BK141.out⟩, ⟨by repeat (first | (with_reducible first | exact HB.out | apply below_alloc | apply pw_below_drewN | apply below_drew1 | refine below_set ?_ GE141.out) | exact HB.out)⟩⟩
  case rest =>
    clear HC3
    try clear c1
    try clear p2
    try clear c5
    try clear c5b0
    obtain ⟨kq, x10_2, rfl, HA, HJ2, BK141, HB⟩ := hcut
    cases kq with
    | zero => exact absurd HA.out (by simp [dbus_WithMatchArg.j0])
    | succ kj2 =>
      have H := HA.out
      clear HA
      simp only [dbus_WithMatchArg.j0] at H
      by_cases c6 : x10_2 = true
      · subst c6
        rw [if_pos rfl] at H
        exact absurd H (by simp)
      · replace c6 := Bool.eq_false_iff.mpr c6
        subst c6
        have H1 : ((strconv_Itoa_23.f a0).bind fun t142 => (if 3 + t142.size ≤ 9223372036854775807 then ((dbus_WithMatchOption.f ((⟨#[97, 114, 103]⟩ : ByteArray) ++ t142) a1).bind fun bt143 => (some (bt143.1, bt143.2))) else (none))) = some (r1, r2) := by rw [if_neg (show ¬ (false = true) by decide)] at H; exact H
        clear H
        have H := H1
        clear H1
        replace H := Option.bind_eq_some_iff.mp H
        obtain ⟨t142, A70, H⟩ := H
        replace H : (if 3 + t142.size ≤ 9223372036854775807 then ((dbus_WithMatchOption.f ((⟨#[97, 114, 103]⟩ : ByteArray) ++ t142) a1).bind fun bt143 => (some (bt143.1, bt143.2))) else (none)) = some (r1, r2) := H
        have A7 := Aside0.mk A70
        clear A70
        by_cases c8 : 3 + t142.size ≤ 9223372036854775807
        · rw [if_pos c8] at H
          have c8b0 := eq_true c8
          have c8b1 : decide (3 + t142.size ≤ 9223372036854775807) = true := decide_eq_true c8
          try have c8b2 : (9223372036854775807 < 3 + t142.size) = False := eq_false (Nat.not_lt.2 c8)
          replace H := Option.bind_eq_some_iff.mp H
          obtain ⟨⟨t143, t144⟩, A90, H⟩ := H
          replace H : (some (t143, t144)) = some (r1, r2) := H
          have A9 := Aside0.mk A90
          clear A90
          simp only [Option.some.injEq, Prod.mk.injEq] at H
          obtain ⟨rfl, rfl⟩ := H
          go_wp2_with (first | ((with_reducible refine gate_callee (f := 23) rfl ?_); refine goesL_ (some 13) rfl rfl Tryd.func23 (by kernel_rfl) rfl #[.int .i64 a0] rfl (by (try simp only [List.map_toArray, List.map_cons, List.map_nil]); first | done | rfl | (simp only [List.length_drop, List.length_take]; rfl)) ?_; (with_reducible refine (strconv_Itoa_23.calls a0 t142 _ A7.out).mono ?_); rintro e w' ⟨rfl, ⟨nd, rfl⟩⟩; refine ⟨_, rfl, ?_⟩; (try (rw [drewN_self wc]; generalize hq_ : World.drewN wc _ = wc; have n0_ : Aside0 (wc.heap[gb141]? = some (.cells #[.string (⟨#[]⟩ : ByteArray), .string (⟨#[]⟩ : ByteArray)] 32 (0, 0))) := ⟨by rw [← hq_]; exact (by (with_reducible repeat (first | refine blk_drewN ?_ _ | refine blk_drew ?_ | refine blk_alloc ?_ _)); exact BK141.out)⟩; have n1_ : Aside0 (Below w.heap.size w wc) := ⟨by rw [← hq_]; exact (by repeat (first | (with_reducible first | exact HB.out | apply below_alloc | apply pw_below_drewN | apply below_drew1 | refine below_set ?_ GE141.out) | exact HB.out))⟩; clear BK141 HB hq_; have BK141 := n0_; have HB := n1_; clear n0_ n1_))) | ((with_reducible refine gate_callee (f := 22) rfl ?_); refine goesL_ (some 16) rfl rfl Tryd.func22 (by kernel_rfl) rfl #[.string ((⟨#[97, 114, 103]⟩ : ByteArray) ++ t142), .string a1] rfl (by (try simp only [List.map_toArray, List.map_cons, List.map_nil]); first | done | rfl | (simp only [List.length_drop, List.length_take]; rfl)) ?_; (with_reducible refine (dbus_WithMatchOption.calls ((⟨#[97, 114, 103]⟩ : ByteArray) ++ t142) a1 t143 t144 _ A9.out).mono ?_); rintro e w10 ⟨rfl, hb⟩; refine ⟨_, rfl, ?_⟩; have n0_ := Aside0.mk (blk_below (g := gb141) (o := .cells #[.string (⟨#[]⟩ : ByteArray), .string (⟨#[]⟩ : ByteArray)] 32 (0, 0)) (by (with_reducible repeat (first | refine blk_drewN ?_ _ | refine blk_drew ?_ | refine blk_alloc ?_ _)); exact BK141.out) hb); have n1_ := Aside0.mk (below_step (by repeat (first | (with_reducible first | exact HB.out | apply below_alloc | apply pw_below_drewN | apply below_drew1 | refine below_set ?_ GE141.out) | exact HB.out)) hb); clear BK141; clear HB; have BK141 := n0_; have HB := n1_; clear n0_ n1_; (try clear hb); (try clear hb2); (try clear hk); (try clear hi); have hcz11_0 : w10.cell? ⟨gb141, 0, none⟩ = some (.string (⟨#[]⟩ : ByteArray)) := (blk_cell BK141.out 0).trans rfl; have hcz11_1 : w10.cell? ⟨gb141, 1, none⟩ = some (.string (⟨#[]⟩ : ByteArray)) := (blk_cell BK141.out 1).trans rfl; have hfz11_0 := blk_frozen BK141.out 0; have hfz11_1 := blk_frozen BK141.out 1))
          refine bodyPost_ret (results_cell_row rfl _ _ gb141 32 #[.string t143, .string t144] (0, 0) _ rfl (by (with_reducible repeat (first | refine blk_drewN ?_ _ | refine blk_drew ?_ | refine blk_alloc ?_ _)); refine blk_put (cs := #[.string t143, .string (⟨#[]⟩ : ByteArray)]) ?_ 1 _ rfl; (with_reducible repeat (first | refine blk_drewN ?_ _ | refine blk_drew ?_ | refine blk_alloc ?_ _)); refine blk_put (cs := #[.string (⟨#[]⟩ : ByteArray), .string (⟨#[]⟩ : ByteArray)]) ?_ 0 _ rfl; (with_reducible repeat (first | refine blk_drewN ?_ _ | refine blk_drew ?_ | refine blk_alloc ?_ _)); exact BK141.out) Tryd.underlying32 rfl (by kernel_rfl)) rfl ?_
          exact ⟨by first | rfl | (simp [errW_none, errW_some] <;> rfl) | (simp [*, errW_none, errW_some] <;> rfl) | (simp (disch := omega) only [wrap64_id] <;> rfl), by repeat (first | (with_reducible first | exact HB.out | apply below_alloc | apply pw_below_drewN | apply below_drew1 | refine below_set ?_ GE141.out) | exact HB.out)⟩
        · rw [if_neg c8] at H
          exact absurd H (by simp)

/-! ### dbus_WithMatchArgPath: function 18 -/
def dbus_WithMatchArgPath.j0 : Nat → Int → ByteArray → Bool → ByteArray → ByteArray → Option (ByteArray × ByteArray)
  | 0, _, _, _, _, _ => none
  | k + 1, x0, x1, x10, x146000, x146001 => if x10 = true then (none) else ((strconv_Itoa_23.f x0).bind fun t146 => (if 3 + t146.size ≤ 9223372036854775807 then (if ((⟨#[97, 114, 103]⟩ : ByteArray) ++ t146).size + 4 ≤ 9223372036854775807 then ((dbus_WithMatchOption.f (((⟨#[97, 114, 103]⟩ : ByteArray) ++ t146) ++ (⟨#[112, 97, 116, 104]⟩ : ByteArray)) x1).bind fun bt147 => (some (bt147.1, bt147.2))) else (none)) else (none)))
def dbus_WithMatchArgPath.f (k : Nat) (a0 : Int) (a1 : ByteArray) : Option (ByteArray × ByteArray) := if a0 < 0 then (dbus_WithMatchArgPath.j0 k a0 a1 true (⟨#[]⟩ : ByteArray) (⟨#[]⟩ : ByteArray)) else (dbus_WithMatchArgPath.j0 k a0 a1 (decide (a0 > 63)) (⟨#[]⟩ : ByteArray) (⟨#[]⟩ : ByteArray))
theorem dbus_WithMatchArgPath.mono_l : ∀ k, (∀ y0 y1 y2 y3 y4, LeO (dbus_WithMatchArgPath.j0 k y0 y1 y2 y3 y4) (dbus_WithMatchArgPath.j0 (k + 1) y0 y1 y2 y3 y4))
  | 0 => fun _ _ _ _ _ r h => by simp [dbus_WithMatchArgPath.j0] at h
  | k + 1 => by
    have ih0 := dbus_WithMatchArgPath.mono_l k
    · intro y0 y1 y2 y3 y4
      unfold dbus_WithMatchArgPath.j0
      repeat' first
      | (with_reducible exact ih0 _ _ _ _ _)
      | (with_reducible exact LeO.refl _)
      | (with_reducible exact LeO.none _)
      | (with_reducible refine LeO.ite ?_ ?_)
      | (with_reducible refine LeO.bind ?_ (fun _ => ?_))
      | exact ih0 _ _ _ _ _
      | exact LeO.none _
      | refine LeO.ite ?_ ?_
      | refine LeO.bind ?_ (fun _ => ?_)
theorem dbus_WithMatchArgPath.mono : ∀ a0 a1 k, LeO (dbus_WithMatchArgPath.f k a0 a1) (dbus_WithMatchArgPath.f (k + 1) a0 a1) := by
  intro a0 a1 k
  have ih0 := dbus_WithMatchArgPath.mono_l k
  unfold dbus_WithMatchArgPath.f
  repeat' first
      | (with_reducible exact ih0 _ _ _ _ _)
      | (with_reducible exact LeO.refl _)
      | (with_reducible exact LeO.none _)
      | (with_reducible refine LeO.ite ?_ ?_)
      | (with_reducible refine LeO.bind ?_ (fun _ => ?_))
      | exact ih0 _ _ _ _ _
      | exact LeO.none _
      | refine LeO.ite ?_ ?_
      | refine LeO.bind ?_ (fun _ => ?_)
set_option maxHeartbeats 8000000 in
set_option maxRecDepth 100000 in
theorem dbus_WithMatchArgPath.calls (k : Nat) (a0 : Int) (a1 : ByteArray) (r1 : ByteArray) (r2 : ByteArray) (w : World) (h : dbus_WithMatchArgPath.f k a0 a1 = some (r1, r2)) :
    Calls Tryd.prog 18 #[.int .i64 a0, .string a1] w fun e w' => e = .returned (.agg #[.string r1, .string r2]) ∧ Below w.heap.size w w' := by
  have hu32 := Tryd.underlying32
  have HB := Aside0.mk (Below.refl w.heap.size w)
  have H : (if a0 < 0 then (dbus_WithMatchArgPath.j0 k a0 a1 true (⟨#[]⟩ : ByteArray) (⟨#[]⟩ : ByteArray)) else (dbus_WithMatchArgPath.j0 k a0 a1 (decide (a0 > 63)) (⟨#[]⟩ : ByteArray) (⟨#[]⟩ : ByteArray))) = some (r1, r2) := h
  clear h
  have HC3 := Aside0.mk H
  clear H
  go_enter Tryd.func18, Tryd.ntmps18
  go_upto_region 1 with (first | ((with_reducible refine gate_dst (N := 4) rfl ?_); refine box_event ?hg (N := 4) ?hd (cs := #[.string (⟨#[]⟩ : ByteArray), .string (⟨#[]⟩ : ByteArray)]) (t := 32) ?hr ?_; (case hd => rfl); (case hg => rfl); (case hr => first | (go_simp; done) | (go_simp; rfl)); intro gb145 hg w4 hbox hb; have n0_ := Aside0.mk (below_step (by repeat (first | (with_reducible first | exact HB.out | apply below_alloc | apply pw_below_drewN | apply below_drew1) | exact HB.out)) hb); have n1_ := Aside0.mk (hbox); have n2_ := Aside0.mk ((by rw [hg]; exact (below_size (by repeat (first | (with_reducible first | exact HB.out | apply below_alloc | apply pw_below_drewN | apply below_drew1) | exact HB.out))) : w.heap.size ≤ gb145)); have n3_ := Aside0.mk ((by rw [hg]; exact (below_size (by repeat (first | (with_reducible first | exact HB.out | apply below_alloc | apply pw_below_drewN | apply below_drew1) | exact HB.out))) : w.heap.size ≤ gb145)); clear HB; have HB := n0_; have BK145 := n1_; have GW145 := n2_; have GE145 := n3_; clear n0_ n1_ n2_ n3_; clear hb hbox hg))
  (try simp only [Act.put, List.setIfInBounds_toArray, List.set_cons_zero, List.set_cons_succ])
  go_cut [10] (fun v10 wc => ∃ (kq : Nat) (x10_2 : Bool), v10 = .bool x10_2 ∧ Aside0 (dbus_WithMatchArgPath.j0 kq a0 a1 x10_2 (⟨#[]⟩ : ByteArray) (⟨#[]⟩ : ByteArray) = some (r1, r2)) ∧ Aside0 (kq ≤ k) ∧ Aside0 (wc.heap[gb145]? = some (.cells #[.string (⟨#[]⟩ : ByteArray), .string (⟨#[]⟩ : ByteArray)] 32 (0, 0))) ∧ Aside0 (Below w.heap.size w wc))
  case first =>
    have H := HC3.out
    clear HC3
    by_cases c5 : a0 < 0
    · rw [if_pos c5] at H
      have c5b0 : decide (a0 < 0) = true := decide_eq_true c5
      clear c5
      (first | rw [c5b0] | (simp only [i64_w, i32_w]; rw [c5b0]) | skip)
      have H' := Aside0.mk H
      clear H
      go_wp2
      go_meet
      case rel => exact ⟨_, (true), (by first | rfl | (simp; done) | (simp [*]; done)), H', ⟨by first | omega | exact Nat.le_refl _⟩, ⟨by (with_reducible repeat (first | refine blk_drewN ?_ _ | refine blk_drew ?_ | refine blk_alloc ?_ _)); exact BK145.out⟩, ⟨by repeat (first | (with_reducible first | exact HB.out | apply below_alloc | apply pw_below_drewN | apply below_drew1 | refine below_set ?_ GE145.out) | exact HB.out)⟩⟩
    · rw [if_neg c5] at H
      have c5b0 : decide (a0 < 0) = false := decide_eq_false c5
      clear c5
      (first | rw [c5b0] | (simp only [i64_w, i32_w]; rw [c5b0]) | skip)
      have H' := Aside0.mk H
      clear H
      go_wp2
      go_meet
      case rel => exact ⟨_, (decide (a0 > 63)), (by first | rfl | (simp; done) | (simp [*]; done)), H', ⟨by first | omega | exact Nat.le_refl _⟩, ⟨by (with_reducible repeat (first | refine blk_drewN ?_ _ | refine blk_drew ?_ | refine blk_alloc ?_ _)); exact BK145.out⟩, ⟨by repeat (first | (with_reducible first | exact HB.out | apply below_alloc | apply pw_below_drewN | apply below_drew1 | refine below_set ?_ GE145.out) | exact HB.out)⟩⟩
  case rest =>
    clear HC3
    try clear c1
    try clear p2
    try clear c5
    try clear c5b0
    obtain ⟨kq, x10_2, rfl, HA, HJ2, BK145, HB⟩ := hcut
    cases kq with
    | zero => exact absurd HA.out (by simp [dbus_WithMatchArgPath.j0])
    | succ kj2 =>
      have H := HA.out
      clear HA
      simp only [dbus_WithMatchArgPath.j0] at H
      by_cases c6 : x10_2 = true
      · subst c6
        rw [if_pos rfl] at H
        exact absurd H (by simp)
      · replace c6 := Bool.eq_false_iff.mpr c6
        subst c6
        have H1 : ((strconv_Itoa_23.f a0).bind fun t146 => (if 3 + t146.size ≤ 9223372036854775807 then (if ((⟨#[97, 114, 103]⟩ : ByteArray) ++ t146).size + 4 ≤ 9223372036854775807 then ((dbus_WithMatchOption.f (((⟨#[97, 114, 103]⟩ : ByteArray) ++ t146) ++ (⟨#[112, 97, 116, 104]⟩ : ByteArray)) a1).bind fun bt147 => (some (bt147.1, bt147.2))) else (none)) else (none))) = some (r1, r2) := by rw [if_neg (show ¬ (false = true) by decide)] at H; exact H
        clear H
        have H := H1
        clear H1
        replace H := Option.bind_eq_some_iff.mp H
        obtain ⟨t146, A70, H⟩ := H
        replace H : (if 3 + t146.size ≤ 9223372036854775807 then (if ((⟨#[97, 114, 103]⟩ : ByteArray) ++ t146).size + 4 ≤ 9223372036854775807 then ((dbus_WithMatchOption.f (((⟨#[97, 114, 103]⟩ : ByteArray) ++ t146) ++ (⟨#[112, 97, 116, 104]⟩ : ByteArray)) a1).bind fun bt147 => (some (bt147.1, bt147.2))) else (none)) else (none)) = some (r1, r2) := H
        have A7 := Aside0.mk A70
        clear A70
        by_cases c8 : 3 + t146.size ≤ 9223372036854775807
        · rw [if_pos c8] at H
          have c8b0 := eq_true c8
          have c8b1 : decide (3 + t146.size ≤ 9223372036854775807) = true := decide_eq_true c8
          try have c8b2 : (9223372036854775807 < 3 + t146.size) = False := eq_false (Nat.not_lt.2 c8)
          by_cases c9 : ((⟨#[97, 114, 103]⟩ : ByteArray) ++ t146).size + 4 ≤ 9223372036854775807
          · rw [if_pos c9] at H
            have c9b0 := eq_true c9
            have c9b1 : decide (((⟨#[97, 114, 103]⟩ : ByteArray) ++ t146).size + 4 ≤ 9223372036854775807) = true := decide_eq_true c9
            try have c9b2 : (9223372036854775807 < ((⟨#[97, 114, 103]⟩ : ByteArray) ++ t146).size + 4) = False := eq_false (Nat.not_lt.2 c9)
            (try have c9e : 3 + t146.size + 4 ≤ 9223372036854775807 := by (have h_ := c9; simp only [ByteArray.size_append] at h_; exact h_))
            (try have c9e0 := eq_true c9e)
            (try have c9e1 : decide (3 + t146.size + 4 ≤ 9223372036854775807) = true := decide_eq_true c9e)
            (try have c9e2 : (9223372036854775807 < 3 + t146.size + 4) = False := eq_false (Nat.not_lt.2 c9e))
            replace H := Option.bind_eq_some_iff.mp H
            obtain ⟨⟨t147, t148⟩, A100, H⟩ := H
            replace H : (some (t147, t148)) = some (r1, r2) := H
            have A10 := Aside0.mk A100
            clear A100
            simp only [Option.some.injEq, Prod.mk.injEq] at H
            obtain ⟨rfl, rfl⟩ := H
            go_wp2_with (first | ((with_reducible refine gate_callee (f := 23) rfl ?_); refine goesL_ (some 13) rfl rfl Tryd.func23 (by kernel_rfl) rfl #[.int .i64 a0] rfl (by (try simp only [List.map_toArray, List.map_cons, List.map_nil]); first | done | rfl | (simp only [List.length_drop, List.length_take]; rfl)) ?_; (with_reducible refine (strconv_Itoa_23.calls a0 t146 _ A7.out).mono ?_); rintro e w' ⟨rfl, ⟨nd, rfl⟩⟩; refine ⟨_, rfl, ?_⟩; (try (rw [drewN_self wc]; generalize hq_ : World.drewN wc _ = wc; have n0_ : Aside0 (wc.heap[gb145]? = some (.cells #[.string (⟨#[]⟩ : ByteArray), .string (⟨#[]⟩ : ByteArray)] 32 (0, 0))) := ⟨by rw [← hq_]; exact (by (with_reducible repeat (first | refine blk_drewN ?_ _ | refine blk_drew ?_ | refine blk_alloc ?_ _)); exact BK145.out)⟩; have n1_ : Aside0 (Below w.heap.size w wc) := ⟨by rw [← hq_]; exact (by repeat (first | (with_reducible first | exact HB.out | apply below_alloc | apply pw_below_drewN | apply below_drew1 | refine below_set ?_ GE145.out) | exact HB.out))⟩; clear BK145 HB hq_; have BK145 := n0_; have HB := n1_; clear n0_ n1_))) | ((with_reducible refine gate_callee (f := 22) rfl ?_); refine goesL_ (some 17) rfl rfl Tryd.func22 (by kernel_rfl) rfl #[.string (((⟨#[97, 114, 103]⟩ : ByteArray) ++ t146) ++ (⟨#[112, 97, 116, 104]⟩ : ByteArray)), .string a1] rfl (by (try simp only [List.map_toArray, List.map_cons, List.map_nil]); first | done | rfl | (simp only [List.length_drop, List.length_take]; rfl)) ?_; (with_reducible refine (dbus_WithMatchOption.calls (((⟨#[97, 114, 103]⟩ : ByteArray) ++ t146) ++ (⟨#[112, 97, 116, 104]⟩ : ByteArray)) a1 t147 t148 _ A10.out).mono ?_); rintro e w11 ⟨rfl, hb⟩; refine ⟨_, rfl, ?_⟩; have n0_ := Aside0.mk (blk_below (g := gb145) (o := .cells #[.string (⟨#[]⟩ : ByteArray), .string (⟨#[]⟩ : ByteArray)] 32 (0, 0)) (by (with_reducible repeat (first | refine blk_drewN ?_ _ | refine blk_drew ?_ | refine blk_alloc ?_ _)); exact BK145.out) hb); have n1_ := Aside0.mk (below_step (by repeat (first | (with_reducible first | exact HB.out | apply below_alloc | apply pw_below_drewN | apply below_drew1 | refine below_set ?_ GE145.out) | exact HB.out)) hb); clear BK145; clear HB; have BK145 := n0_; have HB := n1_; clear n0_ n1_; (try clear hb); (try clear hb2); (try clear hk); (try clear hi); have hcz12_0 : w11.cell? ⟨gb145, 0, none⟩ = some (.string (⟨#[]⟩ : ByteArray)) := (blk_cell BK145.out 0).trans rfl; have hcz12_1 : w11.cell? ⟨gb145, 1, none⟩ = some (.string (⟨#[]⟩ : ByteArray)) := (blk_cell BK145.out 1).trans rfl; have hfz12_0 := blk_frozen BK145.out 0; have hfz12_1 := blk_frozen BK145.out 1))
            refine bodyPost_ret (results_cell_row rfl _ _ gb145 32 #[.string t147, .string t148] (0, 0) _ rfl (by (with_reducible repeat (first | refine blk_drewN ?_ _ | refine blk_drew ?_ | refine blk_alloc ?_ _)); refine blk_put (cs := #[.string t147, .string (⟨#[]⟩ : ByteArray)]) ?_ 1 _ rfl; (with_reducible repeat (first | refine blk_drewN ?_ _ | refine blk_drew ?_ | refine blk_alloc ?_ _)); refine blk_put (cs := #[.string (⟨#[]⟩ : ByteArray), .string (⟨#[]⟩ : ByteArray)]) ?_ 0 _ rfl; (with_reducible repeat (first | refine blk_drewN ?_ _ | refine blk_drew ?_ | refine blk_alloc ?_ _)); exact BK145.out) Tryd.underlying32 rfl (by kernel_rfl)) rfl ?_
            exact ⟨by first | rfl | (simp [errW_none, errW_some] <;> rfl) | (simp [*, errW_none, errW_some] <;> rfl) | (simp (disch := omega) only [wrap64_id] <;> rfl), by repeat (first | (with_reducible first | exact HB.out | apply below_alloc | apply pw_below_drewN | apply below_drew1 | refine below_set ?_ GE145.out) | exact HB.out)⟩
          · rw [if_neg c9] at H
            exact absurd H (by simp)
        · rw [if_neg c8] at H
          exact absurd H (by simp)

/-! ### dbus_WithMatchArg0Namespace: function 19 -/
def dbus_WithMatchArg0Namespace.f (a0 : ByteArray) : Option (ByteArray × ByteArray) := (dbus_WithMatchOption.f (⟨#[97, 114, 103, 48, 110, 97, 109, 101, 115, 112, 97, 99, 101]⟩ : ByteArray) a0).bind fun bt150 => (some (bt150.1, bt150.2))
set_option maxHeartbeats 8000000 in
set_option maxRecDepth 100000 in
theorem dbus_WithMatchArg0Namespace.calls (a0 : ByteArray) (r1 : ByteArray) (r2 : ByteArray) (w : World) (h : dbus_WithMatchArg0Namespace.f a0 = some (r1, r2)) :
    Calls Tryd.prog 19 #[.string a0] w fun e w' => e = .returned (.agg #[.string r1, .string r2]) ∧ Below w.heap.size w w' := by
  have hu32 := Tryd.underlying32
  have HB := Aside0.mk (Below.refl w.heap.size w)
  have H : ((dbus_WithMatchOption.f (⟨#[97, 114, 103, 48, 110, 97, 109, 101, 115, 112, 97, 99, 101]⟩ : ByteArray) a0).bind fun bt150 => (some (bt150.1, bt150.2))) = some (r1, r2) := h
  clear h
  replace H := Option.bind_eq_some_iff.mp H
  obtain ⟨⟨t150, t151⟩, A20, H⟩ := H
  replace H : (some (t150, t151)) = some (r1, r2) := H
  have A2 := Aside0.mk A20
  clear A20
  simp only [Option.some.injEq, Prod.mk.injEq] at H
  obtain ⟨rfl, rfl⟩ := H
  go_enter Tryd.func19, Tryd.ntmps19
  go_wp2_with (first | ((with_reducible refine gate_dst (N := 2) rfl ?_); refine box_event ?hg (N := 2) ?hd (cs := #[.string (⟨#[]⟩ : ByteArray), .string (⟨#[]⟩ : ByteArray)]) (t := 32) ?hr ?_; (case hd => rfl); (case hg => rfl); (case hr => first | (go_simp; done) | (go_simp; rfl)); intro gb149 hg w3 hbox hb; have n0_ := Aside0.mk (below_step (by repeat (first | (with_reducible first | exact HB.out | apply below_alloc | apply pw_below_drewN | apply below_drew1) | exact HB.out)) hb); have n1_ := Aside0.mk (hbox); have n2_ := Aside0.mk ((by rw [hg]; exact (below_size (by repeat (first | (with_reducible first | exact HB.out | apply below_alloc | apply pw_below_drewN | apply below_drew1) | exact HB.out))) : w.heap.size ≤ gb149)); have n3_ := Aside0.mk ((by rw [hg]; exact (below_size (by repeat (first | (with_reducible first | exact HB.out | apply below_alloc | apply pw_below_drewN | apply below_drew1) | exact HB.out))) : w.heap.size ≤ gb149)); clear HB; have HB := n0_; have BK149 := n1_; have GW149 := n2_; have GE149 := n3_; clear n0_ n1_ n2_ n3_; clear hb hbox hg) | ((with_reducible refine gate_callee (f := 22) rfl ?_); refine goesL_ (some 4) rfl rfl Tryd.func22 (by kernel_rfl) rfl #[.string (⟨#[97, 114, 103, 48, 110, 97, 109, 101, 115, 112, 97, 99, 101]⟩ : ByteArray), .string a0] rfl (by (try simp only [List.map_toArray, List.map_cons, List.map_nil]); first | done | rfl | (simp only [List.length_drop, List.length_take]; rfl)) ?_; (with_reducible refine (dbus_WithMatchOption.calls (⟨#[97, 114, 103, 48, 110, 97, 109, 101, 115, 112, 97, 99, 101]⟩ : ByteArray) a0 t150 t151 _ A2.out).mono ?_); rintro e w4 ⟨rfl, hb⟩; refine ⟨_, rfl, ?_⟩; have n0_ := Aside0.mk (blk_below (g := gb149) (o := .cells #[.string (⟨#[]⟩ : ByteArray), .string (⟨#[]⟩ : ByteArray)] 32 (0, 0)) (by (with_reducible repeat (first | refine blk_drewN ?_ _ | refine blk_drew ?_ | refine blk_alloc ?_ _)); exact BK149.out) hb); have n1_ := Aside0.mk (below_step (by repeat (first | (with_reducible first | exact HB.out | apply below_alloc | apply pw_below_drewN | apply below_drew1 | refine below_set ?_ GE149.out) | exact HB.out)) hb); clear BK149; clear HB; have BK149 := n0_; have HB := n1_; clear n0_ n1_; (try clear hb); (try clear hb2); (try clear hk); (try clear hi); have hcz5_0 : w4.cell? ⟨gb149, 0, none⟩ = some (.string (⟨#[]⟩ : ByteArray)) := (blk_cell BK149.out 0).trans rfl; have hcz5_1 : w4.cell? ⟨gb149, 1, none⟩ = some (.string (⟨#[]⟩ : ByteArray)) := (blk_cell BK149.out 1).trans rfl; have hfz5_0 := blk_frozen BK149.out 0; have hfz5_1 := blk_frozen BK149.out 1))
  refine bodyPost_ret (results_cell_row rfl _ _ gb149 32 #[.string t150, .string t151] (0, 0) _ rfl (by (with_reducible repeat (first | refine blk_drewN ?_ _ | refine blk_drew ?_ | refine blk_alloc ?_ _)); refine blk_put (cs := #[.string t150, .string (⟨#[]⟩ : ByteArray)]) ?_ 1 _ rfl; (with_reducible repeat (first | refine blk_drewN ?_ _ | refine blk_drew ?_ | refine blk_alloc ?_ _)); refine blk_put (cs := #[.string (⟨#[]⟩ : ByteArray), .string (⟨#[]⟩ : ByteArray)]) ?_ 0 _ rfl; (with_reducible repeat (first | refine blk_drewN ?_ _ | refine blk_drew ?_ | refine blk_alloc ?_ _)); exact BK149.out) Tryd.underlying32 rfl (by kernel_rfl)) rfl ?_
  exact ⟨by first | rfl | (simp [errW_none, errW_some] <;> rfl) | (simp [*, errW_none, errW_some] <;> rfl) | (simp (disch := omega) only [wrap64_id] <;> rfl), by repeat (first | (with_reducible first | exact HB.out | apply below_alloc | apply pw_below_drewN | apply below_drew1 | refine below_set ?_ GE149.out) | exact HB.out)⟩

/-! ### strconv_FormatBool_27: function 27 -/
def strconv_FormatBool_27.f (a0 : Bool) : Option (ByteArray) := if a0 = true then (some (⟨#[116, 114, 117, 101]⟩ : ByteArray)) else (some (⟨#[102, 97, 108, 115, 101]⟩ : ByteArray))
set_option maxHeartbeats 8000000 in
set_option maxRecDepth 100000 in
theorem strconv_FormatBool_27.calls (a0 : Bool) (r : ByteArray) (w : World) (h : strconv_FormatBool_27.f a0 = some r) :
    Calls Tryd.prog 27 #[.bool a0] w fun e w' => e = .returned (.string r) ∧ Drawn0 w w' := by
  have H : (if a0 = true then (some (⟨#[116, 114, 117, 101]⟩ : ByteArray)) else (some (⟨#[102, 97, 108, 115, 101]⟩ : ByteArray))) = some r := h
  clear h
  by_cases c2 : a0 = true
  · subst c2
    have H1 : (some (⟨#[116, 114, 117, 101]⟩ : ByteArray)) = some r := by rw [if_pos rfl] at H; exact H
    clear H
    have H := H1
    clear H1
    obtain rfl := Option.some.inj H
    go_enter Tryd.func27, Tryd.ntmps27
    go_wp2
    go_ret
    exact ⟨by first | rfl | (simp; done) | (simp [*]; done), by repeat (first | exact Drawn0.refl _ | apply Drawn0.step)⟩
  · replace c2 := Bool.eq_false_iff.mpr c2
    subst c2
    have H1 : (some (⟨#[102, 97, 108, 115, 101]⟩ : ByteArray)) = some r := by rw [if_neg (show ¬ (false = true) by decide)] at H; exact H
    clear H
    have H := H1
    clear H1
    obtain rfl := Option.some.inj H
    go_enter Tryd.func27, Tryd.ntmps27
    go_wp2
    go_ret
    exact ⟨by first | rfl | (simp; done) | (simp [*]; done), by repeat (first | exact Drawn0.refl _ | apply Drawn0.step)⟩

/-! ### strconv_FormatBool_24: function 24 -/
def strconv_FormatBool_24.f (a0 : Bool) : Option (ByteArray) := (strconv_FormatBool_27.f a0).bind fun t152 => (some t152)
set_option maxHeartbeats 8000000 in
set_option maxRecDepth 100000 in
theorem strconv_FormatBool_24.calls (a0 : Bool) (r : ByteArray) (w : World) (h : strconv_FormatBool_24.f a0 = some r) :
    Calls Tryd.prog 24 #[.bool a0] w fun e w' => e = .returned (.string r) ∧ Drawn0 w w' := by
  have H : ((strconv_FormatBool_27.f a0).bind fun t152 => (some t152)) = some r := h
  clear h
  replace H := Option.bind_eq_some_iff.mp H
  obtain ⟨t152, A20, H⟩ := H
  replace H : (some t152) = some r := H
  have A2 := Aside0.mk A20
  clear A20
  obtain rfl := Option.some.inj H
  go_enter Tryd.func24, Tryd.ntmps24
  go_wp2_with (first | ((with_reducible refine gate_callee (f := 27) rfl ?_); refine goesL_ (some 4) rfl rfl Tryd.func27 (by kernel_rfl) rfl #[.bool a0] rfl (by (try simp only [List.map_toArray, List.map_cons, List.map_nil]); first | done | rfl | (simp only [List.length_drop, List.length_take]; rfl)) ?_; (with_reducible refine (strconv_FormatBool_27.calls a0 t152 _ A2.out).mono ?_); rintro e w' ⟨rfl, ⟨nd, rfl⟩⟩; refine ⟨_, rfl, ?_⟩))
  go_ret
  exact ⟨by first | rfl | (simp; done) | (simp [*]; done), by repeat (first | exact Drawn0.refl _ | apply Drawn0.step)⟩

/-! ### dbus_WithMatchEavesdrop: function 20 -/
def dbus_WithMatchEavesdrop.f (a0 : Bool) : Option (ByteArray × ByteArray) := (strconv_FormatBool_24.f a0).bind fun t154 => ((dbus_WithMatchOption.f (⟨#[101, 97, 118, 101, 115, 100, 114, 111, 112]⟩ : ByteArray) t154).bind fun bt155 => (some (bt155.1, bt155.2)))
set_option maxHeartbeats 8000000 in
set_option maxRecDepth 100000 in
theorem dbus_WithMatchEavesdrop.calls (a0 : Bool) (r1 : ByteArray) (r2 : ByteArray) (w : World) (h : dbus_WithMatchEavesdrop.f a0 = some (r1, r2)) :
    Calls Tryd.prog 20 #[.bool a0] w fun e w' => e = .returned (.agg #[.string r1, .string r2]) ∧ Below w.heap.size w w' := by
  have hu32 := Tryd.underlying32
  have HB := Aside0.mk (Below.refl w.heap.size w)
  have H : ((strconv_FormatBool_24.f a0).bind fun t154 => ((dbus_WithMatchOption.f (⟨#[101, 97, 118, 101, 115, 100, 114, 111, 112]⟩ : ByteArray) t154).bind fun bt155 => (some (bt155.1, bt155.2)))) = some (r1, r2) := h
  clear h
  replace H := Option.bind_eq_some_iff.mp H
  obtain ⟨t154, A20, H⟩ := H
  replace H : ((dbus_WithMatchOption.f (⟨#[101, 97, 118, 101, 115, 100, 114, 111, 112]⟩ : ByteArray) t154).bind fun bt155 => (some (bt155.1, bt155.2))) = some (r1, r2) := H
  have A2 := Aside0.mk A20
  clear A20
  replace H := Option.bind_eq_some_iff.mp H
  obtain ⟨⟨t155, t156⟩, A30, H⟩ := H
  replace H : (some (t155, t156)) = some (r1, r2) := H
  have A3 := Aside0.mk A30
  clear A30
  simp only [Option.some.injEq, Prod.mk.injEq] at H
  obtain ⟨rfl, rfl⟩ := H
  go_enter Tryd.func20, Tryd.ntmps20
  go_wp2_with (first | ((with_reducible refine gate_dst (N := 2) rfl ?_); refine box_event ?hg (N := 2) ?hd (cs := #[.string (⟨#[]⟩ : ByteArray), .string (⟨#[]⟩ : ByteArray)]) (t := 32) ?hr ?_; (case hd => rfl); (case hg => rfl); (case hr => first | (go_simp; done) | (go_simp; rfl)); intro gb153 hg w4 hbox hb; have n0_ := Aside0.mk (below_step (by repeat (first | (with_reducible first | exact HB.out | apply below_alloc | apply pw_below_drewN | apply below_drew1) | exact HB.out)) hb); have n1_ := Aside0.mk (hbox); have n2_ := Aside0.mk ((by rw [hg]; exact (below_size (by repeat (first | (with_reducible first | exact HB.out | apply below_alloc | apply pw_below_drewN | apply below_drew1) | exact HB.out))) : w.heap.size ≤ gb153)); have n3_ := Aside0.mk ((by rw [hg]; exact (below_size (by repeat (first | (with_reducible first | exact HB.out | apply below_alloc | apply pw_below_drewN | apply below_drew1) | exact HB.out))) : w.heap.size ≤ gb153)); clear HB; have HB := n0_; have BK153 := n1_; have GW153 := n2_; have GE153 := n3_; clear n0_ n1_ n2_ n3_; clear hb hbox hg) | ((with_reducible refine gate_callee (f := 24) rfl ?_); refine goesL_ (some 4) rfl rfl Tryd.func24 (by kernel_rfl) rfl #[.bool a0] rfl (by (try simp only [List.map_toArray, List.map_cons, List.map_nil]); first | done | rfl | (simp only [List.length_drop, List.length_take]; rfl)) ?_; (with_reducible refine (strconv_FormatBool_24.calls a0 t154 _ A2.out).mono ?_); rintro e w' ⟨rfl, ⟨nd, rfl⟩⟩; refine ⟨_, rfl, ?_⟩; (try (rw [drewN_self w4]; generalize hq_ : World.drewN w4 _ = w4; have n0_ : Aside0 (w4.heap[gb153]? = some (.cells #[.string (⟨#[]⟩ : ByteArray), .string (⟨#[]⟩ : ByteArray)] 32 (0, 0))) := ⟨by rw [← hq_]; exact (by (with_reducible repeat (first | refine blk_drewN ?_ _ | refine blk_drew ?_ | refine blk_alloc ?_ _)); exact BK153.out)⟩; have n1_ : Aside0 (Below w.heap.size w w4) := ⟨by rw [← hq_]; exact (by repeat (first | (with_reducible first | exact HB.out | apply below_alloc | apply pw_below_drewN | apply below_drew1 | refine below_set ?_ GE153.out) | exact HB.out))⟩; clear BK153 HB hq_; have BK153 := n0_; have HB := n1_; clear n0_ n1_))) | ((with_reducible refine gate_callee (f := 22) rfl ?_); refine goesL_ (some 5) rfl rfl Tryd.func22 (by kernel_rfl) rfl #[.string (⟨#[101, 97, 118, 101, 115, 100, 114, 111, 112]⟩ : ByteArray), .string t154] rfl (by (try simp only [List.map_toArray, List.map_cons, List.map_nil]); first | done | rfl | (simp only [List.length_drop, List.length_take]; rfl)) ?_; (with_reducible refine (dbus_WithMatchOption.calls (⟨#[101, 97, 118, 101, 115, 100, 114, 111, 112]⟩ : ByteArray) t154 t155 t156 _ A3.out).mono ?_); rintro e w5 ⟨rfl, hb⟩; refine ⟨_, rfl, ?_⟩; have n0_ := Aside0.mk (blk_below (g := gb153) (o := .cells #[.string (⟨#[]⟩ : ByteArray), .string (⟨#[]⟩ : ByteArray)] 32 (0, 0)) (by (with_reducible repeat (first | refine blk_drewN ?_ _ | refine blk_drew ?_ | refine blk_alloc ?_ _)); exact BK153.out) hb); have n1_ := Aside0.mk (below_step (by repeat (first | (with_reducible first | exact HB.out | apply below_alloc | apply pw_below_drewN | apply below_drew1 | refine below_set ?_ GE153.out) | exact HB.out)) hb); clear BK153; clear HB; have BK153 := n0_; have HB := n1_; clear n0_ n1_; (try clear hb); (try clear hb2); (try clear hk); (try clear hi); have hcz6_0 : w5.cell? ⟨gb153, 0, none⟩ = some (.string (⟨#[]⟩ : ByteArray)) := (blk_cell BK153.out 0).trans rfl; have hcz6_1 : w5.cell? ⟨gb153, 1, none⟩ = some (.string (⟨#[]⟩ : ByteArray)) := (blk_cell BK153.out 1).trans rfl; have hfz6_0 := blk_frozen BK153.out 0; have hfz6_1 := blk_frozen BK153.out 1))
  refine bodyPost_ret (results_cell_row rfl _ _ gb153 32 #[.string t155, .string t156] (0, 0) _ rfl (by (with_reducible repeat (first | refine blk_drewN ?_ _ | refine blk_drew ?_ | refine blk_alloc ?_ _)); refine blk_put (cs := #[.string t155, .string (⟨#[]⟩ : ByteArray)]) ?_ 1 _ rfl; (with_reducible repeat (first | refine blk_drewN ?_ _ | refine blk_drew ?_ | refine blk_alloc ?_ _)); refine blk_put (cs := #[.string (⟨#[]⟩ : ByteArray), .string (⟨#[]⟩ : ByteArray)]) ?_ 0 _ rfl; (with_reducible repeat (first | refine blk_drewN ?_ _ | refine blk_drew ?_ | refine blk_alloc ?_ _)); exact BK153.out) Tryd.underlying32 rfl (by kernel_rfl)) rfl ?_
  exact ⟨by first | rfl | (simp [errW_none, errW_some] <;> rfl) | (simp [*, errW_none, errW_some] <;> rfl) | (simp (disch := omega) only [wrap64_id] <;> rfl), by repeat (first | (with_reducible first | exact HB.out | apply below_alloc | apply pw_below_drewN | apply below_drew1 | refine below_set ?_ GE153.out) | exact HB.out)⟩

/-! ### dbus_withMatchTypeSignal: function 25 -/
def dbus_withMatchTypeSignal.f  : Option (ByteArray × ByteArray) := (dbus_WithMatchOption.f (⟨#[116, 121, 112, 101]⟩ : ByteArray) (⟨#[115, 105, 103, 110, 97, 108]⟩ : ByteArray)).bind fun bt158 => (some (bt158.1, bt158.2))
set_option maxHeartbeats 8000000 in
set_option maxRecDepth 100000 in
theorem dbus_withMatchTypeSignal.calls  (r1 : ByteArray) (r2 : ByteArray) (w : World) (h : dbus_withMatchTypeSignal.f  = some (r1, r2)) :
    Calls Tryd.prog 25 #[] w fun e w' => e = .returned (.agg #[.string r1, .string r2]) ∧ Below w.heap.size w w' := by
  have hu32 := Tryd.underlying32
  have HB := Aside0.mk (Below.refl w.heap.size w)
  have H : ((dbus_WithMatchOption.f (⟨#[116, 121, 112, 101]⟩ : ByteArray) (⟨#[115, 105, 103, 110, 97, 108]⟩ : ByteArray)).bind fun bt158 => (some (bt158.1, bt158.2))) = some (r1, r2) := h
  clear h
  replace H := Option.bind_eq_some_iff.mp H
  obtain ⟨⟨t158, t159⟩, A10, H⟩ := H
  replace H : (some (t158, t159)) = some (r1, r2) := H
  have A1 := Aside0.mk A10
  clear A10
  simp only [Option.some.injEq, Prod.mk.injEq] at H
  obtain ⟨rfl, rfl⟩ := H
  go_enter Tryd.func25, Tryd.ntmps25
  go_wp2_with (first | ((with_reducible refine gate_dst (N := 0) rfl ?_); refine box_event ?hg (N := 0) ?hd (cs := #[.string (⟨#[]⟩ : ByteArray), .string (⟨#[]⟩ : ByteArray)]) (t := 32) ?hr ?_; (case hd => rfl); (case hg => rfl); (case hr => first | (go_simp; done) | (go_simp; rfl)); intro gb157 hg w2 hbox hb; have n0_ := Aside0.mk (below_step (by repeat (first | (with_reducible first | exact HB.out | apply below_alloc | apply pw_below_drewN | apply below_drew1) | exact HB.out)) hb); have n1_ := Aside0.mk (hbox); have n2_ := Aside0.mk ((by rw [hg]; exact (below_size (by repeat (first | (with_reducible first | exact HB.out | apply below_alloc | apply pw_below_drewN | apply below_drew1) | exact HB.out))) : w.heap.size ≤ gb157)); have n3_ := Aside0.mk ((by rw [hg]; exact (below_size (by repeat (first | (with_reducible first | exact HB.out | apply below_alloc | apply pw_below_drewN | apply below_drew1) | exact HB.out))) : w.heap.size ≤ gb157)); clear HB; have HB := n0_; have BK157 := n1_; have GW157 := n2_; have GE157 := n3_; clear n0_ n1_ n2_ n3_; clear hb hbox hg) | ((with_reducible refine gate_callee (f := 22) rfl ?_); refine goesL_ (some 1) rfl rfl Tryd.func22 (by kernel_rfl) rfl #[.string (⟨#[116, 121, 112, 101]⟩ : ByteArray), .string (⟨#[115, 105, 103, 110, 97, 108]⟩ : ByteArray)] rfl (by (try simp only [List.map_toArray, List.map_cons, List.map_nil]); first | done | rfl | (simp only [List.length_drop, List.length_take]; rfl)) ?_; (with_reducible refine (dbus_WithMatchOption.calls (⟨#[116, 121, 112, 101]⟩ : ByteArray) (⟨#[115, 105, 103, 110, 97, 108]⟩ : ByteArray) t158 t159 _ A1.out).mono ?_); rintro e w3 ⟨rfl, hb⟩; refine ⟨_, rfl, ?_⟩; have n0_ := Aside0.mk (blk_below (g := gb157) (o := .cells #[.string (⟨#[]⟩ : ByteArray), .string (⟨#[]⟩ : ByteArray)] 32 (0, 0)) (by (with_reducible repeat (first | refine blk_drewN ?_ _ | refine blk_drew ?_ | refine blk_alloc ?_ _)); exact BK157.out) hb); have n1_ := Aside0.mk (below_step (by repeat (first | (with_reducible first | exact HB.out | apply below_alloc | apply pw_below_drewN | apply below_drew1 | refine below_set ?_ GE157.out) | exact HB.out)) hb); clear BK157; clear HB; have BK157 := n0_; have HB := n1_; clear n0_ n1_; (try clear hb); (try clear hb2); (try clear hk); (try clear hi); have hcz4_0 : w3.cell? ⟨gb157, 0, none⟩ = some (.string (⟨#[]⟩ : ByteArray)) := (blk_cell BK157.out 0).trans rfl; have hcz4_1 : w3.cell? ⟨gb157, 1, none⟩ = some (.string (⟨#[]⟩ : ByteArray)) := (blk_cell BK157.out 1).trans rfl; have hfz4_0 := blk_frozen BK157.out 0; have hfz4_1 := blk_frozen BK157.out 1))
  refine bodyPost_ret (results_cell_row rfl _ _ gb157 32 #[.string t158, .string t159] (0, 0) _ rfl (by (with_reducible repeat (first | refine blk_drewN ?_ _ | refine blk_drew ?_ | refine blk_alloc ?_ _)); refine blk_put (cs := #[.string t158, .string (⟨#[]⟩ : ByteArray)]) ?_ 1 _ rfl; (with_reducible repeat (first | refine blk_drewN ?_ _ | refine blk_drew ?_ | refine blk_alloc ?_ _)); refine blk_put (cs := #[.string (⟨#[]⟩ : ByteArray), .string (⟨#[]⟩ : ByteArray)]) ?_ 0 _ rfl; (with_reducible repeat (first | refine blk_drewN ?_ _ | refine blk_drew ?_ | refine blk_alloc ?_ _)); exact BK157.out) Tryd.underlying32 rfl (by kernel_rfl)) rfl ?_
  exact ⟨by first | rfl | (simp [errW_none, errW_some] <;> rfl) | (simp [*, errW_none, errW_some] <;> rfl) | (simp (disch := omega) only [wrap64_id] <;> rfl), by repeat (first | (with_reducible first | exact HB.out | apply below_alloc | apply pw_below_drewN | apply below_drew1 | refine below_set ?_ GE157.out) | exact HB.out)⟩

/-! ### dbus_DoorSignal: function 21 -/
def dbus_DoorSignal.f  : Option (ByteArray × ByteArray) := (dbus_withMatchTypeSignal.f).bind fun bt161 => (some (bt161.1, bt161.2))
set_option maxHeartbeats 8000000 in
set_option maxRecDepth 100000 in
theorem dbus_DoorSignal.calls  (r1 : ByteArray) (r2 : ByteArray) (w : World) (h : dbus_DoorSignal.f  = some (r1, r2)) :
    Calls Tryd.prog 21 #[] w fun e w' => e = .returned (.agg #[.string r1, .string r2]) ∧ Below w.heap.size w w' := by
  have hu32 := Tryd.underlying32
  have HB := Aside0.mk (Below.refl w.heap.size w)
  have H : ((dbus_withMatchTypeSignal.f).bind fun bt161 => (some (bt161.1, bt161.2))) = some (r1, r2) := h
  clear h
  replace H := Option.bind_eq_some_iff.mp H
  obtain ⟨⟨t161, t162⟩, A10, H⟩ := H
  replace H : (some (t161, t162)) = some (r1, r2) := H
  have A1 := Aside0.mk A10
  clear A10
  simp only [Option.some.injEq, Prod.mk.injEq] at H
  obtain ⟨rfl, rfl⟩ := H
  go_enter Tryd.func21, Tryd.ntmps21
  go_wp2_with (first | ((with_reducible refine gate_dst (N := 0) rfl ?_); refine box_event ?hg (N := 0) ?hd (cs := #[.string (⟨#[]⟩ : ByteArray), .string (⟨#[]⟩ : ByteArray)]) (t := 32) ?hr ?_; (case hd => rfl); (case hg => rfl); (case hr => first | (go_simp; done) | (go_simp; rfl)); intro gb160 hg w2 hbox hb; have n0_ := Aside0.mk (below_step (by repeat (first | (with_reducible first | exact HB.out | apply below_alloc | apply pw_below_drewN | apply below_drew1) | exact HB.out)) hb); have n1_ := Aside0.mk (hbox); have n2_ := Aside0.mk ((by rw [hg]; exact (below_size (by repeat (first | (with_reducible first | exact HB.out | apply below_alloc | apply pw_below_drewN | apply below_drew1) | exact HB.out))) : w.heap.size ≤ gb160)); have n3_ := Aside0.mk ((by rw [hg]; exact (below_size (by repeat (first | (with_reducible first | exact HB.out | apply below_alloc | apply pw_below_drewN | apply below_drew1) | exact HB.out))) : w.heap.size ≤ gb160)); clear HB; have HB := n0_; have BK160 := n1_; have GW160 := n2_; have GE160 := n3_; clear n0_ n1_ n2_ n3_; clear hb hbox hg) | ((with_reducible refine gate_callee (f := 25) rfl ?_); refine goesL_ (some 1) rfl rfl Tryd.func25 (by kernel_rfl) rfl #[] rfl (by (try simp only [List.map_toArray, List.map_cons, List.map_nil]); first | done | rfl | (simp only [List.length_drop, List.length_take]; rfl)) ?_; (with_reducible refine (dbus_withMatchTypeSignal.calls  t161 t162 _ A1.out).mono ?_); rintro e w3 ⟨rfl, hb⟩; refine ⟨_, rfl, ?_⟩; have n0_ := Aside0.mk (blk_below (g := gb160) (o := .cells #[.string (⟨#[]⟩ : ByteArray), .string (⟨#[]⟩ : ByteArray)] 32 (0, 0)) (by (with_reducible repeat (first | refine blk_drewN ?_ _ | refine blk_drew ?_ | refine blk_alloc ?_ _)); exact BK160.out) hb); have n1_ := Aside0.mk (below_step (by repeat (first | (with_reducible first | exact HB.out | apply below_alloc | apply pw_below_drewN | apply below_drew1 | refine below_set ?_ GE160.out) | exact HB.out)) hb); clear BK160; clear HB; have BK160 := n0_; have HB := n1_; clear n0_ n1_; (try clear hb); (try clear hb2); (try clear hk); (try clear hi); have hcz4_0 : w3.cell? ⟨gb160, 0, none⟩ = some (.string (⟨#[]⟩ : ByteArray)) := (blk_cell BK160.out 0).trans rfl; have hcz4_1 : w3.cell? ⟨gb160, 1, none⟩ = some (.string (⟨#[]⟩ : ByteArray)) := (blk_cell BK160.out 1).trans rfl; have hfz4_0 := blk_frozen BK160.out 0; have hfz4_1 := blk_frozen BK160.out 1))
  refine bodyPost_ret (results_cell_row rfl _ _ gb160 32 #[.string t161, .string t162] (0, 0) _ rfl (by (with_reducible repeat (first | refine blk_drewN ?_ _ | refine blk_drew ?_ | refine blk_alloc ?_ _)); refine blk_put (cs := #[.string t161, .string (⟨#[]⟩ : ByteArray)]) ?_ 1 _ rfl; (with_reducible repeat (first | refine blk_drewN ?_ _ | refine blk_drew ?_ | refine blk_alloc ?_ _)); refine blk_put (cs := #[.string (⟨#[]⟩ : ByteArray), .string (⟨#[]⟩ : ByteArray)]) ?_ 0 _ rfl; (with_reducible repeat (first | refine blk_drewN ?_ _ | refine blk_drew ?_ | refine blk_alloc ?_ _)); exact BK160.out) Tryd.underlying32 rfl (by kernel_rfl)) rfl ?_
  exact ⟨by first | rfl | (simp [errW_none, errW_some] <;> rfl) | (simp [*, errW_none, errW_some] <;> rfl) | (simp (disch := omega) only [wrap64_id] <;> rfl), by repeat (first | (with_reducible first | exact HB.out | apply below_alloc | apply pw_below_drewN | apply below_drew1 | refine below_set ?_ GE160.out) | exact HB.out)⟩

/-! ### impl_option: function 10 -/
def impl_option.f (k : Nat) (a0 : Int) (a1 : Int) (a2 : ByteArray) : Option (ByteArray × ByteArray) := if a0 = 0 then ((dbus_WithMatchSender.f a2).bind fun bt164 => (some (bt164.1, bt164.2))) else (if a0 = 1 then ((dbus_WithMatchInterface.f a2).bind fun bt166 => (some (bt166.1, bt166.2))) else (if a0 = 2 then ((dbus_WithMatchMember.f a2).bind fun bt168 => (some (bt168.1, bt168.2))) else (if a0 = 3 then ((dbus_WithMatchObjectPath.f a2).bind fun bt170 => (some (bt170.1, bt170.2))) else (if a0 = 4 then ((dbus_WithMatchPathNamespace.f a2).bind fun bt172 => (some (bt172.1, bt172.2))) else (if a0 = 5 then ((dbus_WithMatchDestination.f a2).bind fun bt174 => (some (bt174.1, bt174.2))) else (if a0 = 6 then ((dbus_WithMatchArg.f k a1 a2).bind fun bt176 => (some (bt176.1, bt176.2))) else (if a0 = 7 then ((dbus_WithMatchArgPath.f k a1 a2).bind fun bt178 => (some (bt178.1, bt178.2))) else (if a0 = 8 then ((dbus_WithMatchArg0Namespace.f a2).bind fun bt180 => (some (bt180.1, bt180.2))) else (if a0 = 9 then ((dbus_WithMatchEavesdrop.f (a2.toList == ([116, 114, 117, 101] : List UInt8))).bind fun bt182 => (some (bt182.1, bt182.2))) else (if a0 = 10 then ((dbus_DoorSignal.f).bind fun bt184 => (some (bt184.1, bt184.2))) else ((dbus_WithMatchOption.f (⟨#[107, 101, 121]⟩ : ByteArray) a2).bind fun bt186 => (some (bt186.1, bt186.2)))))))))))))
theorem impl_option.mono : ∀ a0 a1 a2 k, LeO (impl_option.f k a0 a1 a2) (impl_option.f (k + 1) a0 a1 a2) := by
  intro a0 a1 a2 k
  unfold impl_option.f
  repeat' first
      | (with_reducible exact dbus_WithMatchArg.mono _ _ _)
      | (with_reducible exact dbus_WithMatchArgPath.mono _ _ _)
      | (with_reducible exact LeO.refl _)
      | (with_reducible exact LeO.none _)
      | (with_reducible refine LeO.ite ?_ ?_)
      | (with_reducible refine LeO.bind ?_ (fun _ => ?_))
      | exact dbus_WithMatchArg.mono _ _ _
      | exact dbus_WithMatchArgPath.mono _ _ _
      | exact LeO.none _
      | refine LeO.ite ?_ ?_
      | refine LeO.bind ?_ (fun _ => ?_)
set_option maxHeartbeats 8000000 in
set_option maxRecDepth 100000 in
theorem impl_option.calls (k : Nat) (a0 : Int) (a1 : Int) (a2 : ByteArray) (r1 : ByteArray) (r2 : ByteArray) (w : World) (h : impl_option.f k a0 a1 a2 = some (r1, r2)) :
    Calls Tryd.prog 10 #[.int .i64 a0, .int .i64 a1, .string a2] w fun e w' => e = .returned (.agg #[.string r1, .string r2]) ∧ Below w.heap.size w w' := by
  have hu32 := Tryd.underlying32
  have HB := Aside0.mk (Below.refl w.heap.size w)
  have H : (if a0 = 0 then ((dbus_WithMatchSender.f a2).bind fun bt164 => (some (bt164.1, bt164.2))) else (if a0 = 1 then ((dbus_WithMatchInterface.f a2).bind fun bt166 => (some (bt166.1, bt166.2))) else (if a0 = 2 then ((dbus_WithMatchMember.f a2).bind fun bt168 => (some (bt168.1, bt168.2))) else (if a0 = 3 then ((dbus_WithMatchObjectPath.f a2).bind fun bt170 => (some (bt170.1, bt170.2))) else (if a0 = 4 then ((dbus_WithMatchPathNamespace.f a2).bind fun bt172 => (some (bt172.1, bt172.2))) else (if a0 = 5 then ((dbus_WithMatchDestination.f a2).bind fun bt174 => (some (bt174.1, bt174.2))) else (if a0 = 6 then ((dbus_WithMatchArg.f k a1 a2).bind fun bt176 => (some (bt176.1, bt176.2))) else (if a0 = 7 then ((dbus_WithMatchArgPath.f k a1 a2).bind fun bt178 => (some (bt178.1, bt178.2))) else (if a0 = 8 then ((dbus_WithMatchArg0Namespace.f a2).bind fun bt180 => (some (bt180.1, bt180.2))) else (if a0 = 9 then ((dbus_WithMatchEavesdrop.f (a2.toList == ([116, 114, 117, 101] : List UInt8))).bind fun bt182 => (some (bt182.1, bt182.2))) else (if a0 = 10 then ((dbus_DoorSignal.f).bind fun bt184 => (some (bt184.1, bt184.2))) else ((dbus_WithMatchOption.f (⟨#[107, 101, 121]⟩ : ByteArray) a2).bind fun bt186 => (some (bt186.1, bt186.2)))))))))))))) = some (r1, r2) := h
  clear h
  by_cases c4 : a0 = 0
  · rw [if_pos c4] at H
    have c4b0 : (a0 == 0) = true := beq_iff_eq.mpr c4
    have c4b1 : (a0 != 0) = false := bne_eq_false_iff_eq.mpr c4
    clear c4
    replace H := Option.bind_eq_some_iff.mp H
    obtain ⟨⟨t164, t165⟩, A50, H⟩ := H
    replace H : (some (t164, t165)) = some (r1, r2) := H
    have A5 := Aside0.mk A50
    clear A50
    simp only [Option.some.injEq, Prod.mk.injEq] at H
    obtain ⟨rfl, rfl⟩ := H
    go_enter Tryd.func10, Tryd.ntmps10
    go_wp2_with (first | ((with_reducible refine gate_dst (N := 6) rfl ?_); refine box_event ?hg (N := 6) ?hd (cs := #[.string (⟨#[]⟩ : ByteArray), .string (⟨#[]⟩ : ByteArray)]) (t := 32) ?hr ?_; (case hd => rfl); (case hg => rfl); (case hr => first | (go_simp; done) | (go_simp; rfl)); intro gb163 hg w6 hbox hb; have n0_ := Aside0.mk (below_step (by repeat (first | (with_reducible first | exact HB.out | apply below_alloc | apply pw_below_drewN | apply below_drew1) | exact HB.out)) hb); have n1_ := Aside0.mk (hbox); have n2_ := Aside0.mk ((by rw [hg]; exact (below_size (by repeat (first | (with_reducible first | exact HB.out | apply below_alloc | apply pw_below_drewN | apply below_drew1) | exact HB.out))) : w.heap.size ≤ gb163)); have n3_ := Aside0.mk ((by rw [hg]; exact (below_size (by repeat (first | (with_reducible first | exact HB.out | apply below_alloc | apply pw_below_drewN | apply below_drew1) | exact HB.out))) : w.heap.size ≤ gb163)); clear HB; have HB := n0_; have BK163 := n1_; have GW163 := n2_; have GE163 := n3_; clear n0_ n1_ n2_ n3_; clear hb hbox hg) | ((with_reducible refine gate_callee (f := 11) rfl ?_); refine goesL_ (some 11) rfl rfl Tryd.func11 (by kernel_rfl) rfl #[.string a2] rfl (by (try simp only [List.map_toArray, List.map_cons, List.map_nil]); first | done | rfl | (simp only [List.length_drop, List.length_take]; rfl)) ?_; (with_reducible refine (dbus_WithMatchSender.calls a2 t164 t165 _ A5.out).mono ?_); rintro e w7 ⟨rfl, hb⟩; refine ⟨_, rfl, ?_⟩; have n0_ := Aside0.mk (blk_below (g := gb163) (o := .cells #[.string (⟨#[]⟩ : ByteArray), .string (⟨#[]⟩ : ByteArray)] 32 (0, 0)) (by (with_reducible repeat (first | refine blk_drewN ?_ _ | refine blk_drew ?_ | refine blk_alloc ?_ _)); exact BK163.out) hb); have n1_ := Aside0.mk (below_step (by repeat (first | (with_reducible first | exact HB.out | apply below_alloc | apply pw_below_drewN | apply below_drew1 | refine below_set ?_ GE163.out) | exact HB.out)) hb); clear BK163; clear HB; have BK163 := n0_; have HB := n1_; clear n0_ n1_; (try clear hb); (try clear hb2); (try clear hk); (try clear hi); have hcz8_0 : w7.cell? ⟨gb163, 0, none⟩ = some (.string (⟨#[]⟩ : ByteArray)) := (blk_cell BK163.out 0).trans rfl; have hcz8_1 : w7.cell? ⟨gb163, 1, none⟩ = some (.string (⟨#[]⟩ : ByteArray)) := (blk_cell BK163.out 1).trans rfl; have hfz8_0 := blk_frozen BK163.out 0; have hfz8_1 := blk_frozen BK163.out 1))
    refine bodyPost_ret (results_cell_row rfl _ _ gb163 32 #[.string t164, .string t165] (0, 0) _ rfl (by (with_reducible repeat (first | refine blk_drewN ?_ _ | refine blk_drew ?_ | refine blk_alloc ?_ _)); refine blk_put (cs := #[.string t164, .string (⟨#[]⟩ : ByteArray)]) ?_ 1 _ rfl; (with_reducible repeat (first | refine blk_drewN ?_ _ | refine blk_drew ?_ | refine blk_alloc ?_ _)); refine blk_put (cs := #[.string (⟨#[]⟩ : ByteArray), .string (⟨#[]⟩ : ByteArray)]) ?_ 0 _ rfl; (with_reducible repeat (first | refine blk_drewN ?_ _ | refine blk_drew ?_ | refine blk_alloc ?_ _)); exact BK163.out) Tryd.underlying32 rfl (by kernel_rfl)) rfl ?_
    exact ⟨by first | rfl | (simp [errW_none, errW_some] <;> rfl) | (simp [*, errW_none, errW_some] <;> rfl) | (simp (disch := omega) only [wrap64_id] <;> rfl), by repeat (first | (with_reducible first | exact HB.out | apply below_alloc | apply pw_below_drewN | apply below_drew1 | refine below_set ?_ GE163.out) | exact HB.out)⟩
  · rw [if_neg c4] at H
    have c4b0 : (a0 == 0) = false := beq_eq_false_iff_ne.mpr c4
    have c4b1 : (a0 != 0) = true := bne_iff_ne.mpr c4
    by_cases c9 : a0 = 1
    · rw [if_pos c9] at H
      have c9b0 : (a0 == 1) = true := beq_iff_eq.mpr c9
      have c9b1 : (a0 != 1) = false := bne_eq_false_iff_eq.mpr c9
      clear c9
      replace H := Option.bind_eq_some_iff.mp H
      obtain ⟨⟨t166, t167⟩, A100, H⟩ := H
      replace H : (some (t166, t167)) = some (r1, r2) := H
      have A10 := Aside0.mk A100
      clear A100
      simp only [Option.some.injEq, Prod.mk.injEq] at H
      obtain ⟨rfl, rfl⟩ := H
      go_enter Tryd.func10, Tryd.ntmps10
      go_wp2_with (first | ((with_reducible refine gate_dst (N := 6) rfl ?_); refine box_event ?hg (N := 6) ?hd (cs := #[.string (⟨#[]⟩ : ByteArray), .string (⟨#[]⟩ : ByteArray)]) (t := 32) ?hr ?_; (case hd => rfl); (case hg => rfl); (case hr => first | (go_simp; done) | (go_simp; rfl)); intro gb163 hg w11 hbox hb; have n0_ := Aside0.mk (below_step (by repeat (first | (with_reducible first | exact HB.out | apply below_alloc | apply pw_below_drewN | apply below_drew1) | exact HB.out)) hb); have n1_ := Aside0.mk (hbox); have n2_ := Aside0.mk ((by rw [hg]; exact (below_size (by repeat (first | (with_reducible first | exact HB.out | apply below_alloc | apply pw_below_drewN | apply below_drew1) | exact HB.out))) : w.heap.size ≤ gb163)); have n3_ := Aside0.mk ((by rw [hg]; exact (below_size (by repeat (first | (with_reducible first | exact HB.out | apply below_alloc | apply pw_below_drewN | apply below_drew1) | exact HB.out))) : w.heap.size ≤ gb163)); clear HB; have HB := n0_; have BK163 := n1_; have GW163 := n2_; have GE163 := n3_; clear n0_ n1_ n2_ n3_; clear hb hbox hg) | ((with_reducible refine gate_callee (f := 12) rfl ?_); refine goesL_ (some 15) rfl rfl Tryd.func12 (by kernel_rfl) rfl #[.string a2] rfl (by (try simp only [List.map_toArray, List.map_cons, List.map_nil]); first | done | rfl | (simp only [List.length_drop, List.length_take]; rfl)) ?_; (with_reducible refine (dbus_WithMatchInterface.calls a2 t166 t167 _ A10.out).mono ?_); rintro e w12 ⟨rfl, hb⟩; refine ⟨_, rfl, ?_⟩; have n0_ := Aside0.mk (blk_below (g := gb163) (o := .cells #[.string (⟨#[]⟩ : ByteArray), .string (⟨#[]⟩ : ByteArray)] 32 (0, 0)) (by (with_reducible repeat (first | refine blk_drewN ?_ _ | refine blk_drew ?_ | refine blk_alloc ?_ _)); exact BK163.out) hb); have n1_ := Aside0.mk (below_step (by repeat (first | (with_reducible first | exact HB.out | apply below_alloc | apply pw_below_drewN | apply below_drew1 | refine below_set ?_ GE163.out) | exact HB.out)) hb); clear BK163; clear HB; have BK163 := n0_; have HB := n1_; clear n0_ n1_; (try clear hb); (try clear hb2); (try clear hk); (try clear hi); have hcz13_0 : w12.cell? ⟨gb163, 0, none⟩ = some (.string (⟨#[]⟩ : ByteArray)) := (blk_cell BK163.out 0).trans rfl; have hcz13_1 : w12.cell? ⟨gb163, 1, none⟩ = some (.string (⟨#[]⟩ : ByteArray)) := (blk_cell BK163.out 1).trans rfl; have hfz13_0 := blk_frozen BK163.out 0; have hfz13_1 := blk_frozen BK163.out 1))
      refine bodyPost_ret (results_cell_row rfl _ _ gb163 32 #[.string t166, .string t167] (0, 0) _ rfl (by (with_reducible repeat (first | refine blk_drewN ?_ _ | refine blk_drew ?_ | refine blk_alloc ?_ _)); refine blk_put (cs := #[.string t166, .string (⟨#[]⟩ : ByteArray)]) ?_ 1 _ rfl; (with_reducible repeat (first | refine blk_drewN ?_ _ | refine blk_drew ?_ | refine blk_alloc ?_ _)); refine blk_put (cs := #[.string (⟨#[]⟩ : ByteArray), .string (⟨#[]⟩ : ByteArray)]) ?_ 0 _ rfl; (with_reducible repeat (first | refine blk_drewN ?_ _ | refine blk_drew ?_ | refine blk_alloc ?_ _)); exact BK163.out) Tryd.underlying32 rfl (by kernel_rfl)) rfl ?_
      exact ⟨by first | rfl | (simp [errW_none, errW_some] <;> rfl) | (simp [*, errW_none, errW_some] <;> rfl) | (simp (disch := omega) only [wrap64_id] <;> rfl), by repeat (first | (with_reducible first | exact HB.out | apply below_alloc | apply pw_below_drewN | apply below_drew1 | refine below_set ?_ GE163.out) | exact HB.out)⟩
    · rw [if_neg c9] at H
      have c9b0 : (a0 == 1) = false := beq_eq_false_iff_ne.mpr c9
      have c9b1 : (a0 != 1) = true := bne_iff_ne.mpr c9
      by_cases c14 : a0 = 2
      · rw [if_pos c14] at H
        have c14b0 : (a0 == 2) = true := beq_iff_eq.mpr c14
        have c14b1 : (a0 != 2) = false := bne_eq_false_iff_eq.mpr c14
        clear c14
        replace H := Option.bind_eq_some_iff.mp H
        obtain ⟨⟨t168, t169⟩, A150, H⟩ := H
        replace H : (some (t168, t169)) = some (r1, r2) := H
        have A15 := Aside0.mk A150
        clear A150
        simp only [Option.some.injEq, Prod.mk.injEq] at H
        obtain ⟨rfl, rfl⟩ := H
        go_enter Tryd.func10, Tryd.ntmps10
        go_wp2_with (first | ((with_reducible refine gate_dst (N := 6) rfl ?_); refine box_event ?hg (N := 6) ?hd (cs := #[.string (⟨#[]⟩ : ByteArray), .string (⟨#[]⟩ : ByteArray)]) (t := 32) ?hr ?_; (case hd => rfl); (case hg => rfl); (case hr => first | (go_simp; done) | (go_simp; rfl)); intro gb163 hg w16 hbox hb; have n0_ := Aside0.mk (below_step (by repeat (first | (with_reducible first | exact HB.out | apply below_alloc | apply pw_below_drewN | apply below_drew1) | exact HB.out)) hb); have n1_ := Aside0.mk (hbox); have n2_ := Aside0.mk ((by rw [hg]; exact (below_size (by repeat (first | (with_reducible first | exact HB.out | apply below_alloc | apply pw_below_drewN | apply below_drew1) | exact HB.out))) : w.heap.size ≤ gb163)); have n3_ := Aside0.mk ((by rw [hg]; exact (below_size (by repeat (first | (with_reducible first | exact HB.out | apply below_alloc | apply pw_below_drewN | apply below_drew1) | exact HB.out))) : w.heap.size ≤ gb163)); clear HB; have HB := n0_; have BK163 := n1_; have GW163 := n2_; have GE163 := n3_; clear n0_ n1_ n2_ n3_; clear hb hbox hg) | ((with_reducible refine gate_callee (f := 13) rfl ?_); refine goesL_ (some 19) rfl rfl Tryd.func13 (by kernel_rfl) rfl #[.string a2] rfl (by (try simp only [List.map_toArray, List.map_cons, List.map_nil]); first | done | rfl | (simp only [List.length_drop, List.length_take]; rfl)) ?_; (with_reducible refine (dbus_WithMatchMember.calls a2 t168 t169 _ A15.out).mono ?_); rintro e w17 ⟨rfl, hb⟩; refine ⟨_, rfl, ?_⟩; have n0_ := Aside0.mk (blk_below (g := gb163) (o := .cells #[.string (⟨#[]⟩ : ByteArray), .string (⟨#[]⟩ : ByteArray)] 32 (0, 0)) (by (with_reducible repeat (first | refine blk_drewN ?_ _ | refine blk_drew ?_ | refine blk_alloc ?_ _)); exact BK163.out) hb); have n1_ := Aside0.mk (below_step (by repeat (first | (with_reducible first | exact HB.out | apply below_alloc | apply pw_below_drewN | apply below_drew1 | refine below_set ?_ GE163.out) | exact HB.out)) hb); clear BK163; clear HB; have BK163 := n0_; have HB := n1_; clear n0_ n1_; (try clear hb); (try clear hb2); (try clear hk); (try clear hi); have hcz18_0 : w17.cell? ⟨gb163, 0, none⟩ = some (.string (⟨#[]⟩ : ByteArray)) := (blk_cell BK163.out 0).trans rfl; have hcz18_1 : w17.cell? ⟨gb163, 1, none⟩ = some (.string (⟨#[]⟩ : ByteArray)) := (blk_cell BK163.out 1).trans rfl; have hfz18_0 := blk_frozen BK163.out 0; have hfz18_1 := blk_frozen BK163.out 1))
        refine bodyPost_ret (results_cell_row rfl _ _ gb163 32 #[.string t168, .string t169] (0, 0) _ rfl (by (with_reducible repeat (first | refine blk_drewN ?_ _ | refine blk_drew ?_ | refine blk_alloc ?_ _)); refine blk_put (cs := #[.string t168, .string (⟨#[]⟩ : ByteArray)]) ?_ 1 _ rfl; (with_reducible repeat (first | refine blk_drewN ?_ _ | refine blk_drew ?_ | refine blk_alloc ?_ _)); refine blk_put (cs := #[.string (⟨#[]⟩ : ByteArray), .string (⟨#[]⟩ : ByteArray)]) ?_ 0 _ rfl; (with_reducible repeat (first | refine blk_drewN ?_ _ | refine blk_drew ?_ | refine blk_alloc ?_ _)); exact BK163.out) Tryd.underlying32 rfl (by kernel_rfl)) rfl ?_
        exact ⟨by first | rfl | (simp [errW_none, errW_some] <;> rfl) | (simp [*, errW_none, errW_some] <;> rfl) | (simp (disch := omega) only [wrap64_id] <;> rfl), by repeat (first | (with_reducible first | exact HB.out | apply below_alloc | apply pw_below_drewN | apply below_drew1 | refine below_set ?_ GE163.out) | exact HB.out)⟩
      · rw [if_neg c14] at H
        have c14b0 : (a0 == 2) = false := beq_eq_false_iff_ne.mpr c14
        have c14b1 : (a0 != 2) = true := bne_iff_ne.mpr c14
        by_cases c19 : a0 = 3
        · rw [if_pos c19] at H
          have c19b0 : (a0 == 3) = true := beq_iff_eq.mpr c19
          have c19b1 : (a0 != 3) = false := bne_eq_false_iff_eq.mpr c19
          clear c19
          replace H := Option.bind_eq_some_iff.mp H
          obtain ⟨⟨t170, t171⟩, A200, H⟩ := H
          replace H : (some (t170, t171)) = some (r1, r2) := H
          have A20 := Aside0.mk A200
          clear A200
          simp only [Option.some.injEq, Prod.mk.injEq] at H
          obtain ⟨rfl, rfl⟩ := H
          go_enter Tryd.func10, Tryd.ntmps10
          go_wp2_with (first | ((with_reducible refine gate_dst (N := 6) rfl ?_); refine box_event ?hg (N := 6) ?hd (cs := #[.string (⟨#[]⟩ : ByteArray), .string (⟨#[]⟩ : ByteArray)]) (t := 32) ?hr ?_; (case hd => rfl); (case hg => rfl); (case hr => first | (go_simp; done) | (go_simp; rfl)); intro gb163 hg w21 hbox hb; have n0_ := Aside0.mk (below_step (by repeat (first | (with_reducible first | exact HB.out | apply below_alloc | apply pw_below_drewN | apply below_drew1) | exact HB.out)) hb); have n1_ := Aside0.mk (hbox); have n2_ := Aside0.mk ((by rw [hg]; exact (below_size (by repeat (first | (with_reducible first | exact HB.out | apply below_alloc | apply pw_below_drewN | apply below_drew1) | exact HB.out))) : w.heap.size ≤ gb163)); have n3_ := Aside0.mk ((by rw [hg]; exact (below_size (by repeat (first | (with_reducible first | exact HB.out | apply below_alloc | apply pw_below_drewN | apply below_drew1) | exact HB.out))) : w.heap.size ≤ gb163)); clear HB; have HB := n0_; have BK163 := n1_; have GW163 := n2_; have GE163 := n3_; clear n0_ n1_ n2_ n3_; clear hb hbox hg) | ((with_reducible refine gate_callee (f := 14) rfl ?_); refine goesL_ (some 23) rfl rfl Tryd.func14 (by kernel_rfl) rfl #[.string a2] rfl (by (try simp only [List.map_toArray, List.map_cons, List.map_nil]); first | done | rfl | (simp only [List.length_drop, List.length_take]; rfl)) ?_; (with_reducible refine (dbus_WithMatchObjectPath.calls a2 t170 t171 _ A20.out).mono ?_); rintro e w22 ⟨rfl, hb⟩; refine ⟨_, rfl, ?_⟩; have n0_ := Aside0.mk (blk_below (g := gb163) (o := .cells #[.string (⟨#[]⟩ : ByteArray), .string (⟨#[]⟩ : ByteArray)] 32 (0, 0)) (by (with_reducible repeat (first | refine blk_drewN ?_ _ | refine blk_drew ?_ | refine blk_alloc ?_ _)); exact BK163.out) hb); have n1_ := Aside0.mk (below_step (by repeat (first | (with_reducible first | exact HB.out | apply below_alloc | apply pw_below_drewN | apply below_drew1 | refine below_set ?_ GE163.out) | exact HB.out)) hb); clear BK163; clear HB; have BK163 := n0_; have HB := n1_; clear n0_ n1_; (try clear hb); (try clear hb2); (try clear hk); (try clear hi); have hcz23_0 : w22.cell? ⟨gb163, 0, none⟩ = some (.string (⟨#[]⟩ : ByteArray)) := (blk_cell BK163.out 0).trans rfl; have hcz23_1 : w22.cell? ⟨gb163, 1, none⟩ = some (.string (⟨#[]⟩ : ByteArray)) := (blk_cell BK163.out 1).trans rfl; have hfz23_0 := blk_frozen BK163.out 0; have hfz23_1 := blk_frozen BK163.out 1))
          refine bodyPost_ret (results_cell_row rfl _ _ gb163 32 #[.string t170, .string t171] (0, 0) _ rfl (by (with_reducible repeat (first | refine blk_drewN ?_ _ | refine blk_drew ?_ | refine blk_alloc ?_ _)); refine blk_put (cs := #[.string t170, .string (⟨#[]⟩ : ByteArray)]) ?_ 1 _ rfl; (with_reducible repeat (first | refine blk_drewN ?_ _ | refine blk_drew ?_ | refine blk_alloc ?_ _)); refine blk_put (cs := #[.string (⟨#[]⟩ : ByteArray), .string (⟨#[]⟩ : ByteArray)]) ?_ 0 _ rfl; (with_reducible repeat (first | refine blk_drewN ?_ _ | refine blk_drew ?_ | refine blk_alloc ?_ _)); exact BK163.out) Tryd.underlying32 rfl (by kernel_rfl)) rfl ?_
          exact ⟨by first | rfl | (simp [errW_none, errW_some] <;> rfl) | (simp [*, errW_none, errW_some] <;> rfl) | (simp (disch := omega) only [wrap64_id] <;> rfl), by repeat (first | (with_reducible first | exact HB.out | apply below_alloc | apply pw_below_drewN | apply below_drew1 | refine below_set ?_ GE163.out) | exact HB.out)⟩
        · rw [if_neg c19] at H
          have c19b0 : (a0 == 3) = false := beq_eq_false_iff_ne.mpr c19
          have c19b1 : (a0 != 3) = true := bne_iff_ne.mpr c19
          by_cases c24 : a0 = 4
          · rw [if_pos c24] at H
            have c24b0 : (a0 == 4) = true := beq_iff_eq.mpr c24
            have c24b1 : (a0 != 4) = false := bne_eq_false_iff_eq.mpr c24
            clear c24
            replace H := Option.bind_eq_some_iff.mp H
            obtain ⟨⟨t172, t173⟩, A250, H⟩ := H
            replace H : (some (t172, t173)) = some (r1, r2) := H
            have A25 := Aside0.mk A250
            clear A250
            simp only [Option.some.injEq, Prod.mk.injEq] at H
            obtain ⟨rfl, rfl⟩ := H
            go_enter Tryd.func10, Tryd.ntmps10
            go_wp2_with (first | ((with_reducible refine gate_dst (N := 6) rfl ?_); refine box_event ?hg (N := 6) ?hd (cs := #[.string (⟨#[]⟩ : ByteArray), .string (⟨#[]⟩ : ByteArray)]) (t := 32) ?hr ?_; (case hd => rfl); (case hg => rfl); (case hr => first | (go_simp; done) | (go_simp; rfl)); intro gb163 hg w26 hbox hb; have n0_ := Aside0.mk (below_step (by repeat (first | (with_reducible first | exact HB.out | apply below_alloc | apply pw_below_drewN | apply below_drew1) | exact HB.out)) hb); have n1_ := Aside0.mk (hbox); have n2_ := Aside0.mk ((by rw [hg]; exact (below_size (by repeat (first | (with_reducible first | exact HB.out | apply below_alloc | apply pw_below_drewN | apply below_drew1) | exact HB.out))) : w.heap.size ≤ gb163)); have n3_ := Aside0.mk ((by rw [hg]; exact (below_size (by repeat (first | (with_reducible first | exact HB.out | apply below_alloc | apply pw_below_drewN | apply below_drew1) | exact HB.out))) : w.heap.size ≤ gb163)); clear HB; have HB := n0_; have BK163 := n1_; have GW163 := n2_; have GE163 := n3_; clear n0_ n1_ n2_ n3_; clear hb hbox hg) | ((with_reducible refine gate_callee (f := 15) rfl ?_); refine goesL_ (some 27) rfl rfl Tryd.func15 (by kernel_rfl) rfl #[.string a2] rfl (by (try simp only [List.map_toArray, List.map_cons, List.map_nil]); first | done | rfl | (simp only [List.length_drop, List.length_take]; rfl)) ?_; (with_reducible refine (dbus_WithMatchPathNamespace.calls a2 t172 t173 _ A25.out).mono ?_); rintro e w27 ⟨rfl, hb⟩; refine ⟨_, rfl, ?_⟩; have n0_ := Aside0.mk (blk_below (g := gb163) (o := .cells #[.string (⟨#[]⟩ : ByteArray), .string (⟨#[]⟩ : ByteArray)] 32 (0, 0)) (by (with_reducible repeat (first | refine blk_drewN ?_ _ | refine blk_drew ?_ | refine blk_alloc ?_ _)); exact BK163.out) hb); have n1_ := Aside0.mk (below_step (by repeat (first | (with_reducible first | exact HB.out | apply below_alloc | apply pw_below_drewN | apply below_drew1 | refine below_set ?_ GE163.out) | exact HB.out)) hb); clear BK163; clear HB; have BK163 := n0_; have HB := n1_; clear n0_ n1_; (try clear hb); (try clear hb2); (try clear hk); (try clear hi); have hcz28_0 : w27.cell? ⟨gb163, 0, none⟩ = some (.string (⟨#[]⟩ : ByteArray)) := (blk_cell BK163.out 0).trans rfl; have hcz28_1 : w27.cell? ⟨gb163, 1, none⟩ = some (.string (⟨#[]⟩ : ByteArray)) := (blk_cell BK163.out 1).trans rfl; have hfz28_0 := blk_frozen BK163.out 0; have hfz28_1 := blk_frozen BK163.out 1))
            refine bodyPost_ret (results_cell_row rfl _ _ gb163 32 #[.string t172, .string t173] (0, 0) _ rfl (by (with_reducible repeat (first | refine blk_drewN ?_ _ | refine blk_drew ?_ | refine blk_alloc ?_ _)); refine blk_put (cs := #[.string t172, .string (⟨#[]⟩ : ByteArray)]) ?_ 1 _ rfl; (with_reducible repeat (first | refine blk_drewN ?_ _ | refine blk_drew ?_ | refine blk_alloc ?_ _)); refine blk_put (cs := #[.string (⟨#[]⟩ : ByteArray), .string (⟨#[]⟩ : ByteArray)]) ?_ 0 _ rfl; (with_reducible repeat (first | refine blk_drewN ?_ _ | refine blk_drew ?_ | refine blk_alloc ?_ _)); exact BK163.out) Tryd.underlying32 rfl (by kernel_rfl)) rfl ?_
            exact ⟨by first | rfl | (simp [errW_none, errW_some] <;> rfl) | (simp [*, errW_none, errW_some] <;> rfl) | (simp (disch := omega) only [wrap64_id] <;> rfl), by repeat (first | (with_reducible first | exact HB.out | apply below_alloc | apply pw_below_drewN | apply below_drew1 | refine below_set ?_ GE163.out) | exact HB.out)⟩
          · rw [if_neg c24] at H
            have c24b0 : (a0 == 4) = false := beq_eq_false_iff_ne.mpr c24
            have c24b1 : (a0 != 4) = true := bne_iff_ne.mpr c24
            by_cases c29 : a0 = 5
            · rw [if_pos c29] at H
              have c29b0 : (a0 == 5) = true := beq_iff_eq.mpr c29
              have c29b1 : (a0 != 5) = false := bne_eq_false_iff_eq.mpr c29
              clear c29
              replace H := Option.bind_eq_some_iff.mp H
              obtain ⟨⟨t174, t175⟩, A300, H⟩ := H
              replace H : (some (t174, t175)) = some (r1, r2) := H
              have A30 := Aside0.mk A300
              clear A300
              simp only [Option.some.injEq, Prod.mk.injEq] at H
              obtain ⟨rfl, rfl⟩ := H
              go_enter Tryd.func10, Tryd.ntmps10
              go_wp2_with (first | ((with_reducible refine gate_dst (N := 6) rfl ?_); refine box_event ?hg (N := 6) ?hd (cs := #[.string (⟨#[]⟩ : ByteArray), .string (⟨#[]⟩ : ByteArray)]) (t := 32) ?hr ?_; (case hd => rfl); (case hg => rfl); (case hr => first | (go_simp; done) | (go_simp; rfl)); intro gb163 hg w31 hbox hb; have n0_ := Aside0.mk (below_step (by repeat (first | (with_reducible first | exact HB.out | apply below_alloc | apply pw_below_drewN | apply below_drew1) | exact HB.out)) hb); have n1_ := Aside0.mk (hbox); have n2_ := Aside0.mk ((by rw [hg]; exact (below_size (by repeat (first | (with_reducible first | exact HB.out | apply below_alloc | apply pw_below_drewN | apply below_drew1) | exact HB.out))) : w.heap.size ≤ gb163)); have n3_ := Aside0.mk ((by rw [hg]; exact (below_size (by repeat (first | (with_reducible first | exact HB.out | apply below_alloc | apply pw_below_drewN | apply below_drew1) | exact HB.out))) : w.heap.size ≤ gb163)); clear HB; have HB := n0_; have BK163 := n1_; have GW163 := n2_; have GE163 := n3_; clear n0_ n1_ n2_ n3_; clear hb hbox hg) | ((with_reducible refine gate_callee (f := 16) rfl ?_); refine goesL_ (some 31) rfl rfl Tryd.func16 (by kernel_rfl) rfl #[.string a2] rfl (by (try simp only [List.map_toArray, List.map_cons, List.map_nil]); first | done | rfl | (simp only [List.length_drop, List.length_take]; rfl)) ?_; (with_reducible refine (dbus_WithMatchDestination.calls a2 t174 t175 _ A30.out).mono ?_); rintro e w32 ⟨rfl, hb⟩; refine ⟨_, rfl, ?_⟩; have n0_ := Aside0.mk (blk_below (g := gb163) (o := .cells #[.string (⟨#[]⟩ : ByteArray), .string (⟨#[]⟩ : ByteArray)] 32 (0, 0)) (by (with_reducible repeat (first | refine blk_drewN ?_ _ | refine blk_drew ?_ | refine blk_alloc ?_ _)); exact BK163.out) hb); have n1_ := Aside0.mk (below_step (by repeat (first | (with_reducible first | exact HB.out | apply below_alloc | apply pw_below_drewN | apply below_drew1 | refine below_set ?_ GE163.out) | exact HB.out)) hb); clear BK163; clear HB; have BK163 := n0_; have HB := n1_; clear n0_ n1_; (try clear hb); (try clear hb2); (try clear hk); (try clear hi); have hcz33_0 : w32.cell? ⟨gb163, 0, none⟩ = some (.string (⟨#[]⟩ : ByteArray)) := (blk_cell BK163.out 0).trans rfl; have hcz33_1 : w32.cell? ⟨gb163, 1, none⟩ = some (.string (⟨#[]⟩ : ByteArray)) := (blk_cell BK163.out 1).trans rfl; have hfz33_0 := blk_frozen BK163.out 0; have hfz33_1 := blk_frozen BK163.out 1))
              refine bodyPost_ret (results_cell_row rfl _ _ gb163 32 #[.string t174, .string t175] (0, 0) _ rfl (by (with_reducible repeat (first | refine blk_drewN ?_ _ | refine blk_drew ?_ | refine blk_alloc ?_ _)); refine blk_put (cs := #[.string t174, .string (⟨#[]⟩ : ByteArray)]) ?_ 1 _ rfl; (with_reducible repeat (first | refine blk_drewN ?_ _ | refine blk_drew ?_ | refine blk_alloc ?_ _)); refine blk_put (cs := #[.string (⟨#[]⟩ : ByteArray), .string (⟨#[]⟩ : ByteArray)]) ?_ 0 _ rfl; (with_reducible repeat (first | refine blk_drewN ?_ _ | refine blk_drew ?_ | refine blk_alloc ?_ _)); exact BK163.out) Tryd.underlying32 rfl (by kernel_rfl)) rfl ?_
              exact ⟨by first | rfl | (simp [errW_none, errW_some] <;> rfl) | (simp [*, errW_none, errW_some] <;> rfl) | (simp (disch := omega) only [wrap64_id] <;> rfl), by repeat (first | (with_reducible first | exact HB.out | apply below_alloc | apply pw_below_drewN | apply below_drew1 | refine below_set ?_ GE163.out) | exact HB.out)⟩
            · rw [if_neg c29] at H
              have c29b0 : (a0 == 5) = false := beq_eq_false_iff_ne.mpr c29
              have c29b1 : (a0 != 5) = true := bne_iff_ne.mpr c29
              by_cases c34 : a0 = 6
              · rw [if_pos c34] at H
                have c34b0 : (a0 == 6) = true := beq_iff_eq.mpr c34
                have c34b1 : (a0 != 6) = false := bne_eq_false_iff_eq.mpr c34
                clear c34
                replace H := Option.bind_eq_some_iff.mp H
                obtain ⟨⟨t176, t177⟩, A350, H⟩ := H
                replace H : (some (t176, t177)) = some (r1, r2) := H
                have A35 := Aside0.mk A350
                clear A350
                simp only [Option.some.injEq, Prod.mk.injEq] at H
                obtain ⟨rfl, rfl⟩ := H
                go_enter Tryd.func10, Tryd.ntmps10
                go_wp2_with (first | ((with_reducible refine gate_dst (N := 6) rfl ?_); refine box_event ?hg (N := 6) ?hd (cs := #[.string (⟨#[]⟩ : ByteArray), .string (⟨#[]⟩ : ByteArray)]) (t := 32) ?hr ?_; (case hd => rfl); (case hg => rfl); (case hr => first | (go_simp; done) | (go_simp; rfl)); intro gb163 hg w36 hbox hb; have n0_ := Aside0.mk (below_step (by repeat (first | (with_reducible first | exact HB.out | apply below_alloc | apply pw_below_drewN | apply below_drew1) | exact HB.out)) hb); have n1_ := Aside0.mk (hbox); have n2_ := Aside0.mk ((by rw [hg]; exact (below_size (by repeat (first | (with_reducible first | exact HB.out | apply below_alloc | apply pw_below_drewN | apply below_drew1) | exact HB.out))) : w.heap.size ≤ gb163)); have n3_ := Aside0.mk ((by rw [hg]; exact (below_size (by repeat (first | (with_reducible first | exact HB.out | apply below_alloc | apply pw_below_drewN | apply below_drew1) | exact HB.out))) : w.heap.size ≤ gb163)); clear HB; have HB := n0_; have BK163 := n1_; have GW163 := n2_; have GE163 := n3_; clear n0_ n1_ n2_ n3_; clear hb hbox hg) | ((with_reducible refine gate_callee (f := 17) rfl ?_); refine goesL_ (some 36) rfl rfl Tryd.func17 (by kernel_rfl) rfl #[.int .i64 a1, .string a2] rfl (by (try simp only [List.map_toArray, List.map_cons, List.map_nil]); first | done | rfl | (simp only [List.length_drop, List.length_take]; rfl)) ?_; (with_reducible refine (dbus_WithMatchArg.calls k a1 a2 t176 t177 _ A35.out).mono ?_); rintro e w37 ⟨rfl, hb⟩; refine ⟨_, rfl, ?_⟩; have n0_ := Aside0.mk (blk_below (g := gb163) (o := .cells #[.string (⟨#[]⟩ : ByteArray), .string (⟨#[]⟩ : ByteArray)] 32 (0, 0)) (by (with_reducible repeat (first | refine blk_drewN ?_ _ | refine blk_drew ?_ | refine blk_alloc ?_ _)); exact BK163.out) hb); have n1_ := Aside0.mk (below_step (by repeat (first | (with_reducible first | exact HB.out | apply below_alloc | apply pw_below_drewN | apply below_drew1 | refine below_set ?_ GE163.out) | exact HB.out)) hb); clear BK163; clear HB; have BK163 := n0_; have HB := n1_; clear n0_ n1_; (try clear hb); (try clear hb2); (try clear hk); (try clear hi); have hcz38_0 : w37.cell? ⟨gb163, 0, none⟩ = some (.string (⟨#[]⟩ : ByteArray)) := (blk_cell BK163.out 0).trans rfl; have hcz38_1 : w37.cell? ⟨gb163, 1, none⟩ = some (.string (⟨#[]⟩ : ByteArray)) := (blk_cell BK163.out 1).trans rfl; have hfz38_0 := blk_frozen BK163.out 0; have hfz38_1 := blk_frozen BK163.out 1))
                refine bodyPost_ret (results_cell_row rfl _ _ gb163 32 #[.string t176, .string t177] (0, 0) _ rfl (by (with_reducible repeat (first | refine blk_drewN ?_ _ | refine blk_drew ?_ | refine blk_alloc ?_ _)); refine blk_put (cs := #[.string t176, .string (⟨#[]⟩ : ByteArray)]) ?_ 1 _ rfl; (with_reducible repeat (first | refine blk_drewN ?_ _ | refine blk_drew ?_ | refine blk_alloc ?_ _)); refine blk_put (cs := #[.string (⟨#[]⟩ : ByteArray), .string (⟨#[]⟩ : ByteArray)]) ?_ 0 _ rfl; (with_reducible repeat (first | refine blk_drewN ?_ _ | refine blk_drew ?_ | refine blk_alloc ?_ _)); exact BK163.out) Tryd.underlying32 rfl (by kernel_rfl)) rfl ?_
                exact ⟨by first | rfl | (simp [errW_none, errW_some] <;> rfl) | (simp [*, errW_none, errW_some] <;> rfl) | (simp (disch := omega) only [wrap64_id] <;> rfl), by repeat (first | (with_reducible first | exact HB.out | apply below_alloc | apply pw_below_drewN | apply below_drew1 | refine below_set ?_ GE163.out) | exact HB.out)⟩
              · rw [if_neg c34] at H
                have c34b0 : (a0 == 6) = false := beq_eq_false_iff_ne.mpr c34
                have c34b1 : (a0 != 6) = true := bne_iff_ne.mpr c34
                by_cases c39 : a0 = 7
                · rw [if_pos c39] at H
                  have c39b0 : (a0 == 7) = true := beq_iff_eq.mpr c39
                  have c39b1 : (a0 != 7) = false := bne_eq_false_iff_eq.mpr c39
                  clear c39
                  replace H := Option.bind_eq_some_iff.mp H
                  obtain ⟨⟨t178, t179⟩, A400, H⟩ := H
                  replace H : (some (t178, t179)) = some (r1, r2) := H
                  have A40 := Aside0.mk A400
                  clear A400
                  simp only [Option.some.injEq, Prod.mk.injEq] at H
                  obtain ⟨rfl, rfl⟩ := H
                  go_enter Tryd.func10, Tryd.ntmps10
                  go_wp2_with (first | ((with_reducible refine gate_dst (N := 6) rfl ?_); refine box_event ?hg (N := 6) ?hd (cs := #[.string (⟨#[]⟩ : ByteArray), .string (⟨#[]⟩ : ByteArray)]) (t := 32) ?hr ?_; (case hd => rfl); (case hg => rfl); (case hr => first | (go_simp; done) | (go_simp; rfl)); intro gb163 hg w41 hbox hb; have n0_ := Aside0.mk (below_step (by repeat (first | (with_reducible first | exact HB.out | apply below_alloc | apply pw_below_drewN | apply below_drew1) | exact HB.out)) hb); have n1_ := Aside0.mk (hbox); have n2_ := Aside0.mk ((by rw [hg]; exact (below_size (by repeat (first | (with_reducible first | exact HB.out | apply below_alloc | apply pw_below_drewN | apply below_drew1) | exact HB.out))) : w.heap.size ≤ gb163)); have n3_ := Aside0.mk ((by rw [hg]; exact (below_size (by repeat (first | (with_reducible first | exact HB.out | apply below_alloc | apply pw_below_drewN | apply below_drew1) | exact HB.out))) : w.heap.size ≤ gb163)); clear HB; have HB := n0_; have BK163 := n1_; have GW163 := n2_; have GE163 := n3_; clear n0_ n1_ n2_ n3_; clear hb hbox hg) | ((with_reducible refine gate_callee (f := 18) rfl ?_); refine goesL_ (some 41) rfl rfl Tryd.func18 (by kernel_rfl) rfl #[.int .i64 a1, .string a2] rfl (by (try simp only [List.map_toArray, List.map_cons, List.map_nil]); first | done | rfl | (simp only [List.length_drop, List.length_take]; rfl)) ?_; (with_reducible refine (dbus_WithMatchArgPath.calls k a1 a2 t178 t179 _ A40.out).mono ?_); rintro e w42 ⟨rfl, hb⟩; refine ⟨_, rfl, ?_⟩; have n0_ := Aside0.mk (blk_below (g := gb163) (o := .cells #[.string (⟨#[]⟩ : ByteArray), .string (⟨#[]⟩ : ByteArray)] 32 (0, 0)) (by (with_reducible repeat (first | refine blk_drewN ?_ _ | refine blk_drew ?_ | refine blk_alloc ?_ _)); exact BK163.out) hb); have n1_ := Aside0.mk (below_step (by repeat (first | (with_reducible first | exact HB.out | apply below_alloc | apply pw_below_drewN | apply below_drew1 | refine below_set ?_ GE163.out) | exact HB.out)) hb); clear BK163; clear HB; have BK163 := n0_; have HB := n1_; clear n0_ n1_; (try clear hb); (try clear hb2); (try clear hk); (try clear hi); have hcz43_0 : w42.cell? ⟨gb163, 0, none⟩ = some (.string (⟨#[]⟩ : ByteArray)) := (blk_cell BK163.out 0).trans rfl; have hcz43_1 : w42.cell? ⟨gb163, 1, none⟩ = some (.string (⟨#[]⟩ : ByteArray)) := (blk_cell BK163.out 1).trans rfl; have hfz43_0 := blk_frozen BK163.out 0; have hfz43_1 := blk_frozen BK163.out 1))
                  refine bodyPost_ret (results_cell_row rfl _ _ gb163 32 #[.string t178, .string t179] (0, 0) _ rfl (by (with_reducible repeat (first | refine blk_drewN ?_ _ | refine blk_drew ?_ | refine blk_alloc ?_ _)); refine blk_put (cs := #[.string t178, .string (⟨#[]⟩ : ByteArray)]) ?_ 1 _ rfl; (with_reducible repeat (first | refine blk_drewN ?_ _ | refine blk_drew ?_ | refine blk_alloc ?_ _)); refine blk_put (cs := #[.string (⟨#[]⟩ : ByteArray), .string (⟨#[]⟩ : ByteArray)]) ?_ 0 _ rfl; (with_reducible repeat (first | refine blk_drewN ?_ _ | refine blk_drew ?_ | refine blk_alloc ?_ _)); exact BK163.out) Tryd.underlying32 rfl (by kernel_rfl)) rfl ?_
                  exact ⟨by first | rfl | (simp [errW_none, errW_some] <;> rfl) | (simp [*, errW_none, errW_some] <;> rfl) | (simp (disch := omega) only [wrap64_id] <;> rfl), by repeat (first | (with_reducible first | exact HB.out | apply below_alloc | apply pw_below_drewN | apply below_drew1 | refine below_set ?_ GE163.out) | exact HB.out)⟩
                · rw [if_neg c39] at H
                  have c39b0 : (a0 == 7) = false := beq_eq_false_iff_ne.mpr c39
                  have c39b1 : (a0 != 7) = true := bne_iff_ne.mpr c39
                  by_cases c44 : a0 = 8
                  · rw [if_pos c44] at H
                    have c44b0 : (a0 == 8) = true := beq_iff_eq.mpr c44
                    have c44b1 : (a0 != 8) = false := bne_eq_false_iff_eq.mpr c44
                    clear c44
                    replace H := Option.bind_eq_some_iff.mp H
                    obtain ⟨⟨t180, t181⟩, A450, H⟩ := H
                    replace H : (some (t180, t181)) = some (r1, r2) := H
                    have A45 := Aside0.mk A450
                    clear A450
                    simp only [Option.some.injEq, Prod.mk.injEq] at H
                    obtain ⟨rfl, rfl⟩ := H
                    go_enter Tryd.func10, Tryd.ntmps10
                    go_wp2_with (first | ((with_reducible refine gate_dst (N := 6) rfl ?_); refine box_event ?hg (N := 6) ?hd (cs := #[.string (⟨#[]⟩ : ByteArray), .string (⟨#[]⟩ : ByteArray)]) (t := 32) ?hr ?_; (case hd => rfl); (case hg => rfl); (case hr => first | (go_simp; done) | (go_simp; rfl)); intro gb163 hg w46 hbox hb; have n0_ := Aside0.mk (below_step (by repeat (first | (with_reducible first | exact HB.out | apply below_alloc | apply pw_below_drewN | apply below_drew1) | exact HB.out)) hb); have n1_ := Aside0.mk (hbox); have n2_ := Aside0.mk ((by rw [hg]; exact (below_size (by repeat (first | (with_reducible first | exact HB.out | apply below_alloc | apply pw_below_drewN | apply below_drew1) | exact HB.out))) : w.heap.size ≤ gb163)); have n3_ := Aside0.mk ((by rw [hg]; exact (below_size (by repeat (first | (with_reducible first | exact HB.out | apply below_alloc | apply pw_below_drewN | apply below_drew1) | exact HB.out))) : w.heap.size ≤ gb163)); clear HB; have HB := n0_; have BK163 := n1_; have GW163 := n2_; have GE163 := n3_; clear n0_ n1_ n2_ n3_; clear hb hbox hg) | ((with_reducible refine gate_callee (f := 19) rfl ?_); refine goesL_ (some 45) rfl rfl Tryd.func19 (by kernel_rfl) rfl #[.string a2] rfl (by (try simp only [List.map_toArray, List.map_cons, List.map_nil]); first | done | rfl | (simp only [List.length_drop, List.length_take]; rfl)) ?_; (with_reducible refine (dbus_WithMatchArg0Namespace.calls a2 t180 t181 _ A45.out).mono ?_); rintro e w47 ⟨rfl, hb⟩; refine ⟨_, rfl, ?_⟩; have n0_ := Aside0.mk (blk_below (g := gb163) (o := .cells #[.string (⟨#[]⟩ : ByteArray), .string (⟨#[]⟩ : ByteArray)] 32 (0, 0)) (by (with_reducible repeat (first | refine blk_drewN ?_ _ | refine blk_drew ?_ | refine blk_alloc ?_ _)); exact BK163.out) hb); have n1_ := Aside0.mk (below_step (by repeat (first | (with_reducible first | exact HB.out | apply below_alloc | apply pw_below_drewN | apply below_drew1 | refine below_set ?_ GE163.out) | exact HB.out)) hb); clear BK163; clear HB; have BK163 := n0_; have HB := n1_; clear n0_ n1_; (try clear hb); (try clear hb2); (try clear hk); (try clear hi); have hcz48_0 : w47.cell? ⟨gb163, 0, none⟩ = some (.string (⟨#[]⟩ : ByteArray)) := (blk_cell BK163.out 0).trans rfl; have hcz48_1 : w47.cell? ⟨gb163, 1, none⟩ = some (.string (⟨#[]⟩ : ByteArray)) := (blk_cell BK163.out 1).trans rfl; have hfz48_0 := blk_frozen BK163.out 0; have hfz48_1 := blk_frozen BK163.out 1))
                    refine bodyPost_ret (results_cell_row rfl _ _ gb163 32 #[.string t180, .string t181] (0, 0) _ rfl (by (with_reducible repeat (first | refine blk_drewN ?_ _ | refine blk_drew ?_ | refine blk_alloc ?_ _)); refine blk_put (cs := #[.string t180, .string (⟨#[]⟩ : ByteArray)]) ?_ 1 _ rfl; (with_reducible repeat (first | refine blk_drewN ?_ _ | refine blk_drew ?_ | refine blk_alloc ?_ _)); refine blk_put (cs := #[.string (⟨#[]⟩ : ByteArray), .string (⟨#[]⟩ : ByteArray)]) ?_ 0 _ rfl; (with_reducible repeat (first | refine blk_drewN ?_ _ | refine blk_drew ?_ | refine blk_alloc ?_ _)); exact BK163.out) Tryd.underlying32 rfl (by kernel_rfl)) rfl ?_
                    exact ⟨by first | rfl | (simp [errW_none, errW_some] <;> rfl) | (simp [*, errW_none, errW_some] <;> rfl) | (simp (disch := omega) only [wrap64_id] <;> rfl), by repeat (first | (with_reducible first | exact HB.out | apply below_alloc | apply pw_below_drewN | apply below_drew1 | refine below_set ?_ GE163.out) | exact HB.out)⟩
                  · rw [if_neg c44] at H
                    have c44b0 : (a0 == 8) = false := beq_eq_false_iff_ne.mpr c44
                    have c44b1 : (a0 != 8) = true := bne_iff_ne.mpr c44
                    by_cases c49 : a0 = 9
                    · rw [if_pos c49] at H
                      have c49b0 : (a0 == 9) = true := beq_iff_eq.mpr c49
                      have c49b1 : (a0 != 9) = false := bne_eq_false_iff_eq.mpr c49
                      clear c49
                      replace H := Option.bind_eq_some_iff.mp H
                      obtain ⟨⟨t182, t183⟩, A500, H⟩ := H
                      replace H : (some (t182, t183)) = some (r1, r2) := H
                      have A50 := Aside0.mk A500
                      clear A500
                      simp only [Option.some.injEq, Prod.mk.injEq] at H
                      obtain ⟨rfl, rfl⟩ := H
                      go_enter Tryd.func10, Tryd.ntmps10
                      go_wp2_with (first | ((with_reducible refine gate_dst (N := 6) rfl ?_); refine box_event ?hg (N := 6) ?hd (cs := #[.string (⟨#[]⟩ : ByteArray), .string (⟨#[]⟩ : ByteArray)]) (t := 32) ?hr ?_; (case hd => rfl); (case hg => rfl); (case hr => first | (go_simp; done) | (go_simp; rfl)); intro gb163 hg w51 hbox hb; have n0_ := Aside0.mk (below_step (by repeat (first | (with_reducible first | exact HB.out | apply below_alloc | apply pw_below_drewN | apply below_drew1) | exact HB.out)) hb); have n1_ := Aside0.mk (hbox); have n2_ := Aside0.mk ((by rw [hg]; exact (below_size (by repeat (first | (with_reducible first | exact HB.out | apply below_alloc | apply pw_below_drewN | apply below_drew1) | exact HB.out))) : w.heap.size ≤ gb163)); have n3_ := Aside0.mk ((by rw [hg]; exact (below_size (by repeat (first | (with_reducible first | exact HB.out | apply below_alloc | apply pw_below_drewN | apply below_drew1) | exact HB.out))) : w.heap.size ≤ gb163)); clear HB; have HB := n0_; have BK163 := n1_; have GW163 := n2_; have GE163 := n3_; clear n0_ n1_ n2_ n3_; clear hb hbox hg) | ((with_reducible refine gate_callee (f := 20) rfl ?_); refine goesL_ (some 50) rfl rfl Tryd.func20 (by kernel_rfl) rfl #[.bool (a2.toList == ([116, 114, 117, 101] : List UInt8))] rfl (by (try simp only [List.map_toArray, List.map_cons, List.map_nil]); first | done | rfl | (simp only [List.length_drop, List.length_take]; rfl)) ?_; (with_reducible refine (dbus_WithMatchEavesdrop.calls (a2.toList == ([116, 114, 117, 101] : List UInt8)) t182 t183 _ A50.out).mono ?_); rintro e w52 ⟨rfl, hb⟩; refine ⟨_, rfl, ?_⟩; have n0_ := Aside0.mk (blk_below (g := gb163) (o := .cells #[.string (⟨#[]⟩ : ByteArray), .string (⟨#[]⟩ : ByteArray)] 32 (0, 0)) (by (with_reducible repeat (first | refine blk_drewN ?_ _ | refine blk_drew ?_ | refine blk_alloc ?_ _)); exact BK163.out) hb); have n1_ := Aside0.mk (below_step (by repeat (first | (with_reducible first | exact HB.out | apply below_alloc | apply pw_below_drewN | apply below_drew1 | refine below_set ?_ GE163.out) | exact HB.out)) hb); clear BK163; clear HB; have BK163 := n0_; have HB := n1_; clear n0_ n1_; (try clear hb); (try clear hb2); (try clear hk); (try clear hi); have hcz53_0 : w52.cell? ⟨gb163, 0, none⟩ = some (.string (⟨#[]⟩ : ByteArray)) := (blk_cell BK163.out 0).trans rfl; have hcz53_1 : w52.cell? ⟨gb163, 1, none⟩ = some (.string (⟨#[]⟩ : ByteArray)) := (blk_cell BK163.out 1).trans rfl; have hfz53_0 := blk_frozen BK163.out 0; have hfz53_1 := blk_frozen BK163.out 1))
                      refine bodyPost_ret (results_cell_row rfl _ _ gb163 32 #[.string t182, .string t183] (0, 0) _ rfl (by (with_reducible repeat (first | refine blk_drewN ?_ _ | refine blk_drew ?_ | refine blk_alloc ?_ _)); refine blk_put (cs := #[.string t182, .string (⟨#[]⟩ : ByteArray)]) ?_ 1 _ rfl; (with_reducible repeat (first | refine blk_drewN ?_ _ | refine blk_drew ?_ | refine blk_alloc ?_ _)); refine blk_put (cs := #[.string (⟨#[]⟩ : ByteArray), .string (⟨#[]⟩ : ByteArray)]) ?_ 0 _ rfl; (with_reducible repeat (first | refine blk_drewN ?_ _ | refine blk_drew ?_ | refine blk_alloc ?_ _)); exact BK163.out) Tryd.underlying32 rfl (by kernel_rfl)) rfl ?_
                      exact ⟨by first | rfl | (simp [errW_none, errW_some] <;> rfl) | (simp [*, errW_none, errW_some] <;> rfl) | (simp (disch := omega) only [wrap64_id] <;> rfl), by repeat (first | (with_reducible first | exact HB.out | apply below_alloc | apply pw_below_drewN | apply below_drew1 | refine below_set ?_ GE163.out) | exact HB.out)⟩
                    · rw [if_neg c49] at H
                      have c49b0 : (a0 == 9) = false := beq_eq_false_iff_ne.mpr c49
                      have c49b1 : (a0 != 9) = true := bne_iff_ne.mpr c49
                      by_cases c54 : a0 = 10
                      · rw [if_pos c54] at H
                        have c54b0 : (a0 == 10) = true := beq_iff_eq.mpr c54
                        have c54b1 : (a0 != 10) = false := bne_eq_false_iff_eq.mpr c54
                        clear c54
                        replace H := Option.bind_eq_some_iff.mp H
                        obtain ⟨⟨t184, t185⟩, A550, H⟩ := H
                        replace H : (some (t184, t185)) = some (r1, r2) := H
                        have A55 := Aside0.mk A550
                        clear A550
                        simp only [Option.some.injEq, Prod.mk.injEq] at H
                        obtain ⟨rfl, rfl⟩ := H
                        go_enter Tryd.func10, Tryd.ntmps10
                        go_wp2_with (first | ((with_reducible refine gate_dst (N := 6) rfl ?_); refine box_event ?hg (N := 6) ?hd (cs := #[.string (⟨#[]⟩ : ByteArray), .string (⟨#[]⟩ : ByteArray)]) (t := 32) ?hr ?_; (case hd => rfl); (case hg => rfl); (case hr => first | (go_simp; done) | (go_simp; rfl)); intro gb163 hg w56 hbox hb; have n0_ := Aside0.mk (below_step (by repeat (first | (with_reducible first | exact HB.out | apply below_alloc | apply pw_below_drewN | apply below_drew1) | exact HB.out)) hb); have n1_ := Aside0.mk (hbox); have n2_ := Aside0.mk ((by rw [hg]; exact (below_size (by repeat (first | (with_reducible first | exact HB.out | apply below_alloc | apply pw_below_drewN | apply below_drew1) | exact HB.out))) : w.heap.size ≤ gb163)); have n3_ := Aside0.mk ((by rw [hg]; exact (below_size (by repeat (first | (with_reducible first | exact HB.out | apply below_alloc | apply pw_below_drewN | apply below_drew1) | exact HB.out))) : w.heap.size ≤ gb163)); clear HB; have HB := n0_; have BK163 := n1_; have GW163 := n2_; have GE163 := n3_; clear n0_ n1_ n2_ n3_; clear hb hbox hg) | ((with_reducible refine gate_callee (f := 21) rfl ?_); refine goesL_ (some 53) rfl rfl Tryd.func21 (by kernel_rfl) rfl #[] rfl (by (try simp only [List.map_toArray, List.map_cons, List.map_nil]); first | done | rfl | (simp only [List.length_drop, List.length_take]; rfl)) ?_; (with_reducible refine (dbus_DoorSignal.calls  t184 t185 _ A55.out).mono ?_); rintro e w57 ⟨rfl, hb⟩; refine ⟨_, rfl, ?_⟩; have n0_ := Aside0.mk (blk_below (g := gb163) (o := .cells #[.string (⟨#[]⟩ : ByteArray), .string (⟨#[]⟩ : ByteArray)] 32 (0, 0)) (by (with_reducible repeat (first | refine blk_drewN ?_ _ | refine blk_drew ?_ | refine blk_alloc ?_ _)); exact BK163.out) hb); have n1_ := Aside0.mk (below_step (by repeat (first | (with_reducible first | exact HB.out | apply below_alloc | apply pw_below_drewN | apply below_drew1 | refine below_set ?_ GE163.out) | exact HB.out)) hb); clear BK163; clear HB; have BK163 := n0_; have HB := n1_; clear n0_ n1_; (try clear hb); (try clear hb2); (try clear hk); (try clear hi); have hcz58_0 : w57.cell? ⟨gb163, 0, none⟩ = some (.string (⟨#[]⟩ : ByteArray)) := (blk_cell BK163.out 0).trans rfl; have hcz58_1 : w57.cell? ⟨gb163, 1, none⟩ = some (.string (⟨#[]⟩ : ByteArray)) := (blk_cell BK163.out 1).trans rfl; have hfz58_0 := blk_frozen BK163.out 0; have hfz58_1 := blk_frozen BK163.out 1))
                        refine bodyPost_ret (results_cell_row rfl _ _ gb163 32 #[.string t184, .string t185] (0, 0) _ rfl (by (with_reducible repeat (first | refine blk_drewN ?_ _ | refine blk_drew ?_ | refine blk_alloc ?_ _)); refine blk_put (cs := #[.string t184, .string (⟨#[]⟩ : ByteArray)]) ?_ 1 _ rfl; (with_reducible repeat (first | refine blk_drewN ?_ _ | refine blk_drew ?_ | refine blk_alloc ?_ _)); refine blk_put (cs := #[.string (⟨#[]⟩ : ByteArray), .string (⟨#[]⟩ : ByteArray)]) ?_ 0 _ rfl; (with_reducible repeat (first | refine blk_drewN ?_ _ | refine blk_drew ?_ | refine blk_alloc ?_ _)); exact BK163.out) Tryd.underlying32 rfl (by kernel_rfl)) rfl ?_
                        exact ⟨by first | rfl | (simp [errW_none, errW_some] <;> rfl) | (simp [*, errW_none, errW_some] <;> rfl) | (simp (disch := omega) only [wrap64_id] <;> rfl), by repeat (first | (with_reducible first | exact HB.out | apply below_alloc | apply pw_below_drewN | apply below_drew1 | refine below_set ?_ GE163.out) | exact HB.out)⟩
                      · rw [if_neg c54] at H
                        have c54b0 : (a0 == 10) = false := beq_eq_false_iff_ne.mpr c54
                        have c54b1 : (a0 != 10) = true := bne_iff_ne.mpr c54
                        replace H := Option.bind_eq_some_iff.mp H
                        obtain ⟨⟨t186, t187⟩, A590, H⟩ := H
                        replace H : (some (t186, t187)) = some (r1, r2) := H
                        have A59 := Aside0.mk A590
                        clear A590
                        simp only [Option.some.injEq, Prod.mk.injEq] at H
                        obtain ⟨rfl, rfl⟩ := H
                        go_enter Tryd.func10, Tryd.ntmps10
                        go_wp2_with (first | ((with_reducible refine gate_dst (N := 6) rfl ?_); refine box_event ?hg (N := 6) ?hd (cs := #[.string (⟨#[]⟩ : ByteArray), .string (⟨#[]⟩ : ByteArray)]) (t := 32) ?hr ?_; (case hd => rfl); (case hg => rfl); (case hr => first | (go_simp; done) | (go_simp; rfl)); intro gb163 hg w60 hbox hb; have n0_ := Aside0.mk (below_step (by repeat (first | (with_reducible first | exact HB.out | apply below_alloc | apply pw_below_drewN | apply below_drew1) | exact HB.out)) hb); have n1_ := Aside0.mk (hbox); have n2_ := Aside0.mk ((by rw [hg]; exact (below_size (by repeat (first | (with_reducible first | exact HB.out | apply below_alloc | apply pw_below_drewN | apply below_drew1) | exact HB.out))) : w.heap.size ≤ gb163)); have n3_ := Aside0.mk ((by rw [hg]; exact (below_size (by repeat (first | (with_reducible first | exact HB.out | apply below_alloc | apply pw_below_drewN | apply below_drew1) | exact HB.out))) : w.heap.size ≤ gb163)); clear HB; have HB := n0_; have BK163 := n1_; have GW163 := n2_; have GE163 := n3_; clear n0_ n1_ n2_ n3_; clear hb hbox hg) | ((with_reducible refine gate_callee (f := 22) rfl ?_); refine goesL_ (some 55) rfl rfl Tryd.func22 (by kernel_rfl) rfl #[.string (⟨#[107, 101, 121]⟩ : ByteArray), .string a2] rfl (by (try simp only [List.map_toArray, List.map_cons, List.map_nil]); first | done | rfl | (simp only [List.length_drop, List.length_take]; rfl)) ?_; (with_reducible refine (dbus_WithMatchOption.calls (⟨#[107, 101, 121]⟩ : ByteArray) a2 t186 t187 _ A59.out).mono ?_); rintro e w61 ⟨rfl, hb⟩; refine ⟨_, rfl, ?_⟩; have n0_ := Aside0.mk (blk_below (g := gb163) (o := .cells #[.string (⟨#[]⟩ : ByteArray), .string (⟨#[]⟩ : ByteArray)] 32 (0, 0)) (by (with_reducible repeat (first | refine blk_drewN ?_ _ | refine blk_drew ?_ | refine blk_alloc ?_ _)); exact BK163.out) hb); have n1_ := Aside0.mk (below_step (by repeat (first | (with_reducible first | exact HB.out | apply below_alloc | apply pw_below_drewN | apply below_drew1 | refine below_set ?_ GE163.out) | exact HB.out)) hb); clear BK163; clear HB; have BK163 := n0_; have HB := n1_; clear n0_ n1_; (try clear hb); (try clear hb2); (try clear hk); (try clear hi); have hcz62_0 : w61.cell? ⟨gb163, 0, none⟩ = some (.string (⟨#[]⟩ : ByteArray)) := (blk_cell BK163.out 0).trans rfl; have hcz62_1 : w61.cell? ⟨gb163, 1, none⟩ = some (.string (⟨#[]⟩ : ByteArray)) := (blk_cell BK163.out 1).trans rfl; have hfz62_0 := blk_frozen BK163.out 0; have hfz62_1 := blk_frozen BK163.out 1))
                        refine bodyPost_ret (results_cell_row rfl _ _ gb163 32 #[.string t186, .string t187] (0, 0) _ rfl (by (with_reducible repeat (first | refine blk_drewN ?_ _ | refine blk_drew ?_ | refine blk_alloc ?_ _)); refine blk_put (cs := #[.string t186, .string (⟨#[]⟩ : ByteArray)]) ?_ 1 _ rfl; (with_reducible repeat (first | refine blk_drewN ?_ _ | refine blk_drew ?_ | refine blk_alloc ?_ _)); refine blk_put (cs := #[.string (⟨#[]⟩ : ByteArray), .string (⟨#[]⟩ : ByteArray)]) ?_ 0 _ rfl; (with_reducible repeat (first | refine blk_drewN ?_ _ | refine blk_drew ?_ | refine blk_alloc ?_ _)); exact BK163.out) Tryd.underlying32 rfl (by kernel_rfl)) rfl ?_
                        exact ⟨by first | rfl | (simp [errW_none, errW_some] <;> rfl) | (simp [*, errW_none, errW_some] <;> rfl) | (simp (disch := omega) only [wrap64_id] <;> rfl), by repeat (first | (with_reducible first | exact HB.out | apply below_alloc | apply pw_below_drewN | apply below_drew1 | refine below_set ?_ GE163.out) | exact HB.out)⟩

end Go.Proofs.YtbemkokigpcmdaaDoor.MFnMtWith
