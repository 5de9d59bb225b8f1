-- Written by a program of this session (myprint.py, out of the translation). Not trusted: Lean checks it.
import Derived.Test.YtboioihppjhjcaaDoorQB01
import Derived.Test.YtboioihppjhjcaaDoorQB05
namespace Go.Proofs.YtboioihppjhjcaaDoor.MFnSgOf
open Go.RowKit Go.Proofs.YtboioihppjhjcaaDoorW.PrintWords Go.Proofs.YtboioihppjhjcaaDoorW.PrintLast Go.Proofs.YtboioihppjhjcaaDoorW.PrintMore
attribute [local go_sem] max2_int min2_int max_two min_two max_three min_three max_four min_four   -- for this text's walks alone
set_option linter.unusedVariables false
set_option linter.unusedSimpArgs false

/-! ### spec_tidy: function 23; spec_Tidy: function 12 -/
/-- What is to be shown of tidy with so many rounds. -/
abbrev CT (k : Nat) : Prop := ∀ (a0_0 : Int) (a0_1 : Int) (a0_2 : ByteArray) (A0_3 : Option Addr) (c0_3 : Nat) (l0_3 : List (S31)) (r : Bool) (w : World) (hT : Lib.Utf8Tabs 1 2 w) (hr0_3 : Kd.C k31 w A0_3 l0_3.length l0_3) (hc0_3 : l0_3.length ≤ c0_3) (h : spec_tidy.f k a0_0 a0_1 a0_2 l0_3 = some r),
  Calls Tryd.prog 23 #[.agg #[.int .u8 a0_0, .int .u64 a0_1, .string a0_2, .slice A0_3 l0_3.length c0_3]] w fun e w' => e = .returned (.bool r) ∧ Below w.heap.size w w'
set_option maxHeartbeats 8000000 in
set_option maxRecDepth 100000 in
theorem spec_Tidy.calls0 (k : Nat) (ihT : CT k) (a0_0 : Int) (a0_1 : Int) (a0_2 : ByteArray) (A0_3 : Option Addr) (c0_3 : Nat) (l0_3 : List (S31)) (r : Bool) (w : World) (hT : Lib.Utf8Tabs 1 2 w) (hr0_3 : Kd.C k31 w A0_3 l0_3.length l0_3) (hc0_3 : l0_3.length ≤ c0_3) (h : spec_Tidy.f k a0_0 a0_1 a0_2 l0_3 = some r) :
  Calls Tryd.prog 12 #[.agg #[.int .u8 a0_0, .int .u64 a0_1, .string a0_2, .slice A0_3 l0_3.length c0_3]] w fun e w' => e = .returned (.bool r) ∧ Below w.heap.size w w' := by
 have hu31 := Tryd.underlying31
 have HR0_3 := Aside0.mk hr0_3
 have HC0_3 := Aside0.mk hc0_3
 clear hr0_3 hc0_3
 have HB := Aside0.mk (Below.refl w.heap.size w)
 have H : (if a0_0 = 123 then (some false) else ((spec_SigOf.f k a0_0 a0_1 a0_2 l0_3).bind fun t130 => ((spec_Valid.f k t130).bind fun t131 => (if t131 = true then ((spec_tidy.f k a0_0 a0_1 a0_2 l0_3).bind fun t132 => (some t132)) else (some false))))) = some r := h
 clear h
 by_cases c2 : a0_0 = 123
 ·rw [if_pos c2] at H
  have c2b0 : (a0_0 == 123) = true := beq_iff_eq.mpr c2
  have c2b1 : (a0_0 != 123) = false := bne_eq_false_iff_eq.mpr c2
  clear c2
  obtain rfl := Option.some.inj H
  go_enter Tryd.func12, Tryd.ntmps12
  go_wp2_with (first | ((with_reducible refine gate_dst (N := 1) rfl ?_); refine box_event ?hg (N := 1) ?hd (cs := #[.int .u8 a0_0, .int .u64 a0_1, .string a0_2, .slice A0_3 l0_3.length c0_3]) (t := 31) ?hr ?_; (case hd => rfl); (case hg => rfl); (case hr => first | (go_simp; done) | (go_simp; rfl)); intro gb129 hg w3 hbox hb; have n0_ := Aside0.mk (below_step (by repeat (first | (with_reducible first | exact HB.out | apply below_alloc | apply pw_below_drewN | apply below_drew1) | exact HB.out)) hb); have n1_ := Aside0.mk (hbox); have n2_ := Aside0.mk ((by rw [hg]; exact (below_size (by repeat (first | (with_reducible first | exact HB.out | apply below_alloc | apply pw_below_drewN | apply below_drew1) | exact HB.out))) : w.heap.size ≤ gb129)); have n3_ := Aside0.mk ((by rw [hg]; exact (below_size (by repeat (first | (with_reducible first | exact HB.out | apply below_alloc | apply pw_below_drewN | apply below_drew1) | exact HB.out))) : w.heap.size ≤ gb129)); clear HB; have HB := n0_; have BK129 := n1_; have GW129 := n2_; have GE129 := n3_; clear n0_ n1_ n2_ n3_; clear hb hbox hg; have hcz4_0 : w3.cell? ⟨gb129, 0, none⟩ = some (.int .u8 a0_0) := (blk_cell BK129.out 0).trans rfl; have hcz4_1 : w3.cell? ⟨gb129, 1, none⟩ = some (.int .u64 a0_1) := (blk_cell BK129.out 1).trans rfl; have hcz4_2 : w3.cell? ⟨gb129, 2, none⟩ = some (.string a0_2) := (blk_cell BK129.out 2).trans rfl; have hcz4_3 : w3.cell? ⟨gb129, 3, none⟩ = some (.slice A0_3 l0_3.length c0_3) := (blk_cell BK129.out 3).trans rfl; have hfz4_0 := blk_frozen BK129.out 0; have hfz4_1 := blk_frozen BK129.out 1; have hfz4_2 := blk_frozen BK129.out 2; have hfz4_3 := blk_frozen BK129.out 3))
  go_ret
  exact ⟨by first | rfl | (simp [errW_none, errW_some] <;> rfl) | (simp [*, errW_none, errW_some] <;> rfl) | (simp (disch := omega) only [wrap64_id] <;> rfl), by repeat (first | (with_reducible first | exact HB.out | apply below_alloc | apply pw_below_drewN | apply below_drew1 | refine below_set ?_ GE129.out) | exact HB.out)⟩
 ·rw [if_neg c2] at H
  have c2b0 : (a0_0 == 123) = false := beq_eq_false_iff_ne.mpr c2
  have c2b1 : (a0_0 != 123) = true := bne_iff_ne.mpr c2
  replace H := Option.bind_eq_some_iff.mp H
  obtain ⟨t130, A50, H⟩ := H
  replace H : ((spec_Valid.f k t130).bind fun t131 => (if t131 = true then ((spec_tidy.f k a0_0 a0_1 a0_2 l0_3).bind fun t132 => (some t132)) else (some false))) = some r := H
  have A5 := Aside0.mk A50
  clear A50
  replace H := Option.bind_eq_some_iff.mp H
  obtain ⟨t131, A60, H⟩ := H
  replace H : (if t131 = true then ((spec_tidy.f k a0_0 a0_1 a0_2 l0_3).bind fun t132 => (some t132)) else (some false)) = some r := H
  have A6 := Aside0.mk A60
  clear A60
  by_cases c7 : t131 = true
  ·subst c7
   have H1 : ((spec_tidy.f k a0_0 a0_1 a0_2 l0_3).bind fun t132 => (some t132)) = some r := by rw [if_pos rfl] at H; exact H
   clear H
   have H := H1
   clear H1
   replace H := Option.bind_eq_some_iff.mp H
   obtain ⟨t132, A80, H⟩ := H
   replace H : (some t132) = some r := H
   have A8 := Aside0.mk A80
   clear A80
   obtain rfl := Option.some.inj H
   go_enter Tryd.func12, Tryd.ntmps12
   go_wp2_with (first | ((with_reducible refine gate_dst (N := 1) rfl ?_); refine box_event ?hg (N := 1) ?hd (cs := #[.int .u8 a0_0, .int .u64 a0_1, .string a0_2, .slice A0_3 l0_3.length c0_3]) (t := 31) ?hr ?_; (case hd => rfl); (case hg => rfl); (case hr => first | (go_simp; done) | (go_simp; rfl)); intro gb129 hg w9 hbox hb; have n0_ := Aside0.mk (below_step (by repeat (first | (with_reducible first | exact HB.out | apply below_alloc | apply pw_below_drewN | apply below_drew1) | exact HB.out)) hb); have n1_ := Aside0.mk (hbox); have n2_ := Aside0.mk ((by rw [hg]; exact (below_size (by repeat (first | (with_reducible first | exact HB.out | apply below_alloc | apply pw_below_drewN | apply below_drew1) | exact HB.out))) : w.heap.size ≤ gb129)); have n3_ := Aside0.mk ((by rw [hg]; exact (below_size (by repeat (first | (with_reducible first | exact HB.out | apply below_alloc | apply pw_below_drewN | apply below_drew1) | exact HB.out))) : w.heap.size ≤ gb129)); clear HB; have HB := n0_; have BK129 := n1_; have GW129 := n2_; have GE129 := n3_; clear n0_ n1_ n2_ n3_; clear hb hbox hg; have hcz10_0 : w9.cell? ⟨gb129, 0, none⟩ = some (.int .u8 a0_0) := (blk_cell BK129.out 0).trans rfl; have hcz10_1 : w9.cell? ⟨gb129, 1, none⟩ = some (.int .u64 a0_1) := (blk_cell BK129.out 1).trans rfl; have hcz10_2 : w9.cell? ⟨gb129, 2, none⟩ = some (.string a0_2) := (blk_cell BK129.out 2).trans rfl; have hcz10_3 : w9.cell? ⟨gb129, 3, none⟩ = some (.slice A0_3 l0_3.length c0_3) := (blk_cell BK129.out 3).trans rfl; have hfz10_0 := blk_frozen BK129.out 0; have hfz10_1 := blk_frozen BK129.out 1; have hfz10_2 := blk_frozen BK129.out 2; have hfz10_3 := blk_frozen BK129.out 3) | (go_at_call 17; (with_reducible refine (spec_SigOf.calls k a0_0 a0_1 a0_2 _ _ l0_3 t130 _ ?side1 ?side2 A5.out).mono ?_); (case side1 => repeat (first | exact (Kd.C_below HR0_3.out HB.out) | (with_reducible refine Kd.C_alloc ?_ _) | (with_reducible refine Kd.C_drewN ?_ _) | (with_reducible refine Kd.C_drew ?_))); (case side2 => exact HC0_3.out); rintro e w11 ⟨rfl, hb⟩; have n0_ := Aside0.mk (blk_below (g := gb129) (o := .cells #[.int .u8 a0_0, .int .u64 a0_1, .string a0_2, .slice A0_3 l0_3.length c0_3] 31 (0, 0)) (by (with_reducible repeat (first | refine blk_drewN ?_ _ | refine blk_drew ?_ | refine blk_alloc ?_ _)); exact BK129.out) hb); have n1_ := Aside0.mk (below_step (by repeat (first | (with_reducible first | exact HB.out | apply below_alloc | apply pw_below_drewN | apply below_drew1 | refine below_set ?_ GE129.out) | exact HB.out)) hb); clear BK129; clear HB; have BK129 := n0_; have HB := n1_; clear n0_ n1_; (try clear hb); (try clear hb2); (try clear hk); (try clear hi)) | (go_at_call 22; (with_reducible refine (spec_Valid.calls k t130 true _ A6.out).mono ?_); rintro e w12 ⟨rfl, hb⟩; have n0_ := Aside0.mk (blk_below (g := gb129) (o := .cells #[.int .u8 a0_0, .int .u64 a0_1, .string a0_2, .slice A0_3 l0_3.length c0_3] 31 (0, 0)) (by (with_reducible repeat (first | refine blk_drewN ?_ _ | refine blk_drew ?_ | refine blk_alloc ?_ _)); exact BK129.out) hb); have n1_ := Aside0.mk (below_step (by repeat (first | (with_reducible first | exact HB.out | apply below_alloc | apply pw_below_drewN | apply below_drew1 | refine below_set ?_ GE129.out) | exact HB.out)) hb); clear BK129; clear HB; have BK129 := n0_; have HB := n1_; clear n0_ n1_; (try clear hb); (try clear hb2); (try clear hk); (try clear hi); have hcz13_0 : w12.cell? ⟨gb129, 0, none⟩ = some (.int .u8 a0_0) := (blk_cell BK129.out 0).trans rfl; have hcz13_1 : w12.cell? ⟨gb129, 1, none⟩ = some (.int .u64 a0_1) := (blk_cell BK129.out 1).trans rfl; have hcz13_2 : w12.cell? ⟨gb129, 2, none⟩ = some (.string a0_2) := (blk_cell BK129.out 2).trans rfl; have hcz13_3 : w12.cell? ⟨gb129, 3, none⟩ = some (.slice A0_3 l0_3.length c0_3) := (blk_cell BK129.out 3).trans rfl; have hfz13_0 := blk_frozen BK129.out 0; have hfz13_1 := blk_frozen BK129.out 1; have hfz13_2 := blk_frozen BK129.out 2; have hfz13_3 := blk_frozen BK129.out 3) | (go_at_call 23; (with_reducible refine (ihT a0_0 a0_1 a0_2 _ _ l0_3 t132 _ ?sideT ?side1 ?side2 A8.out).mono ?_); (case sideT => exact Utf8Tabs_below hT (by repeat (first | (with_reducible first | exact HB.out | apply below_alloc | apply pw_below_drewN | apply below_drew1 | refine below_set ?_ GE129.out) | exact HB.out))); (case side1 => repeat (first | exact (Kd.C_below HR0_3.out HB.out) | (with_reducible refine Kd.C_alloc ?_ _) | (with_reducible refine Kd.C_drewN ?_ _) | (with_reducible refine Kd.C_drew ?_))); (case side2 => exact HC0_3.out); rintro e w14 ⟨rfl, hb⟩; have n0_ := Aside0.mk (blk_below (g := gb129) (o := .cells #[.int .u8 a0_0, .int .u64 a0_1, .string a0_2, .slice A0_3 l0_3.length c0_3] 31 (0, 0)) (by (with_reducible repeat (first | refine blk_drewN ?_ _ | refine blk_drew ?_ | refine blk_alloc ?_ _)); exact BK129.out) hb); have n1_ := Aside0.mk (below_step (by repeat (first | (with_reducible first | exact HB.out | apply below_alloc | apply pw_below_drewN | apply below_drew1 | refine below_set ?_ GE129.out) | exact HB.out)) hb); clear BK129; clear HB; have BK129 := n0_; have HB := n1_; clear n0_ n1_; (try clear hb); (try clear hb2); (try clear hk); (try clear hi)))
   go_ret
   exact ⟨by first | rfl | (simp [errW_none, errW_some] <;> rfl) | (simp [*, errW_none, errW_some] <;> rfl) | (simp (disch := omega) only [wrap64_id] <;> rfl), by repeat (first | (with_reducible first | exact HB.out | apply below_alloc | apply pw_below_drewN | apply below_drew1 | refine below_set ?_ GE129.out) | exact HB.out)⟩
  ·replace c7 := Bool.eq_false_iff.mpr c7
   subst c7
   have H1 : (some false) = some r := by rw [if_neg (show ¬ (false = true) by decide)] at H; exact H
   clear H
   have H := H1
   clear H1
   obtain rfl := Option.some.inj H
   go_enter Tryd.func12, Tryd.ntmps12
   go_wp2_with (first | ((with_reducible refine gate_dst (N := 1) rfl ?_); refine box_event ?hg (N := 1) ?hd (cs := #[.int .u8 a0_0, .int .u64 a0_1, .string a0_2, .slice A0_3 l0_3.length c0_3]) (t := 31) ?hr ?_; (case hd => rfl); (case hg => rfl); (case hr => first | (go_simp; done) | (go_simp; rfl)); intro gb129 hg w15 hbox hb; have n0_ := Aside0.mk (below_step (by repeat (first | (with_reducible first | exact HB.out | apply below_alloc | apply pw_below_drewN | apply below_drew1) | exact HB.out)) hb); have n1_ := Aside0.mk (hbox); have n2_ := Aside0.mk ((by rw [hg]; exact (below_size (by repeat (first | (with_reducible first | exact HB.out | apply below_alloc | apply pw_below_drewN | apply below_drew1) | exact HB.out))) : w.heap.size ≤ gb129)); have n3_ := Aside0.mk ((by rw [hg]; exact (below_size (by repeat (first | (with_reducible first | exact HB.out | apply below_alloc | apply pw_below_drewN | apply below_drew1) | exact HB.out))) : w.heap.size ≤ gb129)); clear HB; have HB := n0_; have BK129 := n1_; have GW129 := n2_; have GE129 := n3_; clear n0_ n1_ n2_ n3_; clear hb hbox hg; have hcz16_0 : w15.cell? ⟨gb129, 0, none⟩ = some (.int .u8 a0_0) := (blk_cell BK129.out 0).trans rfl; have hcz16_1 : w15.cell? ⟨gb129, 1, none⟩ = some (.int .u64 a0_1) := (blk_cell BK129.out 1).trans rfl; have hcz16_2 : w15.cell? ⟨gb129, 2, none⟩ = some (.string a0_2) := (blk_cell BK129.out 2).trans rfl; have hcz16_3 : w15.cell? ⟨gb129, 3, none⟩ = some (.slice A0_3 l0_3.length c0_3) := (blk_cell BK129.out 3).trans rfl; have hfz16_0 := blk_frozen BK129.out 0; have hfz16_1 := blk_frozen BK129.out 1; have hfz16_2 := blk_frozen BK129.out 2; have hfz16_3 := blk_frozen BK129.out 3) | (go_at_call 17; (with_reducible refine (spec_SigOf.calls k a0_0 a0_1 a0_2 _ _ l0_3 t130 _ ?side1 ?side2 A5.out).mono ?_); (case side1 => repeat (first | exact (Kd.C_below HR0_3.out HB.out) | (with_reducible refine Kd.C_alloc ?_ _) | (with_reducible refine Kd.C_drewN ?_ _) | (with_reducible refine Kd.C_drew ?_))); (case side2 => exact HC0_3.out); rintro e w17 ⟨rfl, hb⟩; have n0_ := Aside0.mk (blk_below (g := gb129) (o := .cells #[.int .u8 a0_0, .int .u64 a0_1, .string a0_2, .slice A0_3 l0_3.length c0_3] 31 (0, 0)) (by (with_reducible repeat (first | refine blk_drewN ?_ _ | refine blk_drew ?_ | refine blk_alloc ?_ _)); exact BK129.out) hb); have n1_ := Aside0.mk (below_step (by repeat (first | (with_reducible first | exact HB.out | apply below_alloc | apply pw_below_drewN | apply below_drew1 | refine below_set ?_ GE129.out) | exact HB.out)) hb); clear BK129; clear HB; have BK129 := n0_; have HB := n1_; clear n0_ n1_; (try clear hb); (try clear hb2); (try clear hk); (try clear hi)) | (go_at_call 22; (with_reducible refine (spec_Valid.calls k t130 false _ A6.out).mono ?_); rintro e w18 ⟨rfl, hb⟩; have n0_ := Aside0.mk (blk_below (g := gb129) (o := .cells #[.int .u8 a0_0, .int .u64 a0_1, .string a0_2, .slice A0_3 l0_3.length c0_3] 31 (0, 0)) (by (with_reducible repeat (first | refine blk_drewN ?_ _ | refine blk_drew ?_ | refine blk_alloc ?_ _)); exact BK129.out) hb); have n1_ := Aside0.mk (below_step (by repeat (first | (with_reducible first | exact HB.out | apply below_alloc | apply pw_below_drewN | apply below_drew1 | refine below_set ?_ GE129.out) | exact HB.out)) hb); clear BK129; clear HB; have BK129 := n0_; have HB := n1_; clear n0_ n1_; (try clear hb); (try clear hb2); (try clear hk); (try clear hi)))
   go_ret
   exact ⟨by first | rfl | (simp [errW_none, errW_some] <;> rfl) | (simp [*, errW_none, errW_some] <;> rfl) | (simp (disch := omega) only [wrap64_id] <;> rfl), by repeat (first | (with_reducible first | exact HB.out | apply below_alloc | apply pw_below_drewN | apply below_drew1 | refine below_set ?_ GE129.out) | exact HB.out)⟩

def spec_tidy.T17 : Bool × List (List Nat × List Nat) := (true, [([], []), ([0], [0]), ([], []), ([2], [2]), ([1, 3], [1, 3]), ([4, 1], [4]), ([5], [5]), ([6, 5, 5], [5, 6]), ([7, 5], [5, 7]), ([5, 8], [5, 8])])
def spec_tidy.B17 : List Nat := [0, 1, 0, 4, 15, 31, 63, 127, 255, 511]
theorem spec_tidy.tab17 : rtab .any (opsOf Tryd.f23 17) = spec_tidy.T17 := by kernel_rfl
theorem spec_tidy.bits17 : waitsOk spec_tidy.T17.2 spec_tidy.B17 = true := by kernel_rfl
set_option maxHeartbeats 8000000 in
set_option maxRecDepth 100000 in
theorem spec_tidy.calls (k : Nat) : ∀ (a0_0 : Int) (a0_1 : Int) (a0_2 : ByteArray) (A0_3 : Option Addr) (c0_3 : Nat) (l0_3 : List (S31)) (r : Bool) (w : World) (hT : Lib.Utf8Tabs 1 2 w) (hr0_3 : Kd.C k31 w A0_3 l0_3.length l0_3) (hc0_3 : l0_3.length ≤ c0_3) (h : spec_tidy.f k a0_0 a0_1 a0_2 l0_3 = some r),
  Calls Tryd.prog 23 #[.agg #[.int .u8 a0_0, .int .u64 a0_1, .string a0_2, .slice A0_3 l0_3.length c0_3]] w fun e w' => e = .returned (.bool r) ∧ Below w.heap.size w w' := by
 induction k using Nat.strongRecOn with
 | _ k ih =>
 intro a0_0 a0_1 a0_2 A0_3 c0_3 l0_3 r w hT hr0_3 hc0_3 h
 cases k with
 | zero => exact absurd h (by simp [spec_tidy.f])
 | succ k =>
 simp only [spec_tidy.f] at h
 have hu31 := Tryd.underlying31
 have HR0_3 := Aside0.mk hr0_3
 have HC0_3 := Aside0.mk hc0_3
 clear hr0_3 hc0_3
 have HB := Aside0.mk (Below.refl w.heap.size w)
 have H : ((spec_inRange.f a0_0 a0_1).bind fun t130 => (if t130 = true then (if a0_0 = 97 then (spec_tidy.j0 k false a0_0 a0_1 a0_2 l0_3) else (if a0_0 = 115 then (spec_tidy.j0 k false a0_0 a0_1 a0_2 l0_3) else (if a0_0 = 111 then (spec_tidy.j0 k false a0_0 a0_1 a0_2 l0_3) else (if a0_0 = 103 then (spec_tidy.j0 k false a0_0 a0_1 a0_2 l0_3) else (spec_tidy.j0 k (a0_2.toList != ([] : List UInt8)) a0_0 a0_1 a0_2 l0_3))))) else (spec_tidy.j0 k true a0_0 a0_1 a0_2 l0_3))) = some r := h
 clear h
 have HC2 := Aside0.mk H
 clear H
 go_enter Tryd.func23, Tryd.ntmps23
 go_upto_region 1 with (first | ((with_reducible refine gate_dst (N := 1) rfl ?_); (try (refine gate_guard (by rfl) ?_; dsimp only)); refine box_event ?hg (N := 1) ?hd (cs := #[.int .u8 a0_0, .int .u64 a0_1, .string a0_2, .slice A0_3 l0_3.length c0_3]) (t := 31) ?hr ?_; (case hd => rfl); (case hg => rfl); (case hr => first | (go_simp; done) | (go_simp; rfl)); intro gb129 hg w3 hbox hb; have n0_ := Aside0.mk (below_step (by repeat (first | (with_reducible first | exact HB.out | apply below_alloc | apply pw_below_drewN | apply below_drew1) | exact HB.out)) hb); have n1_ := Aside0.mk (hbox); have n2_ := Aside0.mk ((by rw [hg]; exact (below_size (by repeat (first | (with_reducible first | exact HB.out | apply below_alloc | apply pw_below_drewN | apply below_drew1) | exact HB.out))) : w.heap.size ≤ gb129)); have n3_ := Aside0.mk ((by rw [hg]; exact (below_size (by repeat (first | (with_reducible first | exact HB.out | apply below_alloc | apply pw_below_drewN | apply below_drew1) | exact HB.out))) : w.heap.size ≤ gb129)); clear HB; have HB := n0_; have BK129 := n1_; have GW129 := n2_; have GE129 := n3_; clear n0_ n1_ n2_ n3_; clear hb hbox hg))
 (try simp only [Act.put, List.setIfInBounds_toArray, List.set_cons_zero, List.set_cons_succ])
 go_cut [40] (fun v40 wc => ∃ (kq : Nat) (x40_1 : Bool), v40 = .bool x40_1 ∧ Aside0 (spec_tidy.j0 kq x40_1 a0_0 a0_1 a0_2 l0_3 = some r) ∧ Aside0 (kq ≤ k) ∧ Aside0 (wc.heap[gb129]? = some (.cells #[.int .u8 a0_0, .int .u64 a0_1, .string a0_2, (.slice A0_3 l0_3.length c0_3)] 31 (0, 0))) ∧ Aside0 (Below w.heap.size w wc))
 case first =>
  have H := HC2.out
  clear HC2
  replace H := Option.bind_eq_some_iff.mp H
  obtain ⟨t130, A40, H⟩ := H
  replace H : (if t130 = true then (if a0_0 = 97 then (spec_tidy.j0 k false a0_0 a0_1 a0_2 l0_3) else (if a0_0 = 115 then (spec_tidy.j0 k false a0_0 a0_1 a0_2 l0_3) else (if a0_0 = 111 then (spec_tidy.j0 k false a0_0 a0_1 a0_2 l0_3) else (if a0_0 = 103 then (spec_tidy.j0 k false a0_0 a0_1 a0_2 l0_3) else (spec_tidy.j0 k (a0_2.toList != ([] : List UInt8)) a0_0 a0_1 a0_2 l0_3))))) else (spec_tidy.j0 k true a0_0 a0_1 a0_2 l0_3)) = some r := H
  have A4 := Aside0.mk A40
  clear A40
  by_cases c5 : t130 = true
  ·subst c5
   have H1 : (if a0_0 = 97 then (spec_tidy.j0 k false a0_0 a0_1 a0_2 l0_3) else (if a0_0 = 115 then (spec_tidy.j0 k false a0_0 a0_1 a0_2 l0_3) else (if a0_0 = 111 then (spec_tidy.j0 k false a0_0 a0_1 a0_2 l0_3) else (if a0_0 = 103 then (spec_tidy.j0 k false a0_0 a0_1 a0_2 l0_3) else (spec_tidy.j0 k (a0_2.toList != ([] : List UInt8)) a0_0 a0_1 a0_2 l0_3))))) = some r := by rw [if_pos rfl] at H; exact H
   clear H
   have H := H1
   clear H1
   by_cases c6 : a0_0 = 97
   ·rw [if_pos c6] at H
    have c6b0 : (a0_0 == 97) = true := beq_iff_eq.mpr c6
    have c6b1 : (a0_0 != 97) = false := bne_eq_false_iff_eq.mpr c6
    clear c6
    (first | rw [c6b0] | (simp only [i64_w, i32_w]; rw [c6b0]) | skip)
    have H' := Aside0.mk H
    clear H
    have hcz7_0 : w3.cell? ⟨gb129, 0, none⟩ = some (.int .u8 a0_0) := (blk_cell BK129.out 0).trans rfl
    have hcz7_1 : w3.cell? ⟨gb129, 1, none⟩ = some (.int .u64 a0_1) := (blk_cell BK129.out 1).trans rfl
    have hcz7_2 : w3.cell? ⟨gb129, 2, none⟩ = some (.string a0_2) := (blk_cell BK129.out 2).trans rfl
    have hcz7_3 : w3.cell? ⟨gb129, 3, none⟩ = some (.slice A0_3 l0_3.length c0_3) := (blk_cell BK129.out 3).trans rfl
    have hfz7_0 := blk_frozen BK129.out 0
    have hfz7_1 := blk_frozen BK129.out 1
    have hfz7_2 := blk_frozen BK129.out 2
    have hfz7_3 := blk_frozen BK129.out 3
    go_wp2_with (first | ((with_reducible refine gate_callee (f := 30) rfl ?_); refine goesL_ (some 14) rfl rfl Tryd.func30 (by kernel_rfl) rfl #[.int .u8 a0_0, .int .u64 a0_1] rfl (by (try simp only [List.map_toArray, List.map_cons, List.map_nil]); first | done | rfl | (simp only [List.length_drop, List.length_take]; rfl)) ?_; (with_reducible refine (spec_inRange.calls a0_0 a0_1 true _ A4.out).mono ?_); rintro e w' ⟨rfl, ⟨nd, rfl⟩⟩; refine ⟨_, rfl, ?_⟩))
    go_meet
    case rel => exact ⟨_, (false), (by first | rfl | (simp; done) | (simp [*]; done)), H', ⟨by first | omega | exact Nat.le_refl _⟩, ⟨by (with_reducible repeat (first | refine blk_drewN ?_ _ | refine blk_drew ?_ | refine blk_alloc ?_ _)); exact BK129.out⟩, ⟨by repeat (first | (with_reducible first | exact HB.out | apply below_alloc | apply pw_below_drewN | apply below_drew1 | refine below_set ?_ GE129.out) | exact HB.out)⟩⟩
   ·rw [if_neg c6] at H
    have c6b0 : (a0_0 == 97) = false := beq_eq_false_iff_ne.mpr c6
    have c6b1 : (a0_0 != 97) = true := bne_iff_ne.mpr c6
    (first | rw [c6b0] | (simp only [i64_w, i32_w]; rw [c6b0]) | skip)
    by_cases c8 : a0_0 = 115
    ·rw [if_pos c8] at H
     have c8b0 : (a0_0 == 115) = true := beq_iff_eq.mpr c8
     have c8b1 : (a0_0 != 115) = false := bne_eq_false_iff_eq.mpr c8
     clear c8
     have H' := Aside0.mk H
     clear H
     have hcz9_0 : w3.cell? ⟨gb129, 0, none⟩ = some (.int .u8 a0_0) := (blk_cell BK129.out 0).trans rfl
     have hcz9_1 : w3.cell? ⟨gb129, 1, none⟩ = some (.int .u64 a0_1) := (blk_cell BK129.out 1).trans rfl
     have hcz9_2 : w3.cell? ⟨gb129, 2, none⟩ = some (.string a0_2) := (blk_cell BK129.out 2).trans rfl
     have hcz9_3 : w3.cell? ⟨gb129, 3, none⟩ = some (.slice A0_3 l0_3.length c0_3) := (blk_cell BK129.out 3).trans rfl
     have hfz9_0 := blk_frozen BK129.out 0
     have hfz9_1 := blk_frozen BK129.out 1
     have hfz9_2 := blk_frozen BK129.out 2
     have hfz9_3 := blk_frozen BK129.out 3
     go_wp2_with (first | ((with_reducible refine gate_callee (f := 30) rfl ?_); refine goesL_ (some 14) rfl rfl Tryd.func30 (by kernel_rfl) rfl #[.int .u8 a0_0, .int .u64 a0_1] rfl (by (try simp only [List.map_toArray, List.map_cons, List.map_nil]); first | done | rfl | (simp only [List.length_drop, List.length_take]; rfl)) ?_; (with_reducible refine (spec_inRange.calls a0_0 a0_1 true _ A4.out).mono ?_); rintro e w' ⟨rfl, ⟨nd, rfl⟩⟩; refine ⟨_, rfl, ?_⟩))
     go_meet
     case rel => exact ⟨_, (false), (by first | rfl | (simp; done) | (simp [*]; done)), H', ⟨by first | omega | exact Nat.le_refl _⟩, ⟨by (with_reducible repeat (first | refine blk_drewN ?_ _ | refine blk_drew ?_ | refine blk_alloc ?_ _)); exact BK129.out⟩, ⟨by repeat (first | (with_reducible first | exact HB.out | apply below_alloc | apply pw_below_drewN | apply below_drew1 | refine below_set ?_ GE129.out) | exact HB.out)⟩⟩
    ·rw [if_neg c8] at H
     have c8b0 : (a0_0 == 115) = false := beq_eq_false_iff_ne.mpr c8
     have c8b1 : (a0_0 != 115) = true := bne_iff_ne.mpr c8
     by_cases c10 : a0_0 = 111
     ·rw [if_pos c10] at H
      have c10b0 : (a0_0 == 111) = true := beq_iff_eq.mpr c10
      have c10b1 : (a0_0 != 111) = false := bne_eq_false_iff_eq.mpr c10
      clear c10
      have H' := Aside0.mk H
      clear H
      have hcz11_0 : w3.cell? ⟨gb129, 0, none⟩ = some (.int .u8 a0_0) := (blk_cell BK129.out 0).trans rfl
      have hcz11_1 : w3.cell? ⟨gb129, 1, none⟩ = some (.int .u64 a0_1) := (blk_cell BK129.out 1).trans rfl
      have hcz11_2 : w3.cell? ⟨gb129, 2, none⟩ = some (.string a0_2) := (blk_cell BK129.out 2).trans rfl
      have hcz11_3 : w3.cell? ⟨gb129, 3, none⟩ = some (.slice A0_3 l0_3.length c0_3) := (blk_cell BK129.out 3).trans rfl
      have hfz11_0 := blk_frozen BK129.out 0
      have hfz11_1 := blk_frozen BK129.out 1
      have hfz11_2 := blk_frozen BK129.out 2
      have hfz11_3 := blk_frozen BK129.out 3
      go_wp2_with (first | ((with_reducible refine gate_callee (f := 30) rfl ?_); refine goesL_ (some 14) rfl rfl Tryd.func30 (by kernel_rfl) rfl #[.int .u8 a0_0, .int .u64 a0_1] rfl (by (try simp only [List.map_toArray, List.map_cons, List.map_nil]); first | done | rfl | (simp only [List.length_drop, List.length_take]; rfl)) ?_; (with_reducible refine (spec_inRange.calls a0_0 a0_1 true _ A4.out).mono ?_); rintro e w' ⟨rfl, ⟨nd, rfl⟩⟩; refine ⟨_, rfl, ?_⟩))
      go_meet
      case rel => exact ⟨_, (false), (by first | rfl | (simp; done) | (simp [*]; done)), H', ⟨by first | omega | exact Nat.le_refl _⟩, ⟨by (with_reducible repeat (first | refine blk_drewN ?_ _ | refine blk_drew ?_ | refine blk_alloc ?_ _)); exact BK129.out⟩, ⟨by repeat (first | (with_reducible first | exact HB.out | apply below_alloc | apply pw_below_drewN | apply below_drew1 | refine below_set ?_ GE129.out) | exact HB.out)⟩⟩
     ·rw [if_neg c10] at H
      have c10b0 : (a0_0 == 111) = false := beq_eq_false_iff_ne.mpr c10
      have c10b1 : (a0_0 != 111) = true := bne_iff_ne.mpr c10
      by_cases c12 : a0_0 = 103
      ·rw [if_pos c12] at H
       have c12b0 : (a0_0 == 103) = true := beq_iff_eq.mpr c12
       have c12b1 : (a0_0 != 103) = false := bne_eq_false_iff_eq.mpr c12
       clear c12
       have H' := Aside0.mk H
       clear H
       have hcz13_0 : w3.cell? ⟨gb129, 0, none⟩ = some (.int .u8 a0_0) := (blk_cell BK129.out 0).trans rfl
       have hcz13_1 : w3.cell? ⟨gb129, 1, none⟩ = some (.int .u64 a0_1) := (blk_cell BK129.out 1).trans rfl
       have hcz13_2 : w3.cell? ⟨gb129, 2, none⟩ = some (.string a0_2) := (blk_cell BK129.out 2).trans rfl
       have hcz13_3 : w3.cell? ⟨gb129, 3, none⟩ = some (.slice A0_3 l0_3.length c0_3) := (blk_cell BK129.out 3).trans rfl
       have hfz13_0 := blk_frozen BK129.out 0
       have hfz13_1 := blk_frozen BK129.out 1
       have hfz13_2 := blk_frozen BK129.out 2
       have hfz13_3 := blk_frozen BK129.out 3
       go_wp2_with (first | ((with_reducible refine gate_callee (f := 30) rfl ?_); refine goesL_ (some 14) rfl rfl Tryd.func30 (by kernel_rfl) rfl #[.int .u8 a0_0, .int .u64 a0_1] rfl (by (try simp only [List.map_toArray, List.map_cons, List.map_nil]); first | done | rfl | (simp only [List.length_drop, List.length_take]; rfl)) ?_; (with_reducible refine (spec_inRange.calls a0_0 a0_1 true _ A4.out).mono ?_); rintro e w' ⟨rfl, ⟨nd, rfl⟩⟩; refine ⟨_, rfl, ?_⟩))
       go_meet
       case rel => exact ⟨_, (false), (by first | rfl | (simp; done) | (simp [*]; done)), H', ⟨by first | omega | exact Nat.le_refl _⟩, ⟨by (with_reducible repeat (first | refine blk_drewN ?_ _ | refine blk_drew ?_ | refine blk_alloc ?_ _)); exact BK129.out⟩, ⟨by repeat (first | (with_reducible first | exact HB.out | apply below_alloc | apply pw_below_drewN | apply below_drew1 | refine below_set ?_ GE129.out) | exact HB.out)⟩⟩
      ·rw [if_neg c12] at H
       have c12b0 : (a0_0 == 103) = false := beq_eq_false_iff_ne.mpr c12
       have c12b1 : (a0_0 != 103) = true := bne_iff_ne.mpr c12
       have H' := Aside0.mk H
       clear H
       have hcz14_0 : w3.cell? ⟨gb129, 0, none⟩ = some (.int .u8 a0_0) := (blk_cell BK129.out 0).trans rfl
       have hcz14_1 : w3.cell? ⟨gb129, 1, none⟩ = some (.int .u64 a0_1) := (blk_cell BK129.out 1).trans rfl
       have hcz14_2 : w3.cell? ⟨gb129, 2, none⟩ = some (.string a0_2) := (blk_cell BK129.out 2).trans rfl
       have hcz14_3 : w3.cell? ⟨gb129, 3, none⟩ = some (.slice A0_3 l0_3.length c0_3) := (blk_cell BK129.out 3).trans rfl
       have hfz14_0 := blk_frozen BK129.out 0
       have hfz14_1 := blk_frozen BK129.out 1
       have hfz14_2 := blk_frozen BK129.out 2
       have hfz14_3 := blk_frozen BK129.out 3
       go_wp2_with (first | ((with_reducible refine gate_callee (f := 30) rfl ?_); refine goesL_ (some 14) rfl rfl Tryd.func30 (by kernel_rfl) rfl #[.int .u8 a0_0, .int .u64 a0_1] rfl (by (try simp only [List.map_toArray, List.map_cons, List.map_nil]); first | done | rfl | (simp only [List.length_drop, List.length_take]; rfl)) ?_; (with_reducible refine (spec_inRange.calls a0_0 a0_1 true _ A4.out).mono ?_); rintro e w' ⟨rfl, ⟨nd, rfl⟩⟩; refine ⟨_, rfl, ?_⟩))
       go_meet
       case rel => exact ⟨_, ((a0_2.toList != ([] : List UInt8))), (by first | rfl | (simp; done) | (simp [*]; done) | (simp; generalize a0_2.toList = l_; cases l_ <;> first | rfl | simp)), H', ⟨by first | omega | exact Nat.le_refl _⟩, ⟨by (with_reducible repeat (first | refine blk_drewN ?_ _ | refine blk_drew ?_ | refine blk_alloc ?_ _)); exact BK129.out⟩, ⟨by repeat (first | (with_reducible first | exact HB.out | apply below_alloc | apply pw_below_drewN | apply below_drew1 | refine below_set ?_ GE129.out) | exact HB.out)⟩⟩
  ·replace c5 := Bool.eq_false_iff.mpr c5
   subst c5
   have H1 : (spec_tidy.j0 k true a0_0 a0_1 a0_2 l0_3) = some r := by rw [if_neg (show ¬ (false = true) by decide)] at H; exact H
   clear H
   have H := H1
   clear H1
   have H' := Aside0.mk H
   clear H
   have hcz15_0 : w3.cell? ⟨gb129, 0, none⟩ = some (.int .u8 a0_0) := (blk_cell BK129.out 0).trans rfl
   have hcz15_1 : w3.cell? ⟨gb129, 1, none⟩ = some (.int .u64 a0_1) := (blk_cell BK129.out 1).trans rfl
   have hcz15_2 : w3.cell? ⟨gb129, 2, none⟩ = some (.string a0_2) := (blk_cell BK129.out 2).trans rfl
   have hcz15_3 : w3.cell? ⟨gb129, 3, none⟩ = some (.slice A0_3 l0_3.length c0_3) := (blk_cell BK129.out 3).trans rfl
   have hfz15_0 := blk_frozen BK129.out 0
   have hfz15_1 := blk_frozen BK129.out 1
   have hfz15_2 := blk_frozen BK129.out 2
   have hfz15_3 := blk_frozen BK129.out 3
   go_wp2_with (first | ((with_reducible refine gate_callee (f := 30) rfl ?_); refine goesL_ (some 14) rfl rfl Tryd.func30 (by kernel_rfl) rfl #[.int .u8 a0_0, .int .u64 a0_1] rfl (by (try simp only [List.map_toArray, List.map_cons, List.map_nil]); first | done | rfl | (simp only [List.length_drop, List.length_take]; rfl)) ?_; (with_reducible refine (spec_inRange.calls a0_0 a0_1 false _ A4.out).mono ?_); rintro e w' ⟨rfl, ⟨nd, rfl⟩⟩; refine ⟨_, rfl, ?_⟩))
   go_meet
   case rel => exact ⟨_, (true), (by first | rfl | (simp; done) | (simp [*]; done)), H', ⟨by first | omega | exact Nat.le_refl _⟩, ⟨by (with_reducible repeat (first | refine blk_drewN ?_ _ | refine blk_drew ?_ | refine blk_alloc ?_ _)); exact BK129.out⟩, ⟨by repeat (first | (with_reducible first | exact HB.out | apply below_alloc | apply pw_below_drewN | apply below_drew1 | refine below_set ?_ GE129.out) | exact HB.out)⟩⟩
 case rest =>
  clear HC2
  try clear c1
  try clear c2
  try clear p2
  try clear c3
  try clear c5
  try clear c6
  try clear c6b0
  try clear c6b1
  try clear c8
  try clear c8b0
  try clear c8b1
  try clear c10
  try clear c10b0
  try clear c10b1
  try clear c12
  try clear c12b0
  try clear c12b1
  try clear hcz11_0
  try clear hcz11_1
  try clear hcz11_2
  try clear hcz11_3
  try clear hcz13_0
  try clear hcz13_1
  try clear hcz13_2
  try clear hcz13_3
  try clear hcz14_0
  try clear hcz14_1
  try clear hcz14_2
  try clear hcz14_3
  try clear hcz15_0
  try clear hcz15_1
  try clear hcz15_2
  try clear hcz15_3
  try clear hcz7_0
  try clear hcz7_1
  try clear hcz7_2
  try clear hcz7_3
  try clear hcz9_0
  try clear hcz9_1
  try clear hcz9_2
  try clear hcz9_3
  try clear hfz11_0
  try clear hfz11_1
  try clear hfz11_2
  try clear hfz11_3
  try clear hfz13_0
  try clear hfz13_1
  try clear hfz13_2
  try clear hfz13_3
  try clear hfz14_0
  try clear hfz14_1
  try clear hfz14_2
  try clear hfz14_3
  try clear hfz15_0
  try clear hfz15_1
  try clear hfz15_2
  try clear hfz15_3
  try clear hfz7_0
  try clear hfz7_1
  try clear hfz7_2
  try clear hfz7_3
  try clear hfz9_0
  try clear hfz9_1
  try clear hfz9_2
  try clear hfz9_3
  obtain ⟨kq, x40_1, rfl, HA, HJ1, BK129, HB⟩ := hcut
  cases kq with
  | zero => exact absurd HA.out (by simp [spec_tidy.j0])
  | succ kj1 =>
   have H := HA.out
   clear HA
   simp only [spec_tidy.j0] at H
   by_cases c16 : x40_1 = true
   ·subst c16
    have H1 : (some false) = some r := by rw [if_pos rfl] at H; exact H
    clear H
    have H := H1
    clear H1
    obtain rfl := Option.some.inj H
    go_wp2
    go_ret
    exact ⟨by first | rfl | (simp [errW_none, errW_some] <;> rfl) | (simp [*, errW_none, errW_some] <;> rfl) | (simp (disch := omega) only [wrap64_id] <;> rfl), by repeat (first | (with_reducible first | exact HB.out | apply below_alloc | apply pw_below_drewN | apply below_drew1 | refine below_set ?_ GE129.out) | exact HB.out)⟩
   ·replace c16 := Bool.eq_false_iff.mpr c16
    subst c16
    have H1 : (if a0_0 = 115 then ((spec_ValidString.f kj1 a0_2).bind fun t131 => (if t131 = true then (some ((l0_3.length : Int) == 0)) else (some false))) else (if a0_0 = 111 then ((spec_ValidPath.f kj1 a0_2).bind fun t132 => (if t132 = true then (some ((l0_3.length : Int) == 0)) else (some false))) else (if a0_0 = 103 then ((spec_Valid.f kj1 a0_2).bind fun t133 => (if t133 = true then (some ((l0_3.length : Int) == 0)) else (some false))) else (if a0_0 = 97 then ((spec_First.f kj1 a0_2).bind fun bt134 => (if bt134.2.2 = true then (if bt134.2.1.toList = ([] : List UInt8) then (spec_tidy.j1 kj1 (bt134.1.toList != a0_2.toList) a0_0 a0_1 a0_2 l0_3) else (spec_tidy.j1 kj1 true a0_0 a0_1 a0_2 l0_3)) else (spec_tidy.j1 kj1 true a0_0 a0_1 a0_2 l0_3))) else (if a0_0 = 40 then (spec_tidy.j3 kj1 a0_0 (a0_0 == 40) a0_0 a0_1 a0_2 l0_3) else (spec_tidy.j3 kj1 a0_0 (a0_0 == 123) a0_0 a0_1 a0_2 l0_3)))))) = some r := by rw [if_neg (show ¬ (false = true) by decide)] at H; exact H
    clear H
    have H := H1
    clear H1
    by_cases c17 : a0_0 = 115
    ·rw [if_pos c17] at H
     have c17b0 : (a0_0 == 115) = true := beq_iff_eq.mpr c17
     have c17b1 : (a0_0 != 115) = false := bne_eq_false_iff_eq.mpr c17
     clear c17
     replace H := Option.bind_eq_some_iff.mp H
     obtain ⟨t131, A180, H⟩ := H
     replace H : (if t131 = true then (some ((l0_3.length : Int) == 0)) else (some false)) = some r := H
     have A18 := Aside0.mk A180
     clear A180
     by_cases c19 : t131 = true
     ·subst c19
      have H1 : (some ((l0_3.length : Int) == 0)) = some r := by rw [if_pos rfl] at H; exact H
      clear H
      have H := H1
      clear H1
      obtain rfl := Option.some.inj H
      have hcz20_0 : wc.cell? ⟨gb129, 0, none⟩ = some (.int .u8 a0_0) := (blk_cell BK129.out 0).trans rfl
      have hcz20_1 : wc.cell? ⟨gb129, 1, none⟩ = some (.int .u64 a0_1) := (blk_cell BK129.out 1).trans rfl
      have hcz20_2 : wc.cell? ⟨gb129, 2, none⟩ = some (.string a0_2) := (blk_cell BK129.out 2).trans rfl
      have hcz20_3 : wc.cell? ⟨gb129, 3, none⟩ = some (.slice A0_3 l0_3.length c0_3) := (blk_cell BK129.out 3).trans rfl
      have hfz20_0 := blk_frozen BK129.out 0
      have hfz20_1 := blk_frozen BK129.out 1
      have hfz20_2 := blk_frozen BK129.out 2
      have hfz20_3 := blk_frozen BK129.out 3
      go_wp2_with (first | ((with_reducible refine gate_callee (f := 31) rfl ?_); refine goesL_ (some 47) rfl rfl Tryd.func31 (by kernel_rfl) rfl #[.string a0_2] rfl (by (try simp only [List.map_toArray, List.map_cons, List.map_nil]); first | done | rfl | (simp only [List.length_drop, List.length_take]; rfl)) ?_; (with_reducible refine (spec_ValidString.calls kj1 a0_2 true _ (Utf8Tabs_below hT (by repeat (first | (with_reducible first | exact HB.out | apply below_alloc | apply pw_below_drewN | apply below_drew1 | refine below_set ?_ GE129.out) | exact HB.out))) A18.out).mono ?_); rintro e w21 ⟨rfl, hb⟩; refine ⟨_, rfl, ?_⟩; have n0_ := Aside0.mk (blk_below (g := gb129) (o := .cells #[.int .u8 a0_0, .int .u64 a0_1, .string a0_2, .slice A0_3 l0_3.length c0_3] 31 (0, 0)) (by (with_reducible repeat (first | refine blk_drewN ?_ _ | refine blk_drew ?_ | refine blk_alloc ?_ _)); exact BK129.out) hb); have n1_ := Aside0.mk (below_step (by repeat (first | (with_reducible first | exact HB.out | apply below_alloc | apply pw_below_drewN | apply below_drew1 | refine below_set ?_ GE129.out) | exact HB.out)) hb); clear BK129; clear HB; have BK129 := n0_; have HB := n1_; clear n0_ n1_; (try clear hb); (try clear hb2); (try clear hk); (try clear hi); have hcz22_0 : w21.cell? ⟨gb129, 0, none⟩ = some (.int .u8 a0_0) := (blk_cell BK129.out 0).trans rfl; have hcz22_1 : w21.cell? ⟨gb129, 1, none⟩ = some (.int .u64 a0_1) := (blk_cell BK129.out 1).trans rfl; have hcz22_2 : w21.cell? ⟨gb129, 2, none⟩ = some (.string a0_2) := (blk_cell BK129.out 2).trans rfl; have hcz22_3 : w21.cell? ⟨gb129, 3, none⟩ = some (.slice A0_3 l0_3.length c0_3) := (blk_cell BK129.out 3).trans rfl; have hfz22_0 := blk_frozen BK129.out 0; have hfz22_1 := blk_frozen BK129.out 1; have hfz22_2 := blk_frozen BK129.out 2; have hfz22_3 := blk_frozen BK129.out 3))
      go_ret
      exact ⟨by first | rfl | (simp [errW_none, errW_some] <;> rfl) | (simp [*, errW_none, errW_some] <;> rfl) | (simp (disch := omega) only [wrap64_id] <;> rfl), by repeat (first | (with_reducible first | exact HB.out | apply below_alloc | apply pw_below_drewN | apply below_drew1 | refine below_set ?_ GE129.out) | exact HB.out)⟩
     ·replace c19 := Bool.eq_false_iff.mpr c19
      subst c19
      have H1 : (some false) = some r := by rw [if_neg (show ¬ (false = true) by decide)] at H; exact H
      clear H
      have H := H1
      clear H1
      obtain rfl := Option.some.inj H
      have hcz23_0 : wc.cell? ⟨gb129, 0, none⟩ = some (.int .u8 a0_0) := (blk_cell BK129.out 0).trans rfl
      have hcz23_1 : wc.cell? ⟨gb129, 1, none⟩ = some (.int .u64 a0_1) := (blk_cell BK129.out 1).trans rfl
      have hcz23_2 : wc.cell? ⟨gb129, 2, none⟩ = some (.string a0_2) := (blk_cell BK129.out 2).trans rfl
      have hcz23_3 : wc.cell? ⟨gb129, 3, none⟩ = some (.slice A0_3 l0_3.length c0_3) := (blk_cell BK129.out 3).trans rfl
      have hfz23_0 := blk_frozen BK129.out 0
      have hfz23_1 := blk_frozen BK129.out 1
      have hfz23_2 := blk_frozen BK129.out 2
      have hfz23_3 := blk_frozen BK129.out 3
      go_wp2_with (first | ((with_reducible refine gate_callee (f := 31) rfl ?_); refine goesL_ (some 47) rfl rfl Tryd.func31 (by kernel_rfl) rfl #[.string a0_2] rfl (by (try simp only [List.map_toArray, List.map_cons, List.map_nil]); first | done | rfl | (simp only [List.length_drop, List.length_take]; rfl)) ?_; (with_reducible refine (spec_ValidString.calls kj1 a0_2 false _ (Utf8Tabs_below hT (by repeat (first | (with_reducible first | exact HB.out | apply below_alloc | apply pw_below_drewN | apply below_drew1 | refine below_set ?_ GE129.out) | exact HB.out))) A18.out).mono ?_); rintro e w24 ⟨rfl, hb⟩; refine ⟨_, rfl, ?_⟩; have n0_ := Aside0.mk (blk_below (g := gb129) (o := .cells #[.int .u8 a0_0, .int .u64 a0_1, .string a0_2, .slice A0_3 l0_3.length c0_3] 31 (0, 0)) (by (with_reducible repeat (first | refine blk_drewN ?_ _ | refine blk_drew ?_ | refine blk_alloc ?_ _)); exact BK129.out) hb); have n1_ := Aside0.mk (below_step (by repeat (first | (with_reducible first | exact HB.out | apply below_alloc | apply pw_below_drewN | apply below_drew1 | refine below_set ?_ GE129.out) | exact HB.out)) hb); clear BK129; clear HB; have BK129 := n0_; have HB := n1_; clear n0_ n1_; (try clear hb); (try clear hb2); (try clear hk); (try clear hi)))
      go_ret
      exact ⟨by first | rfl | (simp [errW_none, errW_some] <;> rfl) | (simp [*, errW_none, errW_some] <;> rfl) | (simp (disch := omega) only [wrap64_id] <;> rfl), by repeat (first | (with_reducible first | exact HB.out | apply below_alloc | apply pw_below_drewN | apply below_drew1 | refine below_set ?_ GE129.out) | exact HB.out)⟩
    ·rw [if_neg c17] at H
     have c17b0 : (a0_0 == 115) = false := beq_eq_false_iff_ne.mpr c17
     have c17b1 : (a0_0 != 115) = true := bne_iff_ne.mpr c17
     by_cases c25 : a0_0 = 111
     ·rw [if_pos c25] at H
      have c25b0 : (a0_0 == 111) = true := beq_iff_eq.mpr c25
      have c25b1 : (a0_0 != 111) = false := bne_eq_false_iff_eq.mpr c25
      clear c25
      replace H := Option.bind_eq_some_iff.mp H
      obtain ⟨t132, A260, H⟩ := H
      replace H : (if t132 = true then (some ((l0_3.length : Int) == 0)) else (some false)) = some r := H
      have A26 := Aside0.mk A260
      clear A260
      by_cases c27 : t132 = true
      ·subst c27
       have H1 : (some ((l0_3.length : Int) == 0)) = some r := by rw [if_pos rfl] at H; exact H
       clear H
       have H := H1
       clear H1
       obtain rfl := Option.some.inj H
       have hcz28_0 : wc.cell? ⟨gb129, 0, none⟩ = some (.int .u8 a0_0) := (blk_cell BK129.out 0).trans rfl
       have hcz28_1 : wc.cell? ⟨gb129, 1, none⟩ = some (.int .u64 a0_1) := (blk_cell BK129.out 1).trans rfl
       have hcz28_2 : wc.cell? ⟨gb129, 2, none⟩ = some (.string a0_2) := (blk_cell BK129.out 2).trans rfl
       have hcz28_3 : wc.cell? ⟨gb129, 3, none⟩ = some (.slice A0_3 l0_3.length c0_3) := (blk_cell BK129.out 3).trans rfl
       have hfz28_0 := blk_frozen BK129.out 0
       have hfz28_1 := blk_frozen BK129.out 1
       have hfz28_2 := blk_frozen BK129.out 2
       have hfz28_3 := blk_frozen BK129.out 3
       go_wp2_with (first | ((with_reducible refine gate_callee (f := 32) rfl ?_); refine goesL_ (some 58) rfl rfl Tryd.func32 (by kernel_rfl) rfl #[.string a0_2] rfl (by (try simp only [List.map_toArray, List.map_cons, List.map_nil]); first | done | rfl | (simp only [List.length_drop, List.length_take]; rfl)) ?_; (with_reducible refine (spec_ValidPath.calls kj1 a0_2 true _ A26.out).mono ?_); rintro e w' ⟨rfl, ⟨nd, rfl⟩⟩; refine ⟨_, rfl, ?_⟩))
       go_ret
       exact ⟨by first | rfl | (simp [errW_none, errW_some] <;> rfl) | (simp [*, errW_none, errW_some] <;> rfl) | (simp (disch := omega) only [wrap64_id] <;> rfl), by repeat (first | (with_reducible first | exact HB.out | apply below_alloc | apply pw_below_drewN | apply below_drew1 | refine below_set ?_ GE129.out) | exact HB.out)⟩
      ·replace c27 := Bool.eq_false_iff.mpr c27
       subst c27
       have H1 : (some false) = some r := by rw [if_neg (show ¬ (false = true) by decide)] at H; exact H
       clear H
       have H := H1
       clear H1
       obtain rfl := Option.some.inj H
       have hcz29_0 : wc.cell? ⟨gb129, 0, none⟩ = some (.int .u8 a0_0) := (blk_cell BK129.out 0).trans rfl
       have hcz29_1 : wc.cell? ⟨gb129, 1, none⟩ = some (.int .u64 a0_1) := (blk_cell BK129.out 1).trans rfl
       have hcz29_2 : wc.cell? ⟨gb129, 2, none⟩ = some (.string a0_2) := (blk_cell BK129.out 2).trans rfl
       have hcz29_3 : wc.cell? ⟨gb129, 3, none⟩ = some (.slice A0_3 l0_3.length c0_3) := (blk_cell BK129.out 3).trans rfl
       have hfz29_0 := blk_frozen BK129.out 0
       have hfz29_1 := blk_frozen BK129.out 1
       have hfz29_2 := blk_frozen BK129.out 2
       have hfz29_3 := blk_frozen BK129.out 3
       go_wp2_with (first | ((with_reducible refine gate_callee (f := 32) rfl ?_); refine goesL_ (some 58) rfl rfl Tryd.func32 (by kernel_rfl) rfl #[.string a0_2] rfl (by (try simp only [List.map_toArray, List.map_cons, List.map_nil]); first | done | rfl | (simp only [List.length_drop, List.length_take]; rfl)) ?_; (with_reducible refine (spec_ValidPath.calls kj1 a0_2 false _ A26.out).mono ?_); rintro e w' ⟨rfl, ⟨nd, rfl⟩⟩; refine ⟨_, rfl, ?_⟩))
       go_ret
       exact ⟨by first | rfl | (simp [errW_none, errW_some] <;> rfl) | (simp [*, errW_none, errW_some] <;> rfl) | (simp (disch := omega) only [wrap64_id] <;> rfl), by repeat (first | (with_reducible first | exact HB.out | apply below_alloc | apply pw_below_drewN | apply below_drew1 | refine below_set ?_ GE129.out) | exact HB.out)⟩
     ·rw [if_neg c25] at H
      have c25b0 : (a0_0 == 111) = false := beq_eq_false_iff_ne.mpr c25
      have c25b1 : (a0_0 != 111) = true := bne_iff_ne.mpr c25
      by_cases c30 : a0_0 = 103
      ·rw [if_pos c30] at H
       have c30b0 : (a0_0 == 103) = true := beq_iff_eq.mpr c30
       have c30b1 : (a0_0 != 103) = false := bne_eq_false_iff_eq.mpr c30
       clear c30
       replace H := Option.bind_eq_some_iff.mp H
       obtain ⟨t133, A310, H⟩ := H
       replace H : (if t133 = true then (some ((l0_3.length : Int) == 0)) else (some false)) = some r := H
       have A31 := Aside0.mk A310
       clear A310
       by_cases c32 : t133 = true
       ·subst c32
        have H1 : (some ((l0_3.length : Int) == 0)) = some r := by rw [if_pos rfl] at H; exact H
        clear H
        have H := H1
        clear H1
        obtain rfl := Option.some.inj H
        have hcz33_0 : wc.cell? ⟨gb129, 0, none⟩ = some (.int .u8 a0_0) := (blk_cell BK129.out 0).trans rfl
        have hcz33_1 : wc.cell? ⟨gb129, 1, none⟩ = some (.int .u64 a0_1) := (blk_cell BK129.out 1).trans rfl
        have hcz33_2 : wc.cell? ⟨gb129, 2, none⟩ = some (.string a0_2) := (blk_cell BK129.out 2).trans rfl
        have hcz33_3 : wc.cell? ⟨gb129, 3, none⟩ = some (.slice A0_3 l0_3.length c0_3) := (blk_cell BK129.out 3).trans rfl
        have hfz33_0 := blk_frozen BK129.out 0
        have hfz33_1 := blk_frozen BK129.out 1
        have hfz33_2 := blk_frozen BK129.out 2
        have hfz33_3 := blk_frozen BK129.out 3
        go_wp2_with (first | ((with_reducible refine gate_callee (f := 22) rfl ?_); refine goesL_ (some 69) rfl rfl Tryd.func22 (by kernel_rfl) rfl #[.string a0_2] rfl (by (try simp only [List.map_toArray, List.map_cons, List.map_nil]); first | done | rfl | (simp only [List.length_drop, List.length_take]; rfl)) ?_; (with_reducible refine (spec_Valid.calls kj1 a0_2 true _ A31.out).mono ?_); rintro e w34 ⟨rfl, hb⟩; refine ⟨_, rfl, ?_⟩; have n0_ := Aside0.mk (blk_below (g := gb129) (o := .cells #[.int .u8 a0_0, .int .u64 a0_1, .string a0_2, .slice A0_3 l0_3.length c0_3] 31 (0, 0)) (by (with_reducible repeat (first | refine blk_drewN ?_ _ | refine blk_drew ?_ | refine blk_alloc ?_ _)); exact BK129.out) hb); have n1_ := Aside0.mk (below_step (by repeat (first | (with_reducible first | exact HB.out | apply below_alloc | apply pw_below_drewN | apply below_drew1 | refine below_set ?_ GE129.out) | exact HB.out)) hb); clear BK129; clear HB; have BK129 := n0_; have HB := n1_; clear n0_ n1_; (try clear hb); (try clear hb2); (try clear hk); (try clear hi); have hcz35_0 : w34.cell? ⟨gb129, 0, none⟩ = some (.int .u8 a0_0) := (blk_cell BK129.out 0).trans rfl; have hcz35_1 : w34.cell? ⟨gb129, 1, none⟩ = some (.int .u64 a0_1) := (blk_cell BK129.out 1).trans rfl; have hcz35_2 : w34.cell? ⟨gb129, 2, none⟩ = some (.string a0_2) := (blk_cell BK129.out 2).trans rfl; have hcz35_3 : w34.cell? ⟨gb129, 3, none⟩ = some (.slice A0_3 l0_3.length c0_3) := (blk_cell BK129.out 3).trans rfl; have hfz35_0 := blk_frozen BK129.out 0; have hfz35_1 := blk_frozen BK129.out 1; have hfz35_2 := blk_frozen BK129.out 2; have hfz35_3 := blk_frozen BK129.out 3))
        go_ret
        exact ⟨by first | rfl | (simp [errW_none, errW_some] <;> rfl) | (simp [*, errW_none, errW_some] <;> rfl) | (simp (disch := omega) only [wrap64_id] <;> rfl), by repeat (first | (with_reducible first | exact HB.out | apply below_alloc | apply pw_below_drewN | apply below_drew1 | refine below_set ?_ GE129.out) | exact HB.out)⟩
       ·replace c32 := Bool.eq_false_iff.mpr c32
        subst c32
        have H1 : (some false) = some r := by rw [if_neg (show ¬ (false = true) by decide)] at H; exact H
        clear H
        have H := H1
        clear H1
        obtain rfl := Option.some.inj H
        have hcz36_0 : wc.cell? ⟨gb129, 0, none⟩ = some (.int .u8 a0_0) := (blk_cell BK129.out 0).trans rfl
        have hcz36_1 : wc.cell? ⟨gb129, 1, none⟩ = some (.int .u64 a0_1) := (blk_cell BK129.out 1).trans rfl
        have hcz36_2 : wc.cell? ⟨gb129, 2, none⟩ = some (.string a0_2) := (blk_cell BK129.out 2).trans rfl
        have hcz36_3 : wc.cell? ⟨gb129, 3, none⟩ = some (.slice A0_3 l0_3.length c0_3) := (blk_cell BK129.out 3).trans rfl
        have hfz36_0 := blk_frozen BK129.out 0
        have hfz36_1 := blk_frozen BK129.out 1
        have hfz36_2 := blk_frozen BK129.out 2
        have hfz36_3 := blk_frozen BK129.out 3
        go_wp2_with (first | ((with_reducible refine gate_callee (f := 22) rfl ?_); refine goesL_ (some 69) rfl rfl Tryd.func22 (by kernel_rfl) rfl #[.string a0_2] rfl (by (try simp only [List.map_toArray, List.map_cons, List.map_nil]); first | done | rfl | (simp only [List.length_drop, List.length_take]; rfl)) ?_; (with_reducible refine (spec_Valid.calls kj1 a0_2 false _ A31.out).mono ?_); rintro e w37 ⟨rfl, hb⟩; refine ⟨_, rfl, ?_⟩; have n0_ := Aside0.mk (blk_below (g := gb129) (o := .cells #[.int .u8 a0_0, .int .u64 a0_1, .string a0_2, .slice A0_3 l0_3.length c0_3] 31 (0, 0)) (by (with_reducible repeat (first | refine blk_drewN ?_ _ | refine blk_drew ?_ | refine blk_alloc ?_ _)); exact BK129.out) hb); have n1_ := Aside0.mk (below_step (by repeat (first | (with_reducible first | exact HB.out | apply below_alloc | apply pw_below_drewN | apply below_drew1 | refine below_set ?_ GE129.out) | exact HB.out)) hb); clear BK129; clear HB; have BK129 := n0_; have HB := n1_; clear n0_ n1_; (try clear hb); (try clear hb2); (try clear hk); (try clear hi)))
        go_ret
        exact ⟨by first | rfl | (simp [errW_none, errW_some] <;> rfl) | (simp [*, errW_none, errW_some] <;> rfl) | (simp (disch := omega) only [wrap64_id] <;> rfl), by repeat (first | (with_reducible first | exact HB.out | apply below_alloc | apply pw_below_drewN | apply below_drew1 | refine below_set ?_ GE129.out) | exact HB.out)⟩
      ·rw [if_neg c30] at H
       have c30b0 : (a0_0 == 103) = false := beq_eq_false_iff_ne.mpr c30
       have c30b1 : (a0_0 != 103) = true := bne_iff_ne.mpr c30
       by_cases c38 : a0_0 = 97
       ·rw [if_pos c38] at H
        have c38b0 : (a0_0 == 97) = true := beq_iff_eq.mpr c38
        have c38b1 : (a0_0 != 97) = false := bne_eq_false_iff_eq.mpr c38
        clear c38
        replace H := Option.bind_eq_some_iff.mp H
        obtain ⟨⟨t134, t135, t136⟩, A390, H⟩ := H
        replace H : (if t136 = true then (if t135.toList = ([] : List UInt8) then (spec_tidy.j1 kj1 (t134.toList != a0_2.toList) a0_0 a0_1 a0_2 l0_3) else (spec_tidy.j1 kj1 true a0_0 a0_1 a0_2 l0_3)) else (spec_tidy.j1 kj1 true a0_0 a0_1 a0_2 l0_3)) = some r := H
        have A39 := Aside0.mk A390
        clear A390
        have HC40 := Aside0.mk H
        clear H
        have hcz41_0 : wc.cell? ⟨gb129, 0, none⟩ = some (.int .u8 a0_0) := (blk_cell BK129.out 0).trans rfl
        have hcz41_1 : wc.cell? ⟨gb129, 1, none⟩ = some (.int .u64 a0_1) := (blk_cell BK129.out 1).trans rfl
        have hcz41_2 : wc.cell? ⟨gb129, 2, none⟩ = some (.string a0_2) := (blk_cell BK129.out 2).trans rfl
        have hcz41_3 : wc.cell? ⟨gb129, 3, none⟩ = some (.slice A0_3 l0_3.length c0_3) := (blk_cell BK129.out 3).trans rfl
        have hfz41_0 := blk_frozen BK129.out 0
        have hfz41_1 := blk_frozen BK129.out 1
        have hfz41_2 := blk_frozen BK129.out 2
        have hfz41_3 := blk_frozen BK129.out 3
        go_upto_region 12 with (first | ((with_reducible refine gate_callee (f := 33) rfl ?_); refine goesL_ (some 81) rfl rfl Tryd.func33 (by kernel_rfl) rfl #[.string a0_2] rfl (by (try simp only [List.map_toArray, List.map_cons, List.map_nil]); first | done | rfl | (simp only [List.length_drop, List.length_take]; rfl)) ?_; (with_reducible refine (spec_First.calls kj1 a0_2 t134 t135 t136 _ A39.out).mono ?_); rintro e w' ⟨rfl, ⟨nd, rfl⟩⟩; refine ⟨_, rfl, ?_⟩))
        (try simp only [Act.put, List.setIfInBounds_toArray, List.set_cons_zero, List.set_cons_succ])
        go_cut [96] (fun v96 wc => ∃ (kq : Nat) (x96_39 : Bool), v96 = .bool x96_39 ∧ Aside0 (spec_tidy.j1 kq x96_39 a0_0 a0_1 a0_2 l0_3 = some r) ∧ Aside0 (kq ≤ kj1) ∧ Aside0 (wc.heap[gb129]? = some (.cells #[.int .u8 a0_0, .int .u64 a0_1, .string a0_2, (.slice A0_3 l0_3.length c0_3)] 31 (0, 0))) ∧ Aside0 (Below w.heap.size w wc))
        case first =>
         have H := HC40.out
         clear HC40
         by_cases c42 : t136 = true
         ·subst c42
          have H1 : (if t135.toList = ([] : List UInt8) then (spec_tidy.j1 kj1 (t134.toList != a0_2.toList) a0_0 a0_1 a0_2 l0_3) else (spec_tidy.j1 kj1 true a0_0 a0_1 a0_2 l0_3)) = some r := by rw [if_pos rfl] at H; exact H
          clear H
          have H := H1
          clear H1
          by_cases c43 : t135.toList = ([] : List UInt8)
          ·rw [if_pos c43] at H
           have c43b0 : (t135.toList == ([] : List UInt8)) = true := beq_iff_eq.mpr c43
           have c43b1 : (t135.toList != ([] : List UInt8)) = false := bne_eq_false_iff_eq.mpr c43
           clear c43
           (first | rw [c43b0] | (simp only [i64_w, i32_w]; rw [c43b0]) | skip)
           have H' := Aside0.mk H
           clear H
           have hcz44_0 : wc.cell? ⟨gb129, 0, none⟩ = some (.int .u8 a0_0) := (blk_cell BK129.out 0).trans rfl
           have hcz44_1 : wc.cell? ⟨gb129, 1, none⟩ = some (.int .u64 a0_1) := (blk_cell BK129.out 1).trans rfl
           have hcz44_2 : wc.cell? ⟨gb129, 2, none⟩ = some (.string a0_2) := (blk_cell BK129.out 2).trans rfl
           have hcz44_3 : wc.cell? ⟨gb129, 3, none⟩ = some (.slice A0_3 l0_3.length c0_3) := (blk_cell BK129.out 3).trans rfl
           have hfz44_0 := blk_frozen BK129.out 0
           have hfz44_1 := blk_frozen BK129.out 1
           have hfz44_2 := blk_frozen BK129.out 2
           have hfz44_3 := blk_frozen BK129.out 3
           go_wp2
           go_meet
           case rel => exact ⟨_, ((t134.toList != a0_2.toList)), (by first | rfl | (simp; done) | (simp [*]; done)), H', ⟨by have := HJ1.out; first | omega | exact Nat.le_refl _⟩, ⟨by (with_reducible repeat (first | refine blk_drewN ?_ _ | refine blk_drew ?_ | refine blk_alloc ?_ _)); exact BK129.out⟩, ⟨by repeat (first | (with_reducible first | exact HB.out | apply below_alloc | apply pw_below_drewN | apply below_drew1 | refine below_set ?_ GE129.out) | exact HB.out)⟩⟩
          ·rw [if_neg c43] at H
           have c43b0 : (t135.toList == ([] : List UInt8)) = false := beq_eq_false_iff_ne.mpr c43
           have c43b1 : (t135.toList != ([] : List UInt8)) = true := bne_iff_ne.mpr c43
           (first | rw [c43b0] | (simp only [i64_w, i32_w]; rw [c43b0]) | skip)
           have H' := Aside0.mk H
           clear H
           go_wp2
           go_meet
           case rel => exact ⟨_, (true), (by first | rfl | (simp; done) | (simp [*]; done)), H', ⟨by have := HJ1.out; first | omega | exact Nat.le_refl _⟩, ⟨by (with_reducible repeat (first | refine blk_drewN ?_ _ | refine blk_drew ?_ | refine blk_alloc ?_ _)); exact BK129.out⟩, ⟨by repeat (first | (with_reducible first | exact HB.out | apply below_alloc | apply pw_below_drewN | apply below_drew1 | refine below_set ?_ GE129.out) | exact HB.out)⟩⟩
         ·replace c42 := Bool.eq_false_iff.mpr c42
          subst c42
          have H1 : (spec_tidy.j1 kj1 true a0_0 a0_1 a0_2 l0_3) = some r := by rw [if_neg (show ¬ (false = true) by decide)] at H; exact H
          clear H
          have H := H1
          clear H1
          have H' := Aside0.mk H
          clear H
          go_wp2
          go_meet
          case rel => exact ⟨_, (true), (by first | rfl | (simp; done) | (simp [*]; done)), H', ⟨by have := HJ1.out; first | omega | exact Nat.le_refl _⟩, ⟨by (with_reducible repeat (first | refine blk_drewN ?_ _ | refine blk_drew ?_ | refine blk_alloc ?_ _)); exact BK129.out⟩, ⟨by repeat (first | (with_reducible first | exact HB.out | apply below_alloc | apply pw_below_drewN | apply below_drew1 | refine below_set ?_ GE129.out) | exact HB.out)⟩⟩
        case rest =>
         clear HC40
         try clear c1
         try clear c2
         try clear p2
         try clear c3
         try clear c4
         try clear c5
         try clear c6
         try clear c6b0
         try clear c6b1
         try clear p6
         try clear c8
         try clear c8b0
         try clear c8b1
         try clear c10
         try clear c10b0
         try clear c10b1
         try clear c12
         try clear c12b0
         try clear c12b1
         try clear c16
         try clear c17
         try clear c17b0
         try clear c17b1
         try clear c19
         try clear c22
         try clear c23
         try clear c25
         try clear c25b0
         try clear c25b1
         try clear c27
         try clear c30
         try clear c30b0
         try clear c30b1
         try clear c31
         try clear c32
         try clear c33
         try clear c38
         try clear c38b0
         try clear c38b1
         try clear c42
         try clear c43
         try clear c43b0
         try clear c43b1
         try clear hcz11_0
         try clear hcz11_1
         try clear hcz11_2
         try clear hcz11_3
         try clear hcz13_0
         try clear hcz13_1
         try clear hcz13_2
         try clear hcz13_3
         try clear hcz14_0
         try clear hcz14_1
         try clear hcz14_2
         try clear hcz14_3
         try clear hcz15_0
         try clear hcz15_1
         try clear hcz15_2
         try clear hcz15_3
         try clear hcz20_0
         try clear hcz20_1
         try clear hcz20_2
         try clear hcz20_3
         try clear hcz22_0
         try clear hcz22_1
         try clear hcz22_2
         try clear hcz22_3
         try clear hcz23_0
         try clear hcz23_1
         try clear hcz23_2
         try clear hcz23_3
         try clear hcz28_0
         try clear hcz28_1
         try clear hcz28_2
         try clear hcz28_3
         try clear hcz29_0
         try clear hcz29_1
         try clear hcz29_2
         try clear hcz29_3
         try clear hcz33_0
         try clear hcz33_1
         try clear hcz33_2
         try clear hcz33_3
         try clear hcz35_0
         try clear hcz35_1
         try clear hcz35_2
         try clear hcz35_3
         try clear hcz36_0
         try clear hcz36_1
         try clear hcz36_2
         try clear hcz36_3
         try clear hcz41_0
         try clear hcz41_1
         try clear hcz41_2
         try clear hcz41_3
         try clear hcz44_0
         try clear hcz44_1
         try clear hcz44_2
         try clear hcz44_3
         try clear hcz7_0
         try clear hcz7_1
         try clear hcz7_2
         try clear hcz7_3
         try clear hcz9_0
         try clear hcz9_1
         try clear hcz9_2
         try clear hcz9_3
         try clear hfz11_0
         try clear hfz11_1
         try clear hfz11_2
         try clear hfz11_3
         try clear hfz13_0
         try clear hfz13_1
         try clear hfz13_2
         try clear hfz13_3
         try clear hfz14_0
         try clear hfz14_1
         try clear hfz14_2
         try clear hfz14_3
         try clear hfz15_0
         try clear hfz15_1
         try clear hfz15_2
         try clear hfz15_3
         try clear hfz20_0
         try clear hfz20_1
         try clear hfz20_2
         try clear hfz20_3
         try clear hfz22_0
         try clear hfz22_1
         try clear hfz22_2
         try clear hfz22_3
         try clear hfz23_0
         try clear hfz23_1
         try clear hfz23_2
         try clear hfz23_3
         try clear hfz28_0
         try clear hfz28_1
         try clear hfz28_2
         try clear hfz28_3
         try clear hfz29_0
         try clear hfz29_1
         try clear hfz29_2
         try clear hfz29_3
         try clear hfz33_0
         try clear hfz33_1
         try clear hfz33_2
         try clear hfz33_3
         try clear hfz35_0
         try clear hfz35_1
         try clear hfz35_2
         try clear hfz35_3
         try clear hfz36_0
         try clear hfz36_1
         try clear hfz36_2
         try clear hfz36_3
         try clear hfz41_0
         try clear hfz41_1
         try clear hfz41_2
         try clear hfz41_3
         try clear hfz44_0
         try clear hfz44_1
         try clear hfz44_2
         try clear hfz44_3
         try clear hfz7_0
         try clear hfz7_1
         try clear hfz7_2
         try clear hfz7_3
         try clear hfz9_0
         try clear hfz9_1
         try clear hfz9_2
         try clear hfz9_3
         try clear p2
         obtain ⟨kq, x96_39, rfl, HA, HJ39, BK129, HB⟩ := hcut
         cases kq with
         | zero => exact absurd HA.out (by simp [spec_tidy.j1])
         | succ kj39 =>
          have H := HA.out
          clear HA
          simp only [spec_tidy.j1] at H
          by_cases c45 : x96_39 = true
          ·subst c45
           have H1 : (some false) = some r := by rw [if_pos rfl] at H; exact H
           clear H
           have H := H1
           clear H1
           obtain rfl := Option.some.inj H
           go_wp2
           go_ret
           exact ⟨by first | rfl | (simp [errW_none, errW_some] <;> rfl) | (simp [*, errW_none, errW_some] <;> rfl) | (simp (disch := omega) only [wrap64_id] <;> rfl), by repeat (first | (with_reducible first | exact HB.out | apply below_alloc | apply pw_below_drewN | apply below_drew1 | refine below_set ?_ GE129.out) | exact HB.out)⟩
          ·replace c45 := Bool.eq_false_iff.mpr c45
           subst c45
           have H1 : (spec_tidy.l0 kj39 l0_3 (l0_3.length : Int) 0 a0_0 a0_1 a0_2 l0_3) = some r := by rw [if_neg (show ¬ (false = true) by decide)] at H; exact H
           clear H
           have H := H1
           clear H1
           have H' := Aside0.mk H
           clear H
           have hcz46_0 : wc.cell? ⟨gb129, 0, none⟩ = some (.int .u8 a0_0) := (blk_cell BK129.out 0).trans rfl
           have hcz46_1 : wc.cell? ⟨gb129, 1, none⟩ = some (.int .u64 a0_1) := (blk_cell BK129.out 1).trans rfl
           have hcz46_2 : wc.cell? ⟨gb129, 2, none⟩ = some (.string a0_2) := (blk_cell BK129.out 2).trans rfl
           have hcz46_3 : wc.cell? ⟨gb129, 3, none⟩ = some (.slice A0_3 l0_3.length c0_3) := (blk_cell BK129.out 3).trans rfl
           have hfz46_0 := blk_frozen BK129.out 0
           have hfz46_1 := blk_frozen BK129.out 1
           have hfz46_2 := blk_frozen BK129.out 2
           have hfz46_3 := blk_frozen BK129.out 3
           go_wp2
           go_loopg [100] kj39 (fun kq v100 w' => ∃ (x100_3 : Int), v100 = .int .i64 x100_3 ∧ Aside0 (spec_tidy.l0 kq l0_3 (l0_3.length : Int) x100_3 a0_0 a0_1 a0_2 l0_3 = some r) ∧ Aside0 (kq ≤ kj39) ∧ Aside0 (w'.heap[gb129]? = some (.cells #[.int .u8 a0_0, .int .u64 a0_1, .string a0_2, (.slice A0_3 l0_3.length c0_3)] 31 (0, 0))) ∧ Aside0 (Below w.heap.size w w'))
           case atStart => exact ⟨(0), (by first | rfl | (simp; done) | (simp [*]; done)), H', ⟨Nat.le_refl _⟩, ⟨by (with_reducible repeat (first | refine blk_drewN ?_ _ | refine blk_drew ?_ | refine blk_alloc ?_ _)); exact BK129.out⟩, ⟨by repeat (first | (with_reducible first | exact HB.out | apply below_alloc | apply pw_below_drewN | apply below_drew1 | refine below_set ?_ GE129.out) | exact HB.out)⟩⟩
           case round =>
            clear H'
            try clear c1
            try clear c2
            try clear p2
            try clear c3
            try clear c4
            try clear c5
            try clear c6
            try clear c6b0
            try clear c6b1
            try clear p6
            try clear c8
            try clear c8b0
            try clear c8b1
            try clear c10
            try clear c10b0
            try clear c10b1
            try clear c12
            try clear c12b0
            try clear c12b1
            try clear c16
            try clear c17
            try clear c17b0
            try clear c17b1
            try clear c19
            try clear c22
            try clear c23
            try clear c25
            try clear c25b0
            try clear c25b1
            try clear c27
            try clear c30
            try clear c30b0
            try clear c30b1
            try clear c31
            try clear c32
            try clear c33
            try clear c38
            try clear c38b0
            try clear c38b1
            try clear c42
            try clear c43
            try clear c43b0
            try clear c43b1
            try clear c45
            try clear hcz11_0
            try clear hcz11_1
            try clear hcz11_2
            try clear hcz11_3
            try clear hcz13_0
            try clear hcz13_1
            try clear hcz13_2
            try clear hcz13_3
            try clear hcz14_0
            try clear hcz14_1
            try clear hcz14_2
            try clear hcz14_3
            try clear hcz15_0
            try clear hcz15_1
            try clear hcz15_2
            try clear hcz15_3
            try clear hcz20_0
            try clear hcz20_1
            try clear hcz20_2
            try clear hcz20_3
            try clear hcz22_0
            try clear hcz22_1
            try clear hcz22_2
            try clear hcz22_3
            try clear hcz23_0
            try clear hcz23_1
            try clear hcz23_2
            try clear hcz23_3
            try clear hcz28_0
            try clear hcz28_1
            try clear hcz28_2
            try clear hcz28_3
            try clear hcz29_0
            try clear hcz29_1
            try clear hcz29_2
            try clear hcz29_3
            try clear hcz33_0
            try clear hcz33_1
            try clear hcz33_2
            try clear hcz33_3
            try clear hcz35_0
            try clear hcz35_1
            try clear hcz35_2
            try clear hcz35_3
            try clear hcz36_0
            try clear hcz36_1
            try clear hcz36_2
            try clear hcz36_3
            try clear hcz41_0
            try clear hcz41_1
            try clear hcz41_2
            try clear hcz41_3
            try clear hcz44_0
            try clear hcz44_1
            try clear hcz44_2
            try clear hcz44_3
            try clear hcz46_0
            try clear hcz46_1
            try clear hcz46_2
            try clear hcz46_3
            try clear hcz7_0
            try clear hcz7_1
            try clear hcz7_2
            try clear hcz7_3
            try clear hcz9_0
            try clear hcz9_1
            try clear hcz9_2
            try clear hcz9_3
            try clear hfz11_0
            try clear hfz11_1
            try clear hfz11_2
            try clear hfz11_3
            try clear hfz13_0
            try clear hfz13_1
            try clear hfz13_2
            try clear hfz13_3
            try clear hfz14_0
            try clear hfz14_1
            try clear hfz14_2
            try clear hfz14_3
            try clear hfz15_0
            try clear hfz15_1
            try clear hfz15_2
            try clear hfz15_3
            try clear hfz20_0
            try clear hfz20_1
            try clear hfz20_2
            try clear hfz20_3
            try clear hfz22_0
            try clear hfz22_1
            try clear hfz22_2
            try clear hfz22_3
            try clear hfz23_0
            try clear hfz23_1
            try clear hfz23_2
            try clear hfz23_3
            try clear hfz28_0
            try clear hfz28_1
            try clear hfz28_2
            try clear hfz28_3
            try clear hfz29_0
            try clear hfz29_1
            try clear hfz29_2
            try clear hfz29_3
            try clear hfz33_0
            try clear hfz33_1
            try clear hfz33_2
            try clear hfz33_3
            try clear hfz35_0
            try clear hfz35_1
            try clear hfz35_2
            try clear hfz35_3
            try clear hfz36_0
            try clear hfz36_1
            try clear hfz36_2
            try clear hfz36_3
            try clear hfz41_0
            try clear hfz41_1
            try clear hfz41_2
            try clear hfz41_3
            try clear hfz44_0
            try clear hfz44_1
            try clear hfz44_2
            try clear hfz44_3
            try clear hfz46_0
            try clear hfz46_1
            try clear hfz46_2
            try clear hfz46_3
            try clear hfz7_0
            try clear hfz7_1
            try clear hfz7_2
            try clear hfz7_3
            try clear hfz9_0
            try clear hfz9_1
            try clear hfz9_2
            try clear hfz9_3
            try clear p2
            try clear p6
            obtain ⟨x100_3, rfl, HA, HK3, BK129, HB⟩ := hrel
            cases gk with
            | zero => exact absurd HA.out (by simp [spec_tidy.l0])
            | succ k3 =>
             have H := HA.out
             clear HA
             simp only [spec_tidy.l0] at H
             by_cases c47 : x100_3 < (l0_3.length : Int)
             ·rw [if_pos c47] at H
              have c47b0 : decide (x100_3 < (l0_3.length : Int)) = true := decide_eq_true c47
              clear c47
              by_cases c48 : 0 ≤ x100_3
              ·rw [if_pos c48] at H
               have c48b0 : decide (0 ≤ x100_3) = true := decide_eq_true c48
               clear c48
               by_cases c49 : x100_3 < (l0_3.length : Int)
               ·rw [if_pos c49] at H
                have c49b0 : decide (x100_3 < (l0_3.length : Int)) = true := decide_eq_true c49
                clear c49
                replace H := Option.bind_eq_some_iff.mp H
                obtain ⟨t139, A500, H⟩ := H
                replace H : (if t139.toList = a0_2.toList then ((spec_tidy.f k3 ((rd_T31 l0_3 x100_3).f0) ((rd_T31 l0_3 x100_3).f1) ((rd_T31 l0_3 x100_3).f2) ((rd_T31 l0_3 x100_3).f3)).bind fun t140 => (if t140 = true then (spec_tidy.l0 k3 l0_3 (l0_3.length : Int) (wrap64 (x100_3 + 1)) a0_0 a0_1 a0_2 l0_3) else (some false))) else (some false)) = some r := H
                have A50 := Aside0.mk A500
                clear A500
                by_cases c51 : t139.toList = a0_2.toList
                ·rw [if_pos c51] at H
                 have c51b0 : (t139.toList == a0_2.toList) = true := beq_iff_eq.mpr c51
                 have c51b1 : (t139.toList != a0_2.toList) = false := bne_eq_false_iff_eq.mpr c51
                 clear c51
                 replace H := Option.bind_eq_some_iff.mp H
                 obtain ⟨t140, A520, H⟩ := H
                 replace H : (if t140 = true then (spec_tidy.l0 k3 l0_3 (l0_3.length : Int) (wrap64 (x100_3 + 1)) a0_0 a0_1 a0_2 l0_3) else (some false)) = some r := H
                 have A52 := Aside0.mk A520
                 clear A520
                 by_cases c53 : t140 = true
                 ·subst c53
                  have H1 : (spec_tidy.l0 k3 l0_3 (l0_3.length : Int) (wrap64 (x100_3 + 1)) a0_0 a0_1 a0_2 l0_3) = some r := by rw [if_pos rfl] at H; exact H
                  clear H
                  have H := H1
                  clear H1
                  have H' := Aside0.mk H
                  clear H
                  have p137 : 0 ≤ (x100_3 : Int) := of_decide_eq_true (by first | (with_reducible assumption) | assumption)
                  have q137 : x100_3 < (l0_3.length : Int) := of_decide_eq_true (by first | (with_reducible assumption) | assumption)
                  obtain ⟨ad137, A137_3, c137_3, e137, hx137_0, hx137_1, hx137_2, hx137_3, hl137_3, hi137_3⟩ := at_T31 HR0_3.out x100_3 p137 q137
                  cases e137
                  replace hx137_0 := (HB.out.cell (World.block_lt_of_cell? w _ hx137_0)).trans hx137_0
                  replace hx137_1 := (HB.out.cell (World.block_lt_of_cell? w _ hx137_1)).trans hx137_1
                  replace hx137_2 := (HB.out.cell (World.block_lt_of_cell? w _ hx137_2)).trans hx137_2
                  replace hx137_3 := (HB.out.cell (World.block_lt_of_cell? w _ hx137_3)).trans hx137_3
                  have HR137_3 := Aside0.mk hi137_3
                  have HC137_3 := Aside0.mk hl137_3
                  clear hi137_3 hl137_3
                  replace p137 := eq_true p137
                  replace q137 := eq_true q137
                  try go_wp2_with (first | ((with_reducible refine gate_dst (N := 7) rfl ?_); (try (refine gate_guard (by rfl) ?_; dsimp only)); refine box_event ?hg (N := 7) ?hd (cs := #[.int .u8 0, .int .u64 0, .string (⟨#[]⟩ : ByteArray), .slice none 0 0]) (t := 31) ?hr ?_; (case hd => rfl); (case hg => rfl); (case hr => first | (go_simp; done) | (go_simp; rfl)); intro gb138 hg w54 hbox hb; have n0_ := Aside0.mk (blk_below (g := gb129) (o := .cells #[.int .u8 a0_0, .int .u64 a0_1, .string a0_2, .slice (some ad137) l0_3.length c0_3] 31 (0, 0)) (by (with_reducible repeat (first | refine blk_drewN ?_ _ | refine blk_drew ?_ | refine blk_alloc ?_ _)); exact BK129.out) hb); have n1_ := Aside0.mk (below_step (by repeat (first | (with_reducible first | exact HB.out | apply below_alloc | apply pw_below_drewN | apply below_drew1 | refine below_set ?_ GE129.out) | exact HB.out)) hb); have n2_ := Aside0.mk (hbox); have n3_ := Aside0.mk ((by rw [hg]; exact (below_size (by repeat (first | (with_reducible first | exact HB.out | apply below_alloc | apply pw_below_drewN | apply below_drew1 | refine below_set ?_ GE129.out) | exact HB.out))) : w.heap.size ≤ gb138)); have n4_ := Aside0.mk ((by rw [hg]; exact (below_size (by repeat (first | (with_reducible first | exact HB.out | apply below_alloc | apply pw_below_drewN | apply below_drew1 | refine below_set ?_ GE129.out) | exact HB.out))) : w.heap.size ≤ gb138)); have n5_ := Aside0.mk ((by rw [hg]; exact Nat.ne_of_lt (blk_lt (g := gb129) (o := .cells #[.int .u8 a0_0, .int .u64 a0_1, .string a0_2, .slice (some ad137) l0_3.length c0_3] 31 (0, 0)) (by (with_reducible repeat (first | refine blk_drewN ?_ _ | refine blk_drew ?_ | refine blk_alloc ?_ _)); exact BK129.out)) : gb129 ≠ gb138)); have n6_ := Aside0.mk ((by rw [hg]; exact Nat.ne_of_gt (blk_lt (g := gb129) (o := .cells #[.int .u8 a0_0, .int .u64 a0_1, .string a0_2, .slice (some ad137) l0_3.length c0_3] 31 (0, 0)) (by (with_reducible repeat (first | refine blk_drewN ?_ _ | refine blk_drew ?_ | refine blk_alloc ?_ _)); exact BK129.out)) : gb138 ≠ gb129)); clear BK129; clear HB; have BK129 := n0_; have HB := n1_; have BK138 := n2_; have GW138 := n3_; have GE138 := n4_; have NB129_138 := n5_; have NB138_129 := n6_; clear n0_ n1_ n2_ n3_ n4_ n5_ n6_; clear hb hbox hg; have hnb55 := NB138_129.out; have hnc55 := NB129_138.out; have hcz56_0 : w54.cell? ⟨gb138, 0, none⟩ = some (.int .u8 0) := (blk_cell BK138.out 0).trans rfl; have hcz56_1 : w54.cell? ⟨gb138, 1, none⟩ = some (.int .u64 0) := (blk_cell BK138.out 1).trans rfl; have hcz56_2 : w54.cell? ⟨gb138, 2, none⟩ = some (.string (⟨#[]⟩ : ByteArray)) := (blk_cell BK138.out 2).trans rfl; have hcz56_3 : w54.cell? ⟨gb138, 3, none⟩ = some (.slice none 0 0) := (blk_cell BK138.out 3).trans rfl; have hfz56_0 := blk_frozen BK138.out 0; have hfz56_1 := blk_frozen BK138.out 1; have hfz56_2 := blk_frozen BK138.out 2; have hfz56_3 := blk_frozen BK138.out 3))
                  have n0_ : Aside0 (((((w54.setCell ⟨gb138, 0, none⟩ (.int .u8 ((rd_T31 l0_3 x100_3).f0))).setCell ⟨gb138, 1, none⟩ (.int .u64 ((rd_T31 l0_3 x100_3).f1))).setCell ⟨gb138, 2, none⟩ (.string ((rd_T31 l0_3 x100_3).f2))).setCell ⟨gb138, 3, none⟩ (.slice A137_3 ((rd_T31 l0_3 x100_3).f3).length c137_3)).heap[gb129]? = some (.cells #[.int .u8 a0_0, .int .u64 a0_1, .string a0_2, .slice (some ad137) l0_3.length c0_3] 31 (0, 0))) := ⟨by (with_reducible repeat (first | refine blk_drewN ?_ _ | refine blk_drew ?_ | refine blk_alloc ?_ _)); refine blk_far ?_ NB129_138.out _; (with_reducible repeat (first | refine blk_drewN ?_ _ | refine blk_drew ?_ | refine blk_alloc ?_ _)); refine blk_far ?_ NB129_138.out _; (with_reducible repeat (first | refine blk_drewN ?_ _ | refine blk_drew ?_ | refine blk_alloc ?_ _)); refine blk_far ?_ NB129_138.out _; (with_reducible repeat (first | refine blk_drewN ?_ _ | refine blk_drew ?_ | refine blk_alloc ?_ _)); refine blk_far ?_ NB129_138.out _; (with_reducible repeat (first | refine blk_drewN ?_ _ | refine blk_drew ?_ | refine blk_alloc ?_ _)); exact BK129.out⟩
                  have n1_ : Aside0 (((((w54.setCell ⟨gb138, 0, none⟩ (.int .u8 ((rd_T31 l0_3 x100_3).f0))).setCell ⟨gb138, 1, none⟩ (.int .u64 ((rd_T31 l0_3 x100_3).f1))).setCell ⟨gb138, 2, none⟩ (.string ((rd_T31 l0_3 x100_3).f2))).setCell ⟨gb138, 3, none⟩ (.slice A137_3 ((rd_T31 l0_3 x100_3).f3).length c137_3)).heap[gb138]? = some (.cells #[.int .u8 ((rd_T31 l0_3 x100_3).f0), .int .u64 ((rd_T31 l0_3 x100_3).f1), .string ((rd_T31 l0_3 x100_3).f2), .slice A137_3 ((rd_T31 l0_3 x100_3).f3).length c137_3] 31 (0, 0))) := ⟨by (with_reducible repeat (first | refine blk_drewN ?_ _ | refine blk_drew ?_ | refine blk_alloc ?_ _)); refine blk_put (cs := #[.int .u8 ((rd_T31 l0_3 x100_3).f0), .int .u64 ((rd_T31 l0_3 x100_3).f1), .string ((rd_T31 l0_3 x100_3).f2), .slice none 0 0]) ?_ 3 _ rfl; (with_reducible repeat (first | refine blk_drewN ?_ _ | refine blk_drew ?_ | refine blk_alloc ?_ _)); refine blk_put (cs := #[.int .u8 ((rd_T31 l0_3 x100_3).f0), .int .u64 ((rd_T31 l0_3 x100_3).f1), .string (⟨#[]⟩ : ByteArray), .slice none 0 0]) ?_ 2 _ rfl; (with_reducible repeat (first | refine blk_drewN ?_ _ | refine blk_drew ?_ | refine blk_alloc ?_ _)); refine blk_put (cs := #[.int .u8 ((rd_T31 l0_3 x100_3).f0), .int .u64 0, .string (⟨#[]⟩ : ByteArray), .slice none 0 0]) ?_ 1 _ rfl; (with_reducible repeat (first | refine blk_drewN ?_ _ | refine blk_drew ?_ | refine blk_alloc ?_ _)); refine blk_put (cs := #[.int .u8 0, .int .u64 0, .string (⟨#[]⟩ : ByteArray), .slice none 0 0]) ?_ 0 _ rfl; (with_reducible repeat (first | refine blk_drewN ?_ _ | refine blk_drew ?_ | refine blk_alloc ?_ _)); exact BK138.out⟩
                  have n2_ : Aside0 (Below w.heap.size w ((((w54.setCell ⟨gb138, 0, none⟩ (.int .u8 ((rd_T31 l0_3 x100_3).f0))).setCell ⟨gb138, 1, none⟩ (.int .u64 ((rd_T31 l0_3 x100_3).f1))).setCell ⟨gb138, 2, none⟩ (.string ((rd_T31 l0_3 x100_3).f2))).setCell ⟨gb138, 3, none⟩ (.slice A137_3 ((rd_T31 l0_3 x100_3).f3).length c137_3))) := ⟨by repeat (first | (with_reducible first | exact HB.out | apply below_alloc | apply pw_below_drewN | apply below_drew1 | refine below_set ?_ GE129.out | refine below_set ?_ GE138.out) | exact HB.out)⟩
                  (try clear BK129)
                  (try clear BK138)
                  (try clear HB)
                  generalize ((((w54.setCell ⟨gb138, 0, none⟩ (.int .u8 ((rd_T31 l0_3 x100_3).f0))).setCell ⟨gb138, 1, none⟩ (.int .u64 ((rd_T31 l0_3 x100_3).f1))).setCell ⟨gb138, 2, none⟩ (.string ((rd_T31 l0_3 x100_3).f2))).setCell ⟨gb138, 3, none⟩ (.slice A137_3 ((rd_T31 l0_3 x100_3).f3).length c137_3)) = w57 at n0_ n1_ n2_ ⊢
                  have BK129 := n0_
                  have BK138 := n1_
                  have HB := n2_
                  clear n0_ n1_ n2_
                  have n0_ := Aside0.mk (blk_drew BK129.out)
                  have n1_ := Aside0.mk (blk_drew BK138.out)
                  have n2_ := Aside0.mk (below_drew1 HB.out)
                  clear BK129
                  clear BK138
                  clear HB
                  have BK129 := n0_
                  have BK138 := n1_
                  have HB := n2_
                  clear n0_ n1_ n2_
                  refine start_ (n := 10) (S := fun w' => w'.cell? ⟨gb138, 0, none⟩ = some (.int .u8 ((rd_T31 l0_3 x100_3).f0)) ∧ w'.cell? ⟨gb138, 1, none⟩ = some (.int .u64 ((rd_T31 l0_3 x100_3).f1)) ∧ w'.cell? ⟨gb138, 2, none⟩ = some (.string ((rd_T31 l0_3 x100_3).f2)) ∧ w'.cell? ⟨gb138, 3, none⟩ = some (.slice A137_3 ((rd_T31 l0_3 x100_3).f3).length c137_3) ∧ w'.cell? ⟨gb129, 0, none⟩ = some (.int .u8 a0_0) ∧ w'.cell? ⟨gb129, 1, none⟩ = some (.int .u64 a0_1) ∧ w'.cell? ⟨gb129, 2, none⟩ = some (.string a0_2) ∧ w'.cell? ⟨gb129, 3, none⟩ = some (.slice (some ad137) l0_3.length c0_3)) (ds := []) #[false, false, false, false, false, false, false, false, false, false] (by kernel_rfl) rfl rfl ⟨(blk_cell BK138.out 0).trans rfl, (blk_cell BK138.out 1).trans rfl, (blk_cell BK138.out 2).trans rfl, (blk_cell BK138.out 3).trans rfl, (blk_cell BK129.out 0).trans rfl, (blk_cell BK129.out 1).trans rfl, (blk_cell BK129.out 2).trans rfl, (blk_cell BK129.out 3).trans rfl⟩ (fun hHeld => ?_); refine with_tabW spec_tidy.tab17 spec_tidy.bits17 (fun HT_ HW_ => ?_)
                  generalize w57.drew = w58 at BK129 BK138 HB hHeld ⊢
                  refine pure_ (i := 2) (N := some 106) (v := ?_) (a' := ?_) #[false, false, true, false, false, false, false, false, false, false] rfl rfl (any_of HT_.out (by kernel_rfl)) (fun _ _ _ h => h) (Or.inl ⟨by rfl, ?_⟩) ?_ ?_
                  rotate_left
                  ·intro w'
                   go_simp
                   with_reducible rfl
                  rotate_left
                  ·simp only [Act.put, List.setIfInBounds_toArray, List.set_cons_zero, List.set_cons_succ, i64_w, i32_w]
                   rfl
                  refine take_ (i := 0) (N := some 104) (v := ?_) (a' := ?_) #[true, false, true, false, false, false, false, false, false, false] rfl rfl (take_ofW HT_.out HW_.out (by kernel_rfl)) (fun _ _ _ h => h) (Or.inl ⟨by rfl, ?_⟩) hHeld ?_ ?_
                  rotate_left
                  ·rintro w' ⟨s0, s1, s2, s3, s4, s5, s6, s7⟩
                   go_simp
                   with_reducible rfl
                  rotate_left
                  ·simp only [Act.put, List.setIfInBounds_toArray, List.set_cons_zero, List.set_cons_succ, i64_w, i32_w]
                   rfl
                  refine take_ (i := 3) (N := some 107) (v := ?_) (a' := ?_) #[true, false, true, true, false, false, false, false, false, false] rfl rfl (take_ofW HT_.out HW_.out (by kernel_rfl)) (fun _ _ _ h => h) (Or.inl ⟨by rfl, ?_⟩) hHeld ?_ ?_
                  rotate_left
                  ·rintro w' ⟨s0, s1, s2, s3, s4, s5, s6, s7⟩
                   go_simp
                   with_reducible rfl
                  rotate_left
                  ·simp only [Act.put, List.setIfInBounds_toArray, List.set_cons_zero, List.set_cons_succ, i64_w, i32_w]
                   rfl
                  refine one_ (i := 1) (N := some 105) #[true, true, true, true, false, false, false, false, false, false] rfl rfl (one_of HT_.out (by kernel_rfl)) (by decide) (fun K hK => ?_)
                  refine goes_ Tryd.func17 (by kernel_rfl) rfl #[.agg #[.int .u8 ((rd_T31 l0_3 x100_3).f0), .int .u64 ((rd_T31 l0_3 x100_3).f1), .string ((rd_T31 l0_3 x100_3).f2), .slice A137_3 ((rd_T31 l0_3 x100_3).f3).length c137_3]] (by rfl) rfl rfl (by (try simp only [List.map_toArray, List.map_cons, List.map_nil]); first | done | rfl | (simp only [List.length_drop, List.length_take]; rfl)) ?_
                  with_reducible refine (spec_SigOf.calls k3 ((rd_T31 l0_3 x100_3).f0) ((rd_T31 l0_3 x100_3).f1) ((rd_T31 l0_3 x100_3).f2) _ _ ((rd_T31 l0_3 x100_3).f3) t139 _ ?side1 ?side2 A50.out).mono ?_
                  (case side1 => repeat (first | exact (Kd.C_below HR137_3.out HB.out) | (with_reducible refine Kd.C_alloc ?_ _) | (with_reducible refine Kd.C_drewN ?_ _) | (with_reducible refine Kd.C_drew ?_)))
                  (case side2 => exact HC137_3.out)
                  rintro e w59 ⟨rfl, hb⟩
                  refine ⟨_, rfl, ?_⟩
                  have n0_ := Aside0.mk (blk_below (g := gb129) (o := .cells #[.int .u8 a0_0, .int .u64 a0_1, .string a0_2, .slice (some ad137) l0_3.length c0_3] 31 (0, 0)) (by (with_reducible repeat (first | refine blk_drewN ?_ _ | refine blk_drew ?_ | refine blk_alloc ?_ _)); exact BK129.out) hb)
                  have n1_ := Aside0.mk (blk_below (g := gb138) (o := .cells #[.int .u8 ((rd_T31 l0_3 x100_3).f0), .int .u64 ((rd_T31 l0_3 x100_3).f1), .string ((rd_T31 l0_3 x100_3).f2), .slice A137_3 ((rd_T31 l0_3 x100_3).f3).length c137_3] 31 (0, 0)) (by (with_reducible repeat (first | refine blk_drewN ?_ _ | refine blk_drew ?_ | refine blk_alloc ?_ _)); exact BK138.out) hb)
                  have n2_ := Aside0.mk (below_step (by repeat (first | (with_reducible first | exact HB.out | apply below_alloc | apply pw_below_drewN | apply below_drew1 | refine below_set ?_ GE129.out | refine below_set ?_ GE138.out) | exact HB.out)) hb)
                  clear BK129
                  clear BK138
                  clear HB
                  have BK129 := n0_
                  have BK138 := n1_
                  have HB := n2_
                  clear n0_ n1_ n2_
                  (try clear hb)
                  (try clear hb2)
                  (try clear hk)
                  (try clear hi)
                  refine hK.out _ _ ⟨(blk_cell BK138.out 0).trans rfl, (blk_cell BK138.out 1).trans rfl, (blk_cell BK138.out 2).trans rfl, (blk_cell BK138.out 3).trans rfl, (blk_cell BK129.out 0).trans rfl, (blk_cell BK129.out 1).trans rfl, (blk_cell BK129.out 2).trans rfl, (blk_cell BK129.out 3).trans rfl⟩ (fun hHeld => ?_)
                  clear hK K
                  refine norm_ (a' := ?_) ?_ ?_
                  rotate_left
                  ·show Act.put _ (some 105) _ = _
                   simp only [Act.put, List.setIfInBounds_toArray, List.set_cons_zero, List.set_cons_succ, i64_w, i32_w]
                   rfl
                  refine pure_ (i := 4) (N := some 108) (v := ?_) (a' := ?_) #[true, true, true, true, true, false, false, false, false, false] rfl rfl (any_of HT_.out (by kernel_rfl)) (fun _ _ _ h => h) (Or.inl ⟨by rfl, ?_⟩) ?_ ?_
                  rotate_left
                  ·intro w'
                   go_simp
                   with_reducible rfl
                  rotate_left
                  ·simp only [Act.put, List.setIfInBounds_toArray, List.set_cons_zero, List.set_cons_succ, i64_w, i32_w]
                   rfl
                  refine pure_ (i := 5) (N := some 109) (v := ?_) (a' := ?_) #[true, true, true, true, true, true, false, false, false, false] rfl rfl (any_of HT_.out (by kernel_rfl)) (fun _ _ _ h => h) (Or.inl ⟨by rfl, ?_⟩) ?_ ?_
                  rotate_left
                  ·intro w'
                   go_simp
                   with_reducible rfl
                  rotate_left
                  ·simp only [Act.put, List.setIfInBounds_toArray, List.set_cons_zero, List.set_cons_succ, i64_w, i32_w]
                   rfl
                  refine take_ (i := 6) (N := some 110) (v := ?_) (a' := ?_) #[true, true, true, true, true, true, true, false, false, false] rfl rfl (take_ofW HT_.out HW_.out (by kernel_rfl)) (fun _ _ _ h => h) (Or.inl ⟨by rfl, ?_⟩) hHeld ?_ ?_
                  rotate_left
                  ·rintro w' ⟨s0, s1, s2, s3, s4, s5, s6, s7⟩
                   go_simp
                   with_reducible rfl
                  rotate_left
                  ·simp only [Act.put, List.setIfInBounds_toArray, List.set_cons_zero, List.set_cons_succ, i64_w, i32_w]
                   rfl
                  refine one_ (i := 7) (N := some 111) #[true, true, true, true, true, true, true, true, false, false] rfl rfl (one_of HT_.out (by kernel_rfl)) (by decide) (fun K hK => ?_)
                  refine goes_ Tryd.func23 (by kernel_rfl) rfl #[.agg #[.int .u8 ((rd_T31 l0_3 x100_3).f0), .int .u64 ((rd_T31 l0_3 x100_3).f1), .string ((rd_T31 l0_3 x100_3).f2), .slice A137_3 ((rd_T31 l0_3 x100_3).f3).length c137_3]] (by rfl) rfl rfl (by (try simp only [List.map_toArray, List.map_cons, List.map_nil]); first | done | rfl | (simp only [List.length_drop, List.length_take]; rfl)) ?_
                  with_reducible refine (ih k3 (by have := HJ1.out; have := HJ39.out; have := HK3.out; omega) ((rd_T31 l0_3 x100_3).f0) ((rd_T31 l0_3 x100_3).f1) ((rd_T31 l0_3 x100_3).f2) _ _ ((rd_T31 l0_3 x100_3).f3) true _ ?sideT ?side1 ?side2 A52.out).mono ?_
                  (case sideT => exact Utf8Tabs_below hT (by repeat (first | (with_reducible first | exact HB.out | apply below_alloc | apply pw_below_drewN | apply below_drew1 | refine below_set ?_ GE129.out) | exact HB.out)))
                  (case side1 => repeat (first | exact (Kd.C_below HR137_3.out HB.out) | (with_reducible refine Kd.C_alloc ?_ _) | (with_reducible refine Kd.C_drewN ?_ _) | (with_reducible refine Kd.C_drew ?_)))
                  (case side2 => exact HC137_3.out)
                  rintro e w60 ⟨rfl, hb⟩
                  refine ⟨_, rfl, ?_⟩
                  have n0_ := Aside0.mk (blk_below (g := gb129) (o := .cells #[.int .u8 a0_0, .int .u64 a0_1, .string a0_2, .slice (some ad137) l0_3.length c0_3] 31 (0, 0)) (by (with_reducible repeat (first | refine blk_drewN ?_ _ | refine blk_drew ?_ | refine blk_alloc ?_ _)); exact BK129.out) hb)
                  have n1_ := Aside0.mk (blk_below (g := gb138) (o := .cells #[.int .u8 ((rd_T31 l0_3 x100_3).f0), .int .u64 ((rd_T31 l0_3 x100_3).f1), .string ((rd_T31 l0_3 x100_3).f2), .slice A137_3 ((rd_T31 l0_3 x100_3).f3).length c137_3] 31 (0, 0)) (by (with_reducible repeat (first | refine blk_drewN ?_ _ | refine blk_drew ?_ | refine blk_alloc ?_ _)); exact BK138.out) hb)
                  have n2_ := Aside0.mk (below_step (by repeat (first | (with_reducible first | exact HB.out | apply below_alloc | apply pw_below_drewN | apply below_drew1 | refine below_set ?_ GE129.out | refine below_set ?_ GE138.out) | exact HB.out)) hb)
                  clear BK129
                  clear BK138
                  clear HB
                  have BK129 := n0_
                  have BK138 := n1_
                  have HB := n2_
                  clear n0_ n1_ n2_
                  (try clear hb)
                  (try clear hb2)
                  (try clear hk)
                  (try clear hi)
                  refine hK.out _ _ ⟨(blk_cell BK138.out 0).trans rfl, (blk_cell BK138.out 1).trans rfl, (blk_cell BK138.out 2).trans rfl, (blk_cell BK138.out 3).trans rfl, (blk_cell BK129.out 0).trans rfl, (blk_cell BK129.out 1).trans rfl, (blk_cell BK129.out 2).trans rfl, (blk_cell BK129.out 3).trans rfl⟩ (fun hHeld => ?_)
                  clear hK K
                  refine norm_ (a' := ?_) ?_ ?_
                  rotate_left
                  ·show Act.put _ (some 111) _ = _
                   simp only [Act.put, List.setIfInBounds_toArray, List.set_cons_zero, List.set_cons_succ, i64_w, i32_w]
                   rfl
                  refine pure_ (i := 8) (N := some 112) (v := ?_) (a' := ?_) #[true, true, true, true, true, true, true, true, true, false] rfl rfl (any_of HT_.out (by kernel_rfl)) (fun _ _ _ h => h) (Or.inl ⟨by rfl, ?_⟩) ?_ ?_
                  rotate_left
                  ·intro w'
                   go_simp
                   with_reducible rfl
                  rotate_left
                  ·simp only [Act.put, List.setIfInBounds_toArray, List.set_cons_zero, List.set_cons_succ, i64_w, i32_w]
                   rfl
                  refine pure_ (i := 9) (N := some 113) (v := ?_) (a' := ?_) #[true, true, true, true, true, true, true, true, true, true] rfl rfl (any_of HT_.out (by kernel_rfl)) (fun _ _ _ h => h) (Or.inl ⟨by rfl, ?_⟩) ?_ ?_
                  rotate_left
                  ·intro w'
                   go_simp
                   with_reducible rfl
                  rotate_left
                  ·simp only [Act.put, List.setIfInBounds_toArray, List.set_cons_zero, List.set_cons_succ, i64_w, i32_w]
                   rfl
                  refine done_ (done_of HT_.out (by kernel_rfl)) ?_
                  try go_wp2
                  go_roundg k3
                  case measure => have := HJ1.out; have := HJ39.out; have := HK3.out; omega
                  case rel => exact ⟨(wrap64 (x100_3 + 1)), (by first | rfl | (simp; done) | (simp [*]; done)), H', ⟨by have := HJ1.out; have := HJ39.out; have := HK3.out; omega⟩, ⟨by (with_reducible repeat (first | refine blk_drewN ?_ _ | refine blk_drew ?_ | refine blk_alloc ?_ _)); exact BK129.out⟩, ⟨by repeat (first | (with_reducible first | exact HB.out | apply below_alloc | apply pw_below_drewN | apply below_drew1 | refine below_set ?_ GE129.out | refine below_set ?_ GE138.out) | exact HB.out)⟩⟩
                 ·replace c53 := Bool.eq_false_iff.mpr c53
                  subst c53
                  have H1 : (some false) = some r := by rw [if_neg (show ¬ (false = true) by decide)] at H; exact H
                  clear H
                  have H := H1
                  clear H1
                  obtain rfl := Option.some.inj H
                  have p137 : 0 ≤ (x100_3 : Int) := of_decide_eq_true (by first | (with_reducible assumption) | assumption)
                  have q137 : x100_3 < (l0_3.length : Int) := of_decide_eq_true (by first | (with_reducible assumption) | assumption)
                  obtain ⟨ad137, A137_3, c137_3, e137, hx137_0, hx137_1, hx137_2, hx137_3, hl137_3, hi137_3⟩ := at_T31 HR0_3.out x100_3 p137 q137
                  cases e137
                  replace hx137_0 := (HB.out.cell (World.block_lt_of_cell? w _ hx137_0)).trans hx137_0
                  replace hx137_1 := (HB.out.cell (World.block_lt_of_cell? w _ hx137_1)).trans hx137_1
                  replace hx137_2 := (HB.out.cell (World.block_lt_of_cell? w _ hx137_2)).trans hx137_2
                  replace hx137_3 := (HB.out.cell (World.block_lt_of_cell? w _ hx137_3)).trans hx137_3
                  have HR137_3 := Aside0.mk hi137_3
                  have HC137_3 := Aside0.mk hl137_3
                  clear hi137_3 hl137_3
                  replace p137 := eq_true p137
                  replace q137 := eq_true q137
                  try go_wp2_with (first | ((with_reducible refine gate_dst (N := 7) rfl ?_); (try (refine gate_guard (by rfl) ?_; dsimp only)); refine box_event ?hg (N := 7) ?hd (cs := #[.int .u8 0, .int .u64 0, .string (⟨#[]⟩ : ByteArray), .slice none 0 0]) (t := 31) ?hr ?_; (case hd => rfl); (case hg => rfl); (case hr => first | (go_simp; done) | (go_simp; rfl)); intro gb138 hg w61 hbox hb; have n0_ := Aside0.mk (blk_below (g := gb129) (o := .cells #[.int .u8 a0_0, .int .u64 a0_1, .string a0_2, .slice (some ad137) l0_3.length c0_3] 31 (0, 0)) (by (with_reducible repeat (first | refine blk_drewN ?_ _ | refine blk_drew ?_ | refine blk_alloc ?_ _)); exact BK129.out) hb); have n1_ := Aside0.mk (below_step (by repeat (first | (with_reducible first | exact HB.out | apply below_alloc | apply pw_below_drewN | apply below_drew1 | refine below_set ?_ GE129.out) | exact HB.out)) hb); have n2_ := Aside0.mk (hbox); have n3_ := Aside0.mk ((by rw [hg]; exact (below_size (by repeat (first | (with_reducible first | exact HB.out | apply below_alloc | apply pw_below_drewN | apply below_drew1 | refine below_set ?_ GE129.out) | exact HB.out))) : w.heap.size ≤ gb138)); have n4_ := Aside0.mk ((by rw [hg]; exact (below_size (by repeat (first | (with_reducible first | exact HB.out | apply below_alloc | apply pw_below_drewN | apply below_drew1 | refine below_set ?_ GE129.out) | exact HB.out))) : w.heap.size ≤ gb138)); have n5_ := Aside0.mk ((by rw [hg]; exact Nat.ne_of_lt (blk_lt (g := gb129) (o := .cells #[.int .u8 a0_0, .int .u64 a0_1, .string a0_2, .slice (some ad137) l0_3.length c0_3] 31 (0, 0)) (by (with_reducible repeat (first | refine blk_drewN ?_ _ | refine blk_drew ?_ | refine blk_alloc ?_ _)); exact BK129.out)) : gb129 ≠ gb138)); have n6_ := Aside0.mk ((by rw [hg]; exact Nat.ne_of_gt (blk_lt (g := gb129) (o := .cells #[.int .u8 a0_0, .int .u64 a0_1, .string a0_2, .slice (some ad137) l0_3.length c0_3] 31 (0, 0)) (by (with_reducible repeat (first | refine blk_drewN ?_ _ | refine blk_drew ?_ | refine blk_alloc ?_ _)); exact BK129.out)) : gb138 ≠ gb129)); clear BK129; clear HB; have BK129 := n0_; have HB := n1_; have BK138 := n2_; have GW138 := n3_; have GE138 := n4_; have NB129_138 := n5_; have NB138_129 := n6_; clear n0_ n1_ n2_ n3_ n4_ n5_ n6_; clear hb hbox hg; have hnb62 := NB138_129.out; have hnc62 := NB129_138.out; have hcz63_0 : w61.cell? ⟨gb138, 0, none⟩ = some (.int .u8 0) := (blk_cell BK138.out 0).trans rfl; have hcz63_1 : w61.cell? ⟨gb138, 1, none⟩ = some (.int .u64 0) := (blk_cell BK138.out 1).trans rfl; have hcz63_2 : w61.cell? ⟨gb138, 2, none⟩ = some (.string (⟨#[]⟩ : ByteArray)) := (blk_cell BK138.out 2).trans rfl; have hcz63_3 : w61.cell? ⟨gb138, 3, none⟩ = some (.slice none 0 0) := (blk_cell BK138.out 3).trans rfl; have hfz63_0 := blk_frozen BK138.out 0; have hfz63_1 := blk_frozen BK138.out 1; have hfz63_2 := blk_frozen BK138.out 2; have hfz63_3 := blk_frozen BK138.out 3))
                  have n0_ : Aside0 (((((w61.setCell ⟨gb138, 0, none⟩ (.int .u8 ((rd_T31 l0_3 x100_3).f0))).setCell ⟨gb138, 1, none⟩ (.int .u64 ((rd_T31 l0_3 x100_3).f1))).setCell ⟨gb138, 2, none⟩ (.string ((rd_T31 l0_3 x100_3).f2))).setCell ⟨gb138, 3, none⟩ (.slice A137_3 ((rd_T31 l0_3 x100_3).f3).length c137_3)).heap[gb129]? = some (.cells #[.int .u8 a0_0, .int .u64 a0_1, .string a0_2, .slice (some ad137) l0_3.length c0_3] 31 (0, 0))) := ⟨by (with_reducible repeat (first | refine blk_drewN ?_ _ | refine blk_drew ?_ | refine blk_alloc ?_ _)); refine blk_far ?_ NB129_138.out _; (with_reducible repeat (first | refine blk_drewN ?_ _ | refine blk_drew ?_ | refine blk_alloc ?_ _)); refine blk_far ?_ NB129_138.out _; (with_reducible repeat (first | refine blk_drewN ?_ _ | refine blk_drew ?_ | refine blk_alloc ?_ _)); refine blk_far ?_ NB129_138.out _; (with_reducible repeat (first | refine blk_drewN ?_ _ | refine blk_drew ?_ | refine blk_alloc ?_ _)); refine blk_far ?_ NB129_138.out _; (with_reducible repeat (first | refine blk_drewN ?_ _ | refine blk_drew ?_ | refine blk_alloc ?_ _)); exact BK129.out⟩
                  have n1_ : Aside0 (((((w61.setCell ⟨gb138, 0, none⟩ (.int .u8 ((rd_T31 l0_3 x100_3).f0))).setCell ⟨gb138, 1, none⟩ (.int .u64 ((rd_T31 l0_3 x100_3).f1))).setCell ⟨gb138, 2, none⟩ (.string ((rd_T31 l0_3 x100_3).f2))).setCell ⟨gb138, 3, none⟩ (.slice A137_3 ((rd_T31 l0_3 x100_3).f3).length c137_3)).heap[gb138]? = some (.cells #[.int .u8 ((rd_T31 l0_3 x100_3).f0), .int .u64 ((rd_T31 l0_3 x100_3).f1), .string ((rd_T31 l0_3 x100_3).f2), .slice A137_3 ((rd_T31 l0_3 x100_3).f3).length c137_3] 31 (0, 0))) := ⟨by (with_reducible repeat (first | refine blk_drewN ?_ _ | refine blk_drew ?_ | refine blk_alloc ?_ _)); refine blk_put (cs := #[.int .u8 ((rd_T31 l0_3 x100_3).f0), .int .u64 ((rd_T31 l0_3 x100_3).f1), .string ((rd_T31 l0_3 x100_3).f2), .slice none 0 0]) ?_ 3 _ rfl; (with_reducible repeat (first | refine blk_drewN ?_ _ | refine blk_drew ?_ | refine blk_alloc ?_ _)); refine blk_put (cs := #[.int .u8 ((rd_T31 l0_3 x100_3).f0), .int .u64 ((rd_T31 l0_3 x100_3).f1), .string (⟨#[]⟩ : ByteArray), .slice none 0 0]) ?_ 2 _ rfl; (with_reducible repeat (first | refine blk_drewN ?_ _ | refine blk_drew ?_ | refine blk_alloc ?_ _)); refine blk_put (cs := #[.int .u8 ((rd_T31 l0_3 x100_3).f0), .int .u64 0, .string (⟨#[]⟩ : ByteArray), .slice none 0 0]) ?_ 1 _ rfl; (with_reducible repeat (first | refine blk_drewN ?_ _ | refine blk_drew ?_ | refine blk_alloc ?_ _)); refine blk_put (cs := #[.int .u8 0, .int .u64 0, .string (⟨#[]⟩ : ByteArray), .slice none 0 0]) ?_ 0 _ rfl; (with_reducible repeat (first | refine blk_drewN ?_ _ | refine blk_drew ?_ | refine blk_alloc ?_ _)); exact BK138.out⟩
                  have n2_ : Aside0 (Below w.heap.size w ((((w61.setCell ⟨gb138, 0, none⟩ (.int .u8 ((rd_T31 l0_3 x100_3).f0))).setCell ⟨gb138, 1, none⟩ (.int .u64 ((rd_T31 l0_3 x100_3).f1))).setCell ⟨gb138, 2, none⟩ (.string ((rd_T31 l0_3 x100_3).f2))).setCell ⟨gb138, 3, none⟩ (.slice A137_3 ((rd_T31 l0_3 x100_3).f3).length c137_3))) := ⟨by repeat (first | (with_reducible first | exact HB.out | apply below_alloc | apply pw_below_drewN | apply below_drew1 | refine below_set ?_ GE129.out | refine below_set ?_ GE138.out) | exact HB.out)⟩
                  (try clear BK129)
                  (try clear BK138)
                  (try clear HB)
                  generalize ((((w61.setCell ⟨gb138, 0, none⟩ (.int .u8 ((rd_T31 l0_3 x100_3).f0))).setCell ⟨gb138, 1, none⟩ (.int .u64 ((rd_T31 l0_3 x100_3).f1))).setCell ⟨gb138, 2, none⟩ (.string ((rd_T31 l0_3 x100_3).f2))).setCell ⟨gb138, 3, none⟩ (.slice A137_3 ((rd_T31 l0_3 x100_3).f3).length c137_3)) = w64 at n0_ n1_ n2_ ⊢
                  have BK129 := n0_
                  have BK138 := n1_
                  have HB := n2_
                  clear n0_ n1_ n2_
                  have n0_ := Aside0.mk (blk_drew BK129.out)
                  have n1_ := Aside0.mk (blk_drew BK138.out)
                  have n2_ := Aside0.mk (below_drew1 HB.out)
                  clear BK129
                  clear BK138
                  clear HB
                  have BK129 := n0_
                  have BK138 := n1_
                  have HB := n2_
                  clear n0_ n1_ n2_
                  refine start_ (n := 10) (S := fun w' => w'.cell? ⟨gb138, 0, none⟩ = some (.int .u8 ((rd_T31 l0_3 x100_3).f0)) ∧ w'.cell? ⟨gb138, 1, none⟩ = some (.int .u64 ((rd_T31 l0_3 x100_3).f1)) ∧ w'.cell? ⟨gb138, 2, none⟩ = some (.string ((rd_T31 l0_3 x100_3).f2)) ∧ w'.cell? ⟨gb138, 3, none⟩ = some (.slice A137_3 ((rd_T31 l0_3 x100_3).f3).length c137_3) ∧ w'.cell? ⟨gb129, 0, none⟩ = some (.int .u8 a0_0) ∧ w'.cell? ⟨gb129, 1, none⟩ = some (.int .u64 a0_1) ∧ w'.cell? ⟨gb129, 2, none⟩ = some (.string a0_2) ∧ w'.cell? ⟨gb129, 3, none⟩ = some (.slice (some ad137) l0_3.length c0_3)) (ds := []) #[false, false, false, false, false, false, false, false, false, false] (by kernel_rfl) rfl rfl ⟨(blk_cell BK138.out 0).trans rfl, (blk_cell BK138.out 1).trans rfl, (blk_cell BK138.out 2).trans rfl, (blk_cell BK138.out 3).trans rfl, (blk_cell BK129.out 0).trans rfl, (blk_cell BK129.out 1).trans rfl, (blk_cell BK129.out 2).trans rfl, (blk_cell BK129.out 3).trans rfl⟩ (fun hHeld => ?_); refine with_tabW spec_tidy.tab17 spec_tidy.bits17 (fun HT_ HW_ => ?_)
                  generalize w64.drew = w65 at BK129 BK138 HB hHeld ⊢
                  refine pure_ (i := 2) (N := some 106) (v := ?_) (a' := ?_) #[false, false, true, false, false, false, false, false, false, false] rfl rfl (any_of HT_.out (by kernel_rfl)) (fun _ _ _ h => h) (Or.inl ⟨by rfl, ?_⟩) ?_ ?_
                  rotate_left
                  ·intro w'
                   go_simp
                   with_reducible rfl
                  rotate_left
                  ·simp only [Act.put, List.setIfInBounds_toArray, List.set_cons_zero, List.set_cons_succ, i64_w, i32_w]
                   rfl
                  refine take_ (i := 0) (N := some 104) (v := ?_) (a' := ?_) #[true, false, true, false, false, false, false, false, false, false] rfl rfl (take_ofW HT_.out HW_.out (by kernel_rfl)) (fun _ _ _ h => h) (Or.inl ⟨by rfl, ?_⟩) hHeld ?_ ?_
                  rotate_left
                  ·rintro w' ⟨s0, s1, s2, s3, s4, s5, s6, s7⟩
                   go_simp
                   with_reducible rfl
                  rotate_left
                  ·simp only [Act.put, List.setIfInBounds_toArray, List.set_cons_zero, List.set_cons_succ, i64_w, i32_w]
                   rfl
                  refine take_ (i := 3) (N := some 107) (v := ?_) (a' := ?_) #[true, false, true, true, false, false, false, false, false, false] rfl rfl (take_ofW HT_.out HW_.out (by kernel_rfl)) (fun _ _ _ h => h) (Or.inl ⟨by rfl, ?_⟩) hHeld ?_ ?_
                  rotate_left
                  ·rintro w' ⟨s0, s1, s2, s3, s4, s5, s6, s7⟩
                   go_simp
                   with_reducible rfl
                  rotate_left
                  ·simp only [Act.put, List.setIfInBounds_toArray, List.set_cons_zero, List.set_cons_succ, i64_w, i32_w]
                   rfl
                  refine one_ (i := 1) (N := some 105) #[true, true, true, true, false, false, false, false, false, false] rfl rfl (one_of HT_.out (by kernel_rfl)) (by decide) (fun K hK => ?_)
                  refine goes_ Tryd.func17 (by kernel_rfl) rfl #[.agg #[.int .u8 ((rd_T31 l0_3 x100_3).f0), .int .u64 ((rd_T31 l0_3 x100_3).f1), .string ((rd_T31 l0_3 x100_3).f2), .slice A137_3 ((rd_T31 l0_3 x100_3).f3).length c137_3]] (by rfl) rfl rfl (by (try simp only [List.map_toArray, List.map_cons, List.map_nil]); first | done | rfl | (simp only [List.length_drop, List.length_take]; rfl)) ?_
                  with_reducible refine (spec_SigOf.calls k3 ((rd_T31 l0_3 x100_3).f0) ((rd_T31 l0_3 x100_3).f1) ((rd_T31 l0_3 x100_3).f2) _ _ ((rd_T31 l0_3 x100_3).f3) t139 _ ?side1 ?side2 A50.out).mono ?_
                  (case side1 => repeat (first | exact (Kd.C_below HR137_3.out HB.out) | (with_reducible refine Kd.C_alloc ?_ _) | (with_reducible refine Kd.C_drewN ?_ _) | (with_reducible refine Kd.C_drew ?_)))
                  (case side2 => exact HC137_3.out)
                  rintro e w66 ⟨rfl, hb⟩
                  refine ⟨_, rfl, ?_⟩
                  have n0_ := Aside0.mk (blk_below (g := gb129) (o := .cells #[.int .u8 a0_0, .int .u64 a0_1, .string a0_2, .slice (some ad137) l0_3.length c0_3] 31 (0, 0)) (by (with_reducible repeat (first | refine blk_drewN ?_ _ | refine blk_drew ?_ | refine blk_alloc ?_ _)); exact BK129.out) hb)
                  have n1_ := Aside0.mk (blk_below (g := gb138) (o := .cells #[.int .u8 ((rd_T31 l0_3 x100_3).f0), .int .u64 ((rd_T31 l0_3 x100_3).f1), .string ((rd_T31 l0_3 x100_3).f2), .slice A137_3 ((rd_T31 l0_3 x100_3).f3).length c137_3] 31 (0, 0)) (by (with_reducible repeat (first | refine blk_drewN ?_ _ | refine blk_drew ?_ | refine blk_alloc ?_ _)); exact BK138.out) hb)
                  have n2_ := Aside0.mk (below_step (by repeat (first | (with_reducible first | exact HB.out | apply below_alloc | apply pw_below_drewN | apply below_drew1 | refine below_set ?_ GE129.out | refine below_set ?_ GE138.out) | exact HB.out)) hb)
                  clear BK129
                  clear BK138
                  clear HB
                  have BK129 := n0_
                  have BK138 := n1_
                  have HB := n2_
                  clear n0_ n1_ n2_
                  (try clear hb)
                  (try clear hb2)
                  (try clear hk)
                  (try clear hi)
                  refine hK.out _ _ ⟨(blk_cell BK138.out 0).trans rfl, (blk_cell BK138.out 1).trans rfl, (blk_cell BK138.out 2).trans rfl, (blk_cell BK138.out 3).trans rfl, (blk_cell BK129.out 0).trans rfl, (blk_cell BK129.out 1).trans rfl, (blk_cell BK129.out 2).trans rfl, (blk_cell BK129.out 3).trans rfl⟩ (fun hHeld => ?_)
                  clear hK K
                  refine norm_ (a' := ?_) ?_ ?_
                  rotate_left
                  ·show Act.put _ (some 105) _ = _
                   simp only [Act.put, List.setIfInBounds_toArray, List.set_cons_zero, List.set_cons_succ, i64_w, i32_w]
                   rfl
                  refine pure_ (i := 4) (N := some 108) (v := ?_) (a' := ?_) #[true, true, true, true, true, false, false, false, false, false] rfl rfl (any_of HT_.out (by kernel_rfl)) (fun _ _ _ h => h) (Or.inl ⟨by rfl, ?_⟩) ?_ ?_
                  rotate_left
                  ·intro w'
                   go_simp
                   with_reducible rfl
                  rotate_left
                  ·simp only [Act.put, List.setIfInBounds_toArray, List.set_cons_zero, List.set_cons_succ, i64_w, i32_w]
                   rfl
                  refine pure_ (i := 5) (N := some 109) (v := ?_) (a' := ?_) #[true, true, true, true, true, true, false, false, false, false] rfl rfl (any_of HT_.out (by kernel_rfl)) (fun _ _ _ h => h) (Or.inl ⟨by rfl, ?_⟩) ?_ ?_
                  rotate_left
                  ·intro w'
                   go_simp
                   with_reducible rfl
                  rotate_left
                  ·simp only [Act.put, List.setIfInBounds_toArray, List.set_cons_zero, List.set_cons_succ, i64_w, i32_w]
                   rfl
                  refine take_ (i := 6) (N := some 110) (v := ?_) (a' := ?_) #[true, true, true, true, true, true, true, false, false, false] rfl rfl (take_ofW HT_.out HW_.out (by kernel_rfl)) (fun _ _ _ h => h) (Or.inl ⟨by rfl, ?_⟩) hHeld ?_ ?_
                  rotate_left
                  ·rintro w' ⟨s0, s1, s2, s3, s4, s5, s6, s7⟩
                   go_simp
                   with_reducible rfl
                  rotate_left
                  ·simp only [Act.put, List.setIfInBounds_toArray, List.set_cons_zero, List.set_cons_succ, i64_w, i32_w]
                   rfl
                  refine one_ (i := 7) (N := some 111) #[true, true, true, true, true, true, true, true, false, false] rfl rfl (one_of HT_.out (by kernel_rfl)) (by decide) (fun K hK => ?_)
                  refine goes_ Tryd.func23 (by kernel_rfl) rfl #[.agg #[.int .u8 ((rd_T31 l0_3 x100_3).f0), .int .u64 ((rd_T31 l0_3 x100_3).f1), .string ((rd_T31 l0_3 x100_3).f2), .slice A137_3 ((rd_T31 l0_3 x100_3).f3).length c137_3]] (by rfl) rfl rfl (by (try simp only [List.map_toArray, List.map_cons, List.map_nil]); first | done | rfl | (simp only [List.length_drop, List.length_take]; rfl)) ?_
                  with_reducible refine (ih k3 (by have := HJ1.out; have := HJ39.out; have := HK3.out; omega) ((rd_T31 l0_3 x100_3).f0) ((rd_T31 l0_3 x100_3).f1) ((rd_T31 l0_3 x100_3).f2) _ _ ((rd_T31 l0_3 x100_3).f3) false _ ?sideT ?side1 ?side2 A52.out).mono ?_
                  (case sideT => exact Utf8Tabs_below hT (by repeat (first | (with_reducible first | exact HB.out | apply below_alloc | apply pw_below_drewN | apply below_drew1 | refine below_set ?_ GE129.out) | exact HB.out)))
                  (case side1 => repeat (first | exact (Kd.C_below HR137_3.out HB.out) | (with_reducible refine Kd.C_alloc ?_ _) | (with_reducible refine Kd.C_drewN ?_ _) | (with_reducible refine Kd.C_drew ?_)))
                  (case side2 => exact HC137_3.out)
                  rintro e w67 ⟨rfl, hb⟩
                  refine ⟨_, rfl, ?_⟩
                  have n0_ := Aside0.mk (blk_below (g := gb129) (o := .cells #[.int .u8 a0_0, .int .u64 a0_1, .string a0_2, .slice (some ad137) l0_3.length c0_3] 31 (0, 0)) (by (with_reducible repeat (first | refine blk_drewN ?_ _ | refine blk_drew ?_ | refine blk_alloc ?_ _)); exact BK129.out) hb)
                  have n1_ := Aside0.mk (blk_below (g := gb138) (o := .cells #[.int .u8 ((rd_T31 l0_3 x100_3).f0), .int .u64 ((rd_T31 l0_3 x100_3).f1), .string ((rd_T31 l0_3 x100_3).f2), .slice A137_3 ((rd_T31 l0_3 x100_3).f3).length c137_3] 31 (0, 0)) (by (with_reducible repeat (first | refine blk_drewN ?_ _ | refine blk_drew ?_ | refine blk_alloc ?_ _)); exact BK138.out) hb)
                  have n2_ := Aside0.mk (below_step (by repeat (first | (with_reducible first | exact HB.out | apply below_alloc | apply pw_below_drewN | apply below_drew1 | refine below_set ?_ GE129.out | refine below_set ?_ GE138.out) | exact HB.out)) hb)
                  clear BK129
                  clear BK138
                  clear HB
                  have BK129 := n0_
                  have BK138 := n1_
                  have HB := n2_
                  clear n0_ n1_ n2_
                  (try clear hb)
                  (try clear hb2)
                  (try clear hk)
                  (try clear hi)
                  refine hK.out _ _ ⟨(blk_cell BK138.out 0).trans rfl, (blk_cell BK138.out 1).trans rfl, (blk_cell BK138.out 2).trans rfl, (blk_cell BK138.out 3).trans rfl, (blk_cell BK129.out 0).trans rfl, (blk_cell BK129.out 1).trans rfl, (blk_cell BK129.out 2).trans rfl, (blk_cell BK129.out 3).trans rfl⟩ (fun hHeld => ?_)
                  clear hK K
                  refine norm_ (a' := ?_) ?_ ?_
                  rotate_left
                  ·show Act.put _ (some 111) _ = _
                   simp only [Act.put, List.setIfInBounds_toArray, List.set_cons_zero, List.set_cons_succ, i64_w, i32_w]
                   rfl
                  refine pure_ (i := 8) (N := some 112) (v := ?_) (a' := ?_) #[true, true, true, true, true, true, true, true, true, false] rfl rfl (any_of HT_.out (by kernel_rfl)) (fun _ _ _ h => h) (Or.inl ⟨by rfl, ?_⟩) ?_ ?_
                  rotate_left
                  ·intro w'
                   go_simp
                   with_reducible rfl
                  rotate_left
                  ·simp only [Act.put, List.setIfInBounds_toArray, List.set_cons_zero, List.set_cons_succ, i64_w, i32_w]
                   rfl
                  refine pure_ (i := 9) (N := some 113) (v := ?_) (a' := ?_) #[true, true, true, true, true, true, true, true, true, true] rfl rfl (any_of HT_.out (by kernel_rfl)) (fun _ _ _ h => h) (Or.inl ⟨by rfl, ?_⟩) ?_ ?_
                  rotate_left
                  ·intro w'
                   go_simp
                   with_reducible rfl
                  rotate_left
                  ·simp only [Act.put, List.setIfInBounds_toArray, List.set_cons_zero, List.set_cons_succ, i64_w, i32_w]
                   rfl
                  refine done_ (done_of HT_.out (by kernel_rfl)) ?_
                  try go_wp2
                  go_ret
                  exact ⟨by first | rfl | (simp [errW_none, errW_some] <;> rfl) | (simp [*, errW_none, errW_some] <;> rfl) | (simp (disch := omega) only [wrap64_id] <;> rfl), by repeat (first | (with_reducible first | exact HB.out | apply below_alloc | apply pw_below_drewN | apply below_drew1 | refine below_set ?_ GE129.out | refine below_set ?_ GE138.out) | exact HB.out)⟩
                ·rw [if_neg c51] at H
                 have c51b0 : (t139.toList == a0_2.toList) = false := beq_eq_false_iff_ne.mpr c51
                 have c51b1 : (t139.toList != a0_2.toList) = true := bne_iff_ne.mpr c51
                 obtain rfl := Option.some.inj H
                 have p137 : 0 ≤ (x100_3 : Int) := of_decide_eq_true (by first | (with_reducible assumption) | assumption)
                 have q137 : x100_3 < (l0_3.length : Int) := of_decide_eq_true (by first | (with_reducible assumption) | assumption)
                 obtain ⟨ad137, A137_3, c137_3, e137, hx137_0, hx137_1, hx137_2, hx137_3, hl137_3, hi137_3⟩ := at_T31 HR0_3.out x100_3 p137 q137
                 cases e137
                 replace hx137_0 := (HB.out.cell (World.block_lt_of_cell? w _ hx137_0)).trans hx137_0
                 replace hx137_1 := (HB.out.cell (World.block_lt_of_cell? w _ hx137_1)).trans hx137_1
                 replace hx137_2 := (HB.out.cell (World.block_lt_of_cell? w _ hx137_2)).trans hx137_2
                 replace hx137_3 := (HB.out.cell (World.block_lt_of_cell? w _ hx137_3)).trans hx137_3
                 have HR137_3 := Aside0.mk hi137_3
                 have HC137_3 := Aside0.mk hl137_3
                 clear hi137_3 hl137_3
                 replace p137 := eq_true p137
                 replace q137 := eq_true q137
                 try go_wp2_with (first | ((with_reducible refine gate_dst (N := 7) rfl ?_); (try (refine gate_guard (by rfl) ?_; dsimp only)); refine box_event ?hg (N := 7) ?hd (cs := #[.int .u8 0, .int .u64 0, .string (⟨#[]⟩ : ByteArray), .slice none 0 0]) (t := 31) ?hr ?_; (case hd => rfl); (case hg => rfl); (case hr => first | (go_simp; done) | (go_simp; rfl)); intro gb138 hg w68 hbox hb; have n0_ := Aside0.mk (blk_below (g := gb129) (o := .cells #[.int .u8 a0_0, .int .u64 a0_1, .string a0_2, .slice (some ad137) l0_3.length c0_3] 31 (0, 0)) (by (with_reducible repeat (first | refine blk_drewN ?_ _ | refine blk_drew ?_ | refine blk_alloc ?_ _)); exact BK129.out) hb); have n1_ := Aside0.mk (below_step (by repeat (first | (with_reducible first | exact HB.out | apply below_alloc | apply pw_below_drewN | apply below_drew1 | refine below_set ?_ GE129.out) | exact HB.out)) hb); have n2_ := Aside0.mk (hbox); have n3_ := Aside0.mk ((by rw [hg]; exact (below_size (by repeat (first | (with_reducible first | exact HB.out | apply below_alloc | apply pw_below_drewN | apply below_drew1 | refine below_set ?_ GE129.out) | exact HB.out))) : w.heap.size ≤ gb138)); have n4_ := Aside0.mk ((by rw [hg]; exact (below_size (by repeat (first | (with_reducible first | exact HB.out | apply below_alloc | apply pw_below_drewN | apply below_drew1 | refine below_set ?_ GE129.out) | exact HB.out))) : w.heap.size ≤ gb138)); have n5_ := Aside0.mk ((by rw [hg]; exact Nat.ne_of_lt (blk_lt (g := gb129) (o := .cells #[.int .u8 a0_0, .int .u64 a0_1, .string a0_2, .slice (some ad137) l0_3.length c0_3] 31 (0, 0)) (by (with_reducible repeat (first | refine blk_drewN ?_ _ | refine blk_drew ?_ | refine blk_alloc ?_ _)); exact BK129.out)) : gb129 ≠ gb138)); have n6_ := Aside0.mk ((by rw [hg]; exact Nat.ne_of_gt (blk_lt (g := gb129) (o := .cells #[.int .u8 a0_0, .int .u64 a0_1, .string a0_2, .slice (some ad137) l0_3.length c0_3] 31 (0, 0)) (by (with_reducible repeat (first | refine blk_drewN ?_ _ | refine blk_drew ?_ | refine blk_alloc ?_ _)); exact BK129.out)) : gb138 ≠ gb129)); clear BK129; clear HB; have BK129 := n0_; have HB := n1_; have BK138 := n2_; have GW138 := n3_; have GE138 := n4_; have NB129_138 := n5_; have NB138_129 := n6_; clear n0_ n1_ n2_ n3_ n4_ n5_ n6_; clear hb hbox hg; have hnb69 := NB138_129.out; have hnc69 := NB129_138.out; have hcz70_0 : w68.cell? ⟨gb138, 0, none⟩ = some (.int .u8 0) := (blk_cell BK138.out 0).trans rfl; have hcz70_1 : w68.cell? ⟨gb138, 1, none⟩ = some (.int .u64 0) := (blk_cell BK138.out 1).trans rfl; have hcz70_2 : w68.cell? ⟨gb138, 2, none⟩ = some (.string (⟨#[]⟩ : ByteArray)) := (blk_cell BK138.out 2).trans rfl; have hcz70_3 : w68.cell? ⟨gb138, 3, none⟩ = some (.slice none 0 0) := (blk_cell BK138.out 3).trans rfl; have hfz70_0 := blk_frozen BK138.out 0; have hfz70_1 := blk_frozen BK138.out 1; have hfz70_2 := blk_frozen BK138.out 2; have hfz70_3 := blk_frozen BK138.out 3))
                 have n0_ : Aside0 (((((w68.setCell ⟨gb138, 0, none⟩ (.int .u8 ((rd_T31 l0_3 x100_3).f0))).setCell ⟨gb138, 1, none⟩ (.int .u64 ((rd_T31 l0_3 x100_3).f1))).setCell ⟨gb138, 2, none⟩ (.string ((rd_T31 l0_3 x100_3).f2))).setCell ⟨gb138, 3, none⟩ (.slice A137_3 ((rd_T31 l0_3 x100_3).f3).length c137_3)).heap[gb129]? = some (.cells #[.int .u8 a0_0, .int .u64 a0_1, .string a0_2, .slice (some ad137) l0_3.length c0_3] 31 (0, 0))) := ⟨by (with_reducible repeat (first | refine blk_drewN ?_ _ | refine blk_drew ?_ | refine blk_alloc ?_ _)); refine blk_far ?_ NB129_138.out _; (with_reducible repeat (first | refine blk_drewN ?_ _ | refine blk_drew ?_ | refine blk_alloc ?_ _)); refine blk_far ?_ NB129_138.out _; (with_reducible repeat (first | refine blk_drewN ?_ _ | refine blk_drew ?_ | refine blk_alloc ?_ _)); refine blk_far ?_ NB129_138.out _; (with_reducible repeat (first | refine blk_drewN ?_ _ | refine blk_drew ?_ | refine blk_alloc ?_ _)); refine blk_far ?_ NB129_138.out _; (with_reducible repeat (first | refine blk_drewN ?_ _ | refine blk_drew ?_ | refine blk_alloc ?_ _)); exact BK129.out⟩
                 have n1_ : Aside0 (((((w68.setCell ⟨gb138, 0, none⟩ (.int .u8 ((rd_T31 l0_3 x100_3).f0))).setCell ⟨gb138, 1, none⟩ (.int .u64 ((rd_T31 l0_3 x100_3).f1))).setCell ⟨gb138, 2, none⟩ (.string ((rd_T31 l0_3 x100_3).f2))).setCell ⟨gb138, 3, none⟩ (.slice A137_3 ((rd_T31 l0_3 x100_3).f3).length c137_3)).heap[gb138]? = some (.cells #[.int .u8 ((rd_T31 l0_3 x100_3).f0), .int .u64 ((rd_T31 l0_3 x100_3).f1), .string ((rd_T31 l0_3 x100_3).f2), .slice A137_3 ((rd_T31 l0_3 x100_3).f3).length c137_3] 31 (0, 0))) := ⟨by (with_reducible repeat (first | refine blk_drewN ?_ _ | refine blk_drew ?_ | refine blk_alloc ?_ _)); refine blk_put (cs := #[.int .u8 ((rd_T31 l0_3 x100_3).f0), .int .u64 ((rd_T31 l0_3 x100_3).f1), .string ((rd_T31 l0_3 x100_3).f2), .slice none 0 0]) ?_ 3 _ rfl; (with_reducible repeat (first | refine blk_drewN ?_ _ | refine blk_drew ?_ | refine blk_alloc ?_ _)); refine blk_put (cs := #[.int .u8 ((rd_T31 l0_3 x100_3).f0), .int .u64 ((rd_T31 l0_3 x100_3).f1), .string (⟨#[]⟩ : ByteArray), .slice none 0 0]) ?_ 2 _ rfl; (with_reducible repeat (first | refine blk_drewN ?_ _ | refine blk_drew ?_ | refine blk_alloc ?_ _)); refine blk_put (cs := #[.int .u8 ((rd_T31 l0_3 x100_3).f0), .int .u64 0, .string (⟨#[]⟩ : ByteArray), .slice none 0 0]) ?_ 1 _ rfl; (with_reducible repeat (first | refine blk_drewN ?_ _ | refine blk_drew ?_ | refine blk_alloc ?_ _)); refine blk_put (cs := #[.int .u8 0, .int .u64 0, .string (⟨#[]⟩ : ByteArray), .slice none 0 0]) ?_ 0 _ rfl; (with_reducible repeat (first | refine blk_drewN ?_ _ | refine blk_drew ?_ | refine blk_alloc ?_ _)); exact BK138.out⟩
                 have n2_ : Aside0 (Below w.heap.size w ((((w68.setCell ⟨gb138, 0, none⟩ (.int .u8 ((rd_T31 l0_3 x100_3).f0))).setCell ⟨gb138, 1, none⟩ (.int .u64 ((rd_T31 l0_3 x100_3).f1))).setCell ⟨gb138, 2, none⟩ (.string ((rd_T31 l0_3 x100_3).f2))).setCell ⟨gb138, 3, none⟩ (.slice A137_3 ((rd_T31 l0_3 x100_3).f3).length c137_3))) := ⟨by repeat (first | (with_reducible first | exact HB.out | apply below_alloc | apply pw_below_drewN | apply below_drew1 | refine below_set ?_ GE129.out | refine below_set ?_ GE138.out) | exact HB.out)⟩
                 (try clear BK129)
                 (try clear BK138)
                 (try clear HB)
                 generalize ((((w68.setCell ⟨gb138, 0, none⟩ (.int .u8 ((rd_T31 l0_3 x100_3).f0))).setCell ⟨gb138, 1, none⟩ (.int .u64 ((rd_T31 l0_3 x100_3).f1))).setCell ⟨gb138, 2, none⟩ (.string ((rd_T31 l0_3 x100_3).f2))).setCell ⟨gb138, 3, none⟩ (.slice A137_3 ((rd_T31 l0_3 x100_3).f3).length c137_3)) = w71 at n0_ n1_ n2_ ⊢
                 have BK129 := n0_
                 have BK138 := n1_
                 have HB := n2_
                 clear n0_ n1_ n2_
                 have n0_ := Aside0.mk (blk_drew BK129.out)
                 have n1_ := Aside0.mk (blk_drew BK138.out)
                 have n2_ := Aside0.mk (below_drew1 HB.out)
                 clear BK129
                 clear BK138
                 clear HB
                 have BK129 := n0_
                 have BK138 := n1_
                 have HB := n2_
                 clear n0_ n1_ n2_
                 refine start_ (n := 10) (S := fun w' => w'.cell? ⟨gb138, 0, none⟩ = some (.int .u8 ((rd_T31 l0_3 x100_3).f0)) ∧ w'.cell? ⟨gb138, 1, none⟩ = some (.int .u64 ((rd_T31 l0_3 x100_3).f1)) ∧ w'.cell? ⟨gb138, 2, none⟩ = some (.string ((rd_T31 l0_3 x100_3).f2)) ∧ w'.cell? ⟨gb138, 3, none⟩ = some (.slice A137_3 ((rd_T31 l0_3 x100_3).f3).length c137_3) ∧ w'.cell? ⟨gb129, 0, none⟩ = some (.int .u8 a0_0) ∧ w'.cell? ⟨gb129, 1, none⟩ = some (.int .u64 a0_1) ∧ w'.cell? ⟨gb129, 2, none⟩ = some (.string a0_2) ∧ w'.cell? ⟨gb129, 3, none⟩ = some (.slice (some ad137) l0_3.length c0_3)) (ds := []) #[false, false, false, false, false, false, false, false, false, false] (by kernel_rfl) rfl rfl ⟨(blk_cell BK138.out 0).trans rfl, (blk_cell BK138.out 1).trans rfl, (blk_cell BK138.out 2).trans rfl, (blk_cell BK138.out 3).trans rfl, (blk_cell BK129.out 0).trans rfl, (blk_cell BK129.out 1).trans rfl, (blk_cell BK129.out 2).trans rfl, (blk_cell BK129.out 3).trans rfl⟩ (fun hHeld => ?_); refine with_tabW spec_tidy.tab17 spec_tidy.bits17 (fun HT_ HW_ => ?_)
                 generalize w71.drew = w72 at BK129 BK138 HB hHeld ⊢
                 refine pure_ (i := 2) (N := some 106) (v := ?_) (a' := ?_) #[false, false, true, false, false, false, false, false, false, false] rfl rfl (any_of HT_.out (by kernel_rfl)) (fun _ _ _ h => h) (Or.inl ⟨by rfl, ?_⟩) ?_ ?_
                 rotate_left
                 ·intro w'
                  go_simp
                  with_reducible rfl
                 rotate_left
                 ·simp only [Act.put, List.setIfInBounds_toArray, List.set_cons_zero, List.set_cons_succ, i64_w, i32_w]
                  rfl
                 refine take_ (i := 0) (N := some 104) (v := ?_) (a' := ?_) #[true, false, true, false, false, false, false, false, false, false] rfl rfl (take_ofW HT_.out HW_.out (by kernel_rfl)) (fun _ _ _ h => h) (Or.inl ⟨by rfl, ?_⟩) hHeld ?_ ?_
                 rotate_left
                 ·rintro w' ⟨s0, s1, s2, s3, s4, s5, s6, s7⟩
                  go_simp
                  with_reducible rfl
                 rotate_left
                 ·simp only [Act.put, List.setIfInBounds_toArray, List.set_cons_zero, List.set_cons_succ, i64_w, i32_w]
                  rfl
                 refine take_ (i := 3) (N := some 107) (v := ?_) (a' := ?_) #[true, false, true, true, false, false, false, false, false, false] rfl rfl (take_ofW HT_.out HW_.out (by kernel_rfl)) (fun _ _ _ h => h) (Or.inl ⟨by rfl, ?_⟩) hHeld ?_ ?_
                 rotate_left
                 ·rintro w' ⟨s0, s1, s2, s3, s4, s5, s6, s7⟩
                  go_simp
                  with_reducible rfl
                 rotate_left
                 ·simp only [Act.put, List.setIfInBounds_toArray, List.set_cons_zero, List.set_cons_succ, i64_w, i32_w]
                  rfl
                 refine one_ (i := 1) (N := some 105) #[true, true, true, true, false, false, false, false, false, false] rfl rfl (one_of HT_.out (by kernel_rfl)) (by decide) (fun K hK => ?_)
                 refine goes_ Tryd.func17 (by kernel_rfl) rfl #[.agg #[.int .u8 ((rd_T31 l0_3 x100_3).f0), .int .u64 ((rd_T31 l0_3 x100_3).f1), .string ((rd_T31 l0_3 x100_3).f2), .slice A137_3 ((rd_T31 l0_3 x100_3).f3).length c137_3]] (by rfl) rfl rfl (by (try simp only [List.map_toArray, List.map_cons, List.map_nil]); first | done | rfl | (simp only [List.length_drop, List.length_take]; rfl)) ?_
                 with_reducible refine (spec_SigOf.calls k3 ((rd_T31 l0_3 x100_3).f0) ((rd_T31 l0_3 x100_3).f1) ((rd_T31 l0_3 x100_3).f2) _ _ ((rd_T31 l0_3 x100_3).f3) t139 _ ?side1 ?side2 A50.out).mono ?_
                 (case side1 => repeat (first | exact (Kd.C_below HR137_3.out HB.out) | (with_reducible refine Kd.C_alloc ?_ _) | (with_reducible refine Kd.C_drewN ?_ _) | (with_reducible refine Kd.C_drew ?_)))
                 (case side2 => exact HC137_3.out)
                 rintro e w73 ⟨rfl, hb⟩
                 refine ⟨_, rfl, ?_⟩
                 have n0_ := Aside0.mk (blk_below (g := gb129) (o := .cells #[.int .u8 a0_0, .int .u64 a0_1, .string a0_2, .slice (some ad137) l0_3.length c0_3] 31 (0, 0)) (by (with_reducible repeat (first | refine blk_drewN ?_ _ | refine blk_drew ?_ | refine blk_alloc ?_ _)); exact BK129.out) hb)
                 have n1_ := Aside0.mk (blk_below (g := gb138) (o := .cells #[.int .u8 ((rd_T31 l0_3 x100_3).f0), .int .u64 ((rd_T31 l0_3 x100_3).f1), .string ((rd_T31 l0_3 x100_3).f2), .slice A137_3 ((rd_T31 l0_3 x100_3).f3).length c137_3] 31 (0, 0)) (by (with_reducible repeat (first | refine blk_drewN ?_ _ | refine blk_drew ?_ | refine blk_alloc ?_ _)); exact BK138.out) hb)
                 have n2_ := Aside0.mk (below_step (by repeat (first | (with_reducible first | exact HB.out | apply below_alloc | apply pw_below_drewN | apply below_drew1 | refine below_set ?_ GE129.out | refine below_set ?_ GE138.out) | exact HB.out)) hb)
                 clear BK129
                 clear BK138
                 clear HB
                 have BK129 := n0_
                 have BK138 := n1_
                 have HB := n2_
                 clear n0_ n1_ n2_
                 (try clear hb)
                 (try clear hb2)
                 (try clear hk)
                 (try clear hi)
                 refine hK.out _ _ ⟨(blk_cell BK138.out 0).trans rfl, (blk_cell BK138.out 1).trans rfl, (blk_cell BK138.out 2).trans rfl, (blk_cell BK138.out 3).trans rfl, (blk_cell BK129.out 0).trans rfl, (blk_cell BK129.out 1).trans rfl, (blk_cell BK129.out 2).trans rfl, (blk_cell BK129.out 3).trans rfl⟩ (fun hHeld => ?_)
                 clear hK K
                 refine norm_ (a' := ?_) ?_ ?_
                 rotate_left
                 ·show Act.put _ (some 105) _ = _
                  simp only [Act.put, List.setIfInBounds_toArray, List.set_cons_zero, List.set_cons_succ, i64_w, i32_w]
                  rfl
                 refine pure_ (i := 4) (N := some 108) (v := ?_) (a' := ?_) #[true, true, true, true, true, false, false, false, false, false] rfl rfl (any_of HT_.out (by kernel_rfl)) (fun _ _ _ h => h) (Or.inl ⟨by rfl, ?_⟩) ?_ ?_
                 rotate_left
                 ·intro w'
                  go_simp
                  with_reducible rfl
                 rotate_left
                 ·simp only [Act.put, List.setIfInBounds_toArray, List.set_cons_zero, List.set_cons_succ, i64_w, i32_w]
                  rfl
                 refine pure_ (i := 5) (N := some 109) (v := ?_) (a' := ?_) #[true, true, true, true, true, true, false, false, false, false] rfl rfl (any_of HT_.out (by kernel_rfl)) (fun _ _ _ h => h) (Or.inl ⟨by rfl, ?_⟩) ?_ ?_
                 rotate_left
                 ·intro w'
                  go_simp
                  with_reducible rfl
                 rotate_left
                 ·simp only [Act.put, List.setIfInBounds_toArray, List.set_cons_zero, List.set_cons_succ, i64_w, i32_w]
                  rfl
                 refine pure_ (i := 6) (N := some 110) (v := undef) (a' := ?_) #[true, true, true, true, true, true, true, false, false, false] rfl rfl (any_of HT_.out (by kernel_rfl)) (fun _ _ _ h => h) (Or.inr ⟨by rfl, rfl⟩) ?_ ?_
                 rotate_left
                 ·simp only [Act.put, List.setIfInBounds_toArray, List.set_cons_zero, List.set_cons_succ, i64_w, i32_w]
                  rfl
                 refine pure_ (i := 7) (N := some 111) (v := undef) (a' := ?_) #[true, true, true, true, true, true, true, true, false, false] rfl rfl (any_of HT_.out (by kernel_rfl)) (fun _ _ _ h => h) (Or.inr ⟨by rfl, rfl⟩) ?_ ?_
                 rotate_left
                 ·simp only [Act.put, List.setIfInBounds_toArray, List.set_cons_zero, List.set_cons_succ, i64_w, i32_w]
                  rfl
                 refine pure_ (i := 8) (N := some 112) (v := undef) (a' := ?_) #[true, true, true, true, true, true, true, true, true, false] rfl rfl (any_of HT_.out (by kernel_rfl)) (fun _ _ _ h => h) (Or.inr ⟨by rfl, rfl⟩) ?_ ?_
                 rotate_left
                 ·simp only [Act.put, List.setIfInBounds_toArray, List.set_cons_zero, List.set_cons_succ, i64_w, i32_w]
                  rfl
                 refine pure_ (i := 9) (N := some 113) (v := ?_) (a' := ?_) #[true, true, true, true, true, true, true, true, true, true] rfl rfl (any_of HT_.out (by kernel_rfl)) (fun _ _ _ h => h) (Or.inl ⟨by rfl, ?_⟩) ?_ ?_
                 rotate_left
                 ·intro w'
                  go_simp
                  with_reducible rfl
                 rotate_left
                 ·simp only [Act.put, List.setIfInBounds_toArray, List.set_cons_zero, List.set_cons_succ, i64_w, i32_w]
                  rfl
                 refine done_ (done_of HT_.out (by kernel_rfl)) ?_
                 try go_wp2
                 go_ret
                 exact ⟨by first | rfl | (simp [errW_none, errW_some] <;> rfl) | (simp [*, errW_none, errW_some] <;> rfl) | (simp (disch := omega) only [wrap64_id] <;> rfl), by repeat (first | (with_reducible first | exact HB.out | apply below_alloc | apply pw_below_drewN | apply below_drew1 | refine below_set ?_ GE129.out | refine below_set ?_ GE138.out) | exact HB.out)⟩
               ·rw [if_neg c49] at H
                exact absurd H (by simp)
              ·rw [if_neg c48] at H
               exact absurd H (by simp)
             ·rw [if_neg c47] at H
              have c47b0 : decide (x100_3 < (l0_3.length : Int)) = false := decide_eq_false c47
              clear c47
              obtain rfl := Option.some.inj H
              go_wp2
              go_ret
              exact ⟨by first | rfl | (simp [errW_none, errW_some] <;> rfl) | (simp [*, errW_none, errW_some] <;> rfl) | (simp (disch := omega) only [wrap64_id] <;> rfl), by repeat (first | (with_reducible first | exact HB.out | apply below_alloc | apply pw_below_drewN | apply below_drew1 | refine below_set ?_ GE129.out) | exact HB.out)⟩
       ·rw [if_neg c38] at H
        have c38b0 : (a0_0 == 97) = false := beq_eq_false_iff_ne.mpr c38
        have c38b1 : (a0_0 != 97) = true := bne_iff_ne.mpr c38
        have HC74 := Aside0.mk H
        clear H
        have hcz75_0 : wc.cell? ⟨gb129, 0, none⟩ = some (.int .u8 a0_0) := (blk_cell BK129.out 0).trans rfl
        have hcz75_1 : wc.cell? ⟨gb129, 1, none⟩ = some (.int .u64 a0_1) := (blk_cell BK129.out 1).trans rfl
        have hcz75_2 : wc.cell? ⟨gb129, 2, none⟩ = some (.string a0_2) := (blk_cell BK129.out 2).trans rfl
        have hcz75_3 : wc.cell? ⟨gb129, 3, none⟩ = some (.slice A0_3 l0_3.length c0_3) := (blk_cell BK129.out 3).trans rfl
        have hfz75_0 := blk_frozen BK129.out 0
        have hfz75_1 := blk_frozen BK129.out 1
        have hfz75_2 := blk_frozen BK129.out 2
        have hfz75_3 := blk_frozen BK129.out 3
        go_upto_if 115 with (fail)
        go_cut [115] (fun v115 wc => ∃ (kq : Nat) (x115_73 : Bool), v115 = .bool x115_73 ∧ Aside0 (spec_tidy.j3 kq a0_0 x115_73 a0_0 a0_1 a0_2 l0_3 = some r) ∧ Aside0 (kq ≤ kj1) ∧ Aside0 (wc.heap[gb129]? = some (.cells #[.int .u8 a0_0, .int .u64 a0_1, .string a0_2, (.slice A0_3 l0_3.length c0_3)] 31 (0, 0))) ∧ Aside0 (Below w.heap.size w wc))
        case first =>
         have H := HC74.out
         clear HC74
         by_cases c76 : a0_0 = 40
         ·rw [if_pos c76] at H
          have c76b0 : (a0_0 == 40) = true := beq_iff_eq.mpr c76
          have c76b1 : (a0_0 != 40) = false := bne_eq_false_iff_eq.mpr c76
          clear c76
          (first | rw [c76b0] | (simp only [i64_w, i32_w]; rw [c76b0]) | skip)
          have H' := Aside0.mk H
          clear H
          go_wp2
          go_meet
          case rel => exact ⟨_, ((a0_0 == 40)), (by first | rfl | (simp; done) | (simp [*]; done)), H', ⟨by have := HJ1.out; first | omega | exact Nat.le_refl _⟩, ⟨by (with_reducible repeat (first | refine blk_drewN ?_ _ | refine blk_drew ?_ | refine blk_alloc ?_ _)); exact BK129.out⟩, ⟨by repeat (first | (with_reducible first | exact HB.out | apply below_alloc | apply pw_below_drewN | apply below_drew1 | refine below_set ?_ GE129.out) | exact HB.out)⟩⟩
         ·rw [if_neg c76] at H
          have c76b0 : (a0_0 == 40) = false := beq_eq_false_iff_ne.mpr c76
          have c76b1 : (a0_0 != 40) = true := bne_iff_ne.mpr c76
          (first | rw [c76b0] | (simp only [i64_w, i32_w]; rw [c76b0]) | skip)
          have H' := Aside0.mk H
          clear H
          go_wp2
          go_meet
          case rel => exact ⟨_, ((a0_0 == 123)), (by first | rfl | (simp; done) | (simp [*]; done)), H', ⟨by have := HJ1.out; first | omega | exact Nat.le_refl _⟩, ⟨by (with_reducible repeat (first | refine blk_drewN ?_ _ | refine blk_drew ?_ | refine blk_alloc ?_ _)); exact BK129.out⟩, ⟨by repeat (first | (with_reducible first | exact HB.out | apply below_alloc | apply pw_below_drewN | apply below_drew1 | refine below_set ?_ GE129.out) | exact HB.out)⟩⟩
        case rest =>
         clear HC74
         try clear c1
         try clear p1
         try clear q1
         try clear hx1
         try clear c2
         try clear p2
         try clear c3
         try clear c4
         try clear c5
         try clear c6
         try clear p6
         try clear c7
         try clear c13
         try clear p13
         try clear q13
         try clear hx13
         try clear c17
         try clear c23
         try clear c38
         try clear c38b0
         try clear c38b1
         try clear c47
         try clear c47b0
         try clear c48
         try clear c48b0
         try clear c49
         try clear c49b0
         try clear c51
         try clear c51b0
         try clear c51b1
         try clear c53
         try clear c55
         try clear c62
         try clear p64
         try clear c69
         try clear c76
         try clear c76b0
         try clear c76b1
         try clear hcz56_0
         try clear hcz56_1
         try clear hcz56_2
         try clear hcz56_3
         try clear hcz63_0
         try clear hcz63_1
         try clear hcz63_2
         try clear hcz63_3
         try clear hcz70_0
         try clear hcz70_1
         try clear hcz70_2
         try clear hcz70_3
         try clear hcz75_0
         try clear hcz75_1
         try clear hcz75_2
         try clear hcz75_3
         try clear hfz23_2
         try clear hfz23_3
         try clear hfz28_0
         try clear hfz28_1
         try clear hfz28_2
         try clear hfz28_3
         try clear hfz29_0
         try clear hfz29_1
         try clear hfz29_2
         try clear hfz29_3
         try clear hfz33_0
         try clear hfz33_1
         try clear hfz33_2
         try clear hfz33_3
         try clear hfz35_0
         try clear hfz35_1
         try clear hfz35_2
         try clear hfz35_3
         try clear hfz36_0
         try clear hfz36_1
         try clear hfz36_2
         try clear hfz36_3
         try clear hfz41_0
         try clear hfz41_1
         try clear hfz41_2
         try clear hfz41_3
         try clear hfz44_0
         try clear hfz44_1
         try clear hfz44_2
         try clear hfz44_3
         try clear hfz46_0
         try clear hfz46_1
         try clear hfz46_2
         try clear hfz46_3
         try clear hfz56_0
         try clear hfz56_1
         try clear hfz56_2
         try clear hfz56_3
         try clear hfz63_0
         try clear hfz63_1
         try clear hfz63_2
         try clear hfz63_3
         try clear hfz70_0
         try clear hfz70_1
         try clear hfz70_2
         try clear hfz70_3
         try clear hfz75_0
         try clear hfz75_1
         try clear hfz75_2
         try clear hfz75_3
         try clear hfz7_0
         try clear hfz7_1
         try clear hfz7_2
         try clear hfz7_3
         try clear hfz9_0
         try clear hfz9_1
         try clear hfz9_2
         try clear hfz9_3
         try clear hx137_0
         try clear hx137_1
         try clear hx137_2
         try clear hx137_3
         try clear p137
         try clear p2
         try clear p6
         try clear q137
         obtain ⟨kq, x115_73, rfl, HA, HJ73, BK129, HB⟩ := hcut
         cases kq with
         | zero => exact absurd HA.out (by simp [spec_tidy.j3])
         | succ kj73 =>
          have H := HA.out
          clear HA
          simp only [spec_tidy.j3] at H
          by_cases c77 : x115_73 = true
          ·subst c77
           have H1 : (if (l0_3.length : Int) = 0 then (spec_tidy.j4 kj73 true a0_0 a0_1 a0_2 l0_3) else (if a0_0 = 123 then (if (l0_3.length : Int) = 2 then (if 0 < (l0_3.length : Int) then ((spec_Basic.f ((rd_T31 l0_3 0).f0)).bind fun t142 => (spec_tidy.j4 kj73 (!t142) a0_0 a0_1 a0_2 l0_3)) else (none)) else (spec_tidy.j4 kj73 true a0_0 a0_1 a0_2 l0_3)) else (spec_tidy.j4 kj73 false a0_0 a0_1 a0_2 l0_3))) = some r := by rw [if_pos rfl] at H; exact H
           clear H
           have H := H1
           clear H1
           have HC78 := Aside0.mk H
           clear H
           go_upto_region 23 with (fail)
           go_cut [141] (fun v141 wc => ∃ (kq : Nat) (x141_77 : Bool), v141 = .bool x141_77 ∧ Aside0 (spec_tidy.j4 kq x141_77 a0_0 a0_1 a0_2 l0_3 = some r) ∧ Aside0 (kq ≤ kj73) ∧ Aside0 (wc.heap[gb129]? = some (.cells #[.int .u8 a0_0, .int .u64 a0_1, .string a0_2, (.slice A0_3 l0_3.length c0_3)] 31 (0, 0))) ∧ Aside0 (Below w.heap.size w wc))
           case first =>
            have H := HC78.out
            clear HC78
            by_cases c79 : (l0_3.length : Int) = 0
            ·rw [if_pos c79] at H
             have c79b0 : ((l0_3.length : Int) == 0) = true := beq_iff_eq.mpr c79
             have c79b1 : ((l0_3.length : Int) != 0) = false := bne_eq_false_iff_eq.mpr c79
             clear c79
             (first | rw [c79b0] | (simp only [i64_w, i32_w]; rw [c79b0]) | skip)
             have H' := Aside0.mk H
             clear H
             have hcz80_0 : wc.cell? ⟨gb129, 0, none⟩ = some (.int .u8 a0_0) := (blk_cell BK129.out 0).trans rfl
             have hcz80_1 : wc.cell? ⟨gb129, 1, none⟩ = some (.int .u64 a0_1) := (blk_cell BK129.out 1).trans rfl
             have hcz80_2 : wc.cell? ⟨gb129, 2, none⟩ = some (.string a0_2) := (blk_cell BK129.out 2).trans rfl
             have hcz80_3 : wc.cell? ⟨gb129, 3, none⟩ = some (.slice A0_3 l0_3.length c0_3) := (blk_cell BK129.out 3).trans rfl
             have hfz80_0 := blk_frozen BK129.out 0
             have hfz80_1 := blk_frozen BK129.out 1
             have hfz80_2 := blk_frozen BK129.out 2
             have hfz80_3 := blk_frozen BK129.out 3
             go_wp2
             go_meet
             case rel => exact ⟨_, (true), (by first | rfl | (simp; done) | (simp [*]; done)), H', ⟨by have := HJ1.out; have := HJ73.out; first | omega | exact Nat.le_refl _⟩, ⟨by (with_reducible repeat (first | refine blk_drewN ?_ _ | refine blk_drew ?_ | refine blk_alloc ?_ _)); exact BK129.out⟩, ⟨by repeat (first | (with_reducible first | exact HB.out | apply below_alloc | apply pw_below_drewN | apply below_drew1 | refine below_set ?_ GE129.out) | exact HB.out)⟩⟩
            ·rw [if_neg c79] at H
             have c79b0 : ((l0_3.length : Int) == 0) = false := beq_eq_false_iff_ne.mpr c79
             have c79b1 : ((l0_3.length : Int) != 0) = true := bne_iff_ne.mpr c79
             have c79b2 : ¬ (l0_3 = []) := fun h_ => c79 (by rw [h_]; rfl)
             (first | rw [c79b0] | (simp only [i64_w, i32_w]; rw [c79b0]) | skip)
             by_cases c81 : a0_0 = 123
             ·rw [if_pos c81] at H
              have c81b0 : (a0_0 == 123) = true := beq_iff_eq.mpr c81
              have c81b1 : (a0_0 != 123) = false := bne_eq_false_iff_eq.mpr c81
              clear c81
              by_cases c82 : (l0_3.length : Int) = 2
              ·rw [if_pos c82] at H
               have c82b0 : ((l0_3.length : Int) == 2) = true := beq_iff_eq.mpr c82
               have c82b1 : ((l0_3.length : Int) != 2) = false := bne_eq_false_iff_eq.mpr c82
               clear c82
               by_cases c83 : 0 < (l0_3.length : Int)
               ·rw [if_pos c83] at H
                have c83b0 : decide (0 < (l0_3.length : Int)) = true := decide_eq_true c83
                have c83b1 : decide (0 < l0_3.length) = true := decide_eq_true (by omega)
                clear c83
                replace H := Option.bind_eq_some_iff.mp H
                obtain ⟨t142, A840, H⟩ := H
                replace H : (spec_tidy.j4 kj73 (!t142) a0_0 a0_1 a0_2 l0_3) = some r := H
                have A84 := Aside0.mk A840
                clear A840
                have H' := Aside0.mk H
                clear H
                have hcz85_0 : wc.cell? ⟨gb129, 0, none⟩ = some (.int .u8 a0_0) := (blk_cell BK129.out 0).trans rfl
                have hcz85_1 : wc.cell? ⟨gb129, 1, none⟩ = some (.int .u64 a0_1) := (blk_cell BK129.out 1).trans rfl
                have hcz85_2 : wc.cell? ⟨gb129, 2, none⟩ = some (.string a0_2) := (blk_cell BK129.out 2).trans rfl
                have hcz85_3 : wc.cell? ⟨gb129, 3, none⟩ = some (.slice A0_3 l0_3.length c0_3) := (blk_cell BK129.out 3).trans rfl
                have hfz85_0 := blk_frozen BK129.out 0
                have hfz85_1 := blk_frozen BK129.out 1
                have hfz85_2 := blk_frozen BK129.out 2
                have hfz85_3 := blk_frozen BK129.out 3
                have p141 : 0 ≤ (0 : Int) := (by omega)
                have q141 : 0 < (l0_3.length : Int) := of_decide_eq_true (by first | (with_reducible assumption) | assumption)
                obtain ⟨ad141, A141_3, c141_3, e141, hx141_0, hx141_1, hx141_2, hx141_3, hl141_3, hi141_3⟩ := at_T31 HR0_3.out 0 p141 q141
                cases e141
                have qi141 : (0 < l0_3.length) = True := eq_true (by omega)
                (try rw [show ((0 : Int)).toNat = 0 from rfl] at hx141_0)
                (try rw [show 0 * 4 = 0 from rfl] at hx141_0)
                (try rw [Addr.add_zero'] at hx141_0)
                (try rw [show ((0 : Int)).toNat = 0 from rfl] at hx141_1)
                (try rw [show 0 * 4 = 0 from rfl] at hx141_1)
                (try rw [Addr.add_zero'] at hx141_1)
                (try rw [show ((0 : Int)).toNat = 0 from rfl] at hx141_2)
                (try rw [show 0 * 4 = 0 from rfl] at hx141_2)
                (try rw [Addr.add_zero'] at hx141_2)
                (try rw [show ((0 : Int)).toNat = 0 from rfl] at hx141_3)
                (try rw [show 0 * 4 = 0 from rfl] at hx141_3)
                (try rw [Addr.add_zero'] at hx141_3)
                replace hx141_0 := (HB.out.cell (World.block_lt_of_cell? w _ hx141_0)).trans hx141_0
                replace hx141_1 := (HB.out.cell (World.block_lt_of_cell? w _ hx141_1)).trans hx141_1
                replace hx141_2 := (HB.out.cell (World.block_lt_of_cell? w _ hx141_2)).trans hx141_2
                replace hx141_3 := (HB.out.cell (World.block_lt_of_cell? w _ hx141_3)).trans hx141_3
                have HR141_3 := Aside0.mk hi141_3
                have HC141_3 := Aside0.mk hl141_3
                clear hi141_3 hl141_3
                replace p141 := eq_true p141
                replace q141 := eq_true q141
                go_wp2_with (first | (go_at_call 34; (with_reducible refine (spec_Basic.calls ((rd_T31 l0_3 0).f0) t142 _ A84.out).mono ?_); rintro e w' ⟨rfl, ⟨nd, rfl⟩⟩))
                go_meet
                case rel => exact ⟨_, (!t142), (by first | rfl | (simp; done) | (simp [*]; done)), H', ⟨by have := HJ1.out; have := HJ73.out; first | omega | exact Nat.le_refl _⟩, ⟨by (with_reducible repeat (first | refine blk_drewN ?_ _ | refine blk_drew ?_ | refine blk_alloc ?_ _)); exact BK129.out⟩, ⟨by repeat (first | (with_reducible first | exact HB.out | apply below_alloc | apply pw_below_drewN | apply below_drew1 | refine below_set ?_ GE129.out) | exact HB.out)⟩⟩
               ·rw [if_neg c83] at H
                exact absurd H (by simp)
              ·rw [if_neg c82] at H
               have c82b0 : ((l0_3.length : Int) == 2) = false := beq_eq_false_iff_ne.mpr c82
               have c82b1 : ((l0_3.length : Int) != 2) = true := bne_iff_ne.mpr c82
               have H' := Aside0.mk H
               clear H
               have hcz86_0 : wc.cell? ⟨gb129, 0, none⟩ = some (.int .u8 a0_0) := (blk_cell BK129.out 0).trans rfl
               have hcz86_1 : wc.cell? ⟨gb129, 1, none⟩ = some (.int .u64 a0_1) := (blk_cell BK129.out 1).trans rfl
               have hcz86_2 : wc.cell? ⟨gb129, 2, none⟩ = some (.string a0_2) := (blk_cell BK129.out 2).trans rfl
               have hcz86_3 : wc.cell? ⟨gb129, 3, none⟩ = some (.slice A0_3 l0_3.length c0_3) := (blk_cell BK129.out 3).trans rfl
               have hfz86_0 := blk_frozen BK129.out 0
               have hfz86_1 := blk_frozen BK129.out 1
               have hfz86_2 := blk_frozen BK129.out 2
               have hfz86_3 := blk_frozen BK129.out 3
               go_wp2
               go_meet
               case rel => exact ⟨_, (true), (by first | rfl | (simp; done) | (simp [*]; done)), H', ⟨by have := HJ1.out; have := HJ73.out; first | omega | exact Nat.le_refl _⟩, ⟨by (with_reducible repeat (first | refine blk_drewN ?_ _ | refine blk_drew ?_ | refine blk_alloc ?_ _)); exact BK129.out⟩, ⟨by repeat (first | (with_reducible first | exact HB.out | apply below_alloc | apply pw_below_drewN | apply below_drew1 | refine below_set ?_ GE129.out) | exact HB.out)⟩⟩
             ·rw [if_neg c81] at H
              have c81b0 : (a0_0 == 123) = false := beq_eq_false_iff_ne.mpr c81
              have c81b1 : (a0_0 != 123) = true := bne_iff_ne.mpr c81
              have H' := Aside0.mk H
              clear H
              have hcz87_0 : wc.cell? ⟨gb129, 0, none⟩ = some (.int .u8 a0_0) := (blk_cell BK129.out 0).trans rfl
              have hcz87_1 : wc.cell? ⟨gb129, 1, none⟩ = some (.int .u64 a0_1) := (blk_cell BK129.out 1).trans rfl
              have hcz87_2 : wc.cell? ⟨gb129, 2, none⟩ = some (.string a0_2) := (blk_cell BK129.out 2).trans rfl
              have hcz87_3 : wc.cell? ⟨gb129, 3, none⟩ = some (.slice A0_3 l0_3.length c0_3) := (blk_cell BK129.out 3).trans rfl
              have hfz87_0 := blk_frozen BK129.out 0
              have hfz87_1 := blk_frozen BK129.out 1
              have hfz87_2 := blk_frozen BK129.out 2
              have hfz87_3 := blk_frozen BK129.out 3
              go_wp2
              go_meet
              case rel => exact ⟨_, (false), (by first | rfl | (simp; done) | (simp [*]; done)), H', ⟨by have := HJ1.out; have := HJ73.out; first | omega | exact Nat.le_refl _⟩, ⟨by (with_reducible repeat (first | refine blk_drewN ?_ _ | refine blk_drew ?_ | refine blk_alloc ?_ _)); exact BK129.out⟩, ⟨by repeat (first | (with_reducible first | exact HB.out | apply below_alloc | apply pw_below_drewN | apply below_drew1 | refine below_set ?_ GE129.out) | exact HB.out)⟩⟩
           case rest =>
            clear HC78
            try clear c1
            try clear p1
            try clear q1
            try clear hx1
            try clear qi1
            try clear c2
            try clear p2
            try clear c3
            try clear c4
            try clear c5
            try clear c6
            try clear p6
            try clear c7
            try clear c8
            try clear c13
            try clear p13
            try clear q13
            try clear hx13
            try clear c14
            try clear p14
            try clear q14
            try clear hx14
            try clear qi14
            try clear c17
            try clear c23
            try clear c38
            try clear c38b0
            try clear c38b1
            try clear c47
            try clear c47b0
            try clear c48
            try clear c48b0
            try clear c49
            try clear c49b0
            try clear c51
            try clear c51b0
            try clear c51b1
            try clear c53
            try clear c55
            try clear c62
            try clear p64
            try clear c69
            try clear c76
            try clear c76b0
            try clear c76b1
            try clear c77
            try clear c79
            try clear c79b0
            try clear c79b1
            try clear c79b2
            try clear c81
            try clear c81b0
            try clear c81b1
            try clear c82
            try clear c82b0
            try clear c82b1
            try clear c83
            try clear c83b0
            try clear c83b1
            try clear hcz56_0
            try clear hcz56_1
            try clear hcz56_2
            try clear hcz56_3
            try clear hcz63_0
            try clear hcz63_1
            try clear hcz63_2
            try clear hcz63_3
            try clear hcz70_0
            try clear hcz70_1
            try clear hcz70_2
            try clear hcz70_3
            try clear hcz75_0
            try clear hcz75_1
            try clear hcz75_2
            try clear hcz75_3
            try clear hcz80_0
            try clear hcz80_1
            try clear hcz80_2
            try clear hcz80_3
            try clear hcz85_0
            try clear hcz85_1
            try clear hcz85_2
            try clear hcz85_3
            try clear hcz86_0
            try clear hcz86_1
            try clear hcz86_2
            try clear hcz86_3
            try clear hcz87_0
            try clear hcz87_1
            try clear hcz87_2
            try clear hcz87_3
            try clear hfz23_2
            try clear hfz23_3
            try clear hfz28_0
            try clear hfz28_1
            try clear hfz28_2
            try clear hfz28_3
            try clear hfz29_0
            try clear hfz29_1
            try clear hfz29_2
            try clear hfz29_3
            try clear hfz33_0
            try clear hfz33_1
            try clear hfz33_2
            try clear hfz33_3
            try clear hfz35_0
            try clear hfz35_1
            try clear hfz35_2
            try clear hfz35_3
            try clear hfz36_0
            try clear hfz36_1
            try clear hfz36_2
            try clear hfz36_3
            try clear hfz41_0
            try clear hfz41_1
            try clear hfz41_2
            try clear hfz41_3
            try clear hfz44_0
            try clear hfz44_1
            try clear hfz44_2
            try clear hfz44_3
            try clear hfz46_0
            try clear hfz46_1
            try clear hfz46_2
            try clear hfz46_3
            try clear hfz56_0
            try clear hfz56_1
            try clear hfz56_2
            try clear hfz56_3
            try clear hfz63_0
            try clear hfz63_1
            try clear hfz63_2
            try clear hfz63_3
            try clear hfz70_0
            try clear hfz70_1
            try clear hfz70_2
            try clear hfz70_3
            try clear hfz75_0
            try clear hfz75_1
            try clear hfz75_2
            try clear hfz75_3
            try clear hfz7_0
            try clear hfz7_1
            try clear hfz7_2
            try clear hfz7_3
            try clear hfz80_0
            try clear hfz80_1
            try clear hfz80_2
            try clear hfz80_3
            try clear hfz85_0
            try clear hfz85_1
            try clear hfz85_2
            try clear hfz85_3
            try clear hfz86_0
            try clear hfz86_1
            try clear hfz86_2
            try clear hfz86_3
            try clear hfz87_0
            try clear hfz87_1
            try clear hfz87_2
            try clear hfz87_3
            try clear hfz9_0
            try clear hfz9_1
            try clear hfz9_2
            try clear hfz9_3
            try clear hx137_0
            try clear hx137_1
            try clear hx137_2
            try clear hx137_3
            try clear hx141_0
            try clear hx141_1
            try clear hx141_2
            try clear hx141_3
            try clear p1
            try clear p13
            try clear p137
            try clear p141
            try clear p2
            try clear p6
            try clear p64
            try clear q1
            try clear q13
            try clear q137
            try clear q141
            obtain ⟨kq, x141_77, rfl, HA, HJ77, BK129, HB⟩ := hcut
            cases kq with
            | zero => exact absurd HA.out (by simp [spec_tidy.j4])
            | succ kj77 =>
             have H := HA.out
             clear HA
             simp only [spec_tidy.j4] at H
             by_cases c88 : x141_77 = true
             ·subst c88
              have H1 : (some false) = some r := by rw [if_pos rfl] at H; exact H
              clear H
              have H := H1
              clear H1
              obtain rfl := Option.some.inj H
              go_wp2
              go_ret
              exact ⟨by first | rfl | (simp [errW_none, errW_some] <;> rfl) | (simp [*, errW_none, errW_some] <;> rfl) | (simp (disch := omega) only [wrap64_id] <;> rfl), by repeat (first | (with_reducible first | exact HB.out | apply below_alloc | apply pw_below_drewN | apply below_drew1 | refine below_set ?_ GE129.out) | exact HB.out)⟩
             ·replace c88 := Bool.eq_false_iff.mpr c88
              subst c88
              have H1 : (spec_tidy.l1 kj77 l0_3 (l0_3.length : Int) 0) = some r := by rw [if_neg (show ¬ (false = true) by decide)] at H; exact H
              clear H
              have H := H1
              clear H1
              have H' := Aside0.mk H
              clear H
              have hcz89_0 : wc.cell? ⟨gb129, 0, none⟩ = some (.int .u8 a0_0) := (blk_cell BK129.out 0).trans rfl
              have hcz89_1 : wc.cell? ⟨gb129, 1, none⟩ = some (.int .u64 a0_1) := (blk_cell BK129.out 1).trans rfl
              have hcz89_2 : wc.cell? ⟨gb129, 2, none⟩ = some (.string a0_2) := (blk_cell BK129.out 2).trans rfl
              have hcz89_3 : wc.cell? ⟨gb129, 3, none⟩ = some (.slice A0_3 l0_3.length c0_3) := (blk_cell BK129.out 3).trans rfl
              have hfz89_0 := blk_frozen BK129.out 0
              have hfz89_1 := blk_frozen BK129.out 1
              have hfz89_2 := blk_frozen BK129.out 2
              have hfz89_3 := blk_frozen BK129.out 3
              go_wp2
              go_loopg [145] kj77 (fun kq v145 w' => ∃ (x145_4 : Int), v145 = .int .i64 x145_4 ∧ Aside0 (spec_tidy.l1 kq l0_3 (l0_3.length : Int) x145_4 = some r) ∧ Aside0 (kq ≤ kj77) ∧ Aside0 (w'.heap[gb129]? = some (.cells #[.int .u8 a0_0, .int .u64 a0_1, .string a0_2, (.slice A0_3 l0_3.length c0_3)] 31 (0, 0))) ∧ Aside0 (Below w.heap.size w w'))
              case atStart => exact ⟨(0), (by first | rfl | (simp; done) | (simp [*]; done)), H', ⟨Nat.le_refl _⟩, ⟨by (with_reducible repeat (first | refine blk_drewN ?_ _ | refine blk_drew ?_ | refine blk_alloc ?_ _)); exact BK129.out⟩, ⟨by repeat (first | (with_reducible first | exact HB.out | apply below_alloc | apply pw_below_drewN | apply below_drew1 | refine below_set ?_ GE129.out) | exact HB.out)⟩⟩
              case round =>
               clear H'
               try clear c1
               try clear p1
               try clear q1
               try clear hx1
               try clear qi1
               try clear c2
               try clear p2
               try clear c3
               try clear c4
               try clear c5
               try clear c6
               try clear p6
               try clear c7
               try clear c8
               try clear c13
               try clear p13
               try clear q13
               try clear hx13
               try clear c14
               try clear p14
               try clear q14
               try clear hx14
               try clear qi14
               try clear c17
               try clear c23
               try clear c38
               try clear c38b0
               try clear c38b1
               try clear c47
               try clear c47b0
               try clear c48
               try clear c48b0
               try clear c49
               try clear c49b0
               try clear c51
               try clear c51b0
               try clear c51b1
               try clear c53
               try clear c55
               try clear c62
               try clear p64
               try clear c69
               try clear c76
               try clear c76b0
               try clear c76b1
               try clear c77
               try clear c79
               try clear c79b0
               try clear c79b1
               try clear c79b2
               try clear c81
               try clear c81b0
               try clear c81b1
               try clear c82
               try clear c82b0
               try clear c82b1
               try clear c83
               try clear c83b0
               try clear c83b1
               try clear c88
               try clear hcz56_0
               try clear hcz56_1
               try clear hcz56_2
               try clear hcz56_3
               try clear hcz63_0
               try clear hcz63_1
               try clear hcz63_2
               try clear hcz63_3
               try clear hcz70_0
               try clear hcz70_1
               try clear hcz70_2
               try clear hcz70_3
               try clear hcz75_0
               try clear hcz75_1
               try clear hcz75_2
               try clear hcz75_3
               try clear hcz80_0
               try clear hcz80_1
               try clear hcz80_2
               try clear hcz80_3
               try clear hcz85_0
               try clear hcz85_1
               try clear hcz85_2
               try clear hcz85_3
               try clear hcz86_0
               try clear hcz86_1
               try clear hcz86_2
               try clear hcz86_3
               try clear hcz87_0
               try clear hcz87_1
               try clear hcz87_2
               try clear hcz87_3
               try clear hcz89_0
               try clear hcz89_1
               try clear hcz89_2
               try clear hcz89_3
               try clear hfz23_2
               try clear hfz23_3
               try clear hfz28_0
               try clear hfz28_1
               try clear hfz28_2
               try clear hfz28_3
               try clear hfz29_0
               try clear hfz29_1
               try clear hfz29_2
               try clear hfz29_3
               try clear hfz33_0
               try clear hfz33_1
               try clear hfz33_2
               try clear hfz33_3
               try clear hfz35_0
               try clear hfz35_1
               try clear hfz35_2
               try clear hfz35_3
               try clear hfz36_0
               try clear hfz36_1
               try clear hfz36_2
               try clear hfz36_3
               try clear hfz41_0
               try clear hfz41_1
               try clear hfz41_2
               try clear hfz41_3
               try clear hfz44_0
               try clear hfz44_1
               try clear hfz44_2
               try clear hfz44_3
               try clear hfz46_0
               try clear hfz46_1
               try clear hfz46_2
               try clear hfz46_3
               try clear hfz56_0
               try clear hfz56_1
               try clear hfz56_2
               try clear hfz56_3
               try clear hfz63_0
               try clear hfz63_1
               try clear hfz63_2
               try clear hfz63_3
               try clear hfz70_0
               try clear hfz70_1
               try clear hfz70_2
               try clear hfz70_3
               try clear hfz75_0
               try clear hfz75_1
               try clear hfz75_2
               try clear hfz75_3
               try clear hfz7_0
               try clear hfz7_1
               try clear hfz7_2
               try clear hfz7_3
               try clear hfz80_0
               try clear hfz80_1
               try clear hfz80_2
               try clear hfz80_3
               try clear hfz85_0
               try clear hfz85_1
               try clear hfz85_2
               try clear hfz85_3
               try clear hfz86_0
               try clear hfz86_1
               try clear hfz86_2
               try clear hfz86_3
               try clear hfz87_0
               try clear hfz87_1
               try clear hfz87_2
               try clear hfz87_3
               try clear hfz89_0
               try clear hfz89_1
               try clear hfz89_2
               try clear hfz89_3
               try clear hfz9_0
               try clear hfz9_1
               try clear hfz9_2
               try clear hfz9_3
               try clear hx137_0
               try clear hx137_1
               try clear hx137_2
               try clear hx137_3
               try clear hx141_0
               try clear hx141_1
               try clear hx141_2
               try clear hx141_3
               try clear p1
               try clear p13
               try clear p137
               try clear p14
               try clear p141
               try clear p2
               try clear p6
               try clear p64
               try clear q1
               try clear q13
               try clear q137
               try clear q14
               try clear q141
               obtain ⟨x145_4, rfl, HA, HK4, BK129, HB⟩ := hrel
               cases gk with
               | zero => exact absurd HA.out (by simp [spec_tidy.l1])
               | succ k4 =>
                have H := HA.out
                clear HA
                simp only [spec_tidy.l1] at H
                by_cases c90 : x145_4 < (l0_3.length : Int)
                ·rw [if_pos c90] at H
                 have c90b0 : decide (x145_4 < (l0_3.length : Int)) = true := decide_eq_true c90
                 clear c90
                 by_cases c91 : 0 ≤ x145_4
                 ·rw [if_pos c91] at H
                  have c91b0 : decide (0 ≤ x145_4) = true := decide_eq_true c91
                  clear c91
                  by_cases c92 : x145_4 < (l0_3.length : Int)
                  ·rw [if_pos c92] at H
                   have c92b0 : decide (x145_4 < (l0_3.length : Int)) = true := decide_eq_true c92
                   clear c92
                   by_cases c93 : ((rd_T31 l0_3 x145_4).f0) = 123
                   ·rw [if_pos c93] at H
                    have c93b0 : (((rd_T31 l0_3 x145_4).f0) == 123) = true := beq_iff_eq.mpr c93
                    have c93b1 : (((rd_T31 l0_3 x145_4).f0) != 123) = false := bne_eq_false_iff_eq.mpr c93
                    clear c93
                    obtain rfl := Option.some.inj H
                    have p143 : 0 ≤ (x145_4 : Int) := of_decide_eq_true (by first | (with_reducible assumption) | assumption)
                    have q143 : x145_4 < (l0_3.length : Int) := of_decide_eq_true (by first | (with_reducible assumption) | assumption)
                    obtain ⟨ad143, A143_3, c143_3, e143, hx143_0, hx143_1, hx143_2, hx143_3, hl143_3, hi143_3⟩ := at_T31 HR0_3.out x145_4 p143 q143
                    cases e143
                    replace hx143_0 := (HB.out.cell (World.block_lt_of_cell? w _ hx143_0)).trans hx143_0
                    replace hx143_1 := (HB.out.cell (World.block_lt_of_cell? w _ hx143_1)).trans hx143_1
                    replace hx143_2 := (HB.out.cell (World.block_lt_of_cell? w _ hx143_2)).trans hx143_2
                    replace hx143_3 := (HB.out.cell (World.block_lt_of_cell? w _ hx143_3)).trans hx143_3
                    have HR143_3 := Aside0.mk hi143_3
                    have HC143_3 := Aside0.mk hl143_3
                    clear hi143_3 hl143_3
                    replace p143 := eq_true p143
                    replace q143 := eq_true q143
                    go_wp2_with (first | ((with_reducible refine gate_dst (N := 9) rfl ?_); (try (refine gate_guard (by rfl) ?_; dsimp only)); refine box_event ?hg (N := 9) ?hd (cs := #[.int .u8 0, .int .u64 0, .string (⟨#[]⟩ : ByteArray), .slice none 0 0]) (t := 31) ?hr ?_; (case hd => rfl); (case hg => rfl); (case hr => first | (go_simp; done) | (go_simp; rfl)); intro gb144 hg w94 hbox hb; have n0_ := Aside0.mk (blk_below (g := gb129) (o := .cells #[.int .u8 a0_0, .int .u64 a0_1, .string a0_2, .slice (some ad143) l0_3.length c0_3] 31 (0, 0)) (by (with_reducible repeat (first | refine blk_drewN ?_ _ | refine blk_drew ?_ | refine blk_alloc ?_ _)); exact BK129.out) hb); have n1_ := Aside0.mk (below_step (by repeat (first | (with_reducible first | exact HB.out | apply below_alloc | apply pw_below_drewN | apply below_drew1 | refine below_set ?_ GE129.out) | exact HB.out)) hb); have n2_ := Aside0.mk (hbox); have n3_ := Aside0.mk ((by rw [hg]; exact (below_size (by repeat (first | (with_reducible first | exact HB.out | apply below_alloc | apply pw_below_drewN | apply below_drew1 | refine below_set ?_ GE129.out) | exact HB.out))) : w.heap.size ≤ gb144)); have n4_ := Aside0.mk ((by rw [hg]; exact (below_size (by repeat (first | (with_reducible first | exact HB.out | apply below_alloc | apply pw_below_drewN | apply below_drew1 | refine below_set ?_ GE129.out) | exact HB.out))) : w.heap.size ≤ gb144)); have n5_ := Aside0.mk ((by rw [hg]; exact Nat.ne_of_lt (blk_lt (g := gb129) (o := .cells #[.int .u8 a0_0, .int .u64 a0_1, .string a0_2, .slice (some ad143) l0_3.length c0_3] 31 (0, 0)) (by (with_reducible repeat (first | refine blk_drewN ?_ _ | refine blk_drew ?_ | refine blk_alloc ?_ _)); exact BK129.out)) : gb129 ≠ gb144)); have n6_ := Aside0.mk ((by rw [hg]; exact Nat.ne_of_gt (blk_lt (g := gb129) (o := .cells #[.int .u8 a0_0, .int .u64 a0_1, .string a0_2, .slice (some ad143) l0_3.length c0_3] 31 (0, 0)) (by (with_reducible repeat (first | refine blk_drewN ?_ _ | refine blk_drew ?_ | refine blk_alloc ?_ _)); exact BK129.out)) : gb144 ≠ gb129)); clear BK129; clear HB; have BK129 := n0_; have HB := n1_; have BK144 := n2_; have GW144 := n3_; have GE144 := n4_; have NB129_144 := n5_; have NB144_129 := n6_; clear n0_ n1_ n2_ n3_ n4_ n5_ n6_; clear hb hbox hg; have hnb95 := NB144_129.out; have hnc95 := NB129_144.out; have hcz96_0 : w94.cell? ⟨gb144, 0, none⟩ = some (.int .u8 0) := (blk_cell BK144.out 0).trans rfl; have hcz96_1 : w94.cell? ⟨gb144, 1, none⟩ = some (.int .u64 0) := (blk_cell BK144.out 1).trans rfl; have hcz96_2 : w94.cell? ⟨gb144, 2, none⟩ = some (.string (⟨#[]⟩ : ByteArray)) := (blk_cell BK144.out 2).trans rfl; have hcz96_3 : w94.cell? ⟨gb144, 3, none⟩ = some (.slice none 0 0) := (blk_cell BK144.out 3).trans rfl; have hfz96_0 := blk_frozen BK144.out 0; have hfz96_1 := blk_frozen BK144.out 1; have hfz96_2 := blk_frozen BK144.out 2; have hfz96_3 := blk_frozen BK144.out 3))
                    go_ret
                    exact ⟨by first | rfl | (simp [errW_none, errW_some] <;> rfl) | (simp [*, errW_none, errW_some] <;> rfl) | (simp (disch := omega) only [wrap64_id] <;> rfl), by repeat (first | (with_reducible first | exact HB.out | apply below_alloc | apply pw_below_drewN | apply below_drew1 | refine below_set ?_ GE129.out | refine below_set ?_ GE144.out) | exact HB.out)⟩
                   ·rw [if_neg c93] at H
                    have c93b0 : (((rd_T31 l0_3 x145_4).f0) == 123) = false := beq_eq_false_iff_ne.mpr c93
                    have c93b1 : (((rd_T31 l0_3 x145_4).f0) != 123) = true := bne_iff_ne.mpr c93
                    replace H := Option.bind_eq_some_iff.mp H
                    obtain ⟨t145, A970, H⟩ := H
                    replace H : (if t145 = true then (spec_tidy.l1 k4 l0_3 (l0_3.length : Int) (wrap64 (x145_4 + 1))) else (some false)) = some r := H
                    have A97 := Aside0.mk A970
                    clear A970
                    by_cases c98 : t145 = true
                    ·subst c98
                     have H1 : (spec_tidy.l1 k4 l0_3 (l0_3.length : Int) (wrap64 (x145_4 + 1))) = some r := by rw [if_pos rfl] at H; exact H
                     clear H
                     have H := H1
                     clear H1
                     have H' := Aside0.mk H
                     clear H
                     have p143 : 0 ≤ (x145_4 : Int) := of_decide_eq_true (by first | (with_reducible assumption) | assumption)
                     have q143 : x145_4 < (l0_3.length : Int) := of_decide_eq_true (by first | (with_reducible assumption) | assumption)
                     obtain ⟨ad143, A143_3, c143_3, e143, hx143_0, hx143_1, hx143_2, hx143_3, hl143_3, hi143_3⟩ := at_T31 HR0_3.out x145_4 p143 q143
                     cases e143
                     replace hx143_0 := (HB.out.cell (World.block_lt_of_cell? w _ hx143_0)).trans hx143_0
                     replace hx143_1 := (HB.out.cell (World.block_lt_of_cell? w _ hx143_1)).trans hx143_1
                     replace hx143_2 := (HB.out.cell (World.block_lt_of_cell? w _ hx143_2)).trans hx143_2
                     replace hx143_3 := (HB.out.cell (World.block_lt_of_cell? w _ hx143_3)).trans hx143_3
                     have HR143_3 := Aside0.mk hi143_3
                     have HC143_3 := Aside0.mk hl143_3
                     clear hi143_3 hl143_3
                     replace p143 := eq_true p143
                     replace q143 := eq_true q143
                     go_wp2_with (first | ((with_reducible refine gate_dst (N := 9) rfl ?_); (try (refine gate_guard (by rfl) ?_; dsimp only)); refine box_event ?hg (N := 9) ?hd (cs := #[.int .u8 0, .int .u64 0, .string (⟨#[]⟩ : ByteArray), .slice none 0 0]) (t := 31) ?hr ?_; (case hd => rfl); (case hg => rfl); (case hr => first | (go_simp; done) | (go_simp; rfl)); intro gb144 hg w99 hbox hb; have n0_ := Aside0.mk (blk_below (g := gb129) (o := .cells #[.int .u8 a0_0, .int .u64 a0_1, .string a0_2, .slice (some ad143) l0_3.length c0_3] 31 (0, 0)) (by (with_reducible repeat (first | refine blk_drewN ?_ _ | refine blk_drew ?_ | refine blk_alloc ?_ _)); exact BK129.out) hb); have n1_ := Aside0.mk (below_step (by repeat (first | (with_reducible first | exact HB.out | apply below_alloc | apply pw_below_drewN | apply below_drew1 | refine below_set ?_ GE129.out) | exact HB.out)) hb); have n2_ := Aside0.mk (hbox); have n3_ := Aside0.mk ((by rw [hg]; exact (below_size (by repeat (first | (with_reducible first | exact HB.out | apply below_alloc | apply pw_below_drewN | apply below_drew1 | refine below_set ?_ GE129.out) | exact HB.out))) : w.heap.size ≤ gb144)); have n4_ := Aside0.mk ((by rw [hg]; exact (below_size (by repeat (first | (with_reducible first | exact HB.out | apply below_alloc | apply pw_below_drewN | apply below_drew1 | refine below_set ?_ GE129.out) | exact HB.out))) : w.heap.size ≤ gb144)); have n5_ := Aside0.mk ((by rw [hg]; exact Nat.ne_of_lt (blk_lt (g := gb129) (o := .cells #[.int .u8 a0_0, .int .u64 a0_1, .string a0_2, .slice (some ad143) l0_3.length c0_3] 31 (0, 0)) (by (with_reducible repeat (first | refine blk_drewN ?_ _ | refine blk_drew ?_ | refine blk_alloc ?_ _)); exact BK129.out)) : gb129 ≠ gb144)); have n6_ := Aside0.mk ((by rw [hg]; exact Nat.ne_of_gt (blk_lt (g := gb129) (o := .cells #[.int .u8 a0_0, .int .u64 a0_1, .string a0_2, .slice (some ad143) l0_3.length c0_3] 31 (0, 0)) (by (with_reducible repeat (first | refine blk_drewN ?_ _ | refine blk_drew ?_ | refine blk_alloc ?_ _)); exact BK129.out)) : gb144 ≠ gb129)); clear BK129; clear HB; have BK129 := n0_; have HB := n1_; have BK144 := n2_; have GW144 := n3_; have GE144 := n4_; have NB129_144 := n5_; have NB144_129 := n6_; clear n0_ n1_ n2_ n3_ n4_ n5_ n6_; clear hb hbox hg; have hnb100 := NB144_129.out; have hnc100 := NB129_144.out; have hcz101_0 : w99.cell? ⟨gb144, 0, none⟩ = some (.int .u8 0) := (blk_cell BK144.out 0).trans rfl; have hcz101_1 : w99.cell? ⟨gb144, 1, none⟩ = some (.int .u64 0) := (blk_cell BK144.out 1).trans rfl; have hcz101_2 : w99.cell? ⟨gb144, 2, none⟩ = some (.string (⟨#[]⟩ : ByteArray)) := (blk_cell BK144.out 2).trans rfl; have hcz101_3 : w99.cell? ⟨gb144, 3, none⟩ = some (.slice none 0 0) := (blk_cell BK144.out 3).trans rfl; have hfz101_0 := blk_frozen BK144.out 0; have hfz101_1 := blk_frozen BK144.out 1; have hfz101_2 := blk_frozen BK144.out 2; have hfz101_3 := blk_frozen BK144.out 3) | (go_at_call 23; (with_reducible refine (ih k4 (by have := HJ1.out; have := HJ73.out; have := HJ77.out; have := HK4.out; omega) ((rd_T31 l0_3 x145_4).f0) ((rd_T31 l0_3 x145_4).f1) ((rd_T31 l0_3 x145_4).f2) _ _ ((rd_T31 l0_3 x145_4).f3) true _ ?sideT ?side1 ?side2 A97.out).mono ?_); (case sideT => exact Utf8Tabs_below hT (by repeat (first | (with_reducible first | exact HB.out | apply below_alloc | apply pw_below_drewN | apply below_drew1 | refine below_set ?_ GE129.out | refine below_set ?_ GE144.out) | exact HB.out))); (case side1 => exact Kd.C_below HR143_3.out (by repeat (first | (with_reducible first | exact HB.out | apply below_alloc | apply pw_below_drewN | apply below_drew1 | refine below_set ?_ GE129.out | refine below_set ?_ GE144.out) | exact HB.out))); (case side2 => exact HC143_3.out); rintro e w102 ⟨rfl, hb⟩; have n0_ := Aside0.mk (blk_below (g := gb129) (o := .cells #[.int .u8 a0_0, .int .u64 a0_1, .string a0_2, .slice (some ad143) l0_3.length c0_3] 31 (0, 0)) (by (with_reducible repeat (first | refine blk_drewN ?_ _ | refine blk_drew ?_ | refine blk_alloc ?_ _)); refine blk_far ?_ NB129_144.out _; (with_reducible repeat (first | refine blk_drewN ?_ _ | refine blk_drew ?_ | refine blk_alloc ?_ _)); refine blk_far ?_ NB129_144.out _; (with_reducible repeat (first | refine blk_drewN ?_ _ | refine blk_drew ?_ | refine blk_alloc ?_ _)); refine blk_far ?_ NB129_144.out _; (with_reducible repeat (first | refine blk_drewN ?_ _ | refine blk_drew ?_ | refine blk_alloc ?_ _)); refine blk_far ?_ NB129_144.out _; (with_reducible repeat (first | refine blk_drewN ?_ _ | refine blk_drew ?_ | refine blk_alloc ?_ _)); exact BK129.out) hb); have n1_ := Aside0.mk (blk_below (g := gb144) (o := .cells #[.int .u8 ((rd_T31 l0_3 x145_4).f0), .int .u64 ((rd_T31 l0_3 x145_4).f1), .string ((rd_T31 l0_3 x145_4).f2), .slice A143_3 ((rd_T31 l0_3 x145_4).f3).length c143_3] 31 (0, 0)) (by (with_reducible repeat (first | refine blk_drewN ?_ _ | refine blk_drew ?_ | refine blk_alloc ?_ _)); refine blk_put (cs := #[.int .u8 ((rd_T31 l0_3 x145_4).f0), .int .u64 ((rd_T31 l0_3 x145_4).f1), .string ((rd_T31 l0_3 x145_4).f2), .slice none 0 0]) ?_ 3 _ rfl; (with_reducible repeat (first | refine blk_drewN ?_ _ | refine blk_drew ?_ | refine blk_alloc ?_ _)); refine blk_put (cs := #[.int .u8 ((rd_T31 l0_3 x145_4).f0), .int .u64 ((rd_T31 l0_3 x145_4).f1), .string (⟨#[]⟩ : ByteArray), .slice none 0 0]) ?_ 2 _ rfl; (with_reducible repeat (first | refine blk_drewN ?_ _ | refine blk_drew ?_ | refine blk_alloc ?_ _)); refine blk_put (cs := #[.int .u8 ((rd_T31 l0_3 x145_4).f0), .int .u64 0, .string (⟨#[]⟩ : ByteArray), .slice none 0 0]) ?_ 1 _ rfl; (with_reducible repeat (first | refine blk_drewN ?_ _ | refine blk_drew ?_ | refine blk_alloc ?_ _)); refine blk_put (cs := #[.int .u8 0, .int .u64 0, .string (⟨#[]⟩ : ByteArray), .slice none 0 0]) ?_ 0 _ rfl; (with_reducible repeat (first | refine blk_drewN ?_ _ | refine blk_drew ?_ | refine blk_alloc ?_ _)); exact BK144.out) hb); have n2_ := Aside0.mk (below_step (by repeat (first | (with_reducible first | exact HB.out | apply below_alloc | apply pw_below_drewN | apply below_drew1 | refine below_set ?_ GE129.out | refine below_set ?_ GE144.out) | exact HB.out)) hb); clear BK129; clear BK144; clear HB; have BK129 := n0_; have BK144 := n1_; have HB := n2_; clear n0_ n1_ n2_; (try clear hb); (try clear hb2); (try clear hk); (try clear hi)))
                     go_roundg k4
                     case measure => have := HJ1.out; have := HJ73.out; have := HJ77.out; have := HK4.out; omega
                     case rel => exact ⟨(wrap64 (x145_4 + 1)), (by first | rfl | (simp; done) | (simp [*]; done)), H', ⟨by have := HJ1.out; have := HJ73.out; have := HJ77.out; have := HK4.out; omega⟩, ⟨by (with_reducible repeat (first | refine blk_drewN ?_ _ | refine blk_drew ?_ | refine blk_alloc ?_ _)); exact BK129.out⟩, ⟨by repeat (first | (with_reducible first | exact HB.out | apply below_alloc | apply pw_below_drewN | apply below_drew1 | refine below_set ?_ GE129.out | refine below_set ?_ GE144.out) | exact HB.out)⟩⟩
                    ·replace c98 := Bool.eq_false_iff.mpr c98
                     subst c98
                     have H1 : (some false) = some r := by rw [if_neg (show ¬ (false = true) by decide)] at H; exact H
                     clear H
                     have H := H1
                     clear H1
                     obtain rfl := Option.some.inj H
                     have p143 : 0 ≤ (x145_4 : Int) := of_decide_eq_true (by first | (with_reducible assumption) | assumption)
                     have q143 : x145_4 < (l0_3.length : Int) := of_decide_eq_true (by first | (with_reducible assumption) | assumption)
                     obtain ⟨ad143, A143_3, c143_3, e143, hx143_0, hx143_1, hx143_2, hx143_3, hl143_3, hi143_3⟩ := at_T31 HR0_3.out x145_4 p143 q143
                     cases e143
                     replace hx143_0 := (HB.out.cell (World.block_lt_of_cell? w _ hx143_0)).trans hx143_0
                     replace hx143_1 := (HB.out.cell (World.block_lt_of_cell? w _ hx143_1)).trans hx143_1
                     replace hx143_2 := (HB.out.cell (World.block_lt_of_cell? w _ hx143_2)).trans hx143_2
                     replace hx143_3 := (HB.out.cell (World.block_lt_of_cell? w _ hx143_3)).trans hx143_3
                     have HR143_3 := Aside0.mk hi143_3
                     have HC143_3 := Aside0.mk hl143_3
                     clear hi143_3 hl143_3
                     replace p143 := eq_true p143
                     replace q143 := eq_true q143
                     go_wp2_with (first | ((with_reducible refine gate_dst (N := 9) rfl ?_); (try (refine gate_guard (by rfl) ?_; dsimp only)); refine box_event ?hg (N := 9) ?hd (cs := #[.int .u8 0, .int .u64 0, .string (⟨#[]⟩ : ByteArray), .slice none 0 0]) (t := 31) ?hr ?_; (case hd => rfl); (case hg => rfl); (case hr => first | (go_simp; done) | (go_simp; rfl)); intro gb144 hg w103 hbox hb; have n0_ := Aside0.mk (blk_below (g := gb129) (o := .cells #[.int .u8 a0_0, .int .u64 a0_1, .string a0_2, .slice (some ad143) l0_3.length c0_3] 31 (0, 0)) (by (with_reducible repeat (first | refine blk_drewN ?_ _ | refine blk_drew ?_ | refine blk_alloc ?_ _)); exact BK129.out) hb); have n1_ := Aside0.mk (below_step (by repeat (first | (with_reducible first | exact HB.out | apply below_alloc | apply pw_below_drewN | apply below_drew1 | refine below_set ?_ GE129.out) | exact HB.out)) hb); have n2_ := Aside0.mk (hbox); have n3_ := Aside0.mk ((by rw [hg]; exact (below_size (by repeat (first | (with_reducible first | exact HB.out | apply below_alloc | apply pw_below_drewN | apply below_drew1 | refine below_set ?_ GE129.out) | exact HB.out))) : w.heap.size ≤ gb144)); have n4_ := Aside0.mk ((by rw [hg]; exact (below_size (by repeat (first | (with_reducible first | exact HB.out | apply below_alloc | apply pw_below_drewN | apply below_drew1 | refine below_set ?_ GE129.out) | exact HB.out))) : w.heap.size ≤ gb144)); have n5_ := Aside0.mk ((by rw [hg]; exact Nat.ne_of_lt (blk_lt (g := gb129) (o := .cells #[.int .u8 a0_0, .int .u64 a0_1, .string a0_2, .slice (some ad143) l0_3.length c0_3] 31 (0, 0)) (by (with_reducible repeat (first | refine blk_drewN ?_ _ | refine blk_drew ?_ | refine blk_alloc ?_ _)); exact BK129.out)) : gb129 ≠ gb144)); have n6_ := Aside0.mk ((by rw [hg]; exact Nat.ne_of_gt (blk_lt (g := gb129) (o := .cells #[.int .u8 a0_0, .int .u64 a0_1, .string a0_2, .slice (some ad143) l0_3.length c0_3] 31 (0, 0)) (by (with_reducible repeat (first | refine blk_drewN ?_ _ | refine blk_drew ?_ | refine blk_alloc ?_ _)); exact BK129.out)) : gb144 ≠ gb129)); clear BK129; clear HB; have BK129 := n0_; have HB := n1_; have BK144 := n2_; have GW144 := n3_; have GE144 := n4_; have NB129_144 := n5_; have NB144_129 := n6_; clear n0_ n1_ n2_ n3_ n4_ n5_ n6_; clear hb hbox hg; have hnb104 := NB144_129.out; have hnc104 := NB129_144.out; have hcz105_0 : w103.cell? ⟨gb144, 0, none⟩ = some (.int .u8 0) := (blk_cell BK144.out 0).trans rfl; have hcz105_1 : w103.cell? ⟨gb144, 1, none⟩ = some (.int .u64 0) := (blk_cell BK144.out 1).trans rfl; have hcz105_2 : w103.cell? ⟨gb144, 2, none⟩ = some (.string (⟨#[]⟩ : ByteArray)) := (blk_cell BK144.out 2).trans rfl; have hcz105_3 : w103.cell? ⟨gb144, 3, none⟩ = some (.slice none 0 0) := (blk_cell BK144.out 3).trans rfl; have hfz105_0 := blk_frozen BK144.out 0; have hfz105_1 := blk_frozen BK144.out 1; have hfz105_2 := blk_frozen BK144.out 2; have hfz105_3 := blk_frozen BK144.out 3) | (go_at_call 23; (with_reducible refine (ih k4 (by have := HJ1.out; have := HJ73.out; have := HJ77.out; have := HK4.out; omega) ((rd_T31 l0_3 x145_4).f0) ((rd_T31 l0_3 x145_4).f1) ((rd_T31 l0_3 x145_4).f2) _ _ ((rd_T31 l0_3 x145_4).f3) false _ ?sideT ?side1 ?side2 A97.out).mono ?_); (case sideT => exact Utf8Tabs_below hT (by repeat (first | (with_reducible first | exact HB.out | apply below_alloc | apply pw_below_drewN | apply below_drew1 | refine below_set ?_ GE129.out | refine below_set ?_ GE144.out) | exact HB.out))); (case side1 => exact Kd.C_below HR143_3.out (by repeat (first | (with_reducible first | exact HB.out | apply below_alloc | apply pw_below_drewN | apply below_drew1 | refine below_set ?_ GE129.out | refine below_set ?_ GE144.out) | exact HB.out))); (case side2 => exact HC143_3.out); rintro e w106 ⟨rfl, hb⟩; have n0_ := Aside0.mk (blk_below (g := gb129) (o := .cells #[.int .u8 a0_0, .int .u64 a0_1, .string a0_2, .slice (some ad143) l0_3.length c0_3] 31 (0, 0)) (by (with_reducible repeat (first | refine blk_drewN ?_ _ | refine blk_drew ?_ | refine blk_alloc ?_ _)); refine blk_far ?_ NB129_144.out _; (with_reducible repeat (first | refine blk_drewN ?_ _ | refine blk_drew ?_ | refine blk_alloc ?_ _)); refine blk_far ?_ NB129_144.out _; (with_reducible repeat (first | refine blk_drewN ?_ _ | refine blk_drew ?_ | refine blk_alloc ?_ _)); refine blk_far ?_ NB129_144.out _; (with_reducible repeat (first | refine blk_drewN ?_ _ | refine blk_drew ?_ | refine blk_alloc ?_ _)); refine blk_far ?_ NB129_144.out _; (with_reducible repeat (first | refine blk_drewN ?_ _ | refine blk_drew ?_ | refine blk_alloc ?_ _)); exact BK129.out) hb); have n1_ := Aside0.mk (blk_below (g := gb144) (o := .cells #[.int .u8 ((rd_T31 l0_3 x145_4).f0), .int .u64 ((rd_T31 l0_3 x145_4).f1), .string ((rd_T31 l0_3 x145_4).f2), .slice A143_3 ((rd_T31 l0_3 x145_4).f3).length c143_3] 31 (0, 0)) (by (with_reducible repeat (first | refine blk_drewN ?_ _ | refine blk_drew ?_ | refine blk_alloc ?_ _)); refine blk_put (cs := #[.int .u8 ((rd_T31 l0_3 x145_4).f0), .int .u64 ((rd_T31 l0_3 x145_4).f1), .string ((rd_T31 l0_3 x145_4).f2), .slice none 0 0]) ?_ 3 _ rfl; (with_reducible repeat (first | refine blk_drewN ?_ _ | refine blk_drew ?_ | refine blk_alloc ?_ _)); refine blk_put (cs := #[.int .u8 ((rd_T31 l0_3 x145_4).f0), .int .u64 ((rd_T31 l0_3 x145_4).f1), .string (⟨#[]⟩ : ByteArray), .slice none 0 0]) ?_ 2 _ rfl; (with_reducible repeat (first | refine blk_drewN ?_ _ | refine blk_drew ?_ | refine blk_alloc ?_ _)); refine blk_put (cs := #[.int .u8 ((rd_T31 l0_3 x145_4).f0), .int .u64 0, .string (⟨#[]⟩ : ByteArray), .slice none 0 0]) ?_ 1 _ rfl; (with_reducible repeat (first | refine blk_drewN ?_ _ | refine blk_drew ?_ | refine blk_alloc ?_ _)); refine blk_put (cs := #[.int .u8 0, .int .u64 0, .string (⟨#[]⟩ : ByteArray), .slice none 0 0]) ?_ 0 _ rfl; (with_reducible repeat (first | refine blk_drewN ?_ _ | refine blk_drew ?_ | refine blk_alloc ?_ _)); exact BK144.out) hb); have n2_ := Aside0.mk (below_step (by repeat (first | (with_reducible first | exact HB.out | apply below_alloc | apply pw_below_drewN | apply below_drew1 | refine below_set ?_ GE129.out | refine below_set ?_ GE144.out) | exact HB.out)) hb); clear BK129; clear BK144; clear HB; have BK129 := n0_; have BK144 := n1_; have HB := n2_; clear n0_ n1_ n2_; (try clear hb); (try clear hb2); (try clear hk); (try clear hi)))
                     go_ret
                     exact ⟨by first | rfl | (simp [errW_none, errW_some] <;> rfl) | (simp [*, errW_none, errW_some] <;> rfl) | (simp (disch := omega) only [wrap64_id] <;> rfl), by repeat (first | (with_reducible first | exact HB.out | apply below_alloc | apply pw_below_drewN | apply below_drew1 | refine below_set ?_ GE129.out | refine below_set ?_ GE144.out) | exact HB.out)⟩
                  ·rw [if_neg c92] at H
                   exact absurd H (by simp)
                 ·rw [if_neg c91] at H
                  exact absurd H (by simp)
                ·rw [if_neg c90] at H
                 have c90b0 : decide (x145_4 < (l0_3.length : Int)) = false := decide_eq_false c90
                 clear c90
                 obtain rfl := Option.some.inj H
                 go_wp2
                 go_ret
                 exact ⟨by first | rfl | (simp [errW_none, errW_some] <;> rfl) | (simp [*, errW_none, errW_some] <;> rfl) | (simp (disch := omega) only [wrap64_id] <;> rfl), by repeat (first | (with_reducible first | exact HB.out | apply below_alloc | apply pw_below_drewN | apply below_drew1 | refine below_set ?_ GE129.out) | exact HB.out)⟩
          ·replace c77 := Bool.eq_false_iff.mpr c77
           subst c77
           have H1 : (if a0_0 = 118 then (if (l0_3.length : Int) = 1 then (if 0 < (l0_3.length : Int) then ((spec_Tidy.f kj73 ((rd_T31 l0_3 0).f0) ((rd_T31 l0_3 0).f1) ((rd_T31 l0_3 0).f2) ((rd_T31 l0_3 0).f3)).bind fun t147 => (some t147)) else (none)) else (some false)) else ((spec_Basic.f a0_0).bind fun t148 => (if t148 = true then (some ((l0_3.length : Int) == 0)) else (some false)))) = some r := by rw [if_neg (show ¬ (false = true) by decide)] at H; exact H
           clear H
           have H := H1
           clear H1
           by_cases c107 : a0_0 = 118
           ·rw [if_pos c107] at H
            have c107b0 : (a0_0 == 118) = true := beq_iff_eq.mpr c107
            have c107b1 : (a0_0 != 118) = false := bne_eq_false_iff_eq.mpr c107
            clear c107
            by_cases c108 : (l0_3.length : Int) = 1
            ·rw [if_pos c108] at H
             have c108b0 : ((l0_3.length : Int) == 1) = true := beq_iff_eq.mpr c108
             have c108b1 : ((l0_3.length : Int) != 1) = false := bne_eq_false_iff_eq.mpr c108
             clear c108
             by_cases c109 : 0 < (l0_3.length : Int)
             ·rw [if_pos c109] at H
              have c109b0 : decide (0 < (l0_3.length : Int)) = true := decide_eq_true c109
              have c109b1 : decide (0 < l0_3.length) = true := decide_eq_true (by omega)
              clear c109
              replace H := Option.bind_eq_some_iff.mp H
              obtain ⟨t147, A1100, H⟩ := H
              replace H : (some t147) = some r := H
              have A110 := Aside0.mk A1100
              clear A1100
              obtain rfl := Option.some.inj H
              have hcz111_0 : wc.cell? ⟨gb129, 0, none⟩ = some (.int .u8 a0_0) := (blk_cell BK129.out 0).trans rfl
              have hcz111_1 : wc.cell? ⟨gb129, 1, none⟩ = some (.int .u64 a0_1) := (blk_cell BK129.out 1).trans rfl
              have hcz111_2 : wc.cell? ⟨gb129, 2, none⟩ = some (.string a0_2) := (blk_cell BK129.out 2).trans rfl
              have hcz111_3 : wc.cell? ⟨gb129, 3, none⟩ = some (.slice A0_3 l0_3.length c0_3) := (blk_cell BK129.out 3).trans rfl
              have hfz111_0 := blk_frozen BK129.out 0
              have hfz111_1 := blk_frozen BK129.out 1
              have hfz111_2 := blk_frozen BK129.out 2
              have hfz111_3 := blk_frozen BK129.out 3
              have p146 : 0 ≤ (0 : Int) := (by omega)
              have q146 : 0 < (l0_3.length : Int) := of_decide_eq_true (by first | (with_reducible assumption) | assumption)
              obtain ⟨ad146, A146_3, c146_3, e146, hx146_0, hx146_1, hx146_2, hx146_3, hl146_3, hi146_3⟩ := at_T31 HR0_3.out 0 p146 q146
              cases e146
              have qi146 : (0 < l0_3.length) = True := eq_true (by omega)
              (try rw [show ((0 : Int)).toNat = 0 from rfl] at hx146_0)
              (try rw [show 0 * 4 = 0 from rfl] at hx146_0)
              (try rw [Addr.add_zero'] at hx146_0)
              (try rw [show ((0 : Int)).toNat = 0 from rfl] at hx146_1)
              (try rw [show 0 * 4 = 0 from rfl] at hx146_1)
              (try rw [Addr.add_zero'] at hx146_1)
              (try rw [show ((0 : Int)).toNat = 0 from rfl] at hx146_2)
              (try rw [show 0 * 4 = 0 from rfl] at hx146_2)
              (try rw [Addr.add_zero'] at hx146_2)
              (try rw [show ((0 : Int)).toNat = 0 from rfl] at hx146_3)
              (try rw [show 0 * 4 = 0 from rfl] at hx146_3)
              (try rw [Addr.add_zero'] at hx146_3)
              replace hx146_0 := (HB.out.cell (World.block_lt_of_cell? w _ hx146_0)).trans hx146_0
              replace hx146_1 := (HB.out.cell (World.block_lt_of_cell? w _ hx146_1)).trans hx146_1
              replace hx146_2 := (HB.out.cell (World.block_lt_of_cell? w _ hx146_2)).trans hx146_2
              replace hx146_3 := (HB.out.cell (World.block_lt_of_cell? w _ hx146_3)).trans hx146_3
              have HR146_3 := Aside0.mk hi146_3
              have HC146_3 := Aside0.mk hl146_3
              clear hi146_3 hl146_3
              replace p146 := eq_true p146
              replace q146 := eq_true q146
              go_wp2_with (first | (go_at_call 12; (with_reducible refine (spec_Tidy.calls0 kj73 (ih kj73 (by first | (have := HJ1.out; have := HJ73.out; omega) | (have := HJ73.out; omega) | (have := HJ1.out; omega) | omega)) ((rd_T31 l0_3 0).f0) ((rd_T31 l0_3 0).f1) ((rd_T31 l0_3 0).f2) _ _ ((rd_T31 l0_3 0).f3) t147 _ ?sideT ?side1 ?side2 A110.out).mono ?_); (case sideT => exact Utf8Tabs_below hT (by repeat (first | (with_reducible first | exact HB.out | apply below_alloc | apply pw_below_drewN | apply below_drew1 | refine below_set ?_ GE129.out) | exact HB.out))); (case side1 => repeat (first | exact (Kd.C_below HR146_3.out HB.out) | (with_reducible refine Kd.C_alloc ?_ _) | (with_reducible refine Kd.C_drewN ?_ _) | (with_reducible refine Kd.C_drew ?_))); (case side2 => exact HC146_3.out); rintro e w112 ⟨rfl, hb⟩; have n0_ := Aside0.mk (blk_below (g := gb129) (o := .cells #[.int .u8 a0_0, .int .u64 a0_1, .string a0_2, .slice (some ad146) l0_3.length c0_3] 31 (0, 0)) (by (with_reducible repeat (first | refine blk_drewN ?_ _ | refine blk_drew ?_ | refine blk_alloc ?_ _)); exact BK129.out) hb); have n1_ := Aside0.mk (below_step (by repeat (first | (with_reducible first | exact HB.out | apply below_alloc | apply pw_below_drewN | apply below_drew1 | refine below_set ?_ GE129.out) | exact HB.out)) hb); clear BK129; clear HB; have BK129 := n0_; have HB := n1_; clear n0_ n1_; (try clear hb); (try clear hb2); (try clear hk); (try clear hi)))
              go_ret
              exact ⟨by first | rfl | (simp [errW_none, errW_some] <;> rfl) | (simp [*, errW_none, errW_some] <;> rfl) | (simp (disch := omega) only [wrap64_id] <;> rfl), by repeat (first | (with_reducible first | exact HB.out | apply below_alloc | apply pw_below_drewN | apply below_drew1 | refine below_set ?_ GE129.out) | exact HB.out)⟩
             ·rw [if_neg c109] at H
              exact absurd H (by simp)
            ·rw [if_neg c108] at H
             have c108b0 : ((l0_3.length : Int) == 1) = false := beq_eq_false_iff_ne.mpr c108
             have c108b1 : ((l0_3.length : Int) != 1) = true := bne_iff_ne.mpr c108
             obtain rfl := Option.some.inj H
             have hcz113_0 : wc.cell? ⟨gb129, 0, none⟩ = some (.int .u8 a0_0) := (blk_cell BK129.out 0).trans rfl
             have hcz113_1 : wc.cell? ⟨gb129, 1, none⟩ = some (.int .u64 a0_1) := (blk_cell BK129.out 1).trans rfl
             have hcz113_2 : wc.cell? ⟨gb129, 2, none⟩ = some (.string a0_2) := (blk_cell BK129.out 2).trans rfl
             have hcz113_3 : wc.cell? ⟨gb129, 3, none⟩ = some (.slice A0_3 l0_3.length c0_3) := (blk_cell BK129.out 3).trans rfl
             have hfz113_0 := blk_frozen BK129.out 0
             have hfz113_1 := blk_frozen BK129.out 1
             have hfz113_2 := blk_frozen BK129.out 2
             have hfz113_3 := blk_frozen BK129.out 3
             go_wp2
             go_ret
             exact ⟨by first | rfl | (simp [errW_none, errW_some] <;> rfl) | (simp [*, errW_none, errW_some] <;> rfl) | (simp (disch := omega) only [wrap64_id] <;> rfl), by repeat (first | (with_reducible first | exact HB.out | apply below_alloc | apply pw_below_drewN | apply below_drew1 | refine below_set ?_ GE129.out) | exact HB.out)⟩
           ·rw [if_neg c107] at H
            have c107b0 : (a0_0 == 118) = false := beq_eq_false_iff_ne.mpr c107
            have c107b1 : (a0_0 != 118) = true := bne_iff_ne.mpr c107
            replace H := Option.bind_eq_some_iff.mp H
            obtain ⟨t148, A1140, H⟩ := H
            replace H : (if t148 = true then (some ((l0_3.length : Int) == 0)) else (some false)) = some r := H
            have A114 := Aside0.mk A1140
            clear A1140
            by_cases c115 : t148 = true
            ·subst c115
             have H1 : (some ((l0_3.length : Int) == 0)) = some r := by rw [if_pos rfl] at H; exact H
             clear H
             have H := H1
             clear H1
             obtain rfl := Option.some.inj H
             have hcz116_0 : wc.cell? ⟨gb129, 0, none⟩ = some (.int .u8 a0_0) := (blk_cell BK129.out 0).trans rfl
             have hcz116_1 : wc.cell? ⟨gb129, 1, none⟩ = some (.int .u64 a0_1) := (blk_cell BK129.out 1).trans rfl
             have hcz116_2 : wc.cell? ⟨gb129, 2, none⟩ = some (.string a0_2) := (blk_cell BK129.out 2).trans rfl
             have hcz116_3 : wc.cell? ⟨gb129, 3, none⟩ = some (.slice A0_3 l0_3.length c0_3) := (blk_cell BK129.out 3).trans rfl
             have hfz116_0 := blk_frozen BK129.out 0
             have hfz116_1 := blk_frozen BK129.out 1
             have hfz116_2 := blk_frozen BK129.out 2
             have hfz116_3 := blk_frozen BK129.out 3
             go_wp2_with (first | ((with_reducible refine gate_callee (f := 34) rfl ?_); refine goesL_ (some 173) rfl rfl Tryd.func34 (by kernel_rfl) rfl #[.int .u8 a0_0] rfl (by (try simp only [List.map_toArray, List.map_cons, List.map_nil]); first | done | rfl | (simp only [List.length_drop, List.length_take]; rfl)) ?_; (with_reducible refine (spec_Basic.calls a0_0 true _ A114.out).mono ?_); rintro e w' ⟨rfl, ⟨nd, rfl⟩⟩; refine ⟨_, rfl, ?_⟩))
             go_ret
             exact ⟨by first | rfl | (simp [errW_none, errW_some] <;> rfl) | (simp [*, errW_none, errW_some] <;> rfl) | (simp (disch := omega) only [wrap64_id] <;> rfl), by repeat (first | (with_reducible first | exact HB.out | apply below_alloc | apply pw_below_drewN | apply below_drew1 | refine below_set ?_ GE129.out) | exact HB.out)⟩
            ·replace c115 := Bool.eq_false_iff.mpr c115
             subst c115
             have H1 : (some false) = some r := by rw [if_neg (show ¬ (false = true) by decide)] at H; exact H
             clear H
             have H := H1
             clear H1
             obtain rfl := Option.some.inj H
             have hcz117_0 : wc.cell? ⟨gb129, 0, none⟩ = some (.int .u8 a0_0) := (blk_cell BK129.out 0).trans rfl
             have hcz117_1 : wc.cell? ⟨gb129, 1, none⟩ = some (.int .u64 a0_1) := (blk_cell BK129.out 1).trans rfl
             have hcz117_2 : wc.cell? ⟨gb129, 2, none⟩ = some (.string a0_2) := (blk_cell BK129.out 2).trans rfl
             have hcz117_3 : wc.cell? ⟨gb129, 3, none⟩ = some (.slice A0_3 l0_3.length c0_3) := (blk_cell BK129.out 3).trans rfl
             have hfz117_0 := blk_frozen BK129.out 0
             have hfz117_1 := blk_frozen BK129.out 1
             have hfz117_2 := blk_frozen BK129.out 2
             have hfz117_3 := blk_frozen BK129.out 3
             go_wp2_with (first | ((with_reducible refine gate_callee (f := 34) rfl ?_); refine goesL_ (some 173) rfl rfl Tryd.func34 (by kernel_rfl) rfl #[.int .u8 a0_0] rfl (by (try simp only [List.map_toArray, List.map_cons, List.map_nil]); first | done | rfl | (simp only [List.length_drop, List.length_take]; rfl)) ?_; (with_reducible refine (spec_Basic.calls a0_0 false _ A114.out).mono ?_); rintro e w' ⟨rfl, ⟨nd, rfl⟩⟩; refine ⟨_, rfl, ?_⟩))
             go_ret
             exact ⟨by first | rfl | (simp [errW_none, errW_some] <;> rfl) | (simp [*, errW_none, errW_some] <;> rfl) | (simp (disch := omega) only [wrap64_id] <;> rfl), by repeat (first | (with_reducible first | exact HB.out | apply below_alloc | apply pw_below_drewN | apply below_drew1 | refine below_set ?_ GE129.out) | exact HB.out)⟩

theorem spec_Tidy.calls (k : Nat) (a0_0 : Int) (a0_1 : Int) (a0_2 : ByteArray) (A0_3 : Option Addr) (c0_3 : Nat) (l0_3 : List (S31)) (r : Bool) (w : World) (hT : Lib.Utf8Tabs 1 2 w) (hr0_3 : Kd.C k31 w A0_3 l0_3.length l0_3) (hc0_3 : l0_3.length ≤ c0_3) (h : spec_Tidy.f k a0_0 a0_1 a0_2 l0_3 = some r) :
  Calls Tryd.prog 12 #[.agg #[.int .u8 a0_0, .int .u64 a0_1, .string a0_2, .slice A0_3 l0_3.length c0_3]] w fun e w' => e = .returned (.bool r) ∧ Below w.heap.size w w' :=
 spec_Tidy.calls0 k (fun a b c d e f g h i j l m => spec_tidy.calls k a b c d e f g h i j l m) a0_0 a0_1 a0_2 A0_3 c0_3 l0_3 r w hT hr0_3 hc0_3 h

end Go.Proofs.YtboioihppjhjcaaDoor.MFnSgOf
