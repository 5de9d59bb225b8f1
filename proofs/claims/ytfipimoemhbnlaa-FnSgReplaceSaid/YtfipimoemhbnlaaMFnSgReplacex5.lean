-- Written by a program of this session (myprint.py, out of the translation). Not trusted: Lean checks it.
import Derived.Test.YtfipimoemhbnlaaMFnSgReplacex0
import Derived.Test.YtfipimoemhbnlaaMFnSgReplacex3
namespace Go.Proofs.Ytfipimoemhbnlaa.MFnSgReplace
open Go.RowKit Go.Proofs.YtfipimoemhbnlaaW.PrintWords Go.Proofs.YtfipimoemhbnlaaW.PrintLast Go.Proofs.YtfipimoemhbnlaaW.PrintMore
attribute [local go_sem] max2_int min2_int max_two min_two max_three min_three max_four min_four   -- for this text's walks alone
set_option linter.unusedVariables false
set_option linter.unusedSimpArgs false

/-! ### dbus_depthCounter_EnterArray: function 28 -/
def dbus_depthCounter_EnterArray.f (a0_0 : Int) (a0_1 : Int) (a0_2 : Int) : Option (Int × Int × Int) := some (wrap64 (a0_0 + 1), a0_1, a0_2)
set_option maxHeartbeats 8000000 in
set_option maxRecDepth 100000 in
theorem dbus_depthCounter_EnterArray.calls (a0_0 : Int) (a0_1 : Int) (a0_2 : Int) (r1 : Int) (r2 : Int) (r3 : Int) (w0 w : World) (hB : Below w0.heap.size w0 w) (h : dbus_depthCounter_EnterArray.f a0_0 a0_1 a0_2 = some (r1, r2, r3)) :
    Calls Try.prog 28 #[.agg #[.int .i64 a0_0, .int .i64 a0_1, .int .i64 a0_2]] w fun e w' => ∃ g_ : Nat, e = .returned (.pointer (some ⟨g_, 0, none⟩)) ∧ IsS59 w0 w' g_ r1 r2 r3 ∧ Below w0.heap.size w0 w' ∧ Below w.heap.size w w' := by
  have hu59 := Try.underlying59
  have HBW := Aside0.mk (Below.refl w.heap.size w)
  have HW0 := Aside0.mk hB.size
  have HB := Aside0.mk hB
  clear hB
  have H : (some (wrap64 (a0_0 + 1), a0_1, a0_2)) = some (r1, r2, r3) := h
  clear h
  simp only [Option.some.injEq, Prod.mk.injEq] at H
  obtain ⟨rfl, rfl, rfl⟩ := H
  go_enter Try.func28, Try.ntmps28
  go_wp2_with (first | ((with_reducible refine gate_dst (N := 1) rfl ?_); refine box_event ?hg (N := 1) ?hd (cs := #[.int .i64 a0_0, .int .i64 a0_1, .int .i64 a0_2]) (t := 59) ?hr ?_; (case hd => rfl); (case hg => rfl); (case hr => first | (go_simp; done) | (go_simp; rfl)); intro gb115 hg w2 hbox hb; have n0_ := Aside0.mk (below_step HBW.out hb); have n1_ := Aside0.mk (below_step (by repeat (first | (with_reducible first | exact HB.out | apply below_alloc | apply pw_below_drewN | apply below_drew1) | exact HB.out)) hb); have n2_ := Aside0.mk (hbox); have n3_ := Aside0.mk ((by rw [hg]; exact (below_size (by repeat (first | (with_reducible first | exact HBW.out | apply below_alloc | apply pw_below_drewN | apply below_drew1) | exact HBW.out))) : w.heap.size ≤ gb115)); have n4_ := Aside0.mk ((Nat.le_trans HW0.out (by rw [hg]; exact (below_size (by repeat (first | (with_reducible first | exact HBW.out | apply below_alloc | apply pw_below_drewN | apply below_drew1) | exact HBW.out))) : w.heap.size ≤ gb115) : w0.heap.size ≤ gb115)); clear HBW; clear HB; have HBW := n0_; have HB := n1_; have BK115 := n2_; have GW115 := n3_; have GE115 := n4_; clear n0_ n1_ n2_ n3_ n4_; clear hb hbox hg; have hcz3_0 : w2.cell? ⟨gb115, 0, none⟩ = some (.int .i64 a0_0) := (blk_cell BK115.out 0).trans rfl; have hcz3_1 : w2.cell? ⟨gb115, 1, none⟩ = some (.int .i64 a0_1) := (blk_cell BK115.out 1).trans rfl; have hcz3_2 : w2.cell? ⟨gb115, 2, none⟩ = some (.int .i64 a0_2) := (blk_cell BK115.out 2).trans rfl; have hfz3_0 := blk_frozen BK115.out 0; have hfz3_1 := blk_frozen BK115.out 1; have hfz3_2 := blk_frozen BK115.out 2))
  go_ret
  exact ⟨_, rfl, (show IsS59 w0 _ gb115 (wrap64 (a0_0 + 1)) a0_1 a0_2 from ⟨by (with_reducible repeat (first | refine blk_drewN ?_ _ | refine blk_drew ?_ | refine blk_alloc ?_ _)); refine blk_put (cs := #[.int .i64 a0_0, .int .i64 a0_1, .int .i64 a0_2]) ?_ 0 _ rfl; (with_reducible repeat (first | refine blk_drewN ?_ _ | refine blk_drew ?_ | refine blk_alloc ?_ _)); exact BK115.out, GE115.out⟩), by repeat (first | (with_reducible first | exact HB.out | apply below_alloc | apply pw_below_drewN | apply below_drew1 | refine below_set ?_ GE115.out) | exact HB.out), by repeat (first | (with_reducible first | exact HBW.out | apply below_alloc | apply pw_below_drewN | apply below_drew1 | refine below_set ?_ GW115.out) | exact HBW.out)⟩

/-! ### dbus_depthCounter_EnterDictEntry: function 29 -/
def dbus_depthCounter_EnterDictEntry.f (a0_0 : Int) (a0_1 : Int) (a0_2 : Int) : Option (Int × Int × Int) := some (a0_0, a0_1, wrap64 (a0_2 + 1))
set_option maxHeartbeats 8000000 in
set_option maxRecDepth 100000 in
theorem dbus_depthCounter_EnterDictEntry.calls (a0_0 : Int) (a0_1 : Int) (a0_2 : Int) (r1 : Int) (r2 : Int) (r3 : Int) (w0 w : World) (hB : Below w0.heap.size w0 w) (h : dbus_depthCounter_EnterDictEntry.f a0_0 a0_1 a0_2 = some (r1, r2, r3)) :
    Calls Try.prog 29 #[.agg #[.int .i64 a0_0, .int .i64 a0_1, .int .i64 a0_2]] w fun e w' => ∃ g_ : Nat, e = .returned (.pointer (some ⟨g_, 0, none⟩)) ∧ IsS59 w0 w' g_ r1 r2 r3 ∧ Below w0.heap.size w0 w' ∧ Below w.heap.size w w' := by
  have hu59 := Try.underlying59
  have HBW := Aside0.mk (Below.refl w.heap.size w)
  have HW0 := Aside0.mk hB.size
  have HB := Aside0.mk hB
  clear hB
  have H : (some (a0_0, a0_1, wrap64 (a0_2 + 1))) = some (r1, r2, r3) := h
  clear h
  simp only [Option.some.injEq, Prod.mk.injEq] at H
  obtain ⟨rfl, rfl, rfl⟩ := H
  go_enter Try.func29, Try.ntmps29
  go_wp2_with (first | ((with_reducible refine gate_dst (N := 1) rfl ?_); refine box_event ?hg (N := 1) ?hd (cs := #[.int .i64 a0_0, .int .i64 a0_1, .int .i64 a0_2]) (t := 59) ?hr ?_; (case hd => rfl); (case hg => rfl); (case hr => first | (go_simp; done) | (go_simp; rfl)); intro gb116 hg w2 hbox hb; have n0_ := Aside0.mk (below_step HBW.out hb); have n1_ := Aside0.mk (below_step (by repeat (first | (with_reducible first | exact HB.out | apply below_alloc | apply pw_below_drewN | apply below_drew1) | exact HB.out)) hb); have n2_ := Aside0.mk (hbox); have n3_ := Aside0.mk ((by rw [hg]; exact (below_size (by repeat (first | (with_reducible first | exact HBW.out | apply below_alloc | apply pw_below_drewN | apply below_drew1) | exact HBW.out))) : w.heap.size ≤ gb116)); have n4_ := Aside0.mk ((Nat.le_trans HW0.out (by rw [hg]; exact (below_size (by repeat (first | (with_reducible first | exact HBW.out | apply below_alloc | apply pw_below_drewN | apply below_drew1) | exact HBW.out))) : w.heap.size ≤ gb116) : w0.heap.size ≤ gb116)); clear HBW; clear HB; have HBW := n0_; have HB := n1_; have BK116 := n2_; have GW116 := n3_; have GE116 := n4_; clear n0_ n1_ n2_ n3_ n4_; clear hb hbox hg; have hcz3_0 : w2.cell? ⟨gb116, 0, none⟩ = some (.int .i64 a0_0) := (blk_cell BK116.out 0).trans rfl; have hcz3_1 : w2.cell? ⟨gb116, 1, none⟩ = some (.int .i64 a0_1) := (blk_cell BK116.out 1).trans rfl; have hcz3_2 : w2.cell? ⟨gb116, 2, none⟩ = some (.int .i64 a0_2) := (blk_cell BK116.out 2).trans rfl; have hfz3_0 := blk_frozen BK116.out 0; have hfz3_1 := blk_frozen BK116.out 1; have hfz3_2 := blk_frozen BK116.out 2))
  go_ret
  exact ⟨_, rfl, (show IsS59 w0 _ gb116 a0_0 a0_1 (wrap64 (a0_2 + 1)) from ⟨by (with_reducible repeat (first | refine blk_drewN ?_ _ | refine blk_drew ?_ | refine blk_alloc ?_ _)); refine blk_put (cs := #[.int .i64 a0_0, .int .i64 a0_1, .int .i64 a0_2]) ?_ 2 _ rfl; (with_reducible repeat (first | refine blk_drewN ?_ _ | refine blk_drew ?_ | refine blk_alloc ?_ _)); exact BK116.out, GE116.out⟩), by repeat (first | (with_reducible first | exact HB.out | apply below_alloc | apply pw_below_drewN | apply below_drew1 | refine below_set ?_ GE116.out) | exact HB.out), by repeat (first | (with_reducible first | exact HBW.out | apply below_alloc | apply pw_below_drewN | apply below_drew1 | refine below_set ?_ GW116.out) | exact HBW.out)⟩

/-! ### dbus_depthCounter_EnterStruct: function 30 -/
def dbus_depthCounter_EnterStruct.f (a0_0 : Int) (a0_1 : Int) (a0_2 : Int) : Option (Int × Int × Int) := some (a0_0, wrap64 (a0_1 + 1), a0_2)
set_option maxHeartbeats 8000000 in
set_option maxRecDepth 100000 in
theorem dbus_depthCounter_EnterStruct.calls (a0_0 : Int) (a0_1 : Int) (a0_2 : Int) (r1 : Int) (r2 : Int) (r3 : Int) (w0 w : World) (hB : Below w0.heap.size w0 w) (h : dbus_depthCounter_EnterStruct.f a0_0 a0_1 a0_2 = some (r1, r2, r3)) :
    Calls Try.prog 30 #[.agg #[.int .i64 a0_0, .int .i64 a0_1, .int .i64 a0_2]] w fun e w' => ∃ g_ : Nat, e = .returned (.pointer (some ⟨g_, 0, none⟩)) ∧ IsS59 w0 w' g_ r1 r2 r3 ∧ Below w0.heap.size w0 w' ∧ Below w.heap.size w w' := by
  have hu59 := Try.underlying59
  have HBW := Aside0.mk (Below.refl w.heap.size w)
  have HW0 := Aside0.mk hB.size
  have HB := Aside0.mk hB
  clear hB
  have H : (some (a0_0, wrap64 (a0_1 + 1), a0_2)) = some (r1, r2, r3) := h
  clear h
  simp only [Option.some.injEq, Prod.mk.injEq] at H
  obtain ⟨rfl, rfl, rfl⟩ := H
  go_enter Try.func30, Try.ntmps30
  go_wp2_with (first | ((with_reducible refine gate_dst (N := 1) rfl ?_); refine box_event ?hg (N := 1) ?hd (cs := #[.int .i64 a0_0, .int .i64 a0_1, .int .i64 a0_2]) (t := 59) ?hr ?_; (case hd => rfl); (case hg => rfl); (case hr => first | (go_simp; done) | (go_simp; rfl)); intro gb117 hg w2 hbox hb; have n0_ := Aside0.mk (below_step HBW.out hb); have n1_ := Aside0.mk (below_step (by repeat (first | (with_reducible first | exact HB.out | apply below_alloc | apply pw_below_drewN | apply below_drew1) | exact HB.out)) hb); have n2_ := Aside0.mk (hbox); have n3_ := Aside0.mk ((by rw [hg]; exact (below_size (by repeat (first | (with_reducible first | exact HBW.out | apply below_alloc | apply pw_below_drewN | apply below_drew1) | exact HBW.out))) : w.heap.size ≤ gb117)); have n4_ := Aside0.mk ((Nat.le_trans HW0.out (by rw [hg]; exact (below_size (by repeat (first | (with_reducible first | exact HBW.out | apply below_alloc | apply pw_below_drewN | apply below_drew1) | exact HBW.out))) : w.heap.size ≤ gb117) : w0.heap.size ≤ gb117)); clear HBW; clear HB; have HBW := n0_; have HB := n1_; have BK117 := n2_; have GW117 := n3_; have GE117 := n4_; clear n0_ n1_ n2_ n3_ n4_; clear hb hbox hg; have hcz3_0 : w2.cell? ⟨gb117, 0, none⟩ = some (.int .i64 a0_0) := (blk_cell BK117.out 0).trans rfl; have hcz3_1 : w2.cell? ⟨gb117, 1, none⟩ = some (.int .i64 a0_1) := (blk_cell BK117.out 1).trans rfl; have hcz3_2 : w2.cell? ⟨gb117, 2, none⟩ = some (.int .i64 a0_2) := (blk_cell BK117.out 2).trans rfl; have hfz3_0 := blk_frozen BK117.out 0; have hfz3_1 := blk_frozen BK117.out 1; have hfz3_2 := blk_frozen BK117.out 2))
  go_ret
  exact ⟨_, rfl, (show IsS59 w0 _ gb117 a0_0 (wrap64 (a0_1 + 1)) a0_2 from ⟨by (with_reducible repeat (first | refine blk_drewN ?_ _ | refine blk_drew ?_ | refine blk_alloc ?_ _)); refine blk_put (cs := #[.int .i64 a0_0, .int .i64 a0_1, .int .i64 a0_2]) ?_ 1 _ rfl; (with_reducible repeat (first | refine blk_drewN ?_ _ | refine blk_drew ?_ | refine blk_alloc ?_ _)); exact BK117.out, GE117.out⟩), by repeat (first | (with_reducible first | exact HB.out | apply below_alloc | apply pw_below_drewN | apply below_drew1 | refine below_set ?_ GE117.out) | exact HB.out), by repeat (first | (with_reducible first | exact HBW.out | apply below_alloc | apply pw_below_drewN | apply below_drew1 | refine below_set ?_ GW117.out) | exact HBW.out)⟩

end Go.Proofs.Ytfipimoemhbnlaa.MFnSgReplace
