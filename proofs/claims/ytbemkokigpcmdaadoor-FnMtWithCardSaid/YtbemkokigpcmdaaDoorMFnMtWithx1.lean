-- Written by a program of this session (myprint.py, out of the translation). Not trusted: Lean checks it.
import Derived.Test.YtbemkokigpcmdaaDoorMFnMtWithx0
namespace Go.Proofs.YtbemkokigpcmdaaDoor.MFnMtWith
open Go.RowKit Go.Proofs.YtbemkokigpcmdaaDoorW.PrintWords Go.Proofs.YtbemkokigpcmdaaDoorW.PrintLast Go.Proofs.YtbemkokigpcmdaaDoorW.PrintMore
attribute [local go_sem] max2_int min2_int max_two min_two max_three min_three max_four min_four   -- for this text's walks alone
set_option linter.unusedVariables false
set_option linter.unusedSimpArgs false

/-! ### dbus_DoorOption: function 9 -/
def dbus_DoorOption.f (a0_0 : ByteArray) (a0_1 : ByteArray) : Option (ByteArray × ByteArray) := some (a0_0, a0_1)
set_option maxHeartbeats 8000000 in
set_option maxRecDepth 100000 in
theorem dbus_DoorOption.calls (a0_0 : ByteArray) (a0_1 : ByteArray) (r1 : ByteArray) (r2 : ByteArray) (w : World) (h : dbus_DoorOption.f a0_0 a0_1 = some (r1, r2)) :
    Calls Tryd.prog 9 #[.agg #[.string a0_0, .string a0_1]] w fun e w' => e = .returned (.tuple #[.string r1, .string r2]) ∧ Below w.heap.size w w' := by
  have hu32 := Tryd.underlying32
  have HB := Aside0.mk (Below.refl w.heap.size w)
  have H : (some (a0_0, a0_1)) = some (r1, r2) := h
  clear h
  simp only [Option.some.injEq, Prod.mk.injEq] at H
  obtain ⟨rfl, rfl⟩ := H
  go_enter Tryd.func9, Tryd.ntmps9
  go_wp2_with (first | ((with_reducible refine gate_dst (N := 1) rfl ?_); refine box_event ?hg (N := 1) ?hd (cs := #[.string a0_0, .string a0_1]) (t := 32) ?hr ?_; (case hd => rfl); (case hg => rfl); (case hr => first | (go_simp; done) | (go_simp; rfl)); intro gb101 hg w2 hbox hb; have n0_ := Aside0.mk (below_step (by repeat (first | (with_reducible first | exact HB.out | apply below_alloc | apply pw_below_drewN | apply below_drew1) | exact HB.out)) hb); have n1_ := Aside0.mk (hbox); have n2_ := Aside0.mk ((by rw [hg]; exact (below_size (by repeat (first | (with_reducible first | exact HB.out | apply below_alloc | apply pw_below_drewN | apply below_drew1) | exact HB.out))) : w.heap.size ≤ gb101)); have n3_ := Aside0.mk ((by rw [hg]; exact (below_size (by repeat (first | (with_reducible first | exact HB.out | apply below_alloc | apply pw_below_drewN | apply below_drew1) | exact HB.out))) : w.heap.size ≤ gb101)); clear HB; have HB := n0_; have BK101 := n1_; have GW101 := n2_; have GE101 := n3_; clear n0_ n1_ n2_ n3_; clear hb hbox hg; have hcz3_0 : w2.cell? ⟨gb101, 0, none⟩ = some (.string a0_0) := (blk_cell BK101.out 0).trans rfl; have hcz3_1 : w2.cell? ⟨gb101, 1, none⟩ = some (.string a0_1) := (blk_cell BK101.out 1).trans rfl; have hfz3_0 := blk_frozen BK101.out 0; have hfz3_1 := blk_frozen BK101.out 1))
  repeat (go_quiet (first | ((with_reducible refine gate_dst (N := 1) rfl ?_); refine box_event ?hg (N := 1) ?hd (cs := #[.string a0_0, .string a0_1]) (t := 32) ?hr ?_; (case hd => rfl); (case hg => rfl); (case hr => first | (go_simp; done) | (go_simp; rfl)); intro gb101 hg w2 hbox hb; have n0_ := Aside0.mk (below_step (by repeat (first | (with_reducible first | exact HB.out | apply below_alloc | apply pw_below_drewN | apply below_drew1) | exact HB.out)) hb); have n1_ := Aside0.mk (hbox); have n2_ := Aside0.mk ((by rw [hg]; exact (below_size (by repeat (first | (with_reducible first | exact HB.out | apply below_alloc | apply pw_below_drewN | apply below_drew1) | exact HB.out))) : w.heap.size ≤ gb101)); have n3_ := Aside0.mk ((by rw [hg]; exact (below_size (by repeat (first | (with_reducible first | exact HB.out | apply below_alloc | apply pw_below_drewN | apply below_drew1) | exact HB.out))) : w.heap.size ≤ gb101)); clear HB; have HB := n0_; have BK101 := n1_; have GW101 := n2_; have GE101 := n3_; clear n0_ n1_ n2_ n3_; clear hb hbox hg; have hcz3_0 : w2.cell? ⟨gb101, 0, none⟩ = some (.string a0_0) := (blk_cell BK101.out 0).trans rfl; have hcz3_1 : w2.cell? ⟨gb101, 1, none⟩ = some (.string a0_1) := (blk_cell BK101.out 1).trans rfl; have hfz3_0 := blk_frozen BK101.out 0; have hfz3_1 := blk_frozen BK101.out 1)); try go_wp2_with (first | ((with_reducible refine gate_dst (N := 1) rfl ?_); refine box_event ?hg (N := 1) ?hd (cs := #[.string a0_0, .string a0_1]) (t := 32) ?hr ?_; (case hd => rfl); (case hg => rfl); (case hr => first | (go_simp; done) | (go_simp; rfl)); intro gb101 hg w2 hbox hb; have n0_ := Aside0.mk (below_step (by repeat (first | (with_reducible first | exact HB.out | apply below_alloc | apply pw_below_drewN | apply below_drew1) | exact HB.out)) hb); have n1_ := Aside0.mk (hbox); have n2_ := Aside0.mk ((by rw [hg]; exact (below_size (by repeat (first | (with_reducible first | exact HB.out | apply below_alloc | apply pw_below_drewN | apply below_drew1) | exact HB.out))) : w.heap.size ≤ gb101)); have n3_ := Aside0.mk ((by rw [hg]; exact (below_size (by repeat (first | (with_reducible first | exact HB.out | apply below_alloc | apply pw_below_drewN | apply below_drew1) | exact HB.out))) : w.heap.size ≤ gb101)); clear HB; have HB := n0_; have BK101 := n1_; have GW101 := n2_; have GE101 := n3_; clear n0_ n1_ n2_ n3_; clear hb hbox hg; have hcz3_0 : w2.cell? ⟨gb101, 0, none⟩ = some (.string a0_0) := (blk_cell BK101.out 0).trans rfl; have hcz3_1 : w2.cell? ⟨gb101, 1, none⟩ = some (.string a0_1) := (blk_cell BK101.out 1).trans rfl; have hfz3_0 := blk_frozen BK101.out 0; have hfz3_1 := blk_frozen BK101.out 1)))
  go_ret2
  exact ⟨by first | rfl | (simp [errW_none, errW_some] <;> rfl) | (simp [*, errW_none, errW_some] <;> rfl) | (simp (disch := omega) only [wrap64_id] <;> rfl), by repeat (first | (with_reducible first | exact HB.out | apply below_alloc | apply pw_below_drewN | apply below_drew1 | refine below_set ?_ GE101.out) | exact HB.out)⟩

/-! ### dbus_WithMatchOption: function 22 -/
def dbus_WithMatchOption.f (a0 : ByteArray) (a1 : ByteArray) : Option (ByteArray × ByteArray) := some (a0, a1)
set_option maxHeartbeats 8000000 in
set_option maxRecDepth 100000 in
theorem dbus_WithMatchOption.calls (a0 : ByteArray) (a1 : ByteArray) (r1 : ByteArray) (r2 : ByteArray) (w : World) (h : dbus_WithMatchOption.f a0 a1 = some (r1, r2)) :
    Calls Tryd.prog 22 #[.string a0, .string a1] w fun e w' => e = .returned (.agg #[.string r1, .string r2]) ∧ Below w.heap.size w w' := by
  have hu32 := Tryd.underlying32
  have HB := Aside0.mk (Below.refl w.heap.size w)
  have H : (some (a0, a1)) = some (r1, r2) := h
  clear h
  simp only [Option.some.injEq, Prod.mk.injEq] at H
  obtain ⟨rfl, rfl⟩ := H
  go_enter Tryd.func22, Tryd.ntmps22
  go_wp2_with (first | ((with_reducible refine gate_dst (N := 4) rfl ?_); refine box_event ?hg (N := 4) ?hd (cs := #[.string (⟨#[]⟩ : ByteArray), .string (⟨#[]⟩ : ByteArray)]) (t := 32) ?hr ?_; (case hd => rfl); (case hg => rfl); (case hr => first | (go_simp; done) | (go_simp; rfl)); intro gb102 hg w3 hbox hb; have n0_ := Aside0.mk (below_step (by repeat (first | (with_reducible first | exact HB.out | apply below_alloc | apply pw_below_drewN | apply below_drew1) | exact HB.out)) hb); have n1_ := Aside0.mk (hbox); have n2_ := Aside0.mk ((by rw [hg]; exact (below_size (by repeat (first | (with_reducible first | exact HB.out | apply below_alloc | apply pw_below_drewN | apply below_drew1) | exact HB.out))) : w.heap.size ≤ gb102)); have n3_ := Aside0.mk ((by rw [hg]; exact (below_size (by repeat (first | (with_reducible first | exact HB.out | apply below_alloc | apply pw_below_drewN | apply below_drew1) | exact HB.out))) : w.heap.size ≤ gb102)); clear HB; have HB := n0_; have BK102 := n1_; have GW102 := n2_; have GE102 := n3_; clear n0_ n1_ n2_ n3_; clear hb hbox hg; have hcz4_0 : w3.cell? ⟨gb102, 0, none⟩ = some (.string (⟨#[]⟩ : ByteArray)) := (blk_cell BK102.out 0).trans rfl; have hcz4_1 : w3.cell? ⟨gb102, 1, none⟩ = some (.string (⟨#[]⟩ : ByteArray)) := (blk_cell BK102.out 1).trans rfl; have hfz4_0 := blk_frozen BK102.out 0; have hfz4_1 := blk_frozen BK102.out 1))
  refine bodyPost_ret (results_cell_row rfl _ _ gb102 32 #[.string a0, .string a1] (0, 0) _ rfl (by (with_reducible repeat (first | refine blk_drewN ?_ _ | refine blk_drew ?_ | refine blk_alloc ?_ _)); refine blk_put (cs := #[.string a0, .string (⟨#[]⟩ : ByteArray)]) ?_ 1 _ rfl; (with_reducible repeat (first | refine blk_drewN ?_ _ | refine blk_drew ?_ | refine blk_alloc ?_ _)); refine blk_put (cs := #[.string (⟨#[]⟩ : ByteArray), .string (⟨#[]⟩ : ByteArray)]) ?_ 0 _ rfl; (with_reducible repeat (first | refine blk_drewN ?_ _ | refine blk_drew ?_ | refine blk_alloc ?_ _)); exact BK102.out) Tryd.underlying32 rfl (by kernel_rfl)) rfl ?_
  exact ⟨by first | rfl | (simp [errW_none, errW_some] <;> rfl) | (simp [*, errW_none, errW_some] <;> rfl) | (simp (disch := omega) only [wrap64_id] <;> rfl), by repeat (first | (with_reducible first | exact HB.out | apply below_alloc | apply pw_below_drewN | apply below_drew1 | refine below_set ?_ GE102.out) | exact HB.out)⟩

/-! ### dbus_WithMatchSender: function 11 -/
def dbus_WithMatchSender.f (a0 : ByteArray) : Option (ByteArray × ByteArray) := (dbus_WithMatchOption.f (⟨#[115, 101, 110, 100, 101, 114]⟩ : ByteArray) a0).bind fun bt104 => (some (bt104.1, bt104.2))
set_option maxHeartbeats 8000000 in
set_option maxRecDepth 100000 in
theorem dbus_WithMatchSender.calls (a0 : ByteArray) (r1 : ByteArray) (r2 : ByteArray) (w : World) (h : dbus_WithMatchSender.f a0 = some (r1, r2)) :
    Calls Tryd.prog 11 #[.string a0] w fun e w' => e = .returned (.agg #[.string r1, .string r2]) ∧ Below w.heap.size w w' := by
  have hu32 := Tryd.underlying32
  have HB := Aside0.mk (Below.refl w.heap.size w)
  have H : ((dbus_WithMatchOption.f (⟨#[115, 101, 110, 100, 101, 114]⟩ : ByteArray) a0).bind fun bt104 => (some (bt104.1, bt104.2))) = some (r1, r2) := h
  clear h
  replace H := Option.bind_eq_some_iff.mp H
  obtain ⟨⟨t104, t105⟩, A20, H⟩ := H
  replace H : (some (t104, t105)) = some (r1, r2) := H
  have A2 := Aside0.mk A20
  clear A20
  simp only [Option.some.injEq, Prod.mk.injEq] at H
  obtain ⟨rfl, rfl⟩ := H
  go_enter Tryd.func11, Tryd.ntmps11
  go_wp2_with (first | ((with_reducible refine gate_dst (N := 2) rfl ?_); refine box_event ?hg (N := 2) ?hd (cs := #[.string (⟨#[]⟩ : ByteArray), .string (⟨#[]⟩ : ByteArray)]) (t := 32) ?hr ?_; (case hd => rfl); (case hg => rfl); (case hr => first | (go_simp; done) | (go_simp; rfl)); intro gb103 hg w3 hbox hb; have n0_ := Aside0.mk (below_step (by repeat (first | (with_reducible first | exact HB.out | apply below_alloc | apply pw_below_drewN | apply below_drew1) | exact HB.out)) hb); have n1_ := Aside0.mk (hbox); have n2_ := Aside0.mk ((by rw [hg]; exact (below_size (by repeat (first | (with_reducible first | exact HB.out | apply below_alloc | apply pw_below_drewN | apply below_drew1) | exact HB.out))) : w.heap.size ≤ gb103)); have n3_ := Aside0.mk ((by rw [hg]; exact (below_size (by repeat (first | (with_reducible first | exact HB.out | apply below_alloc | apply pw_below_drewN | apply below_drew1) | exact HB.out))) : w.heap.size ≤ gb103)); clear HB; have HB := n0_; have BK103 := n1_; have GW103 := n2_; have GE103 := n3_; clear n0_ n1_ n2_ n3_; clear hb hbox hg) | ((with_reducible refine gate_callee (f := 22) rfl ?_); refine goesL_ (some 4) rfl rfl Tryd.func22 (by kernel_rfl) rfl #[.string (⟨#[115, 101, 110, 100, 101, 114]⟩ : ByteArray), .string a0] rfl (by (try simp only [List.map_toArray, List.map_cons, List.map_nil]); first | done | rfl | (simp only [List.length_drop, List.length_take]; rfl)) ?_; (with_reducible refine (dbus_WithMatchOption.calls (⟨#[115, 101, 110, 100, 101, 114]⟩ : ByteArray) a0 t104 t105 _ A2.out).mono ?_); rintro e w4 ⟨rfl, hb⟩; refine ⟨_, rfl, ?_⟩; have n0_ := Aside0.mk (blk_below (g := gb103) (o := .cells #[.string (⟨#[]⟩ : ByteArray), .string (⟨#[]⟩ : ByteArray)] 32 (0, 0)) (by (with_reducible repeat (first | refine blk_drewN ?_ _ | refine blk_drew ?_ | refine blk_alloc ?_ _)); exact BK103.out) hb); have n1_ := Aside0.mk (below_step (by repeat (first | (with_reducible first | exact HB.out | apply below_alloc | apply pw_below_drewN | apply below_drew1 | refine below_set ?_ GE103.out) | exact HB.out)) hb); clear BK103; clear HB; have BK103 := n0_; have HB := n1_; clear n0_ n1_; (try clear hb); (try clear hb2); (try clear hk); (try clear hi); have hcz5_0 : w4.cell? ⟨gb103, 0, none⟩ = some (.string (⟨#[]⟩ : ByteArray)) := (blk_cell BK103.out 0).trans rfl; have hcz5_1 : w4.cell? ⟨gb103, 1, none⟩ = some (.string (⟨#[]⟩ : ByteArray)) := (blk_cell BK103.out 1).trans rfl; have hfz5_0 := blk_frozen BK103.out 0; have hfz5_1 := blk_frozen BK103.out 1))
  refine bodyPost_ret (results_cell_row rfl _ _ gb103 32 #[.string t104, .string t105] (0, 0) _ rfl (by (with_reducible repeat (first | refine blk_drewN ?_ _ | refine blk_drew ?_ | refine blk_alloc ?_ _)); refine blk_put (cs := #[.string t104, .string (⟨#[]⟩ : ByteArray)]) ?_ 1 _ rfl; (with_reducible repeat (first | refine blk_drewN ?_ _ | refine blk_drew ?_ | refine blk_alloc ?_ _)); refine blk_put (cs := #[.string (⟨#[]⟩ : ByteArray), .string (⟨#[]⟩ : ByteArray)]) ?_ 0 _ rfl; (with_reducible repeat (first | refine blk_drewN ?_ _ | refine blk_drew ?_ | refine blk_alloc ?_ _)); exact BK103.out) Tryd.underlying32 rfl (by kernel_rfl)) rfl ?_
  exact ⟨by first | rfl | (simp [errW_none, errW_some] <;> rfl) | (simp [*, errW_none, errW_some] <;> rfl) | (simp (disch := omega) only [wrap64_id] <;> rfl), by repeat (first | (with_reducible first | exact HB.out | apply below_alloc | apply pw_below_drewN | apply below_drew1 | refine below_set ?_ GE103.out) | exact HB.out)⟩

/-! ### dbus_WithMatchInterface: function 12 -/
def dbus_WithMatchInterface.f (a0 : ByteArray) : Option (ByteArray × ByteArray) := (dbus_WithMatchOption.f (⟨#[105, 110, 116, 101, 114, 102, 97, 99, 101]⟩ : ByteArray) a0).bind fun bt107 => (some (bt107.1, bt107.2))
set_option maxHeartbeats 8000000 in
set_option maxRecDepth 100000 in
theorem dbus_WithMatchInterface.calls (a0 : ByteArray) (r1 : ByteArray) (r2 : ByteArray) (w : World) (h : dbus_WithMatchInterface.f a0 = some (r1, r2)) :
    Calls Tryd.prog 12 #[.string a0] w fun e w' => e = .returned (.agg #[.string r1, .string r2]) ∧ Below w.heap.size w w' := by
  have hu32 := Tryd.underlying32
  have HB := Aside0.mk (Below.refl w.heap.size w)
  have H : ((dbus_WithMatchOption.f (⟨#[105, 110, 116, 101, 114, 102, 97, 99, 101]⟩ : ByteArray) a0).bind fun bt107 => (some (bt107.1, bt107.2))) = some (r1, r2) := h
  clear h
  replace H := Option.bind_eq_some_iff.mp H
  obtain ⟨⟨t107, t108⟩, A20, H⟩ := H
  replace H : (some (t107, t108)) = some (r1, r2) := H
  have A2 := Aside0.mk A20
  clear A20
  simp only [Option.some.injEq, Prod.mk.injEq] at H
  obtain ⟨rfl, rfl⟩ := H
  go_enter Tryd.func12, Tryd.ntmps12
  go_wp2_with (first | ((with_reducible refine gate_dst (N := 2) rfl ?_); refine box_event ?hg (N := 2) ?hd (cs := #[.string (⟨#[]⟩ : ByteArray), .string (⟨#[]⟩ : ByteArray)]) (t := 32) ?hr ?_; (case hd => rfl); (case hg => rfl); (case hr => first | (go_simp; done) | (go_simp; rfl)); intro gb106 hg w3 hbox hb; have n0_ := Aside0.mk (below_step (by repeat (first | (with_reducible first | exact HB.out | apply below_alloc | apply pw_below_drewN | apply below_drew1) | exact HB.out)) hb); have n1_ := Aside0.mk (hbox); have n2_ := Aside0.mk ((by rw [hg]; exact (below_size (by repeat (first | (with_reducible first | exact HB.out | apply below_alloc | apply pw_below_drewN | apply below_drew1) | exact HB.out))) : w.heap.size ≤ gb106)); have n3_ := Aside0.mk ((by rw [hg]; exact (below_size (by repeat (first | (with_reducible first | exact HB.out | apply below_alloc | apply pw_below_drewN | apply below_drew1) | exact HB.out))) : w.heap.size ≤ gb106)); clear HB; have HB := n0_; have BK106 := n1_; have GW106 := n2_; have GE106 := n3_; clear n0_ n1_ n2_ n3_; clear hb hbox hg) | ((with_reducible refine gate_callee (f := 22) rfl ?_); refine goesL_ (some 4) rfl rfl Tryd.func22 (by kernel_rfl) rfl #[.string (⟨#[105, 110, 116, 101, 114, 102, 97, 99, 101]⟩ : ByteArray), .string a0] rfl (by (try simp only [List.map_toArray, List.map_cons, List.map_nil]); first | done | rfl | (simp only [List.length_drop, List.length_take]; rfl)) ?_; (with_reducible refine (dbus_WithMatchOption.calls (⟨#[105, 110, 116, 101, 114, 102, 97, 99, 101]⟩ : ByteArray) a0 t107 t108 _ A2.out).mono ?_); rintro e w4 ⟨rfl, hb⟩; refine ⟨_, rfl, ?_⟩; have n0_ := Aside0.mk (blk_below (g := gb106) (o := .cells #[.string (⟨#[]⟩ : ByteArray), .string (⟨#[]⟩ : ByteArray)] 32 (0, 0)) (by (with_reducible repeat (first | refine blk_drewN ?_ _ | refine blk_drew ?_ | refine blk_alloc ?_ _)); exact BK106.out) hb); have n1_ := Aside0.mk (below_step (by repeat (first | (with_reducible first | exact HB.out | apply below_alloc | apply pw_below_drewN | apply below_drew1 | refine below_set ?_ GE106.out) | exact HB.out)) hb); clear BK106; clear HB; have BK106 := n0_; have HB := n1_; clear n0_ n1_; (try clear hb); (try clear hb2); (try clear hk); (try clear hi); have hcz5_0 : w4.cell? ⟨gb106, 0, none⟩ = some (.string (⟨#[]⟩ : ByteArray)) := (blk_cell BK106.out 0).trans rfl; have hcz5_1 : w4.cell? ⟨gb106, 1, none⟩ = some (.string (⟨#[]⟩ : ByteArray)) := (blk_cell BK106.out 1).trans rfl; have hfz5_0 := blk_frozen BK106.out 0; have hfz5_1 := blk_frozen BK106.out 1))
  refine bodyPost_ret (results_cell_row rfl _ _ gb106 32 #[.string t107, .string t108] (0, 0) _ rfl (by (with_reducible repeat (first | refine blk_drewN ?_ _ | refine blk_drew ?_ | refine blk_alloc ?_ _)); refine blk_put (cs := #[.string t107, .string (⟨#[]⟩ : ByteArray)]) ?_ 1 _ rfl; (with_reducible repeat (first | refine blk_drewN ?_ _ | refine blk_drew ?_ | refine blk_alloc ?_ _)); refine blk_put (cs := #[.string (⟨#[]⟩ : ByteArray), .string (⟨#[]⟩ : ByteArray)]) ?_ 0 _ rfl; (with_reducible repeat (first | refine blk_drewN ?_ _ | refine blk_drew ?_ | refine blk_alloc ?_ _)); exact BK106.out) Tryd.underlying32 rfl (by kernel_rfl)) rfl ?_
  exact ⟨by first | rfl | (simp [errW_none, errW_some] <;> rfl) | (simp [*, errW_none, errW_some] <;> rfl) | (simp (disch := omega) only [wrap64_id] <;> rfl), by repeat (first | (with_reducible first | exact HB.out | apply below_alloc | apply pw_below_drewN | apply below_drew1 | refine below_set ?_ GE106.out) | exact HB.out)⟩

/-! ### dbus_WithMatchMember: function 13 -/
def dbus_WithMatchMember.f (a0 : ByteArray) : Option (ByteArray × ByteArray) := (dbus_WithMatchOption.f (⟨#[109, 101, 109, 98, 101, 114]⟩ : ByteArray) a0).bind fun bt110 => (some (bt110.1, bt110.2))
set_option maxHeartbeats 8000000 in
set_option maxRecDepth 100000 in
theorem dbus_WithMatchMember.calls (a0 : ByteArray) (r1 : ByteArray) (r2 : ByteArray) (w : World) (h : dbus_WithMatchMember.f a0 = some (r1, r2)) :
    Calls Tryd.prog 13 #[.string a0] w fun e w' => e = .returned (.agg #[.string r1, .string r2]) ∧ Below w.heap.size w w' := by
  have hu32 := Tryd.underlying32
  have HB := Aside0.mk (Below.refl w.heap.size w)
  have H : ((dbus_WithMatchOption.f (⟨#[109, 101, 109, 98, 101, 114]⟩ : ByteArray) a0).bind fun bt110 => (some (bt110.1, bt110.2))) = some (r1, r2) := h
  clear h
  replace H := Option.bind_eq_some_iff.mp H
  obtain ⟨⟨t110, t111⟩, A20, H⟩ := H
  replace H : (some (t110, t111)) = some (r1, r2) := H
  have A2 := Aside0.mk A20
  clear A20
  simp only [Option.some.injEq, Prod.mk.injEq] at H
  obtain ⟨rfl, rfl⟩ := H
  go_enter Tryd.func13, Tryd.ntmps13
  go_wp2_with (first | ((with_reducible refine gate_dst (N := 2) rfl ?_); refine box_event ?hg (N := 2) ?hd (cs := #[.string (⟨#[]⟩ : ByteArray), .string (⟨#[]⟩ : ByteArray)]) (t := 32) ?hr ?_; (case hd => rfl); (case hg => rfl); (case hr => first | (go_simp; done) | (go_simp; rfl)); intro gb109 hg w3 hbox hb; have n0_ := Aside0.mk (below_step (by repeat (first | (with_reducible first | exact HB.out | apply below_alloc | apply pw_below_drewN | apply below_drew1) | exact HB.out)) hb); have n1_ := Aside0.mk (hbox); have n2_ := Aside0.mk ((by rw [hg]; exact (below_size (by repeat (first | (with_reducible first | exact HB.out | apply below_alloc | apply pw_below_drewN | apply below_drew1) | exact HB.out))) : w.heap.size ≤ gb109)); have n3_ := Aside0.mk ((by rw [hg]; exact (below_size (by repeat (first | (with_reducible first | exact HB.out | apply below_alloc | apply pw_below_drewN | apply below_drew1) | exact HB.out))) : w.heap.size ≤ gb109)); clear HB; have HB := n0_; have BK109 := n1_; have GW109 := n2_; have GE109 := n3_; clear n0_ n1_ n2_ n3_; clear hb hbox hg) | ((with_reducible refine gate_callee (f := 22) rfl ?_); refine goesL_ (some 4) rfl rfl Tryd.func22 (by kernel_rfl) rfl #[.string (⟨#[109, 101, 109, 98, 101, 114]⟩ : ByteArray), .string a0] rfl (by (try simp only [List.map_toArray, List.map_cons, List.map_nil]); first | done | rfl | (simp only [List.length_drop, List.length_take]; rfl)) ?_; (with_reducible refine (dbus_WithMatchOption.calls (⟨#[109, 101, 109, 98, 101, 114]⟩ : ByteArray) a0 t110 t111 _ A2.out).mono ?_); rintro e w4 ⟨rfl, hb⟩; refine ⟨_, rfl, ?_⟩; have n0_ := Aside0.mk (blk_below (g := gb109) (o := .cells #[.string (⟨#[]⟩ : ByteArray), .string (⟨#[]⟩ : ByteArray)] 32 (0, 0)) (by (with_reducible repeat (first | refine blk_drewN ?_ _ | refine blk_drew ?_ | refine blk_alloc ?_ _)); exact BK109.out) hb); have n1_ := Aside0.mk (below_step (by repeat (first | (with_reducible first | exact HB.out | apply below_alloc | apply pw_below_drewN | apply below_drew1 | refine below_set ?_ GE109.out) | exact HB.out)) hb); clear BK109; clear HB; have BK109 := n0_; have HB := n1_; clear n0_ n1_; (try clear hb); (try clear hb2); (try clear hk); (try clear hi); have hcz5_0 : w4.cell? ⟨gb109, 0, none⟩ = some (.string (⟨#[]⟩ : ByteArray)) := (blk_cell BK109.out 0).trans rfl; have hcz5_1 : w4.cell? ⟨gb109, 1, none⟩ = some (.string (⟨#[]⟩ : ByteArray)) := (blk_cell BK109.out 1).trans rfl; have hfz5_0 := blk_frozen BK109.out 0; have hfz5_1 := blk_frozen BK109.out 1))
  refine bodyPost_ret (results_cell_row rfl _ _ gb109 32 #[.string t110, .string t111] (0, 0) _ rfl (by (with_reducible repeat (first | refine blk_drewN ?_ _ | refine blk_drew ?_ | refine blk_alloc ?_ _)); refine blk_put (cs := #[.string t110, .string (⟨#[]⟩ : ByteArray)]) ?_ 1 _ rfl; (with_reducible repeat (first | refine blk_drewN ?_ _ | refine blk_drew ?_ | refine blk_alloc ?_ _)); refine blk_put (cs := #[.string (⟨#[]⟩ : ByteArray), .string (⟨#[]⟩ : ByteArray)]) ?_ 0 _ rfl; (with_reducible repeat (first | refine blk_drewN ?_ _ | refine blk_drew ?_ | refine blk_alloc ?_ _)); exact BK109.out) Tryd.underlying32 rfl (by kernel_rfl)) rfl ?_
  exact ⟨by first | rfl | (simp [errW_none, errW_some] <;> rfl) | (simp [*, errW_none, errW_some] <;> rfl) | (simp (disch := omega) only [wrap64_id] <;> rfl), by repeat (first | (with_reducible first | exact HB.out | apply below_alloc | apply pw_below_drewN | apply below_drew1 | refine below_set ?_ GE109.out) | exact HB.out)⟩

/-! ### dbus_WithMatchObjectPath: function 14 -/
def dbus_WithMatchObjectPath.f (a0 : ByteArray) : Option (ByteArray × ByteArray) := (dbus_WithMatchOption.f (⟨#[112, 97, 116, 104]⟩ : ByteArray) a0).bind fun bt113 => (some (bt113.1, bt113.2))
set_option maxHeartbeats 8000000 in
set_option maxRecDepth 100000 in
theorem dbus_WithMatchObjectPath.calls (a0 : ByteArray) (r1 : ByteArray) (r2 : ByteArray) (w : World) (h : dbus_WithMatchObjectPath.f a0 = some (r1, r2)) :
    Calls Tryd.prog 14 #[.string a0] w fun e w' => e = .returned (.agg #[.string r1, .string r2]) ∧ Below w.heap.size w w' := by
  have hu32 := Tryd.underlying32
  have HB := Aside0.mk (Below.refl w.heap.size w)
  have H : ((dbus_WithMatchOption.f (⟨#[112, 97, 116, 104]⟩ : ByteArray) a0).bind fun bt113 => (some (bt113.1, bt113.2))) = some (r1, r2) := h
  clear h
  replace H := Option.bind_eq_some_iff.mp H
  obtain ⟨⟨t113, t114⟩, A20, H⟩ := H
  replace H : (some (t113, t114)) = some (r1, r2) := H
  have A2 := Aside0.mk A20
  clear A20
  simp only [Option.some.injEq, Prod.mk.injEq] at H
  obtain ⟨rfl, rfl⟩ := H
  go_enter Tryd.func14, Tryd.ntmps14
  go_wp2_with (first | ((with_reducible refine gate_dst (N := 2) rfl ?_); refine box_event ?hg (N := 2) ?hd (cs := #[.string (⟨#[]⟩ : ByteArray), .string (⟨#[]⟩ : ByteArray)]) (t := 32) ?hr ?_; (case hd => rfl); (case hg => rfl); (case hr => first | (go_simp; done) | (go_simp; rfl)); intro gb112 hg w3 hbox hb; have n0_ := Aside0.mk (below_step (by repeat (first | (with_reducible first | exact HB.out | apply below_alloc | apply pw_below_drewN | apply below_drew1) | exact HB.out)) hb); have n1_ := Aside0.mk (hbox); have n2_ := Aside0.mk ((by rw [hg]; exact (below_size (by repeat (first | (with_reducible first | exact HB.out | apply below_alloc | apply pw_below_drewN | apply below_drew1) | exact HB.out))) : w.heap.size ≤ gb112)); have n3_ := Aside0.mk ((by rw [hg]; exact (below_size (by repeat (first | (with_reducible first | exact HB.out | apply below_alloc | apply pw_below_drewN | apply below_drew1) | exact HB.out))) : w.heap.size ≤ gb112)); clear HB; have HB := n0_; have BK112 := n1_; have GW112 := n2_; have GE112 := n3_; clear n0_ n1_ n2_ n3_; clear hb hbox hg) | ((with_reducible refine gate_callee (f := 22) rfl ?_); refine goesL_ (some 4) rfl rfl Tryd.func22 (by kernel_rfl) rfl #[.string (⟨#[112, 97, 116, 104]⟩ : ByteArray), .string a0] rfl (by (try simp only [List.map_toArray, List.map_cons, List.map_nil]); first | done | rfl | (simp only [List.length_drop, List.length_take]; rfl)) ?_; (with_reducible refine (dbus_WithMatchOption.calls (⟨#[112, 97, 116, 104]⟩ : ByteArray) a0 t113 t114 _ A2.out).mono ?_); rintro e w4 ⟨rfl, hb⟩; refine ⟨_, rfl, ?_⟩; have n0_ := Aside0.mk (blk_below (g := gb112) (o := .cells #[.string (⟨#[]⟩ : ByteArray), .string (⟨#[]⟩ : ByteArray)] 32 (0, 0)) (by (with_reducible repeat (first | refine blk_drewN ?_ _ | refine blk_drew ?_ | refine blk_alloc ?_ _)); exact BK112.out) hb); have n1_ := Aside0.mk (below_step (by repeat (first | (with_reducible first | exact HB.out | apply below_alloc | apply pw_below_drewN | apply below_drew1 | refine below_set ?_ GE112.out) | exact HB.out)) hb); clear BK112; clear HB; have BK112 := n0_; have HB := n1_; clear n0_ n1_; (try clear hb); (try clear hb2); (try clear hk); (try clear hi); have hcz5_0 : w4.cell? ⟨gb112, 0, none⟩ = some (.string (⟨#[]⟩ : ByteArray)) := (blk_cell BK112.out 0).trans rfl; have hcz5_1 : w4.cell? ⟨gb112, 1, none⟩ = some (.string (⟨#[]⟩ : ByteArray)) := (blk_cell BK112.out 1).trans rfl; have hfz5_0 := blk_frozen BK112.out 0; have hfz5_1 := blk_frozen BK112.out 1))
  refine bodyPost_ret (results_cell_row rfl _ _ gb112 32 #[.string t113, .string t114] (0, 0) _ rfl (by (with_reducible repeat (first | refine blk_drewN ?_ _ | refine blk_drew ?_ | refine blk_alloc ?_ _)); refine blk_put (cs := #[.string t113, .string (⟨#[]⟩ : ByteArray)]) ?_ 1 _ rfl; (with_reducible repeat (first | refine blk_drewN ?_ _ | refine blk_drew ?_ | refine blk_alloc ?_ _)); refine blk_put (cs := #[.string (⟨#[]⟩ : ByteArray), .string (⟨#[]⟩ : ByteArray)]) ?_ 0 _ rfl; (with_reducible repeat (first | refine blk_drewN ?_ _ | refine blk_drew ?_ | refine blk_alloc ?_ _)); exact BK112.out) Tryd.underlying32 rfl (by kernel_rfl)) rfl ?_
  exact ⟨by first | rfl | (simp [errW_none, errW_some] <;> rfl) | (simp [*, errW_none, errW_some] <;> rfl) | (simp (disch := omega) only [wrap64_id] <;> rfl), by repeat (first | (with_reducible first | exact HB.out | apply below_alloc | apply pw_below_drewN | apply below_drew1 | refine below_set ?_ GE112.out) | exact HB.out)⟩

/-! ### dbus_WithMatchPathNamespace: function 15 -/
def dbus_WithMatchPathNamespace.f (a0 : ByteArray) : Option (ByteArray × ByteArray) := (dbus_WithMatchOption.f (⟨#[112, 97, 116, 104, 95, 110, 97, 109, 101, 115, 112, 97, 99, 101]⟩ : ByteArray) a0).bind fun bt116 => (some (bt116.1, bt116.2))
set_option maxHeartbeats 8000000 in
set_option maxRecDepth 100000 in
theorem dbus_WithMatchPathNamespace.calls (a0 : ByteArray) (r1 : ByteArray) (r2 : ByteArray) (w : World) (h : dbus_WithMatchPathNamespace.f a0 = some (r1, r2)) :
    Calls Tryd.prog 15 #[.string a0] w fun e w' => e = .returned (.agg #[.string r1, .string r2]) ∧ Below w.heap.size w w' := by
  have hu32 := Tryd.underlying32
  have HB := Aside0.mk (Below.refl w.heap.size w)
  have H : ((dbus_WithMatchOption.f (⟨#[112, 97, 116, 104, 95, 110, 97, 109, 101, 115, 112, 97, 99, 101]⟩ : ByteArray) a0).bind fun bt116 => (some (bt116.1, bt116.2))) = some (r1, r2) := h
  clear h
  replace H := Option.bind_eq_some_iff.mp H
  obtain ⟨⟨t116, t117⟩, A20, H⟩ := H
  replace H : (some (t116, t117)) = some (r1, r2) := H
  have A2 := Aside0.mk A20
  clear A20
  simp only [Option.some.injEq, Prod.mk.injEq] at H
  obtain ⟨rfl, rfl⟩ := H
  go_enter Tryd.func15, Tryd.ntmps15
  go_wp2_with (first | ((with_reducible refine gate_dst (N := 2) rfl ?_); refine box_event ?hg (N := 2) ?hd (cs := #[.string (⟨#[]⟩ : ByteArray), .string (⟨#[]⟩ : ByteArray)]) (t := 32) ?hr ?_; (case hd => rfl); (case hg => rfl); (case hr => first | (go_simp; done) | (go_simp; rfl)); intro gb115 hg w3 hbox hb; have n0_ := Aside0.mk (below_step (by repeat (first | (with_reducible first | exact HB.out | apply below_alloc | apply pw_below_drewN | apply below_drew1) | exact HB.out)) hb); have n1_ := Aside0.mk (hbox); have n2_ := Aside0.mk ((by rw [hg]; exact (below_size (by repeat (first | (with_reducible first | exact HB.out | apply below_alloc | apply pw_below_drewN | apply below_drew1) | exact HB.out))) : w.heap.size ≤ gb115)); have n3_ := Aside0.mk ((by rw [hg]; exact (below_size (by repeat (first | (with_reducible first | exact HB.out | apply below_alloc | apply pw_below_drewN | apply below_drew1) | exact HB.out))) : w.heap.size ≤ gb115)); clear HB; have HB := n0_; have BK115 := n1_; have GW115 := n2_; have GE115 := n3_; clear n0_ n1_ n2_ n3_; clear hb hbox hg) | ((with_reducible refine gate_callee (f := 22) rfl ?_); refine goesL_ (some 4) rfl rfl Tryd.func22 (by kernel_rfl) rfl #[.string (⟨#[112, 97, 116, 104, 95, 110, 97, 109, 101, 115, 112, 97, 99, 101]⟩ : ByteArray), .string a0] rfl (by (try simp only [List.map_toArray, List.map_cons, List.map_nil]); first | done | rfl | (simp only [List.length_drop, List.length_take]; rfl)) ?_; (with_reducible refine (dbus_WithMatchOption.calls (⟨#[112, 97, 116, 104, 95, 110, 97, 109, 101, 115, 112, 97, 99, 101]⟩ : ByteArray) a0 t116 t117 _ A2.out).mono ?_); rintro e w4 ⟨rfl, hb⟩; refine ⟨_, rfl, ?_⟩; have n0_ := Aside0.mk (blk_below (g := gb115) (o := .cells #[.string (⟨#[]⟩ : ByteArray), .string (⟨#[]⟩ : ByteArray)] 32 (0, 0)) (by (with_reducible repeat (first | refine blk_drewN ?_ _ | refine blk_drew ?_ | refine blk_alloc ?_ _)); exact BK115.out) hb); have n1_ := Aside0.mk (below_step (by repeat (first | (with_reducible first | exact HB.out | apply below_alloc | apply pw_below_drewN | apply below_drew1 | refine below_set ?_ GE115.out) | exact HB.out)) hb); clear BK115; clear HB; have BK115 := n0_; have HB := n1_; clear n0_ n1_; (try clear hb); (try clear hb2); (try clear hk); (try clear hi); have hcz5_0 : w4.cell? ⟨gb115, 0, none⟩ = some (.string (⟨#[]⟩ : ByteArray)) := (blk_cell BK115.out 0).trans rfl; have hcz5_1 : w4.cell? ⟨gb115, 1, none⟩ = some (.string (⟨#[]⟩ : ByteArray)) := (blk_cell BK115.out 1).trans rfl; have hfz5_0 := blk_frozen BK115.out 0; have hfz5_1 := blk_frozen BK115.out 1))
  refine bodyPost_ret (results_cell_row rfl _ _ gb115 32 #[.string t116, .string t117] (0, 0) _ rfl (by (with_reducible repeat (first | refine blk_drewN ?_ _ | refine blk_drew ?_ | refine blk_alloc ?_ _)); refine blk_put (cs := #[.string t116, .string (⟨#[]⟩ : ByteArray)]) ?_ 1 _ rfl; (with_reducible repeat (first | refine blk_drewN ?_ _ | refine blk_drew ?_ | refine blk_alloc ?_ _)); refine blk_put (cs := #[.string (⟨#[]⟩ : ByteArray), .string (⟨#[]⟩ : ByteArray)]) ?_ 0 _ rfl; (with_reducible repeat (first | refine blk_drewN ?_ _ | refine blk_drew ?_ | refine blk_alloc ?_ _)); exact BK115.out) Tryd.underlying32 rfl (by kernel_rfl)) rfl ?_
  exact ⟨by first | rfl | (simp [errW_none, errW_some] <;> rfl) | (simp [*, errW_none, errW_some] <;> rfl) | (simp (disch := omega) only [wrap64_id] <;> rfl), by repeat (first | (with_reducible first | exact HB.out | apply below_alloc | apply pw_below_drewN | apply below_drew1 | refine below_set ?_ GE115.out) | exact HB.out)⟩

/-! ### dbus_WithMatchDestination: function 16 -/
def dbus_WithMatchDestination.f (a0 : ByteArray) : Option (ByteArray × ByteArray) := (dbus_WithMatchOption.f (⟨#[100, 101, 115, 116, 105, 110, 97, 116, 105, 111, 110]⟩ : ByteArray) a0).bind fun bt119 => (some (bt119.1, bt119.2))
set_option maxHeartbeats 8000000 in
set_option maxRecDepth 100000 in
theorem dbus_WithMatchDestination.calls (a0 : ByteArray) (r1 : ByteArray) (r2 : ByteArray) (w : World) (h : dbus_WithMatchDestination.f a0 = some (r1, r2)) :
    Calls Tryd.prog 16 #[.string a0] w fun e w' => e = .returned (.agg #[.string r1, .string r2]) ∧ Below w.heap.size w w' := by
  have hu32 := Tryd.underlying32
  have HB := Aside0.mk (Below.refl w.heap.size w)
  have H : ((dbus_WithMatchOption.f (⟨#[100, 101, 115, 116, 105, 110, 97, 116, 105, 111, 110]⟩ : ByteArray) a0).bind fun bt119 => (some (bt119.1, bt119.2))) = some (r1, r2) := h
  clear h
  replace H := Option.bind_eq_some_iff.mp H
  obtain ⟨⟨t119, t120⟩, A20, H⟩ := H
  replace H : (some (t119, t120)) = some (r1, r2) := H
  have A2 := Aside0.mk A20
  clear A20
  simp only [Option.some.injEq, Prod.mk.injEq] at H
  obtain ⟨rfl, rfl⟩ := H
  go_enter Tryd.func16, Tryd.ntmps16
  go_wp2_with (first | ((with_reducible refine gate_dst (N := 2) rfl ?_); refine box_event ?hg (N := 2) ?hd (cs := #[.string (⟨#[]⟩ : ByteArray), .string (⟨#[]⟩ : ByteArray)]) (t := 32) ?hr ?_; (case hd => rfl); (case hg => rfl); (case hr => first | (go_simp; done) | (go_simp; rfl)); intro gb118 hg w3 hbox hb; have n0_ := Aside0.mk (below_step (by repeat (first | (with_reducible first | exact HB.out | apply below_alloc | apply pw_below_drewN | apply below_drew1) | exact HB.out)) hb); have n1_ := Aside0.mk (hbox); have n2_ := Aside0.mk ((by rw [hg]; exact (below_size (by repeat (first | (with_reducible first | exact HB.out | apply below_alloc | apply pw_below_drewN | apply below_drew1) | exact HB.out))) : w.heap.size ≤ gb118)); have n3_ := Aside0.mk ((by rw [hg]; exact (below_size (by repeat (first | (with_reducible first | exact HB.out | apply below_alloc | apply pw_below_drewN | apply below_drew1) | exact HB.out))) : w.heap.size ≤ gb118)); clear HB; have HB := n0_; have BK118 := n1_; have GW118 := n2_; have GE118 := n3_; clear n0_ n1_ n2_ n3_; clear hb hbox hg) | ((with_reducible refine gate_callee (f := 22) rfl ?_); refine goesL_ (some 4) rfl rfl Tryd.func22 (by kernel_rfl) rfl #[.string (⟨#[100, 101, 115, 116, 105, 110, 97, 116, 105, 111, 110]⟩ : ByteArray), .string a0] rfl (by (try simp only [List.map_toArray, List.map_cons, List.map_nil]); first | done | rfl | (simp only [List.length_drop, List.length_take]; rfl)) ?_; (with_reducible refine (dbus_WithMatchOption.calls (⟨#[100, 101, 115, 116, 105, 110, 97, 116, 105, 111, 110]⟩ : ByteArray) a0 t119 t120 _ A2.out).mono ?_); rintro e w4 ⟨rfl, hb⟩; refine ⟨_, rfl, ?_⟩; have n0_ := Aside0.mk (blk_below (g := gb118) (o := .cells #[.string (⟨#[]⟩ : ByteArray), .string (⟨#[]⟩ : ByteArray)] 32 (0, 0)) (by (with_reducible repeat (first | refine blk_drewN ?_ _ | refine blk_drew ?_ | refine blk_alloc ?_ _)); exact BK118.out) hb); have n1_ := Aside0.mk (below_step (by repeat (first | (with_reducible first | exact HB.out | apply below_alloc | apply pw_below_drewN | apply below_drew1 | refine below_set ?_ GE118.out) | exact HB.out)) hb); clear BK118; clear HB; have BK118 := n0_; have HB := n1_; clear n0_ n1_; (try clear hb); (try clear hb2); (try clear hk); (try clear hi); have hcz5_0 : w4.cell? ⟨gb118, 0, none⟩ = some (.string (⟨#[]⟩ : ByteArray)) := (blk_cell BK118.out 0).trans rfl; have hcz5_1 : w4.cell? ⟨gb118, 1, none⟩ = some (.string (⟨#[]⟩ : ByteArray)) := (blk_cell BK118.out 1).trans rfl; have hfz5_0 := blk_frozen BK118.out 0; have hfz5_1 := blk_frozen BK118.out 1))
  refine bodyPost_ret (results_cell_row rfl _ _ gb118 32 #[.string t119, .string t120] (0, 0) _ rfl (by (with_reducible repeat (first | refine blk_drewN ?_ _ | refine blk_drew ?_ | refine blk_alloc ?_ _)); refine blk_put (cs := #[.string t119, .string (⟨#[]⟩ : ByteArray)]) ?_ 1 _ rfl; (with_reducible repeat (first | refine blk_drewN ?_ _ | refine blk_drew ?_ | refine blk_alloc ?_ _)); refine blk_put (cs := #[.string (⟨#[]⟩ : ByteArray), .string (⟨#[]⟩ : ByteArray)]) ?_ 0 _ rfl; (with_reducible repeat (first | refine blk_drewN ?_ _ | refine blk_drew ?_ | refine blk_alloc ?_ _)); exact BK118.out) Tryd.underlying32 rfl (by kernel_rfl)) rfl ?_
  exact ⟨by first | rfl | (simp [errW_none, errW_some] <;> rfl) | (simp [*, errW_none, errW_some] <;> rfl) | (simp (disch := omega) only [wrap64_id] <;> rfl), by repeat (first | (with_reducible first | exact HB.out | apply below_alloc | apply pw_below_drewN | apply below_drew1 | refine below_set ?_ GE118.out) | exact HB.out)⟩

/-! ### strconv_small: function 29 -/
def strconv_small.f (a0 : Int) : Option (ByteArray) := if a0 < 10 then (if 0 ≤ a0 then (if a0 ≤ (wrap64 (a0 + 1)) then (if (wrap64 (a0 + 1)) ≤ 36 then (some ((⟨#[48, 49, 50, 51, 52, 53, 54, 55, 56, 57, 97, 98, 99, 100, 101, 102, 103, 104, 105, 106, 107, 108, 109, 110, 111, 112, 113, 114, 115, 116, 117, 118, 119, 120, 121, 122]⟩ : ByteArray).extract (a0 : Int).toNat ((wrap64 (a0 + 1)) : Int).toNat)) else (none)) else (none)) else (none)) else (if 0 ≤ (wrap64 (a0 * 2)) then (if (wrap64 (a0 * 2)) ≤ (wrap64 ((wrap64 (a0 * 2)) + 2)) then (if (wrap64 ((wrap64 (a0 * 2)) + 2)) ≤ 200 then (some ((⟨#[48, 48, 48, 49, 48, 50, 48, 51, 48, 52, 48, 53, 48, 54, 48, 55, 48, 56, 48, 57, 49, 48, 49, 49, 49, 50, 49, 51, 49, 52, 49, 53, 49, 54, 49, 55, 49, 56, 49, 57, 50, 48, 50, 49, 50, 50, 50, 51, 50, 52, 50, 53, 50, 54, 50, 55, 50, 56, 50, 57, 51, 48, 51, 49, 51, 50, 51, 51, 51, 52, 51, 53, 51, 54, 51, 55, 51, 56, 51, 57, 52, 48, 52, 49, 52, 50, 52, 51, 52, 52, 52, 53, 52, 54, 52, 55, 52, 56, 52, 57, 53, 48, 53, 49, 53, 50, 53, 51, 53, 52, 53, 53, 53, 54, 53, 55, 53, 56, 53, 57, 54, 48, 54, 49, 54, 50, 54, 51, 54, 52, 54, 53, 54, 54, 54, 55, 54, 56, 54, 57, 55, 48, 55, 49, 55, 50, 55, 51, 55, 52, 55, 53, 55, 54, 55, 55, 55, 56, 55, 57, 56, 48, 56, 49, 56, 50, 56, 51, 56, 52, 56, 53, 56, 54, 56, 55, 56, 56, 56, 57, 57, 48, 57, 49, 57, 50, 57, 51, 57, 52, 57, 53, 57, 54, 57, 55, 57, 56, 57, 57]⟩ : ByteArray).extract ((wrap64 (a0 * 2)) : Int).toNat ((wrap64 ((wrap64 (a0 * 2)) + 2)) : Int).toNat)) else (none)) else (none)) else (none))
set_option maxHeartbeats 8000000 in
set_option maxRecDepth 100000 in
theorem strconv_small.calls (a0 : Int) (r : ByteArray) (w : World) (h : strconv_small.f a0 = some r) :
    Calls Tryd.prog 29 #[.int .i64 a0] w fun e w' => e = .returned (.string r) ∧ Drawn0 w w' := by
  have H : (if a0 < 10 then (if 0 ≤ a0 then (if a0 ≤ (wrap64 (a0 + 1)) then (if (wrap64 (a0 + 1)) ≤ 36 then (some ((⟨#[48, 49, 50, 51, 52, 53, 54, 55, 56, 57, 97, 98, 99, 100, 101, 102, 103, 104, 105, 106, 107, 108, 109, 110, 111, 112, 113, 114, 115, 116, 117, 118, 119, 120, 121, 122]⟩ : ByteArray).extract (a0 : Int).toNat ((wrap64 (a0 + 1)) : Int).toNat)) else (none)) else (none)) else (none)) else (if 0 ≤ (wrap64 (a0 * 2)) then (if (wrap64 (a0 * 2)) ≤ (wrap64 ((wrap64 (a0 * 2)) + 2)) then (if (wrap64 ((wrap64 (a0 * 2)) + 2)) ≤ 200 then (some ((⟨#[48, 48, 48, 49, 48, 50, 48, 51, 48, 52, 48, 53, 48, 54, 48, 55, 48, 56, 48, 57, 49, 48, 49, 49, 49, 50, 49, 51, 49, 52, 49, 53, 49, 54, 49, 55, 49, 56, 49, 57, 50, 48, 50, 49, 50, 50, 50, 51, 50, 52, 50, 53, 50, 54, 50, 55, 50, 56, 50, 57, 51, 48, 51, 49, 51, 50, 51, 51, 51, 52, 51, 53, 51, 54, 51, 55, 51, 56, 51, 57, 52, 48, 52, 49, 52, 50, 52, 51, 52, 52, 52, 53, 52, 54, 52, 55, 52, 56, 52, 57, 53, 48, 53, 49, 53, 50, 53, 51, 53, 52, 53, 53, 53, 54, 53, 55, 53, 56, 53, 57, 54, 48, 54, 49, 54, 50, 54, 51, 54, 52, 54, 53, 54, 54, 54, 55, 54, 56, 54, 57, 55, 48, 55, 49, 55, 50, 55, 51, 55, 52, 55, 53, 55, 54, 55, 55, 55, 56, 55, 57, 56, 48, 56, 49, 56, 50, 56, 51, 56, 52, 56, 53, 56, 54, 56, 55, 56, 56, 56, 57, 57, 48, 57, 49, 57, 50, 57, 51, 57, 52, 57, 53, 57, 54, 57, 55, 57, 56, 57, 57]⟩ : ByteArray).extract ((wrap64 (a0 * 2)) : Int).toNat ((wrap64 ((wrap64 (a0 * 2)) + 2)) : Int).toNat)) else (none)) else (none)) else (none))) = some r := h
  clear h
  by_cases c2 : a0 < 10
  · rw [if_pos c2] at H
    have c2b0 : decide (a0 < 10) = true := decide_eq_true c2
    clear c2
    by_cases c3 : 0 ≤ a0
    · rw [if_pos c3] at H
      have c3b0 := eq_true c3
      have c3b1 : decide (0 ≤ a0) = true := decide_eq_true c3
      clear c3
      by_cases c4 : a0 ≤ (wrap64 (a0 + 1))
      · rw [if_pos c4] at H
        have c4b0 := eq_true c4
        have c4b1 : decide (a0 ≤ (wrap64 (a0 + 1))) = true := decide_eq_true c4
        by_cases c5 : (wrap64 (a0 + 1)) ≤ 36
        · rw [if_pos c5] at H
          have c5b0 := eq_true c5
          have c5b1 : decide ((wrap64 (a0 + 1)) ≤ 36) = true := decide_eq_true c5
          obtain rfl := Option.some.inj H
          go_enter Tryd.func29, Tryd.ntmps29
          go_wp2
          go_ret
          exact ⟨by first | rfl | (simp; done) | (simp [*]; done), by repeat (first | exact Drawn0.refl _ | apply Drawn0.step)⟩
        · rw [if_neg c5] at H
          exact absurd H (by simp)
      · rw [if_neg c4] at H
        exact absurd H (by simp)
    · rw [if_neg c3] at H
      exact absurd H (by simp)
  · rw [if_neg c2] at H
    have c2b0 : decide (a0 < 10) = false := decide_eq_false c2
    clear c2
    obtain ⟨ji6, hji6⟩ : ∃ j_ : Int, (wrap64 (a0 * 2)) = j_ := ⟨_, rfl⟩
    replace H : (if 0 ≤ (ji6) then (if (ji6) ≤ (wrap64 ((ji6) + 2)) then (if (wrap64 ((ji6) + 2)) ≤ 200 then (some ((⟨#[48, 48, 48, 49, 48, 50, 48, 51, 48, 52, 48, 53, 48, 54, 48, 55, 48, 56, 48, 57, 49, 48, 49, 49, 49, 50, 49, 51, 49, 52, 49, 53, 49, 54, 49, 55, 49, 56, 49, 57, 50, 48, 50, 49, 50, 50, 50, 51, 50, 52, 50, 53, 50, 54, 50, 55, 50, 56, 50, 57, 51, 48, 51, 49, 51, 50, 51, 51, 51, 52, 51, 53, 51, 54, 51, 55, 51, 56, 51, 57, 52, 48, 52, 49, 52, 50, 52, 51, 52, 52, 52, 53, 52, 54, 52, 55, 52, 56, 52, 57, 53, 48, 53, 49, 53, 50, 53, 51, 53, 52, 53, 53, 53, 54, 53, 55, 53, 56, 53, 57, 54, 48, 54, 49, 54, 50, 54, 51, 54, 52, 54, 53, 54, 54, 54, 55, 54, 56, 54, 57, 55, 48, 55, 49, 55, 50, 55, 51, 55, 52, 55, 53, 55, 54, 55, 55, 55, 56, 55, 57, 56, 48, 56, 49, 56, 50, 56, 51, 56, 52, 56, 53, 56, 54, 56, 55, 56, 56, 56, 57, 57, 48, 57, 49, 57, 50, 57, 51, 57, 52, 57, 53, 57, 54, 57, 55, 57, 56, 57, 57]⟩ : ByteArray).extract ((ji6) : Int).toNat ((wrap64 ((ji6) + 2)) : Int).toNat)) else (none)) else (none)) else (none)) = some r := by first | (rw [hji6] at H; exact H) | (simp only [hji6] at H ⊢; exact H)
    have hji6w : (IntKind.i64.wrap (a0 * 2)) = ji6 := (i64_w _).trans hji6
    by_cases c7 : 0 ≤ (ji6)
    · rw [if_pos c7] at H
      have c7b0 := eq_true c7
      have c7b1 : decide (0 ≤ (ji6)) = true := decide_eq_true c7
      clear c7
      by_cases c8 : (ji6) ≤ (wrap64 ((ji6) + 2))
      · rw [if_pos c8] at H
        have c8b0 := eq_true c8
        have c8b1 : decide ((ji6) ≤ (wrap64 ((ji6) + 2))) = true := decide_eq_true c8
        by_cases c9 : (wrap64 ((ji6) + 2)) ≤ 200
        · rw [if_pos c9] at H
          have c9b0 := eq_true c9
          have c9b1 : decide ((wrap64 ((ji6) + 2)) ≤ 200) = true := decide_eq_true c9
          obtain rfl := Option.some.inj H
          go_enter Tryd.func29, Tryd.ntmps29
          go_wp2
          go_ret
          exact ⟨by first | rfl | (simp; done) | (simp only [← hji6] <;> (first | rfl | simp)) | (simp [*]; done), by repeat (first | exact Drawn0.refl _ | apply Drawn0.step)⟩
        · rw [if_neg c9] at H
          exact absurd H (by simp)
      · rw [if_neg c8] at H
        exact absurd H (by simp)
    · rw [if_neg c7] at H
      exact absurd H (by simp)

/-! ### strconv_log10Pow2: function 33 -/
def strconv_log10Pow2.f (a0 : Int) : Option (Int) := some ((wrap64 (a0 * 78913)) / 262144)
set_option maxHeartbeats 8000000 in
set_option maxRecDepth 100000 in
theorem strconv_log10Pow2.calls (a0 : Int) (r : Int) (w : World) (h : strconv_log10Pow2.f a0 = some r) :
    Calls Tryd.prog 33 #[.int .i64 a0] w fun e w' => e = .returned (.int .i64 r) ∧ Drawn0 w w' := by
  have H : (some ((wrap64 (a0 * 78913)) / 262144)) = some r := h
  clear h
  obtain rfl := Option.some.inj H
  go_enter Tryd.func33, Tryd.ntmps33
  go_wp2
  go_ret
  exact ⟨by first | rfl | (simp; done) | (simp [*]; done), by repeat (first | exact Drawn0.refl _ | apply Drawn0.step)⟩

/-! ### bits_Len64: function 34 -/
def bits_Len64.j0 : Nat → Int → Int → Option (Int)
  | 0, _, _ => none
  | k + 1, x0, x2 => if x0 ≥ 65536 then (if (x0 / 65536) ≥ 256 then (if 0 ≤ (((x0 / 65536) / 256) % 256) then (if (((x0 / 65536) / 256) % 256) < 256 then (some (wrap64 ((wrap64 ((wrap64 (x2 + 16)) + 8)) + (wrap64 (bt (⟨#[0, 1, 2, 2, 3, 3, 3, 3, 4, 4, 4, 4, 4, 4, 4, 4, 5, 5, 5, 5, 5, 5, 5, 5, 5, 5, 5, 5, 5, 5, 5, 5, 6, 6, 6, 6, 6, 6, 6, 6, 6, 6, 6, 6, 6, 6, 6, 6, 6, 6, 6, 6, 6, 6, 6, 6, 6, 6, 6, 6, 6, 6, 6, 6, 7, 7, 7, 7, 7, 7, 7, 7, 7, 7, 7, 7, 7, 7, 7, 7, 7, 7, 7, 7, 7, 7, 7, 7, 7, 7, 7, 7, 7, 7, 7, 7, 7, 7, 7, 7, 7, 7, 7, 7, 7, 7, 7, 7, 7, 7, 7, 7, 7, 7, 7, 7, 7, 7, 7, 7, 7, 7, 7, 7, 7, 7, 7, 7, 8, 8, 8, 8, 8, 8, 8, 8, 8, 8, 8, 8, 8, 8, 8, 8, 8, 8, 8, 8, 8, 8, 8, 8, 8, 8, 8, 8, 8, 8, 8, 8, 8, 8, 8, 8, 8, 8, 8, 8, 8, 8, 8, 8, 8, 8, 8, 8, 8, 8, 8, 8, 8, 8, 8, 8, 8, 8, 8, 8, 8, 8, 8, 8, 8, 8, 8, 8, 8, 8, 8, 8, 8, 8, 8, 8, 8, 8, 8, 8, 8, 8, 8, 8, 8, 8, 8, 8, 8, 8, 8, 8, 8, 8, 8, 8, 8, 8, 8, 8, 8, 8, 8, 8, 8, 8, 8, 8, 8, 8, 8, 8, 8, 8, 8, 8, 8, 8, 8, 8, 8, 8, 8, 8, 8, 8, 8, 8]⟩ : ByteArray) (((x0 / 65536) / 256) % 256)))))) else (none)) else (none)) else (if 0 ≤ ((x0 / 65536) % 256) then (if ((x0 / 65536) % 256) < 256 then (some (wrap64 ((wrap64 (x2 + 16)) + (wrap64 (bt (⟨#[0, 1, 2, 2, 3, 3, 3, 3, 4, 4, 4, 4, 4, 4, 4, 4, 5, 5, 5, 5, 5, 5, 5, 5, 5, 5, 5, 5, 5, 5, 5, 5, 6, 6, 6, 6, 6, 6, 6, 6, 6, 6, 6, 6, 6, 6, 6, 6, 6, 6, 6, 6, 6, 6, 6, 6, 6, 6, 6, 6, 6, 6, 6, 6, 7, 7, 7, 7, 7, 7, 7, 7, 7, 7, 7, 7, 7, 7, 7, 7, 7, 7, 7, 7, 7, 7, 7, 7, 7, 7, 7, 7, 7, 7, 7, 7, 7, 7, 7, 7, 7, 7, 7, 7, 7, 7, 7, 7, 7, 7, 7, 7, 7, 7, 7, 7, 7, 7, 7, 7, 7, 7, 7, 7, 7, 7, 7, 7, 8, 8, 8, 8, 8, 8, 8, 8, 8, 8, 8, 8, 8, 8, 8, 8, 8, 8, 8, 8, 8, 8, 8, 8, 8, 8, 8, 8, 8, 8, 8, 8, 8, 8, 8, 8, 8, 8, 8, 8, 8, 8, 8, 8, 8, 8, 8, 8, 8, 8, 8, 8, 8, 8, 8, 8, 8, 8, 8, 8, 8, 8, 8, 8, 8, 8, 8, 8, 8, 8, 8, 8, 8, 8, 8, 8, 8, 8, 8, 8, 8, 8, 8, 8, 8, 8, 8, 8, 8, 8, 8, 8, 8, 8, 8, 8, 8, 8, 8, 8, 8, 8, 8, 8, 8, 8, 8, 8, 8, 8, 8, 8, 8, 8, 8, 8, 8, 8, 8, 8, 8, 8, 8, 8, 8, 8, 8, 8]⟩ : ByteArray) ((x0 / 65536) % 256)))))) else (none)) else (none))) else (if x0 ≥ 256 then (if 0 ≤ ((x0 / 256) % 256) then (if ((x0 / 256) % 256) < 256 then (some (wrap64 ((wrap64 (x2 + 8)) + (wrap64 (bt (⟨#[0, 1, 2, 2, 3, 3, 3, 3, 4, 4, 4, 4, 4, 4, 4, 4, 5, 5, 5, 5, 5, 5, 5, 5, 5, 5, 5, 5, 5, 5, 5, 5, 6, 6, 6, 6, 6, 6, 6, 6, 6, 6, 6, 6, 6, 6, 6, 6, 6, 6, 6, 6, 6, 6, 6, 6, 6, 6, 6, 6, 6, 6, 6, 6, 7, 7, 7, 7, 7, 7, 7, 7, 7, 7, 7, 7, 7, 7, 7, 7, 7, 7, 7, 7, 7, 7, 7, 7, 7, 7, 7, 7, 7, 7, 7, 7, 7, 7, 7, 7, 7, 7, 7, 7, 7, 7, 7, 7, 7, 7, 7, 7, 7, 7, 7, 7, 7, 7, 7, 7, 7, 7, 7, 7, 7, 7, 7, 7, 8, 8, 8, 8, 8, 8, 8, 8, 8, 8, 8, 8, 8, 8, 8, 8, 8, 8, 8, 8, 8, 8, 8, 8, 8, 8, 8, 8, 8, 8, 8, 8, 8, 8, 8, 8, 8, 8, 8, 8, 8, 8, 8, 8, 8, 8, 8, 8, 8, 8, 8, 8, 8, 8, 8, 8, 8, 8, 8, 8, 8, 8, 8, 8, 8, 8, 8, 8, 8, 8, 8, 8, 8, 8, 8, 8, 8, 8, 8, 8, 8, 8, 8, 8, 8, 8, 8, 8, 8, 8, 8, 8, 8, 8, 8, 8, 8, 8, 8, 8, 8, 8, 8, 8, 8, 8, 8, 8, 8, 8, 8, 8, 8, 8, 8, 8, 8, 8, 8, 8, 8, 8, 8, 8, 8, 8, 8, 8]⟩ : ByteArray) ((x0 / 256) % 256)))))) else (none)) else (none)) else (if 0 ≤ ((x0) % 256) then (if ((x0) % 256) < 256 then (some (wrap64 (x2 + (wrap64 (bt (⟨#[0, 1, 2, 2, 3, 3, 3, 3, 4, 4, 4, 4, 4, 4, 4, 4, 5, 5, 5, 5, 5, 5, 5, 5, 5, 5, 5, 5, 5, 5, 5, 5, 6, 6, 6, 6, 6, 6, 6, 6, 6, 6, 6, 6, 6, 6, 6, 6, 6, 6, 6, 6, 6, 6, 6, 6, 6, 6, 6, 6, 6, 6, 6, 6, 7, 7, 7, 7, 7, 7, 7, 7, 7, 7, 7, 7, 7, 7, 7, 7, 7, 7, 7, 7, 7, 7, 7, 7, 7, 7, 7, 7, 7, 7, 7, 7, 7, 7, 7, 7, 7, 7, 7, 7, 7, 7, 7, 7, 7, 7, 7, 7, 7, 7, 7, 7, 7, 7, 7, 7, 7, 7, 7, 7, 7, 7, 7, 7, 8, 8, 8, 8, 8, 8, 8, 8, 8, 8, 8, 8, 8, 8, 8, 8, 8, 8, 8, 8, 8, 8, 8, 8, 8, 8, 8, 8, 8, 8, 8, 8, 8, 8, 8, 8, 8, 8, 8, 8, 8, 8, 8, 8, 8, 8, 8, 8, 8, 8, 8, 8, 8, 8, 8, 8, 8, 8, 8, 8, 8, 8, 8, 8, 8, 8, 8, 8, 8, 8, 8, 8, 8, 8, 8, 8, 8, 8, 8, 8, 8, 8, 8, 8, 8, 8, 8, 8, 8, 8, 8, 8, 8, 8, 8, 8, 8, 8, 8, 8, 8, 8, 8, 8, 8, 8, 8, 8, 8, 8, 8, 8, 8, 8, 8, 8, 8, 8, 8, 8, 8, 8, 8, 8, 8, 8, 8, 8]⟩ : ByteArray) ((x0) % 256)))))) else (none)) else (none)))
def bits_Len64.f (k : Nat) (a0 : Int) : Option (Int) := if a0 ≥ 4294967296 then (bits_Len64.j0 k (a0 / 4294967296) 32) else (bits_Len64.j0 k a0 0)
theorem bits_Len64.mono_l : ∀ k, (∀ y0 y1, LeO (bits_Len64.j0 k y0 y1) (bits_Len64.j0 (k + 1) y0 y1))
  | 0 => fun _ _ r h => by simp [bits_Len64.j0] at h
  | k + 1 => by
    have ih0 := bits_Len64.mono_l k
    · intro y0 y1
      unfold bits_Len64.j0
      repeat' first
      | (with_reducible exact ih0 _ _)
      | (with_reducible exact LeO.refl _)
      | (with_reducible exact LeO.none _)
      | (with_reducible refine LeO.ite ?_ ?_)
      | (with_reducible refine LeO.bind ?_ (fun _ => ?_))
      | exact ih0 _ _
      | exact LeO.none _
      | refine LeO.ite ?_ ?_
      | refine LeO.bind ?_ (fun _ => ?_)
theorem bits_Len64.mono : ∀ a0 k, LeO (bits_Len64.f k a0) (bits_Len64.f (k + 1) a0) := by
  intro a0 k
  have ih0 := bits_Len64.mono_l k
  unfold bits_Len64.f
  repeat' first
      | (with_reducible exact ih0 _ _)
      | (with_reducible exact LeO.refl _)
      | (with_reducible exact LeO.none _)
      | (with_reducible refine LeO.ite ?_ ?_)
      | (with_reducible refine LeO.bind ?_ (fun _ => ?_))
      | exact ih0 _ _
      | exact LeO.none _
      | refine LeO.ite ?_ ?_
      | refine LeO.bind ?_ (fun _ => ?_)
set_option maxHeartbeats 8000000 in
set_option maxRecDepth 100000 in
theorem bits_Len64.calls (k : Nat) (a0 : Int) (r : Int) (w : World) (h : bits_Len64.f k a0 = some r) :
    Calls Tryd.prog 34 #[.int .u64 a0] w fun e w' => e = .returned (.int .i64 r) ∧ Drawn0 w w' := by
  have H : (if a0 ≥ 4294967296 then (bits_Len64.j0 k (a0 / 4294967296) 32) else (bits_Len64.j0 k a0 0)) = some r := h
  clear h
  have HC2 := Aside0.mk H
  clear H
  go_enter Tryd.func34, Tryd.ntmps34
  go_upto_if 4 with (fail)
  go_cut [0, 2] (fun v0 v2 wc => ∃ (kq : Nat) (x0_1 : Int) (x2_1 : Int), v0 = .int .u64 x0_1 ∧ v2 = .int .i64 x2_1 ∧ Aside0 (bits_Len64.j0 kq x0_1 x2_1 = some r) ∧ Aside0 (kq ≤ k) ∧ Drawn0 w wc)
  case first =>
    have H := HC2.out
    clear HC2
    by_cases c3 : a0 ≥ 4294967296
    · rw [if_pos c3] at H
      have c3b0 : decide (4294967296 ≤ a0) = true := decide_eq_true c3
      clear c3
      (first | rw [c3b0] | (simp only [i64_w, i32_w]; rw [c3b0]) | skip)
      have H' := Aside0.mk H
      clear H
      go_wp2
      go_meet
      case rel => exact ⟨_, (a0 / 4294967296), (32), (by first | rfl | (simp; done) | (simp [*]; done)), (by first | rfl | (simp; done) | (simp [*]; done)), H', ⟨by first | omega | exact Nat.le_refl _⟩, by repeat (first | exact Drawn0.refl _ | apply Drawn0.step)⟩
    · rw [if_neg c3] at H
      have c3b0 : decide (4294967296 ≤ a0) = false := decide_eq_false c3
      clear c3
      (first | rw [c3b0] | (simp only [i64_w, i32_w]; rw [c3b0]) | skip)
      have H' := Aside0.mk H
      clear H
      go_wp2
      go_meet
      case rel => exact ⟨_, (a0), (0), (by first | rfl | (simp; done) | (simp [*]; done)), (by first | rfl | (simp; done) | (simp [*]; done)), H', ⟨by first | omega | exact Nat.le_refl _⟩, by repeat (first | exact Drawn0.refl _ | apply Drawn0.step)⟩
  case rest =>
    clear HC2
    try clear p2
    try clear c3
    try clear c3b0
    obtain ⟨kq, x0_1, x2_1, rfl, rfl, HA, HJ1, ⟨mc1, rfl⟩⟩ := hcut
    cases kq with
    | zero => exact absurd HA.out (by simp [bits_Len64.j0])
    | succ kj1 =>
      have H := HA.out
      clear HA
      simp only [bits_Len64.j0] at H
      by_cases c4 : x0_1 ≥ 65536
      · rw [if_pos c4] at H
        have c4b0 : decide (65536 ≤ x0_1) = true := decide_eq_true c4
        clear c4
        by_cases c5 : (x0_1 / 65536) ≥ 256
        · rw [if_pos c5] at H
          have c5b0 : decide (256 ≤ (x0_1 / 65536)) = true := decide_eq_true c5
          clear c5
          obtain ⟨ji6, hji6⟩ : ∃ j_ : Int, (((x0_1 / 65536) / 256) % 256) = j_ := ⟨_, rfl⟩
          replace H : (if 0 ≤ (ji6) then (if (ji6) < 256 then (some (wrap64 ((wrap64 ((wrap64 (x2_1 + 16)) + 8)) + (wrap64 (bt (⟨#[0, 1, 2, 2, 3, 3, 3, 3, 4, 4, 4, 4, 4, 4, 4, 4, 5, 5, 5, 5, 5, 5, 5, 5, 5, 5, 5, 5, 5, 5, 5, 5, 6, 6, 6, 6, 6, 6, 6, 6, 6, 6, 6, 6, 6, 6, 6, 6, 6, 6, 6, 6, 6, 6, 6, 6, 6, 6, 6, 6, 6, 6, 6, 6, 7, 7, 7, 7, 7, 7, 7, 7, 7, 7, 7, 7, 7, 7, 7, 7, 7, 7, 7, 7, 7, 7, 7, 7, 7, 7, 7, 7, 7, 7, 7, 7, 7, 7, 7, 7, 7, 7, 7, 7, 7, 7, 7, 7, 7, 7, 7, 7, 7, 7, 7, 7, 7, 7, 7, 7, 7, 7, 7, 7, 7, 7, 7, 7, 8, 8, 8, 8, 8, 8, 8, 8, 8, 8, 8, 8, 8, 8, 8, 8, 8, 8, 8, 8, 8, 8, 8, 8, 8, 8, 8, 8, 8, 8, 8, 8, 8, 8, 8, 8, 8, 8, 8, 8, 8, 8, 8, 8, 8, 8, 8, 8, 8, 8, 8, 8, 8, 8, 8, 8, 8, 8, 8, 8, 8, 8, 8, 8, 8, 8, 8, 8, 8, 8, 8, 8, 8, 8, 8, 8, 8, 8, 8, 8, 8, 8, 8, 8, 8, 8, 8, 8, 8, 8, 8, 8, 8, 8, 8, 8, 8, 8, 8, 8, 8, 8, 8, 8, 8, 8, 8, 8, 8, 8, 8, 8, 8, 8, 8, 8, 8, 8, 8, 8, 8, 8, 8, 8, 8, 8, 8, 8]⟩ : ByteArray) (ji6)))))) else (none)) else (none)) = some r := by first | (rw [hji6] at H; exact H) | (simp only [hji6] at H ⊢; exact H)
          by_cases c7 : 0 ≤ (ji6)
          · rw [if_pos c7] at H
            have c7b0 : decide (0 ≤ (ji6)) = true := decide_eq_true c7
            clear c7
            by_cases c8 : (ji6) < 256
            · rw [if_pos c8] at H
              have c8b0 : decide ((ji6) < 256) = true := decide_eq_true c8
              clear c8
              obtain rfl := Option.some.inj H
              have p9 : 0 ≤ ((ji6) : Int) := of_decide_eq_true (by first | (with_reducible assumption) | assumption)
              have q9 : (ji6) < (256 : Int) := of_decide_eq_true (by first | (with_reducible assumption) | assumption)
              have hx9 := bt_at (⟨#[0, 1, 2, 2, 3, 3, 3, 3, 4, 4, 4, 4, 4, 4, 4, 4, 5, 5, 5, 5, 5, 5, 5, 5, 5, 5, 5, 5, 5, 5, 5, 5, 6, 6, 6, 6, 6, 6, 6, 6, 6, 6, 6, 6, 6, 6, 6, 6, 6, 6, 6, 6, 6, 6, 6, 6, 6, 6, 6, 6, 6, 6, 6, 6, 7, 7, 7, 7, 7, 7, 7, 7, 7, 7, 7, 7, 7, 7, 7, 7, 7, 7, 7, 7, 7, 7, 7, 7, 7, 7, 7, 7, 7, 7, 7, 7, 7, 7, 7, 7, 7, 7, 7, 7, 7, 7, 7, 7, 7, 7, 7, 7, 7, 7, 7, 7, 7, 7, 7, 7, 7, 7, 7, 7, 7, 7, 7, 7, 8, 8, 8, 8, 8, 8, 8, 8, 8, 8, 8, 8, 8, 8, 8, 8, 8, 8, 8, 8, 8, 8, 8, 8, 8, 8, 8, 8, 8, 8, 8, 8, 8, 8, 8, 8, 8, 8, 8, 8, 8, 8, 8, 8, 8, 8, 8, 8, 8, 8, 8, 8, 8, 8, 8, 8, 8, 8, 8, 8, 8, 8, 8, 8, 8, 8, 8, 8, 8, 8, 8, 8, 8, 8, 8, 8, 8, 8, 8, 8, 8, 8, 8, 8, 8, 8, 8, 8, 8, 8, 8, 8, 8, 8, 8, 8, 8, 8, 8, 8, 8, 8, 8, 8, 8, 8, 8, 8, 8, 8, 8, 8, 8, 8, 8, 8, 8, 8, 8, 8, 8, 8, 8, 8, 8, 8, 8, 8]⟩ : ByteArray) (ji6)
              replace p9 := eq_true p9
              replace q9 := eq_true q9
              go_wp2
              go_ret
              exact ⟨by first | rfl | (simp; done) | (simp only [← hji6] <;> (first | rfl | simp)) | (simp [*]; done), by repeat (first | exact Drawn0.refl _ | apply Drawn0.step)⟩
            · rw [if_neg c8] at H
              exact absurd H (by simp)
          · rw [if_neg c7] at H
            exact absurd H (by simp)
        · rw [if_neg c5] at H
          have c5b0 : decide (256 ≤ (x0_1 / 65536)) = false := decide_eq_false c5
          clear c5
          obtain ⟨ji10, hji10⟩ : ∃ j_ : Int, ((x0_1 / 65536) % 256) = j_ := ⟨_, rfl⟩
          replace H : (if 0 ≤ (ji10) then (if (ji10) < 256 then (some (wrap64 ((wrap64 (x2_1 + 16)) + (wrap64 (bt (⟨#[0, 1, 2, 2, 3, 3, 3, 3, 4, 4, 4, 4, 4, 4, 4, 4, 5, 5, 5, 5, 5, 5, 5, 5, 5, 5, 5, 5, 5, 5, 5, 5, 6, 6, 6, 6, 6, 6, 6, 6, 6, 6, 6, 6, 6, 6, 6, 6, 6, 6, 6, 6, 6, 6, 6, 6, 6, 6, 6, 6, 6, 6, 6, 6, 7, 7, 7, 7, 7, 7, 7, 7, 7, 7, 7, 7, 7, 7, 7, 7, 7, 7, 7, 7, 7, 7, 7, 7, 7, 7, 7, 7, 7, 7, 7, 7, 7, 7, 7, 7, 7, 7, 7, 7, 7, 7, 7, 7, 7, 7, 7, 7, 7, 7, 7, 7, 7, 7, 7, 7, 7, 7, 7, 7, 7, 7, 7, 7, 8, 8, 8, 8, 8, 8, 8, 8, 8, 8, 8, 8, 8, 8, 8, 8, 8, 8, 8, 8, 8, 8, 8, 8, 8, 8, 8, 8, 8, 8, 8, 8, 8, 8, 8, 8, 8, 8, 8, 8, 8, 8, 8, 8, 8, 8, 8, 8, 8, 8, 8, 8, 8, 8, 8, 8, 8, 8, 8, 8, 8, 8, 8, 8, 8, 8, 8, 8, 8, 8, 8, 8, 8, 8, 8, 8, 8, 8, 8, 8, 8, 8, 8, 8, 8, 8, 8, 8, 8, 8, 8, 8, 8, 8, 8, 8, 8, 8, 8, 8, 8, 8, 8, 8, 8, 8, 8, 8, 8, 8, 8, 8, 8, 8, 8, 8, 8, 8, 8, 8, 8, 8, 8, 8, 8, 8, 8, 8]⟩ : ByteArray) (ji10)))))) else (none)) else (none)) = some r := by first | (rw [hji10] at H; exact H) | (simp only [hji10] at H ⊢; exact H)
          by_cases c11 : 0 ≤ (ji10)
          · rw [if_pos c11] at H
            have c11b0 : decide (0 ≤ (ji10)) = true := decide_eq_true c11
            clear c11
            by_cases c12 : (ji10) < 256
            · rw [if_pos c12] at H
              have c12b0 : decide ((ji10) < 256) = true := decide_eq_true c12
              clear c12
              obtain rfl := Option.some.inj H
              have p13 : 0 ≤ ((ji10) : Int) := of_decide_eq_true (by first | (with_reducible assumption) | assumption)
              have q13 : (ji10) < (256 : Int) := of_decide_eq_true (by first | (with_reducible assumption) | assumption)
              have hx13 := bt_at (⟨#[0, 1, 2, 2, 3, 3, 3, 3, 4, 4, 4, 4, 4, 4, 4, 4, 5, 5, 5, 5, 5, 5, 5, 5, 5, 5, 5, 5, 5, 5, 5, 5, 6, 6, 6, 6, 6, 6, 6, 6, 6, 6, 6, 6, 6, 6, 6, 6, 6, 6, 6, 6, 6, 6, 6, 6, 6, 6, 6, 6, 6, 6, 6, 6, 7, 7, 7, 7, 7, 7, 7, 7, 7, 7, 7, 7, 7, 7, 7, 7, 7, 7, 7, 7, 7, 7, 7, 7, 7, 7, 7, 7, 7, 7, 7, 7, 7, 7, 7, 7, 7, 7, 7, 7, 7, 7, 7, 7, 7, 7, 7, 7, 7, 7, 7, 7, 7, 7, 7, 7, 7, 7, 7, 7, 7, 7, 7, 7, 8, 8, 8, 8, 8, 8, 8, 8, 8, 8, 8, 8, 8, 8, 8, 8, 8, 8, 8, 8, 8, 8, 8, 8, 8, 8, 8, 8, 8, 8, 8, 8, 8, 8, 8, 8, 8, 8, 8, 8, 8, 8, 8, 8, 8, 8, 8, 8, 8, 8, 8, 8, 8, 8, 8, 8, 8, 8, 8, 8, 8, 8, 8, 8, 8, 8, 8, 8, 8, 8, 8, 8, 8, 8, 8, 8, 8, 8, 8, 8, 8, 8, 8, 8, 8, 8, 8, 8, 8, 8, 8, 8, 8, 8, 8, 8, 8, 8, 8, 8, 8, 8, 8, 8, 8, 8, 8, 8, 8, 8, 8, 8, 8, 8, 8, 8, 8, 8, 8, 8, 8, 8, 8, 8, 8, 8, 8, 8]⟩ : ByteArray) (ji10)
              replace p13 := eq_true p13
              replace q13 := eq_true q13
              go_wp2
              go_ret
              exact ⟨by first | rfl | (simp; done) | (simp only [← hji10] <;> (first | rfl | simp)) | (simp [*]; done), by repeat (first | exact Drawn0.refl _ | apply Drawn0.step)⟩
            · rw [if_neg c12] at H
              exact absurd H (by simp)
          · rw [if_neg c11] at H
            exact absurd H (by simp)
      · rw [if_neg c4] at H
        have c4b0 : decide (65536 ≤ x0_1) = false := decide_eq_false c4
        clear c4
        by_cases c14 : x0_1 ≥ 256
        · rw [if_pos c14] at H
          have c14b0 : decide (256 ≤ x0_1) = true := decide_eq_true c14
          clear c14
          obtain ⟨ji15, hji15⟩ : ∃ j_ : Int, ((x0_1 / 256) % 256) = j_ := ⟨_, rfl⟩
          replace H : (if 0 ≤ (ji15) then (if (ji15) < 256 then (some (wrap64 ((wrap64 (x2_1 + 8)) + (wrap64 (bt (⟨#[0, 1, 2, 2, 3, 3, 3, 3, 4, 4, 4, 4, 4, 4, 4, 4, 5, 5, 5, 5, 5, 5, 5, 5, 5, 5, 5, 5, 5, 5, 5, 5, 6, 6, 6, 6, 6, 6, 6, 6, 6, 6, 6, 6, 6, 6, 6, 6, 6, 6, 6, 6, 6, 6, 6, 6, 6, 6, 6, 6, 6, 6, 6, 6, 7, 7, 7, 7, 7, 7, 7, 7, 7, 7, 7, 7, 7, 7, 7, 7, 7, 7, 7, 7, 7, 7, 7, 7, 7, 7, 7, 7, 7, 7, 7, 7, 7, 7, 7, 7, 7, 7, 7, 7, 7, 7, 7, 7, 7, 7, 7, 7, 7, 7, 7, 7, 7, 7, 7, 7, 7, 7, 7, 7, 7, 7, 7, 7, 8, 8, 8, 8, 8, 8, 8, 8, 8, 8, 8, 8, 8, 8, 8, 8, 8, 8, 8, 8, 8, 8, 8, 8, 8, 8, 8, 8, 8, 8, 8, 8, 8, 8, 8, 8, 8, 8, 8, 8, 8, 8, 8, 8, 8, 8, 8, 8, 8, 8, 8, 8, 8, 8, 8, 8, 8, 8, 8, 8, 8, 8, 8, 8, 8, 8, 8, 8, 8, 8, 8, 8, 8, 8, 8, 8, 8, 8, 8, 8, 8, 8, 8, 8, 8, 8, 8, 8, 8, 8, 8, 8, 8, 8, 8, 8, 8, 8, 8, 8, 8, 8, 8, 8, 8, 8, 8, 8, 8, 8, 8, 8, 8, 8, 8, 8, 8, 8, 8, 8, 8, 8, 8, 8, 8, 8, 8, 8]⟩ : ByteArray) (ji15)))))) else (none)) else (none)) = some r := by first | (rw [hji15] at H; exact H) | (simp only [hji15] at H ⊢; exact H)
          by_cases c16 : 0 ≤ (ji15)
          · rw [if_pos c16] at H
            have c16b0 : decide (0 ≤ (ji15)) = true := decide_eq_true c16
            clear c16
            by_cases c17 : (ji15) < 256
            · rw [if_pos c17] at H
              have c17b0 : decide ((ji15) < 256) = true := decide_eq_true c17
              clear c17
              obtain rfl := Option.some.inj H
              have p18 : 0 ≤ ((ji15) : Int) := of_decide_eq_true (by first | (with_reducible assumption) | assumption)
              have q18 : (ji15) < (256 : Int) := of_decide_eq_true (by first | (with_reducible assumption) | assumption)
              have hx18 := bt_at (⟨#[0, 1, 2, 2, 3, 3, 3, 3, 4, 4, 4, 4, 4, 4, 4, 4, 5, 5, 5, 5, 5, 5, 5, 5, 5, 5, 5, 5, 5, 5, 5, 5, 6, 6, 6, 6, 6, 6, 6, 6, 6, 6, 6, 6, 6, 6, 6, 6, 6, 6, 6, 6, 6, 6, 6, 6, 6, 6, 6, 6, 6, 6, 6, 6, 7, 7, 7, 7, 7, 7, 7, 7, 7, 7, 7, 7, 7, 7, 7, 7, 7, 7, 7, 7, 7, 7, 7, 7, 7, 7, 7, 7, 7, 7, 7, 7, 7, 7, 7, 7, 7, 7, 7, 7, 7, 7, 7, 7, 7, 7, 7, 7, 7, 7, 7, 7, 7, 7, 7, 7, 7, 7, 7, 7, 7, 7, 7, 7, 8, 8, 8, 8, 8, 8, 8, 8, 8, 8, 8, 8, 8, 8, 8, 8, 8, 8, 8, 8, 8, 8, 8, 8, 8, 8, 8, 8, 8, 8, 8, 8, 8, 8, 8, 8, 8, 8, 8, 8, 8, 8, 8, 8, 8, 8, 8, 8, 8, 8, 8, 8, 8, 8, 8, 8, 8, 8, 8, 8, 8, 8, 8, 8, 8, 8, 8, 8, 8, 8, 8, 8, 8, 8, 8, 8, 8, 8, 8, 8, 8, 8, 8, 8, 8, 8, 8, 8, 8, 8, 8, 8, 8, 8, 8, 8, 8, 8, 8, 8, 8, 8, 8, 8, 8, 8, 8, 8, 8, 8, 8, 8, 8, 8, 8, 8, 8, 8, 8, 8, 8, 8, 8, 8, 8, 8, 8, 8]⟩ : ByteArray) (ji15)
              replace p18 := eq_true p18
              replace q18 := eq_true q18
              go_wp2
              go_ret
              exact ⟨by first | rfl | (simp; done) | (simp only [← hji15] <;> (first | rfl | simp)) | (simp [*]; done), by repeat (first | exact Drawn0.refl _ | apply Drawn0.step)⟩
            · rw [if_neg c17] at H
              exact absurd H (by simp)
          · rw [if_neg c16] at H
            exact absurd H (by simp)
        · rw [if_neg c14] at H
          have c14b0 : decide (256 ≤ x0_1) = false := decide_eq_false c14
          clear c14
          obtain ⟨ji19, hji19⟩ : ∃ j_ : Int, ((x0_1) % 256) = j_ := ⟨_, rfl⟩
          replace H : (if 0 ≤ (ji19) then (if (ji19) < 256 then (some (wrap64 (x2_1 + (wrap64 (bt (⟨#[0, 1, 2, 2, 3, 3, 3, 3, 4, 4, 4, 4, 4, 4, 4, 4, 5, 5, 5, 5, 5, 5, 5, 5, 5, 5, 5, 5, 5, 5, 5, 5, 6, 6, 6, 6, 6, 6, 6, 6, 6, 6, 6, 6, 6, 6, 6, 6, 6, 6, 6, 6, 6, 6, 6, 6, 6, 6, 6, 6, 6, 6, 6, 6, 7, 7, 7, 7, 7, 7, 7, 7, 7, 7, 7, 7, 7, 7, 7, 7, 7, 7, 7, 7, 7, 7, 7, 7, 7, 7, 7, 7, 7, 7, 7, 7, 7, 7, 7, 7, 7, 7, 7, 7, 7, 7, 7, 7, 7, 7, 7, 7, 7, 7, 7, 7, 7, 7, 7, 7, 7, 7, 7, 7, 7, 7, 7, 7, 8, 8, 8, 8, 8, 8, 8, 8, 8, 8, 8, 8, 8, 8, 8, 8, 8, 8, 8, 8, 8, 8, 8, 8, 8, 8, 8, 8, 8, 8, 8, 8, 8, 8, 8, 8, 8, 8, 8, 8, 8, 8, 8, 8, 8, 8, 8, 8, 8, 8, 8, 8, 8, 8, 8, 8, 8, 8, 8, 8, 8, 8, 8, 8, 8, 8, 8, 8, 8, 8, 8, 8, 8, 8, 8, 8, 8, 8, 8, 8, 8, 8, 8, 8, 8, 8, 8, 8, 8, 8, 8, 8, 8, 8, 8, 8, 8, 8, 8, 8, 8, 8, 8, 8, 8, 8, 8, 8, 8, 8, 8, 8, 8, 8, 8, 8, 8, 8, 8, 8, 8, 8, 8, 8, 8, 8, 8, 8]⟩ : ByteArray) (ji19)))))) else (none)) else (none)) = some r := by first | (rw [hji19] at H; exact H) | (simp only [hji19] at H ⊢; exact H)
          by_cases c20 : 0 ≤ (ji19)
          · rw [if_pos c20] at H
            have c20b0 : decide (0 ≤ (ji19)) = true := decide_eq_true c20
            clear c20
            by_cases c21 : (ji19) < 256
            · rw [if_pos c21] at H
              have c21b0 : decide ((ji19) < 256) = true := decide_eq_true c21
              clear c21
              obtain rfl := Option.some.inj H
              have p22 : 0 ≤ ((ji19) : Int) := of_decide_eq_true (by first | (with_reducible assumption) | assumption)
              have q22 : (ji19) < (256 : Int) := of_decide_eq_true (by first | (with_reducible assumption) | assumption)
              have hx22 := bt_at (⟨#[0, 1, 2, 2, 3, 3, 3, 3, 4, 4, 4, 4, 4, 4, 4, 4, 5, 5, 5, 5, 5, 5, 5, 5, 5, 5, 5, 5, 5, 5, 5, 5, 6, 6, 6, 6, 6, 6, 6, 6, 6, 6, 6, 6, 6, 6, 6, 6, 6, 6, 6, 6, 6, 6, 6, 6, 6, 6, 6, 6, 6, 6, 6, 6, 7, 7, 7, 7, 7, 7, 7, 7, 7, 7, 7, 7, 7, 7, 7, 7, 7, 7, 7, 7, 7, 7, 7, 7, 7, 7, 7, 7, 7, 7, 7, 7, 7, 7, 7, 7, 7, 7, 7, 7, 7, 7, 7, 7, 7, 7, 7, 7, 7, 7, 7, 7, 7, 7, 7, 7, 7, 7, 7, 7, 7, 7, 7, 7, 8, 8, 8, 8, 8, 8, 8, 8, 8, 8, 8, 8, 8, 8, 8, 8, 8, 8, 8, 8, 8, 8, 8, 8, 8, 8, 8, 8, 8, 8, 8, 8, 8, 8, 8, 8, 8, 8, 8, 8, 8, 8, 8, 8, 8, 8, 8, 8, 8, 8, 8, 8, 8, 8, 8, 8, 8, 8, 8, 8, 8, 8, 8, 8, 8, 8, 8, 8, 8, 8, 8, 8, 8, 8, 8, 8, 8, 8, 8, 8, 8, 8, 8, 8, 8, 8, 8, 8, 8, 8, 8, 8, 8, 8, 8, 8, 8, 8, 8, 8, 8, 8, 8, 8, 8, 8, 8, 8, 8, 8, 8, 8, 8, 8, 8, 8, 8, 8, 8, 8, 8, 8, 8, 8, 8, 8, 8, 8]⟩ : ByteArray) (ji19)
              replace p22 := eq_true p22
              replace q22 := eq_true q22
              go_wp2
              go_ret
              exact ⟨by first | rfl | (simp; done) | (simp only [← hji19] <;> (first | rfl | simp)) | (simp [*]; done), by repeat (first | exact Drawn0.refl _ | apply Drawn0.step)⟩
            · rw [if_neg c21] at H
              exact absurd H (by simp)
          · rw [if_neg c20] at H
            exact absurd H (by simp)

/-! ### strconv_bool2_int: function 35 -/
def strconv_bool2_int.f (a0 : Bool) : Option (Int) := if a0 = true then (some 1) else (some 0)
set_option maxHeartbeats 8000000 in
set_option maxRecDepth 100000 in
theorem strconv_bool2_int.calls (a0 : Bool) (r : Int) (w : World) (h : strconv_bool2_int.f a0 = some r) :
    Calls Tryd.prog 35 #[.bool a0] w fun e w' => e = .returned (.int .i64 r) ∧ Drawn0 w w' := by
  have H : (if a0 = true then (some 1) else (some 0)) = some r := h
  clear h
  by_cases c2 : a0 = true
  · subst c2
    have H1 : (some 1) = some r := by rw [if_pos rfl] at H; exact H
    clear H
    have H := H1
    clear H1
    obtain rfl := Option.some.inj H
    go_enter Tryd.func35, Tryd.ntmps35
    go_wp2
    go_ret
    exact ⟨by first | rfl | (simp; done) | (simp [*]; done), by repeat (first | exact Drawn0.refl _ | apply Drawn0.step)⟩
  · replace c2 := Bool.eq_false_iff.mpr c2
    subst c2
    have H1 : (some 0) = some r := by rw [if_neg (show ¬ (false = true) by decide)] at H; exact H
    clear H
    have H := H1
    clear H1
    obtain rfl := Option.some.inj H
    go_enter Tryd.func35, Tryd.ntmps35
    go_wp2
    go_ret
    exact ⟨by first | rfl | (simp; done) | (simp [*]; done), by repeat (first | exact Drawn0.refl _ | apply Drawn0.step)⟩

-- NOT PRINTED: function 30 (strconv_numDigits)

-- NOT PRINTED: function 31 (strconv_formatBase10)

/-! ### strconv_isPowerOfTwo: function 36 -/
def strconv_isPowerOfTwo.f (a0 : Int) : Option (Bool) := some ((Go.bits .and .i64 a0 (wrap64 (a0 - 1))) == 0)
set_option maxHeartbeats 8000000 in
set_option maxRecDepth 100000 in
theorem strconv_isPowerOfTwo.calls (a0 : Int) (r : Bool) (w : World) (h : strconv_isPowerOfTwo.f a0 = some r) :
    Calls Tryd.prog 36 #[.int .i64 a0] w fun e w' => e = .returned (.bool r) ∧ Drawn0 w w' := by
  have H : (some ((Go.bits .and .i64 a0 (wrap64 (a0 - 1))) == 0)) = some r := h
  clear h
  obtain rfl := Option.some.inj H
  go_enter Tryd.func36, Tryd.ntmps36
  go_wp2
  go_ret
  exact ⟨by first | rfl | (simp; done) | (simp [*]; done), by repeat (first | exact Drawn0.refl _ | apply Drawn0.step)⟩

-- NOT PRINTED: function 38 (bits_TrailingZeros32)

-- NOT PRINTED: function 39 (bits_TrailingZeros64)

-- NOT PRINTED: function 37 (bits_TrailingZeros)

-- NOT PRINTED: function 32 (strconv_formatBits)

end Go.Proofs.YtbemkokigpcmdaaDoor.MFnMtWith
