-- A trial text of this session.
import Derived.Test.YtjahkodciflgdaaGreatDoorVs2
import Derived.LoopN
namespace Go.Proofs.YtjahkodciflgdaaGreatDoor.MFnVtStringNumber
open Go.RowKit Go.Proofs.YtjahkodciflgdaaGreatDoorW.PrintWords Go.Proofs.YtjahkodciflgdaaGreatDoorW.PrintLast Go.Proofs.YtjahkodciflgdaaGreatDoorW.PrintMore
attribute [local go_sem] max2_int min2_int max_two min_two max_three min_three max_four min_four
set_option linter.unusedVariables false
set_option linter.unusedSimpArgs false

theorem inf52 : (Tryz.prog.info? 52).map (·.size) = some 1 := by kernel_rfl
theorem inf54 : (Tryz.prog.info? 54).map (·.size) = some 2 := by kernel_rfl
theorem up_heap {W w2 : World} (hb : Below W.heap.size W w2) {g : Nat} {o : Obj} (h : W.heap[g]? = some o) : w2.heap[g]? = some o := (hb.block g (Array.getElem?_eq_some_iff.1 h).1).trans h
theorem mv_facts {w w2 w3 : World} {o : Obj} (hb : Below ((w.alloc (.cells #[.string ⟨#[]⟩, .nilIface] 54)).alloc o).heap.size ((w.alloc (.cells #[.string ⟨#[]⟩, .nilIface] 54)).alloc o) w2) (hb3 : Below w2.heap.size w2 w3) :
    Aside0 (w3.heap[w.heap.size]? = some (.cells #[.string ⟨#[]⟩, .nilIface] 54 (0, 0)) ∧ Below w.heap.size w w3) ∧ w3.cell? ⟨w.heap.size, 0, none⟩ = some (.string ⟨#[]⟩) ∧ w3.cell? ⟨w.heap.size, 1, none⟩ = some .nilIface ∧ w3.frozen? ⟨w.heap.size, 0, none⟩ = false ∧ w3.frozen? ⟨w.heap.size, 1, none⟩ = false := by
  have hh : w3.heap[w.heap.size]? = some (.cells #[.string ⟨#[]⟩, .nilIface] 54 (0, 0)) := up_heap (below_step hb hb3) (by rw [heap_alloc_old _ _ (by simp)]; exact heap_alloc_new _ _)
  exact ⟨⟨hh, below_step (below_alloc (below_alloc (Below.refl _ _) _) _) (below_step hb hb3)⟩, (cell_of_row w3 _ 0 _ 54 (0, 0) hh).trans rfl, (cell_of_row w3 _ 1 _ 54 (0, 0) hh).trans rfl, frozen_of_row w3 _ 0 _ 54 hh, frozen_of_row w3 _ 1 _ 54 hh⟩
set_option maxRecDepth 100000 in
set_option maxHeartbeats 4000000 in
theorem so_y (x : Int) (w : World) (g t : Nat) (hg : w.heap[g]? = some (.cells #[.iface 5 (.int .u8 x)] t (0, 0))) : Calls Tryz.prog 27 #[.slice (some ⟨g, 0, none⟩) 1 1] w fun e w' => e = .returned (.agg #[.string ⟨#[121]⟩]) ∧ Below w.heap.size w w' := by
  have hlt : g < w.heap.size := (Array.getElem?_eq_some_iff.1 hg).1
  have hc : ∀ o : Obj, (w.alloc o).cell? ⟨g, 0, none⟩ = some (.iface 5 (.int .u8 x)) := fun o => (cell_of_row (w.alloc o) g 0 _ t (0, 0) ((heap_alloc_old _ _ hlt).trans hg)).trans rfl
  have HLT := Aside0.mk hlt
  clear hg hlt
  go_enter Tryz.func27, Tryz.ntmps27
  go_wp2
  refine wp_loop_rounds 2 ?_
  rw [rounds_succ]
  generalize hR : Code.rounds _ _ _ 1 = R1
  go_wp2_with (first | (go_at_call 38; refine (zt_y x _).mono ?_; rintro e w2 ⟨rfl, rfl⟩) | (go_at_call 37; refine (gs_y _ _ (heap_alloc2_new _ _ _)).mono ?_; rintro e w2 ⟨rfl, hb⟩))
  have hh : w2.heap[w.heap.size]? = some (.cells #[.string ⟨#[]⟩] 52 (0, 0)) := up_heap hb (by rw [heap_alloc_old _ _ (by simp)]; exact heap_alloc_new _ _)
  have hB : Below w.heap.size w w2 := below_step (below_alloc (below_alloc (Below.refl _ _) _) _) hb
  have hc2 : w2.cell? ⟨w.heap.size, 0, none⟩ = some (.string ⟨#[]⟩) := (cell_of_row w2 _ 0 _ 52 (0, 0) hh).trans rfl
  have hf2 := frozen_of_row w2 w.heap.size 0 _ 52 hh
  have HH := Aside0.mk hh
  have HB := Aside0.mk hB
  clear hh hB hb
  subst hR
  rw [rounds_succ]
  generalize hR : Code.rounds _ _ _ 0 = R1
  go_wp2
  refine bodyPost_ret (results_cell_row rfl _ _ w.heap.size 52 _ (0, 0) _ rfl (heap_setCell_same w2 w.heap.size 0 _ 52 _ HH.out) Tryz.underlying52 rfl inf52) rfl ?_
  exact ⟨rfl, HB.out.setCell (Nat.le_refl _) _⟩

set_option maxRecDepth 100000 in
set_option maxHeartbeats 4000000 in
theorem mw_y (x : Int) (w : World) : Calls Tryz.prog 26 #[.iface 5 (.int .u8 x), .agg #[.string ⟨#[121]⟩]] w fun e w' => e = .returned (.agg #[.string ⟨#[121]⟩, .iface 5 (.int .u8 x)]) ∧ Below w.heap.size w w' := by
  go_enter Tryz.func26, Tryz.ntmps26
  go_wp2
  refine bodyPost_ret (results_cell_row rfl _ _ (w.heap.size + 1) 54 _ (0, 0) _ rfl (heap_alloc2_new _ _ _) Tryz.underlying54 rfl inf54) rfl ?_
  exact ⟨rfl, below_alloc (below_alloc (Below.refl _ _) _) _⟩

set_option maxRecDepth 100000 in
set_option maxHeartbeats 4000000 in
theorem mv_y (x : Int) (w : World) : Calls Tryz.prog 18 #[.iface 5 (.int .u8 x)] w fun e w' => e = .returned (.agg #[.string ⟨#[121]⟩, .iface 5 (.int .u8 x)]) ∧ Below w.heap.size w w' := by
  go_enter Tryz.func18, Tryz.ntmps18
  go_wp2_with (first | (go_at_call 27; refine (so_y x _ _ _ (heap_alloc2_new _ _ _)).mono ?_; rintro e w2 ⟨rfl, hb⟩) | (go_at_call 26; refine (mw_y x _).mono ?_; rintro e w3 ⟨rfl, hb3⟩; obtain ⟨HH, hc0, hc1, hf0, hf1⟩ := mv_facts hb hb3; clear hb hb3))
  have hh := HH.out.1
  have h2 := heap_setCell_same _ w.heap.size 1 _ 54 (.iface 5 (.int .u8 x)) (heap_setCell_same w3 w.heap.size 0 _ 54 (.string ⟨#[121]⟩) hh)
  refine bodyPost_ret (results_cell_row rfl _ _ w.heap.size 54 _ (0, 0) _ rfl h2 Tryz.underlying54 rfl inf54) rfl ?_
  exact ⟨rfl, (HH.out.2.setCell (Nat.le_refl _) _).setCell (Nat.le_refl _) _⟩

set_option maxRecDepth 100000 in
set_option maxHeartbeats 4000000 in
theorem so_b (x : Bool) (w : World) (g t : Nat) (hg : w.heap[g]? = some (.cells #[.iface 4 (.bool x)] t (0, 0))) : Calls Tryz.prog 27 #[.slice (some ⟨g, 0, none⟩) 1 1] w fun e w' => e = .returned (.agg #[.string ⟨#[98]⟩]) ∧ Below w.heap.size w w' := by
  have hlt : g < w.heap.size := (Array.getElem?_eq_some_iff.1 hg).1
  have hc : ∀ o : Obj, (w.alloc o).cell? ⟨g, 0, none⟩ = some (.iface 4 (.bool x)) := fun o => (cell_of_row (w.alloc o) g 0 _ t (0, 0) ((heap_alloc_old _ _ hlt).trans hg)).trans rfl
  have HLT := Aside0.mk hlt
  clear hg hlt
  go_enter Tryz.func27, Tryz.ntmps27
  go_wp2
  refine wp_loop_rounds 2 ?_
  rw [rounds_succ]
  generalize hR : Code.rounds _ _ _ 1 = R1
  go_wp2_with (first | (go_at_call 38; refine (zt_b x _).mono ?_; rintro e w2 ⟨rfl, rfl⟩) | (go_at_call 37; refine (gs_b _ _ (heap_alloc2_new _ _ _)).mono ?_; rintro e w2 ⟨rfl, hb⟩))
  have hh : w2.heap[w.heap.size]? = some (.cells #[.string ⟨#[]⟩] 52 (0, 0)) := up_heap hb (by rw [heap_alloc_old _ _ (by simp)]; exact heap_alloc_new _ _)
  have hB : Below w.heap.size w w2 := below_step (below_alloc (below_alloc (Below.refl _ _) _) _) hb
  have hc2 : w2.cell? ⟨w.heap.size, 0, none⟩ = some (.string ⟨#[]⟩) := (cell_of_row w2 _ 0 _ 52 (0, 0) hh).trans rfl
  have hf2 := frozen_of_row w2 w.heap.size 0 _ 52 hh
  have HH := Aside0.mk hh
  have HB := Aside0.mk hB
  clear hh hB hb
  subst hR
  rw [rounds_succ]
  generalize hR : Code.rounds _ _ _ 0 = R1
  go_wp2
  refine bodyPost_ret (results_cell_row rfl _ _ w.heap.size 52 _ (0, 0) _ rfl (heap_setCell_same w2 w.heap.size 0 _ 52 _ HH.out) Tryz.underlying52 rfl inf52) rfl ?_
  exact ⟨rfl, HB.out.setCell (Nat.le_refl _) _⟩

set_option maxRecDepth 100000 in
set_option maxHeartbeats 4000000 in
theorem mw_b (x : Bool) (w : World) : Calls Tryz.prog 26 #[.iface 4 (.bool x), .agg #[.string ⟨#[98]⟩]] w fun e w' => e = .returned (.agg #[.string ⟨#[98]⟩, .iface 4 (.bool x)]) ∧ Below w.heap.size w w' := by
  go_enter Tryz.func26, Tryz.ntmps26
  go_wp2
  refine bodyPost_ret (results_cell_row rfl _ _ (w.heap.size + 1) 54 _ (0, 0) _ rfl (heap_alloc2_new _ _ _) Tryz.underlying54 rfl inf54) rfl ?_
  exact ⟨rfl, below_alloc (below_alloc (Below.refl _ _) _) _⟩

set_option maxRecDepth 100000 in
set_option maxHeartbeats 4000000 in
theorem mv_b (x : Bool) (w : World) : Calls Tryz.prog 18 #[.iface 4 (.bool x)] w fun e w' => e = .returned (.agg #[.string ⟨#[98]⟩, .iface 4 (.bool x)]) ∧ Below w.heap.size w w' := by
  go_enter Tryz.func18, Tryz.ntmps18
  go_wp2_with (first | (go_at_call 27; refine (so_b x _ _ _ (heap_alloc2_new _ _ _)).mono ?_; rintro e w2 ⟨rfl, hb⟩) | (go_at_call 26; refine (mw_b x _).mono ?_; rintro e w3 ⟨rfl, hb3⟩; obtain ⟨HH, hc0, hc1, hf0, hf1⟩ := mv_facts hb hb3; clear hb hb3))
  have hh := HH.out.1
  have h2 := heap_setCell_same _ w.heap.size 1 _ 54 (.iface 4 (.bool x)) (heap_setCell_same w3 w.heap.size 0 _ 54 (.string ⟨#[98]⟩) hh)
  refine bodyPost_ret (results_cell_row rfl _ _ w.heap.size 54 _ (0, 0) _ rfl h2 Tryz.underlying54 rfl inf54) rfl ?_
  exact ⟨rfl, (HH.out.2.setCell (Nat.le_refl _) _).setCell (Nat.le_refl _) _⟩

set_option maxRecDepth 100000 in
set_option maxHeartbeats 4000000 in
theorem so_n (x : Int) (w : World) (g t : Nat) (hg : w.heap[g]? = some (.cells #[.iface 36 (.int .i16 x)] t (0, 0))) : Calls Tryz.prog 27 #[.slice (some ⟨g, 0, none⟩) 1 1] w fun e w' => e = .returned (.agg #[.string ⟨#[110]⟩]) ∧ Below w.heap.size w w' := by
  have hlt : g < w.heap.size := (Array.getElem?_eq_some_iff.1 hg).1
  have hc : ∀ o : Obj, (w.alloc o).cell? ⟨g, 0, none⟩ = some (.iface 36 (.int .i16 x)) := fun o => (cell_of_row (w.alloc o) g 0 _ t (0, 0) ((heap_alloc_old _ _ hlt).trans hg)).trans rfl
  have HLT := Aside0.mk hlt
  clear hg hlt
  go_enter Tryz.func27, Tryz.ntmps27
  go_wp2
  refine wp_loop_rounds 2 ?_
  rw [rounds_succ]
  generalize hR : Code.rounds _ _ _ 1 = R1
  go_wp2_with (first | (go_at_call 38; refine (zt_n x _).mono ?_; rintro e w2 ⟨rfl, rfl⟩) | (go_at_call 37; refine (gs_n _ _ (heap_alloc2_new _ _ _)).mono ?_; rintro e w2 ⟨rfl, hb⟩))
  have hh : w2.heap[w.heap.size]? = some (.cells #[.string ⟨#[]⟩] 52 (0, 0)) := up_heap hb (by rw [heap_alloc_old _ _ (by simp)]; exact heap_alloc_new _ _)
  have hB : Below w.heap.size w w2 := below_step (below_alloc (below_alloc (Below.refl _ _) _) _) hb
  have hc2 : w2.cell? ⟨w.heap.size, 0, none⟩ = some (.string ⟨#[]⟩) := (cell_of_row w2 _ 0 _ 52 (0, 0) hh).trans rfl
  have hf2 := frozen_of_row w2 w.heap.size 0 _ 52 hh
  have HH := Aside0.mk hh
  have HB := Aside0.mk hB
  clear hh hB hb
  subst hR
  rw [rounds_succ]
  generalize hR : Code.rounds _ _ _ 0 = R1
  go_wp2
  refine bodyPost_ret (results_cell_row rfl _ _ w.heap.size 52 _ (0, 0) _ rfl (heap_setCell_same w2 w.heap.size 0 _ 52 _ HH.out) Tryz.underlying52 rfl inf52) rfl ?_
  exact ⟨rfl, HB.out.setCell (Nat.le_refl _) _⟩

set_option maxRecDepth 100000 in
set_option maxHeartbeats 4000000 in
theorem mw_n (x : Int) (w : World) : Calls Tryz.prog 26 #[.iface 36 (.int .i16 x), .agg #[.string ⟨#[110]⟩]] w fun e w' => e = .returned (.agg #[.string ⟨#[110]⟩, .iface 36 (.int .i16 x)]) ∧ Below w.heap.size w w' := by
  go_enter Tryz.func26, Tryz.ntmps26
  go_wp2
  refine bodyPost_ret (results_cell_row rfl _ _ (w.heap.size + 1) 54 _ (0, 0) _ rfl (heap_alloc2_new _ _ _) Tryz.underlying54 rfl inf54) rfl ?_
  exact ⟨rfl, below_alloc (below_alloc (Below.refl _ _) _) _⟩

set_option maxRecDepth 100000 in
set_option maxHeartbeats 4000000 in
theorem mv_n (x : Int) (w : World) : Calls Tryz.prog 18 #[.iface 36 (.int .i16 x)] w fun e w' => e = .returned (.agg #[.string ⟨#[110]⟩, .iface 36 (.int .i16 x)]) ∧ Below w.heap.size w w' := by
  go_enter Tryz.func18, Tryz.ntmps18
  go_wp2_with (first | (go_at_call 27; refine (so_n x _ _ _ (heap_alloc2_new _ _ _)).mono ?_; rintro e w2 ⟨rfl, hb⟩) | (go_at_call 26; refine (mw_n x _).mono ?_; rintro e w3 ⟨rfl, hb3⟩; obtain ⟨HH, hc0, hc1, hf0, hf1⟩ := mv_facts hb hb3; clear hb hb3))
  have hh := HH.out.1
  have h2 := heap_setCell_same _ w.heap.size 1 _ 54 (.iface 36 (.int .i16 x)) (heap_setCell_same w3 w.heap.size 0 _ 54 (.string ⟨#[110]⟩) hh)
  refine bodyPost_ret (results_cell_row rfl _ _ w.heap.size 54 _ (0, 0) _ rfl h2 Tryz.underlying54 rfl inf54) rfl ?_
  exact ⟨rfl, (HH.out.2.setCell (Nat.le_refl _) _).setCell (Nat.le_refl _) _⟩

set_option maxRecDepth 100000 in
set_option maxHeartbeats 4000000 in
theorem so_q (x : Int) (w : World) (g t : Nat) (hg : w.heap[g]? = some (.cells #[.iface 67 (.int .u16 x)] t (0, 0))) : Calls Tryz.prog 27 #[.slice (some ⟨g, 0, none⟩) 1 1] w fun e w' => e = .returned (.agg #[.string ⟨#[113]⟩]) ∧ Below w.heap.size w w' := by
  have hlt : g < w.heap.size := (Array.getElem?_eq_some_iff.1 hg).1
  have hc : ∀ o : Obj, (w.alloc o).cell? ⟨g, 0, none⟩ = some (.iface 67 (.int .u16 x)) := fun o => (cell_of_row (w.alloc o) g 0 _ t (0, 0) ((heap_alloc_old _ _ hlt).trans hg)).trans rfl
  have HLT := Aside0.mk hlt
  clear hg hlt
  go_enter Tryz.func27, Tryz.ntmps27
  go_wp2
  refine wp_loop_rounds 2 ?_
  rw [rounds_succ]
  generalize hR : Code.rounds _ _ _ 1 = R1
  go_wp2_with (first | (go_at_call 38; refine (zt_q x _).mono ?_; rintro e w2 ⟨rfl, rfl⟩) | (go_at_call 37; refine (gs_q _ _ (heap_alloc2_new _ _ _)).mono ?_; rintro e w2 ⟨rfl, hb⟩))
  have hh : w2.heap[w.heap.size]? = some (.cells #[.string ⟨#[]⟩] 52 (0, 0)) := up_heap hb (by rw [heap_alloc_old _ _ (by simp)]; exact heap_alloc_new _ _)
  have hB : Below w.heap.size w w2 := below_step (below_alloc (below_alloc (Below.refl _ _) _) _) hb
  have hc2 : w2.cell? ⟨w.heap.size, 0, none⟩ = some (.string ⟨#[]⟩) := (cell_of_row w2 _ 0 _ 52 (0, 0) hh).trans rfl
  have hf2 := frozen_of_row w2 w.heap.size 0 _ 52 hh
  have HH := Aside0.mk hh
  have HB := Aside0.mk hB
  clear hh hB hb
  subst hR
  rw [rounds_succ]
  generalize hR : Code.rounds _ _ _ 0 = R1
  go_wp2
  refine bodyPost_ret (results_cell_row rfl _ _ w.heap.size 52 _ (0, 0) _ rfl (heap_setCell_same w2 w.heap.size 0 _ 52 _ HH.out) Tryz.underlying52 rfl inf52) rfl ?_
  exact ⟨rfl, HB.out.setCell (Nat.le_refl _) _⟩

set_option maxRecDepth 100000 in
set_option maxHeartbeats 4000000 in
theorem mw_q (x : Int) (w : World) : Calls Tryz.prog 26 #[.iface 67 (.int .u16 x), .agg #[.string ⟨#[113]⟩]] w fun e w' => e = .returned (.agg #[.string ⟨#[113]⟩, .iface 67 (.int .u16 x)]) ∧ Below w.heap.size w w' := by
  go_enter Tryz.func26, Tryz.ntmps26
  go_wp2
  refine bodyPost_ret (results_cell_row rfl _ _ (w.heap.size + 1) 54 _ (0, 0) _ rfl (heap_alloc2_new _ _ _) Tryz.underlying54 rfl inf54) rfl ?_
  exact ⟨rfl, below_alloc (below_alloc (Below.refl _ _) _) _⟩

set_option maxRecDepth 100000 in
set_option maxHeartbeats 4000000 in
theorem mv_q (x : Int) (w : World) : Calls Tryz.prog 18 #[.iface 67 (.int .u16 x)] w fun e w' => e = .returned (.agg #[.string ⟨#[113]⟩, .iface 67 (.int .u16 x)]) ∧ Below w.heap.size w w' := by
  go_enter Tryz.func18, Tryz.ntmps18
  go_wp2_with (first | (go_at_call 27; refine (so_q x _ _ _ (heap_alloc2_new _ _ _)).mono ?_; rintro e w2 ⟨rfl, hb⟩) | (go_at_call 26; refine (mw_q x _).mono ?_; rintro e w3 ⟨rfl, hb3⟩; obtain ⟨HH, hc0, hc1, hf0, hf1⟩ := mv_facts hb hb3; clear hb hb3))
  have hh := HH.out.1
  have h2 := heap_setCell_same _ w.heap.size 1 _ 54 (.iface 67 (.int .u16 x)) (heap_setCell_same w3 w.heap.size 0 _ 54 (.string ⟨#[113]⟩) hh)
  refine bodyPost_ret (results_cell_row rfl _ _ w.heap.size 54 _ (0, 0) _ rfl h2 Tryz.underlying54 rfl inf54) rfl ?_
  exact ⟨rfl, (HH.out.2.setCell (Nat.le_refl _) _).setCell (Nat.le_refl _) _⟩

set_option maxRecDepth 100000 in
set_option maxHeartbeats 4000000 in
theorem so_i (x : Int) (w : World) (g t : Nat) (hg : w.heap[g]? = some (.cells #[.iface 21 (.int .i32 x)] t (0, 0))) : Calls Tryz.prog 27 #[.slice (some ⟨g, 0, none⟩) 1 1] w fun e w' => e = .returned (.agg #[.string ⟨#[105]⟩]) ∧ Below w.heap.size w w' := by
  have hlt : g < w.heap.size := (Array.getElem?_eq_some_iff.1 hg).1
  have hc : ∀ o : Obj, (w.alloc o).cell? ⟨g, 0, none⟩ = some (.iface 21 (.int .i32 x)) := fun o => (cell_of_row (w.alloc o) g 0 _ t (0, 0) ((heap_alloc_old _ _ hlt).trans hg)).trans rfl
  have HLT := Aside0.mk hlt
  clear hg hlt
  go_enter Tryz.func27, Tryz.ntmps27
  go_wp2
  refine wp_loop_rounds 2 ?_
  rw [rounds_succ]
  generalize hR : Code.rounds _ _ _ 1 = R1
  go_wp2_with (first | (go_at_call 38; refine (zt_i x _).mono ?_; rintro e w2 ⟨rfl, rfl⟩) | (go_at_call 37; refine (gs_i _ _ (heap_alloc2_new _ _ _)).mono ?_; rintro e w2 ⟨rfl, hb⟩))
  have hh : w2.heap[w.heap.size]? = some (.cells #[.string ⟨#[]⟩] 52 (0, 0)) := up_heap hb (by rw [heap_alloc_old _ _ (by simp)]; exact heap_alloc_new _ _)
  have hB : Below w.heap.size w w2 := below_step (below_alloc (below_alloc (Below.refl _ _) _) _) hb
  have hc2 : w2.cell? ⟨w.heap.size, 0, none⟩ = some (.string ⟨#[]⟩) := (cell_of_row w2 _ 0 _ 52 (0, 0) hh).trans rfl
  have hf2 := frozen_of_row w2 w.heap.size 0 _ 52 hh
  have HH := Aside0.mk hh
  have HB := Aside0.mk hB
  clear hh hB hb
  subst hR
  rw [rounds_succ]
  generalize hR : Code.rounds _ _ _ 0 = R1
  go_wp2
  refine bodyPost_ret (results_cell_row rfl _ _ w.heap.size 52 _ (0, 0) _ rfl (heap_setCell_same w2 w.heap.size 0 _ 52 _ HH.out) Tryz.underlying52 rfl inf52) rfl ?_
  exact ⟨rfl, HB.out.setCell (Nat.le_refl _) _⟩

set_option maxRecDepth 100000 in
set_option maxHeartbeats 4000000 in
theorem mw_i (x : Int) (w : World) : Calls Tryz.prog 26 #[.iface 21 (.int .i32 x), .agg #[.string ⟨#[105]⟩]] w fun e w' => e = .returned (.agg #[.string ⟨#[105]⟩, .iface 21 (.int .i32 x)]) ∧ Below w.heap.size w w' := by
  go_enter Tryz.func26, Tryz.ntmps26
  go_wp2
  refine bodyPost_ret (results_cell_row rfl _ _ (w.heap.size + 1) 54 _ (0, 0) _ rfl (heap_alloc2_new _ _ _) Tryz.underlying54 rfl inf54) rfl ?_
  exact ⟨rfl, below_alloc (below_alloc (Below.refl _ _) _) _⟩

set_option maxRecDepth 100000 in
set_option maxHeartbeats 4000000 in
theorem mv_i (x : Int) (w : World) : Calls Tryz.prog 18 #[.iface 21 (.int .i32 x)] w fun e w' => e = .returned (.agg #[.string ⟨#[105]⟩, .iface 21 (.int .i32 x)]) ∧ Below w.heap.size w w' := by
  go_enter Tryz.func18, Tryz.ntmps18
  go_wp2_with (first | (go_at_call 27; refine (so_i x _ _ _ (heap_alloc2_new _ _ _)).mono ?_; rintro e w2 ⟨rfl, hb⟩) | (go_at_call 26; refine (mw_i x _).mono ?_; rintro e w3 ⟨rfl, hb3⟩; obtain ⟨HH, hc0, hc1, hf0, hf1⟩ := mv_facts hb hb3; clear hb hb3))
  have hh := HH.out.1
  have h2 := heap_setCell_same _ w.heap.size 1 _ 54 (.iface 21 (.int .i32 x)) (heap_setCell_same w3 w.heap.size 0 _ 54 (.string ⟨#[105]⟩) hh)
  refine bodyPost_ret (results_cell_row rfl _ _ w.heap.size 54 _ (0, 0) _ rfl h2 Tryz.underlying54 rfl inf54) rfl ?_
  exact ⟨rfl, (HH.out.2.setCell (Nat.le_refl _) _).setCell (Nat.le_refl _) _⟩

set_option maxRecDepth 100000 in
set_option maxHeartbeats 4000000 in
theorem so_u (x : Int) (w : World) (g t : Nat) (hg : w.heap[g]? = some (.cells #[.iface 61 (.int .u32 x)] t (0, 0))) : Calls Tryz.prog 27 #[.slice (some ⟨g, 0, none⟩) 1 1] w fun e w' => e = .returned (.agg #[.string ⟨#[117]⟩]) ∧ Below w.heap.size w w' := by
  have hlt : g < w.heap.size := (Array.getElem?_eq_some_iff.1 hg).1
  have hc : ∀ o : Obj, (w.alloc o).cell? ⟨g, 0, none⟩ = some (.iface 61 (.int .u32 x)) := fun o => (cell_of_row (w.alloc o) g 0 _ t (0, 0) ((heap_alloc_old _ _ hlt).trans hg)).trans rfl
  have HLT := Aside0.mk hlt
  clear hg hlt
  go_enter Tryz.func27, Tryz.ntmps27
  go_wp2
  refine wp_loop_rounds 2 ?_
  rw [rounds_succ]
  generalize hR : Code.rounds _ _ _ 1 = R1
  go_wp2_with (first | (go_at_call 38; refine (zt_u x _).mono ?_; rintro e w2 ⟨rfl, rfl⟩) | (go_at_call 37; refine (gs_u _ _ (heap_alloc2_new _ _ _)).mono ?_; rintro e w2 ⟨rfl, hb⟩))
  have hh : w2.heap[w.heap.size]? = some (.cells #[.string ⟨#[]⟩] 52 (0, 0)) := up_heap hb (by rw [heap_alloc_old _ _ (by simp)]; exact heap_alloc_new _ _)
  have hB : Below w.heap.size w w2 := below_step (below_alloc (below_alloc (Below.refl _ _) _) _) hb
  have hc2 : w2.cell? ⟨w.heap.size, 0, none⟩ = some (.string ⟨#[]⟩) := (cell_of_row w2 _ 0 _ 52 (0, 0) hh).trans rfl
  have hf2 := frozen_of_row w2 w.heap.size 0 _ 52 hh
  have HH := Aside0.mk hh
  have HB := Aside0.mk hB
  clear hh hB hb
  subst hR
  rw [rounds_succ]
  generalize hR : Code.rounds _ _ _ 0 = R1
  go_wp2
  refine bodyPost_ret (results_cell_row rfl _ _ w.heap.size 52 _ (0, 0) _ rfl (heap_setCell_same w2 w.heap.size 0 _ 52 _ HH.out) Tryz.underlying52 rfl inf52) rfl ?_
  exact ⟨rfl, HB.out.setCell (Nat.le_refl _) _⟩

set_option maxRecDepth 100000 in
set_option maxHeartbeats 4000000 in
theorem mw_u (x : Int) (w : World) : Calls Tryz.prog 26 #[.iface 61 (.int .u32 x), .agg #[.string ⟨#[117]⟩]] w fun e w' => e = .returned (.agg #[.string ⟨#[117]⟩, .iface 61 (.int .u32 x)]) ∧ Below w.heap.size w w' := by
  go_enter Tryz.func26, Tryz.ntmps26
  go_wp2
  refine bodyPost_ret (results_cell_row rfl _ _ (w.heap.size + 1) 54 _ (0, 0) _ rfl (heap_alloc2_new _ _ _) Tryz.underlying54 rfl inf54) rfl ?_
  exact ⟨rfl, below_alloc (below_alloc (Below.refl _ _) _) _⟩

set_option maxRecDepth 100000 in
set_option maxHeartbeats 4000000 in
theorem mv_u (x : Int) (w : World) : Calls Tryz.prog 18 #[.iface 61 (.int .u32 x)] w fun e w' => e = .returned (.agg #[.string ⟨#[117]⟩, .iface 61 (.int .u32 x)]) ∧ Below w.heap.size w w' := by
  go_enter Tryz.func18, Tryz.ntmps18
  go_wp2_with (first | (go_at_call 27; refine (so_u x _ _ _ (heap_alloc2_new _ _ _)).mono ?_; rintro e w2 ⟨rfl, hb⟩) | (go_at_call 26; refine (mw_u x _).mono ?_; rintro e w3 ⟨rfl, hb3⟩; obtain ⟨HH, hc0, hc1, hf0, hf1⟩ := mv_facts hb hb3; clear hb hb3))
  have hh := HH.out.1
  have h2 := heap_setCell_same _ w.heap.size 1 _ 54 (.iface 61 (.int .u32 x)) (heap_setCell_same w3 w.heap.size 0 _ 54 (.string ⟨#[117]⟩) hh)
  refine bodyPost_ret (results_cell_row rfl _ _ w.heap.size 54 _ (0, 0) _ rfl h2 Tryz.underlying54 rfl inf54) rfl ?_
  exact ⟨rfl, (HH.out.2.setCell (Nat.le_refl _) _).setCell (Nat.le_refl _) _⟩

set_option maxRecDepth 100000 in
set_option maxHeartbeats 4000000 in
theorem so_x (x : Int) (w : World) (g t : Nat) (hg : w.heap[g]? = some (.cells #[.iface 2 (.int .i64 x)] t (0, 0))) : Calls Tryz.prog 27 #[.slice (some ⟨g, 0, none⟩) 1 1] w fun e w' => e = .returned (.agg #[.string ⟨#[120]⟩]) ∧ Below w.heap.size w w' := by
  have hlt : g < w.heap.size := (Array.getElem?_eq_some_iff.1 hg).1
  have hc : ∀ o : Obj, (w.alloc o).cell? ⟨g, 0, none⟩ = some (.iface 2 (.int .i64 x)) := fun o => (cell_of_row (w.alloc o) g 0 _ t (0, 0) ((heap_alloc_old _ _ hlt).trans hg)).trans rfl
  have HLT := Aside0.mk hlt
  clear hg hlt
  go_enter Tryz.func27, Tryz.ntmps27
  go_wp2
  refine wp_loop_rounds 2 ?_
  rw [rounds_succ]
  generalize hR : Code.rounds _ _ _ 1 = R1
  go_wp2_with (first | (go_at_call 38; refine (zt_x x _).mono ?_; rintro e w2 ⟨rfl, rfl⟩) | (go_at_call 37; refine (gs_x _ _ (heap_alloc2_new _ _ _)).mono ?_; rintro e w2 ⟨rfl, hb⟩))
  have hh : w2.heap[w.heap.size]? = some (.cells #[.string ⟨#[]⟩] 52 (0, 0)) := up_heap hb (by rw [heap_alloc_old _ _ (by simp)]; exact heap_alloc_new _ _)
  have hB : Below w.heap.size w w2 := below_step (below_alloc (below_alloc (Below.refl _ _) _) _) hb
  have hc2 : w2.cell? ⟨w.heap.size, 0, none⟩ = some (.string ⟨#[]⟩) := (cell_of_row w2 _ 0 _ 52 (0, 0) hh).trans rfl
  have hf2 := frozen_of_row w2 w.heap.size 0 _ 52 hh
  have HH := Aside0.mk hh
  have HB := Aside0.mk hB
  clear hh hB hb
  subst hR
  rw [rounds_succ]
  generalize hR : Code.rounds _ _ _ 0 = R1
  go_wp2
  refine bodyPost_ret (results_cell_row rfl _ _ w.heap.size 52 _ (0, 0) _ rfl (heap_setCell_same w2 w.heap.size 0 _ 52 _ HH.out) Tryz.underlying52 rfl inf52) rfl ?_
  exact ⟨rfl, HB.out.setCell (Nat.le_refl _) _⟩

set_option maxRecDepth 100000 in
set_option maxHeartbeats 4000000 in
theorem mw_x (x : Int) (w : World) : Calls Tryz.prog 26 #[.iface 2 (.int .i64 x), .agg #[.string ⟨#[120]⟩]] w fun e w' => e = .returned (.agg #[.string ⟨#[120]⟩, .iface 2 (.int .i64 x)]) ∧ Below w.heap.size w w' := by
  go_enter Tryz.func26, Tryz.ntmps26
  go_wp2
  refine bodyPost_ret (results_cell_row rfl _ _ (w.heap.size + 1) 54 _ (0, 0) _ rfl (heap_alloc2_new _ _ _) Tryz.underlying54 rfl inf54) rfl ?_
  exact ⟨rfl, below_alloc (below_alloc (Below.refl _ _) _) _⟩

set_option maxRecDepth 100000 in
set_option maxHeartbeats 4000000 in
theorem mv_x (x : Int) (w : World) : Calls Tryz.prog 18 #[.iface 2 (.int .i64 x)] w fun e w' => e = .returned (.agg #[.string ⟨#[120]⟩, .iface 2 (.int .i64 x)]) ∧ Below w.heap.size w w' := by
  go_enter Tryz.func18, Tryz.ntmps18
  go_wp2_with (first | (go_at_call 27; refine (so_x x _ _ _ (heap_alloc2_new _ _ _)).mono ?_; rintro e w2 ⟨rfl, hb⟩) | (go_at_call 26; refine (mw_x x _).mono ?_; rintro e w3 ⟨rfl, hb3⟩; obtain ⟨HH, hc0, hc1, hf0, hf1⟩ := mv_facts hb hb3; clear hb hb3))
  have hh := HH.out.1
  have h2 := heap_setCell_same _ w.heap.size 1 _ 54 (.iface 2 (.int .i64 x)) (heap_setCell_same w3 w.heap.size 0 _ 54 (.string ⟨#[120]⟩) hh)
  refine bodyPost_ret (results_cell_row rfl _ _ w.heap.size 54 _ (0, 0) _ rfl h2 Tryz.underlying54 rfl inf54) rfl ?_
  exact ⟨rfl, (HH.out.2.setCell (Nat.le_refl _) _).setCell (Nat.le_refl _) _⟩

set_option maxRecDepth 100000 in
set_option maxHeartbeats 4000000 in
theorem so_t (x : Int) (w : World) (g t : Nat) (hg : w.heap[g]? = some (.cells #[.iface 22 (.int .u64 x)] t (0, 0))) : Calls Tryz.prog 27 #[.slice (some ⟨g, 0, none⟩) 1 1] w fun e w' => e = .returned (.agg #[.string ⟨#[116]⟩]) ∧ Below w.heap.size w w' := by
  have hlt : g < w.heap.size := (Array.getElem?_eq_some_iff.1 hg).1
  have hc : ∀ o : Obj, (w.alloc o).cell? ⟨g, 0, none⟩ = some (.iface 22 (.int .u64 x)) := fun o => (cell_of_row (w.alloc o) g 0 _ t (0, 0) ((heap_alloc_old _ _ hlt).trans hg)).trans rfl
  have HLT := Aside0.mk hlt
  clear hg hlt
  go_enter Tryz.func27, Tryz.ntmps27
  go_wp2
  refine wp_loop_rounds 2 ?_
  rw [rounds_succ]
  generalize hR : Code.rounds _ _ _ 1 = R1
  go_wp2_with (first | (go_at_call 38; refine (zt_t x _).mono ?_; rintro e w2 ⟨rfl, rfl⟩) | (go_at_call 37; refine (gs_t _ _ (heap_alloc2_new _ _ _)).mono ?_; rintro e w2 ⟨rfl, hb⟩))
  have hh : w2.heap[w.heap.size]? = some (.cells #[.string ⟨#[]⟩] 52 (0, 0)) := up_heap hb (by rw [heap_alloc_old _ _ (by simp)]; exact heap_alloc_new _ _)
  have hB : Below w.heap.size w w2 := below_step (below_alloc (below_alloc (Below.refl _ _) _) _) hb
  have hc2 : w2.cell? ⟨w.heap.size, 0, none⟩ = some (.string ⟨#[]⟩) := (cell_of_row w2 _ 0 _ 52 (0, 0) hh).trans rfl
  have hf2 := frozen_of_row w2 w.heap.size 0 _ 52 hh
  have HH := Aside0.mk hh
  have HB := Aside0.mk hB
  clear hh hB hb
  subst hR
  rw [rounds_succ]
  generalize hR : Code.rounds _ _ _ 0 = R1
  go_wp2
  refine bodyPost_ret (results_cell_row rfl _ _ w.heap.size 52 _ (0, 0) _ rfl (heap_setCell_same w2 w.heap.size 0 _ 52 _ HH.out) Tryz.underlying52 rfl inf52) rfl ?_
  exact ⟨rfl, HB.out.setCell (Nat.le_refl _) _⟩

set_option maxRecDepth 100000 in
set_option maxHeartbeats 4000000 in
theorem mw_t (x : Int) (w : World) : Calls Tryz.prog 26 #[.iface 22 (.int .u64 x), .agg #[.string ⟨#[116]⟩]] w fun e w' => e = .returned (.agg #[.string ⟨#[116]⟩, .iface 22 (.int .u64 x)]) ∧ Below w.heap.size w w' := by
  go_enter Tryz.func26, Tryz.ntmps26
  go_wp2
  refine bodyPost_ret (results_cell_row rfl _ _ (w.heap.size + 1) 54 _ (0, 0) _ rfl (heap_alloc2_new _ _ _) Tryz.underlying54 rfl inf54) rfl ?_
  exact ⟨rfl, below_alloc (below_alloc (Below.refl _ _) _) _⟩

set_option maxRecDepth 100000 in
set_option maxHeartbeats 4000000 in
theorem mv_t (x : Int) (w : World) : Calls Tryz.prog 18 #[.iface 22 (.int .u64 x)] w fun e w' => e = .returned (.agg #[.string ⟨#[116]⟩, .iface 22 (.int .u64 x)]) ∧ Below w.heap.size w w' := by
  go_enter Tryz.func18, Tryz.ntmps18
  go_wp2_with (first | (go_at_call 27; refine (so_t x _ _ _ (heap_alloc2_new _ _ _)).mono ?_; rintro e w2 ⟨rfl, hb⟩) | (go_at_call 26; refine (mw_t x _).mono ?_; rintro e w3 ⟨rfl, hb3⟩; obtain ⟨HH, hc0, hc1, hf0, hf1⟩ := mv_facts hb hb3; clear hb hb3))
  have hh := HH.out.1
  have h2 := heap_setCell_same _ w.heap.size 1 _ 54 (.iface 22 (.int .u64 x)) (heap_setCell_same w3 w.heap.size 0 _ 54 (.string ⟨#[116]⟩) hh)
  refine bodyPost_ret (results_cell_row rfl _ _ w.heap.size 54 _ (0, 0) _ rfl h2 Tryz.underlying54 rfl inf54) rfl ?_
  exact ⟨rfl, (HH.out.2.setCell (Nat.le_refl _) _).setCell (Nat.le_refl _) _⟩

set_option maxRecDepth 100000 in
set_option maxHeartbeats 4000000 in
theorem so_h (x : Int) (w : World) (g t : Nat) (hg : w.heap[g]? = some (.cells #[.iface 71 (.int .u32 x)] t (0, 0))) : Calls Tryz.prog 27 #[.slice (some ⟨g, 0, none⟩) 1 1] w fun e w' => e = .returned (.agg #[.string ⟨#[104]⟩]) ∧ Below w.heap.size w w' := by
  have hlt : g < w.heap.size := (Array.getElem?_eq_some_iff.1 hg).1
  have hc : ∀ o : Obj, (w.alloc o).cell? ⟨g, 0, none⟩ = some (.iface 71 (.int .u32 x)) := fun o => (cell_of_row (w.alloc o) g 0 _ t (0, 0) ((heap_alloc_old _ _ hlt).trans hg)).trans rfl
  have HLT := Aside0.mk hlt
  clear hg hlt
  go_enter Tryz.func27, Tryz.ntmps27
  go_wp2
  refine wp_loop_rounds 2 ?_
  rw [rounds_succ]
  generalize hR : Code.rounds _ _ _ 1 = R1
  go_wp2_with (first | (go_at_call 38; refine (zt_h x _).mono ?_; rintro e w2 ⟨rfl, rfl⟩) | (go_at_call 37; refine (gs_h _ _ (heap_alloc2_new _ _ _)).mono ?_; rintro e w2 ⟨rfl, hb⟩))
  have hh : w2.heap[w.heap.size]? = some (.cells #[.string ⟨#[]⟩] 52 (0, 0)) := up_heap hb (by rw [heap_alloc_old _ _ (by simp)]; exact heap_alloc_new _ _)
  have hB : Below w.heap.size w w2 := below_step (below_alloc (below_alloc (Below.refl _ _) _) _) hb
  have hc2 : w2.cell? ⟨w.heap.size, 0, none⟩ = some (.string ⟨#[]⟩) := (cell_of_row w2 _ 0 _ 52 (0, 0) hh).trans rfl
  have hf2 := frozen_of_row w2 w.heap.size 0 _ 52 hh
  have HH := Aside0.mk hh
  have HB := Aside0.mk hB
  clear hh hB hb
  subst hR
  rw [rounds_succ]
  generalize hR : Code.rounds _ _ _ 0 = R1
  go_wp2
  refine bodyPost_ret (results_cell_row rfl _ _ w.heap.size 52 _ (0, 0) _ rfl (heap_setCell_same w2 w.heap.size 0 _ 52 _ HH.out) Tryz.underlying52 rfl inf52) rfl ?_
  exact ⟨rfl, HB.out.setCell (Nat.le_refl _) _⟩

set_option maxRecDepth 100000 in
set_option maxHeartbeats 4000000 in
theorem mw_h (x : Int) (w : World) : Calls Tryz.prog 26 #[.iface 71 (.int .u32 x), .agg #[.string ⟨#[104]⟩]] w fun e w' => e = .returned (.agg #[.string ⟨#[104]⟩, .iface 71 (.int .u32 x)]) ∧ Below w.heap.size w w' := by
  go_enter Tryz.func26, Tryz.ntmps26
  go_wp2
  refine bodyPost_ret (results_cell_row rfl _ _ (w.heap.size + 1) 54 _ (0, 0) _ rfl (heap_alloc2_new _ _ _) Tryz.underlying54 rfl inf54) rfl ?_
  exact ⟨rfl, below_alloc (below_alloc (Below.refl _ _) _) _⟩

set_option maxRecDepth 100000 in
set_option maxHeartbeats 4000000 in
theorem mv_h (x : Int) (w : World) : Calls Tryz.prog 18 #[.iface 71 (.int .u32 x)] w fun e w' => e = .returned (.agg #[.string ⟨#[104]⟩, .iface 71 (.int .u32 x)]) ∧ Below w.heap.size w w' := by
  go_enter Tryz.func18, Tryz.ntmps18
  go_wp2_with (first | (go_at_call 27; refine (so_h x _ _ _ (heap_alloc2_new _ _ _)).mono ?_; rintro e w2 ⟨rfl, hb⟩) | (go_at_call 26; refine (mw_h x _).mono ?_; rintro e w3 ⟨rfl, hb3⟩; obtain ⟨HH, hc0, hc1, hf0, hf1⟩ := mv_facts hb hb3; clear hb hb3))
  have hh := HH.out.1
  have h2 := heap_setCell_same _ w.heap.size 1 _ 54 (.iface 71 (.int .u32 x)) (heap_setCell_same w3 w.heap.size 0 _ 54 (.string ⟨#[104]⟩) hh)
  refine bodyPost_ret (results_cell_row rfl _ _ w.heap.size 54 _ (0, 0) _ rfl h2 Tryz.underlying54 rfl inf54) rfl ?_
  exact ⟨rfl, (HH.out.2.setCell (Nat.le_refl _) _).setCell (Nat.le_refl _) _⟩



end Go.Proofs.YtjahkodciflgdaaGreatDoor.MFnVtStringNumber
