-- A trial text of this session.
import Derived.Test.YtjahkodciflgdaaGreatDoorVs6
namespace Go.Proofs.YtjahkodciflgdaaGreatDoor.MFnVtStringNumber
open Go.RowKit Go.Proofs.YtjahkodciflgdaaGreatDoorW.PrintWords Go.Proofs.YtjahkodciflgdaaGreatDoorW.PrintLast Go.Proofs.YtjahkodciflgdaaGreatDoorW.PrintMore
attribute [local go_sem] max2_int min2_int max_two min_two max_three min_three max_four min_four
set_option linter.unusedVariables false
set_option linter.unusedSimpArgs false

/-- A whole number in two's complement of 64 bits. -/
def nx (x : Int) : Int := if x < 0 then x + 18446744073709551616 else x
def bN (b : Bool) : Int := if b then 1 else 0
theorem inf43 : (Tryz.prog.info? 43).map (·.size) = some 4 := by kernel_rfl
theorem heap_alloc3_mid (w : World) (A B C : Obj) : (((w.alloc A).alloc B).alloc C).heap[w.heap.size + 1]? = some B := by rw [heap_alloc_old _ _ (by simp)]; exact heap_alloc2_new _ _ _
theorem vi_facts {w w2 w3 : World} {o : Obj} (hb : Below ((w.alloc o).alloc o).heap.size ((w.alloc o).alloc o) w2) (hb3 : Below w2.heap.size w2 w3) : Below w.heap.size w w3 :=
  below_step (below_alloc (below_alloc (Below.refl _ _) _) _) (below_step hb hb3)
set_option maxRecDepth 100000 in
set_option maxHeartbeats 4000000 in
theorem vi_calls (c n : Int) (w : World) : Calls Tryz.prog 12 #[.agg #[.int .u8 c, .int .u64 n, .string ⟨#[]⟩, .slice none 0 0]] w fun e w' => e = .returned (.agg #[.int .u8 c, .int .u64 n, .string ⟨#[]⟩, .slice none 0 0]) ∧ Below w.heap.size w w' := by
  go_enter Tryz.func12, Tryz.ntmps12
  go_wp2
  refine wp_loop_rounds 1 ?_
  rw [rounds_succ]
  generalize hR : Code.rounds _ _ _ 0 = R1
  go_wp2
  refine bodyPost_ret (results_cell_row rfl _ _ (w.heap.size + 1) 43 _ (0, 0) _ rfl (heap_alloc3_mid _ _ _ _) Tryz.underlying43 rfl inf43) rfl ?_
  exact ⟨rfl, below_alloc (below_alloc (below_alloc (Below.refl _ _) _) _) _⟩
theorem ds_idle (p q : Addr) (w : World) : CallsD Tryz.prog 17 #[.pointer (some p), .pointer (some q)] .returning w fun e u' w' => e = .returned (.tuple #[]) ∧ u' = .returning ∧ w' = w := by
  refine callsD_of_wpS Tryz.func17 rfl fun c₀ cs hu => ?_
  apply wpS_seq
  apply wpS_region
  simp [wpOpsS, go_sem, recoverD, hu, Tryz.ntmps17, Exit.thenS]
  refine wpS_cond (t := false) (by simp [Act.eval, Array.replicate]) ?_
  simp only [Bool.false_eq_true, if_false]
  refine wpS_of_wp (wp_skip ?_)
  cases c₀
  simp_all [bodyPostS, results, Tryz.results17]
theorem heap_alloc3_new (w : World) (A B C : Obj) : (((w.alloc A).alloc B).alloc C).heap[w.heap.size + 1 + 1]? = some C := by
  have h := heap_alloc_new ((w.alloc A).alloc B) C
  simpa using h
theorem ds_facts {w w2 w3 w4 : World} {A : Obj} (h1 : Below (((w.alloc A).alloc (.cells #[.string ⟨#[]⟩] 9)).alloc (.cells #[.nilIface] 38)).heap.size (((w.alloc A).alloc (.cells #[.string ⟨#[]⟩] 9)).alloc (.cells #[.nilIface] 38)) w2) (h2 : Below w2.heap.size w2 w3) (h3 : Below w3.heap.size w3 w4) :
    w4.cell? ⟨w.heap.size + 1, 0, none⟩ = some (.string ⟨#[]⟩) ∧ w4.cell? ⟨w.heap.size + 1 + 1, 0, none⟩ = some .nilIface ∧ w4.frozen? ⟨w.heap.size + 1, 0, none⟩ = false ∧ w4.frozen? ⟨w.heap.size + 1 + 1, 0, none⟩ = false ∧ Aside0 (Below w.heap.size w w4) := by
  have hb := below_step h1 (below_step h2 h3)
  have g0 := up_heap hb (heap_alloc3_mid _ _ _ _)
  have g1 := up_heap hb (heap_alloc3_new _ _ _ _)
  exact ⟨(cell_of_row w4 _ 0 _ 9 (0, 0) g0).trans rfl, (cell_of_row w4 _ 0 _ 38 (0, 0) g1).trans rfl, frozen_of_row w4 _ 0 _ 9 g0, frozen_of_row w4 _ 0 _ 38 g1, ⟨below_step (below_alloc (below_alloc (below_alloc (Below.refl _ _) _) _) _) hb⟩⟩
theorem ds_end {w w4 : World} {r : ByteArray} (hc0 : w4.cell? ⟨w.heap.size + 1, 0, none⟩ = some (.string ⟨#[]⟩)) (hc1 : w4.cell? ⟨w.heap.size + 1 + 1, 0, none⟩ = some .nilIface) (hB : Below w.heap.size w w4) :
    ((w4.setCell ⟨w.heap.size + 1, 0, none⟩ (.string r)).setCell ⟨w.heap.size + 1 + 1, 0, none⟩ .nilIface).cell? ⟨w.heap.size + 1, 0, none⟩ = some (.string r) ∧ ((w4.setCell ⟨w.heap.size + 1, 0, none⟩ (.string r)).setCell ⟨w.heap.size + 1 + 1, 0, none⟩ .nilIface).cell? ⟨w.heap.size + 1 + 1, 0, none⟩ = some .nilIface ∧ Below w.heap.size w ((w4.setCell ⟨w.heap.size + 1, 0, none⟩ (.string r)).setCell ⟨w.heap.size + 1 + 1, 0, none⟩ .nilIface) := by
  refine ⟨?_, ?_, (hB.setCell (by show w.heap.size ≤ w.heap.size + 1; omega) _).setCell (by show w.heap.size ≤ w.heap.size + 1 + 1; omega) _⟩
  · rw [World.cell?_setCell_other (h := by intro e; injection e with e; omega)]
    exact World.cell?_setCell_same _ _ _ hc0
  · exact World.cell?_setCell_same _ _ _ ((World.cell?_setCell_other _ _ _ _ (by intro e; injection e with e; omega)).trans hc1)
set_option maxRecDepth 100000 in
set_option maxHeartbeats 4000000 in
theorem di_y (x : Nat) (hx : x < 256) (w : World) : Calls Tryz.prog 19 #[(.agg #[.int .u8 121, .int .u64 (x : Int), .string ⟨#[]⟩, .slice none 0 0])] w fun e w' => e = .returned (.iface 5 (.int .u8 (x : Int))) ∧ Below w.heap.size w w' := by
  have hw : IntKind.u8.wrap (x : Int) = (x : Int) := by simp [IntKind.wrap, IntKind.bits, IntKind.signed]; omega
  go_enter Tryz.func19, Tryz.ntmps19
  go_wp2
  go_ret
  exact ⟨by simp [hw], below_alloc (Below.refl _ _) _⟩
set_option maxRecDepth 100000 in
set_option maxHeartbeats 4000000 in
theorem ds_y (x : Nat) (hx : x < 256) (w : World) (hG : Gt w) : Calls Tryz.prog 11 #[(.agg #[.int .u8 121, .int .u64 (x : Int), .string ⟨#[]⟩, .slice none 0 0])] w fun e w' => e = .returned (.tuple #[.string (⟨#[64]⟩ ++ ⟨#[121]⟩ ++ ⟨#[32]⟩ ++ (⟨#[48, 120]⟩ ++ ⟨(digs 16 x).toArray⟩)), .nilIface]) ∧ Below w.heap.size w w' := by
  have hmf : ∀ (fn : Fn) (first cap : Array Value) (w : World), (Instr.makeFunc fn first cap).run Tryz.prog w = .ok (.func fn first cap) w := fun _ _ _ _ => rfl
  have HT := Aside0.mk hG
  clear hG
  have HS := Aside0.mk (fun W => st_y x hx W)
  have HI := Aside0.mk (fun W => di_y x hx W)
  go_enter_defers Tryz.func11, Tryz.ntmps11
  go_wp2_with (first | (go_at_call 19; refine (HI.out _).mono ?_; rintro e w2 ⟨rfl, hb2⟩; have H2 := Aside0.mk hb2; clear hb2) | (go_at_call 18; refine (mv_y _ _).mono ?_; rintro e w3 ⟨rfl, hb3⟩; have H3 := Aside0.mk hb3; clear hb3) | (go_at_call 20; refine (HS.out _ (HT.out.up (below_step (below_alloc (below_alloc (below_alloc (Below.refl _ _) _) _) _) (below_step H2.out H3.out)))).mono ?_; rintro e w4 ⟨rfl, hb4⟩; obtain ⟨hc0, hc1, hf0, hf1, HB⟩ := ds_facts H2.out H3.out hb4; clear hb4))
  have D := ds_end (r := (⟨#[64]⟩ ++ ⟨#[121]⟩ ++ ⟨#[32]⟩ ++ (⟨#[48, 120]⟩ ++ ⟨(digs 16 x).toArray⟩))) hc0 hc1 HB.out
  clear hc0 hc1 hf0 hf1
  refine leaves_cons (f := 17) (args := #[.pointer (some ⟨w.heap.size + 1, 0, none⟩), .pointer (some ⟨w.heap.size + 1 + 1, 0, none⟩)]) (by simp) (by simp [go_sem]) ?_
  refine (ds_idle _ _ _).mono ?_
  rintro e u' w'' ⟨rfl, rfl, hw⟩
  rw [← hw] at D
  clear hw
  obtain ⟨d6, d7, hbb⟩ := D
  simp [Leaves, settle, results, Tryz.results11, go_sem, d6, d7]
  exact hbb
set_option maxRecDepth 100000 in
set_option maxHeartbeats 4000000 in
theorem vs_y (x : Nat) (hx : x < 256) (w : World) (hG : Gt w) : Calls Tryz.prog 8 #[(.agg #[.int .u8 121, .int .u64 (x : Int), .string ⟨#[]⟩, .slice none 0 0])] w fun e w' => e = .returned (.tuple #[.string (⟨#[64]⟩ ++ ⟨#[121]⟩ ++ ⟨#[32]⟩ ++ (⟨#[48, 120]⟩ ++ ⟨(digs 16 x).toArray⟩)), .bool true]) ∧ Below w.heap.size w w' := by
  have HT := Aside0.mk hG
  clear hG
  have HS := Aside0.mk (fun W => ds_y x hx W)
  go_enter Tryz.func8, Tryz.ntmps8
  go_wp2_with (first | (go_at_call 12; refine (vi_calls _ _ _).mono ?_; rintro e w2 ⟨rfl, hb2⟩; have H2 := Aside0.mk hb2; clear hb2) | (go_at_call 11; refine (HS.out _ (HT.out.up (below_step (below_alloc (Below.refl _ _) _) H2.out))).mono ?_; rintro e w4 ⟨rfl, hb4⟩; have HB := Aside0.mk (below_step (below_alloc (Below.refl _ _) _) (below_step H2.out hb4)); clear hb4))
  go_region
  all_goals
    go_wp2
    go_ret2
    exact ⟨rfl, by repeat (first | exact HB.out | apply below_drew1 | apply pw_below_drewN)⟩
set_option maxRecDepth 100000 in
set_option maxHeartbeats 4000000 in
theorem di_b (x : Bool) (w : World) : Calls Tryz.prog 19 #[(.agg #[.int .u8 98, .int .u64 (bN x), .string ⟨#[]⟩, .slice none 0 0])] w fun e w' => e = .returned (.iface 4 (.bool x)) ∧ Below w.heap.size w w' := by
  cases x
  all_goals
    simp only [bN, if_true, if_false, Bool.false_eq_true]
    go_enter Tryz.func19, Tryz.ntmps19
    go_wp2
    go_ret
    exact ⟨by simp [bN], below_alloc (Below.refl _ _) _⟩
set_option maxRecDepth 100000 in
set_option maxHeartbeats 4000000 in
theorem ds_b (x : Bool) (w : World)  : Calls Tryz.prog 11 #[(.agg #[.int .u8 98, .int .u64 (bN x), .string ⟨#[]⟩, .slice none 0 0])] w fun e w' => e = .returned (.tuple #[.string (bTxt x), .nilIface]) ∧ Below w.heap.size w w' := by
  have hmf : ∀ (fn : Fn) (first cap : Array Value) (w : World), (Instr.makeFunc fn first cap).run Tryz.prog w = .ok (.func fn first cap) w := fun _ _ _ _ => rfl
  have HS := Aside0.mk (fun W => st_b x W)
  have HI := Aside0.mk (fun W => di_b x W)
  go_enter_defers Tryz.func11, Tryz.ntmps11
  go_wp2_with (first | (go_at_call 19; refine (HI.out _).mono ?_; rintro e w2 ⟨rfl, hb2⟩; have H2 := Aside0.mk hb2; clear hb2) | (go_at_call 18; refine (mv_b _ _).mono ?_; rintro e w3 ⟨rfl, hb3⟩; have H3 := Aside0.mk hb3; clear hb3) | (go_at_call 20; refine (HS.out _).mono ?_; rintro e w4 ⟨rfl, hb4⟩; obtain ⟨hc0, hc1, hf0, hf1, HB⟩ := ds_facts H2.out H3.out hb4; clear hb4))
  have D := ds_end (r := (bTxt x)) hc0 hc1 HB.out
  clear hc0 hc1 hf0 hf1
  refine leaves_cons (f := 17) (args := #[.pointer (some ⟨w.heap.size + 1, 0, none⟩), .pointer (some ⟨w.heap.size + 1 + 1, 0, none⟩)]) (by simp) (by simp [go_sem]) ?_
  refine (ds_idle _ _ _).mono ?_
  rintro e u' w'' ⟨rfl, rfl, hw⟩
  rw [← hw] at D
  clear hw
  obtain ⟨d6, d7, hbb⟩ := D
  simp [Leaves, settle, results, Tryz.results11, go_sem, d6, d7]
  exact hbb
set_option maxRecDepth 100000 in
set_option maxHeartbeats 4000000 in
theorem vs_b (x : Bool) (w : World)  : Calls Tryz.prog 8 #[(.agg #[.int .u8 98, .int .u64 (bN x), .string ⟨#[]⟩, .slice none 0 0])] w fun e w' => e = .returned (.tuple #[.string (bTxt x), .bool true]) ∧ Below w.heap.size w w' := by
  have HS := Aside0.mk (fun W => ds_b x W)
  go_enter Tryz.func8, Tryz.ntmps8
  go_wp2_with (first | (go_at_call 12; refine (vi_calls _ _ _).mono ?_; rintro e w2 ⟨rfl, hb2⟩; have H2 := Aside0.mk hb2; clear hb2) | (go_at_call 11; refine (HS.out _).mono ?_; rintro e w4 ⟨rfl, hb4⟩; have HB := Aside0.mk (below_step (below_alloc (Below.refl _ _) _) (below_step H2.out hb4)); clear hb4))
  go_region
  all_goals
    go_wp2
    go_ret2
    exact ⟨rfl, by repeat (first | exact HB.out | apply below_drew1 | apply pw_below_drewN)⟩
set_option maxRecDepth 100000 in
set_option maxHeartbeats 4000000 in
theorem di_n (x : Int) (h0 : -32768 ≤ x) (h1 : x < 32768) (w : World) : Calls Tryz.prog 19 #[(.agg #[.int .u8 110, .int .u64 (nx x), .string ⟨#[]⟩, .slice none 0 0])] w fun e w' => e = .returned (.iface 36 (.int .i16 x)) ∧ Below w.heap.size w w' := by
  have hw : IntKind.i16.wrap (nx x) = x := by unfold nx; split <;> (simp [IntKind.wrap, IntKind.bits, IntKind.signed]; omega)
  go_enter Tryz.func19, Tryz.ntmps19
  go_wp2
  go_ret
  exact ⟨by simp [hw], below_alloc (Below.refl _ _) _⟩
set_option maxRecDepth 100000 in
set_option maxHeartbeats 4000000 in
theorem ds_n (x : Int) (h0 : -32768 ≤ x) (h1 : x < 32768) (w : World) (htab : Lib.TabIs Tryz.prog w "internal/strconv.uint64pow10" .u64 Lib.pow10Tab) : Calls Tryz.prog 11 #[(.agg #[.int .u8 110, .int .u64 (nx x), .string ⟨#[]⟩, .slice none 0 0])] w fun e w' => e = .returned (.tuple #[.string (⟨#[64]⟩ ++ ⟨#[110]⟩ ++ ⟨#[32]⟩ ++ ⟨(Lib.itoa x).toArray⟩), .nilIface]) ∧ Below w.heap.size w w' := by
  have hmf : ∀ (fn : Fn) (first cap : Array Value) (w : World), (Instr.makeFunc fn first cap).run Tryz.prog w = .ok (.func fn first cap) w := fun _ _ _ _ => rfl
  have HT := Aside0.mk htab
  clear htab
  have HS := Aside0.mk (fun W => st_n x h0 h1 W)
  have HI := Aside0.mk (fun W => di_n x h0 h1 W)
  go_enter_defers Tryz.func11, Tryz.ntmps11
  go_wp2_with (first | (go_at_call 19; refine (HI.out _).mono ?_; rintro e w2 ⟨rfl, hb2⟩; have H2 := Aside0.mk hb2; clear hb2) | (go_at_call 18; refine (mv_n _ _).mono ?_; rintro e w3 ⟨rfl, hb3⟩; have H3 := Aside0.mk hb3; clear hb3) | (go_at_call 20; refine (HS.out _ (tab_up HT.out (below_step (below_alloc (below_alloc (below_alloc (Below.refl _ _) _) _) _) (below_step H2.out H3.out)))).mono ?_; rintro e w4 ⟨rfl, hb4⟩; obtain ⟨hc0, hc1, hf0, hf1, HB⟩ := ds_facts H2.out H3.out hb4; clear hb4))
  have D := ds_end (r := (⟨#[64]⟩ ++ ⟨#[110]⟩ ++ ⟨#[32]⟩ ++ ⟨(Lib.itoa x).toArray⟩)) hc0 hc1 HB.out
  clear hc0 hc1 hf0 hf1
  refine leaves_cons (f := 17) (args := #[.pointer (some ⟨w.heap.size + 1, 0, none⟩), .pointer (some ⟨w.heap.size + 1 + 1, 0, none⟩)]) (by simp) (by simp [go_sem]) ?_
  refine (ds_idle _ _ _).mono ?_
  rintro e u' w'' ⟨rfl, rfl, hw⟩
  rw [← hw] at D
  clear hw
  obtain ⟨d6, d7, hbb⟩ := D
  simp [Leaves, settle, results, Tryz.results11, go_sem, d6, d7]
  exact hbb
set_option maxRecDepth 100000 in
set_option maxHeartbeats 4000000 in
theorem vs_n (x : Int) (h0 : -32768 ≤ x) (h1 : x < 32768) (w : World) (htab : Lib.TabIs Tryz.prog w "internal/strconv.uint64pow10" .u64 Lib.pow10Tab) : Calls Tryz.prog 8 #[(.agg #[.int .u8 110, .int .u64 (nx x), .string ⟨#[]⟩, .slice none 0 0])] w fun e w' => e = .returned (.tuple #[.string (⟨#[64]⟩ ++ ⟨#[110]⟩ ++ ⟨#[32]⟩ ++ ⟨(Lib.itoa x).toArray⟩), .bool true]) ∧ Below w.heap.size w w' := by
  have HT := Aside0.mk htab
  clear htab
  have HS := Aside0.mk (fun W => ds_n x h0 h1 W)
  go_enter Tryz.func8, Tryz.ntmps8
  go_wp2_with (first | (go_at_call 12; refine (vi_calls _ _ _).mono ?_; rintro e w2 ⟨rfl, hb2⟩; have H2 := Aside0.mk hb2; clear hb2) | (go_at_call 11; refine (HS.out _ (tab_up HT.out (below_step (below_alloc (Below.refl _ _) _) H2.out))).mono ?_; rintro e w4 ⟨rfl, hb4⟩; have HB := Aside0.mk (below_step (below_alloc (Below.refl _ _) _) (below_step H2.out hb4)); clear hb4))
  go_region
  all_goals
    go_wp2
    go_ret2
    exact ⟨rfl, by repeat (first | exact HB.out | apply below_drew1 | apply pw_below_drewN)⟩
set_option maxRecDepth 100000 in
set_option maxHeartbeats 4000000 in
theorem di_q (x : Nat) (hx : x < 65536) (w : World) : Calls Tryz.prog 19 #[(.agg #[.int .u8 113, .int .u64 (x : Int), .string ⟨#[]⟩, .slice none 0 0])] w fun e w' => e = .returned (.iface 67 (.int .u16 (x : Int))) ∧ Below w.heap.size w w' := by
  have hw : IntKind.u16.wrap (x : Int) = (x : Int) := by simp [IntKind.wrap, IntKind.bits, IntKind.signed]; omega
  go_enter Tryz.func19, Tryz.ntmps19
  go_wp2
  go_ret
  exact ⟨by simp [hw], below_alloc (Below.refl _ _) _⟩
set_option maxRecDepth 100000 in
set_option maxHeartbeats 4000000 in
theorem ds_q (x : Nat) (hx : x < 65536) (w : World) (htab : Lib.TabIs Tryz.prog w "internal/strconv.uint64pow10" .u64 Lib.pow10Tab) : Calls Tryz.prog 11 #[(.agg #[.int .u8 113, .int .u64 (x : Int), .string ⟨#[]⟩, .slice none 0 0])] w fun e w' => e = .returned (.tuple #[.string (⟨#[64]⟩ ++ ⟨#[113]⟩ ++ ⟨#[32]⟩ ++ ⟨(Lib.decDigits x).toArray⟩), .nilIface]) ∧ Below w.heap.size w w' := by
  have hmf : ∀ (fn : Fn) (first cap : Array Value) (w : World), (Instr.makeFunc fn first cap).run Tryz.prog w = .ok (.func fn first cap) w := fun _ _ _ _ => rfl
  have HT := Aside0.mk htab
  clear htab
  have HS := Aside0.mk (fun W => st_q x hx W)
  have HI := Aside0.mk (fun W => di_q x hx W)
  go_enter_defers Tryz.func11, Tryz.ntmps11
  go_wp2_with (first | (go_at_call 19; refine (HI.out _).mono ?_; rintro e w2 ⟨rfl, hb2⟩; have H2 := Aside0.mk hb2; clear hb2) | (go_at_call 18; refine (mv_q _ _).mono ?_; rintro e w3 ⟨rfl, hb3⟩; have H3 := Aside0.mk hb3; clear hb3) | (go_at_call 20; refine (HS.out _ (tab_up HT.out (below_step (below_alloc (below_alloc (below_alloc (Below.refl _ _) _) _) _) (below_step H2.out H3.out)))).mono ?_; rintro e w4 ⟨rfl, hb4⟩; obtain ⟨hc0, hc1, hf0, hf1, HB⟩ := ds_facts H2.out H3.out hb4; clear hb4))
  have D := ds_end (r := (⟨#[64]⟩ ++ ⟨#[113]⟩ ++ ⟨#[32]⟩ ++ ⟨(Lib.decDigits x).toArray⟩)) hc0 hc1 HB.out
  clear hc0 hc1 hf0 hf1
  refine leaves_cons (f := 17) (args := #[.pointer (some ⟨w.heap.size + 1, 0, none⟩), .pointer (some ⟨w.heap.size + 1 + 1, 0, none⟩)]) (by simp) (by simp [go_sem]) ?_
  refine (ds_idle _ _ _).mono ?_
  rintro e u' w'' ⟨rfl, rfl, hw⟩
  rw [← hw] at D
  clear hw
  obtain ⟨d6, d7, hbb⟩ := D
  simp [Leaves, settle, results, Tryz.results11, go_sem, d6, d7]
  exact hbb
set_option maxRecDepth 100000 in
set_option maxHeartbeats 4000000 in
theorem vs_q (x : Nat) (hx : x < 65536) (w : World) (htab : Lib.TabIs Tryz.prog w "internal/strconv.uint64pow10" .u64 Lib.pow10Tab) : Calls Tryz.prog 8 #[(.agg #[.int .u8 113, .int .u64 (x : Int), .string ⟨#[]⟩, .slice none 0 0])] w fun e w' => e = .returned (.tuple #[.string (⟨#[64]⟩ ++ ⟨#[113]⟩ ++ ⟨#[32]⟩ ++ ⟨(Lib.decDigits x).toArray⟩), .bool true]) ∧ Below w.heap.size w w' := by
  have HT := Aside0.mk htab
  clear htab
  have HS := Aside0.mk (fun W => ds_q x hx W)
  go_enter Tryz.func8, Tryz.ntmps8
  go_wp2_with (first | (go_at_call 12; refine (vi_calls _ _ _).mono ?_; rintro e w2 ⟨rfl, hb2⟩; have H2 := Aside0.mk hb2; clear hb2) | (go_at_call 11; refine (HS.out _ (tab_up HT.out (below_step (below_alloc (Below.refl _ _) _) H2.out))).mono ?_; rintro e w4 ⟨rfl, hb4⟩; have HB := Aside0.mk (below_step (below_alloc (Below.refl _ _) _) (below_step H2.out hb4)); clear hb4))
  go_region
  all_goals
    go_wp2
    go_ret2
    exact ⟨rfl, by repeat (first | exact HB.out | apply below_drew1 | apply pw_below_drewN)⟩
set_option maxRecDepth 100000 in
set_option maxHeartbeats 4000000 in
theorem di_i (x : Int) (h0 : -2147483648 ≤ x) (h1 : x < 2147483648) (w : World) : Calls Tryz.prog 19 #[(.agg #[.int .u8 105, .int .u64 (nx x), .string ⟨#[]⟩, .slice none 0 0])] w fun e w' => e = .returned (.iface 21 (.int .i32 x)) ∧ Below w.heap.size w w' := by
  have hw : IntKind.i32.wrap (nx x) = x := by unfold nx; split <;> (simp [IntKind.wrap, IntKind.bits, IntKind.signed]; omega)
  go_enter Tryz.func19, Tryz.ntmps19
  go_wp2
  go_ret
  exact ⟨by simp [hw], below_alloc (Below.refl _ _) _⟩
set_option maxRecDepth 100000 in
set_option maxHeartbeats 4000000 in
theorem ds_i (x : Int) (h0 : -2147483648 ≤ x) (h1 : x < 2147483648) (w : World) (htab : Lib.TabIs Tryz.prog w "internal/strconv.uint64pow10" .u64 Lib.pow10Tab) : Calls Tryz.prog 11 #[(.agg #[.int .u8 105, .int .u64 (nx x), .string ⟨#[]⟩, .slice none 0 0])] w fun e w' => e = .returned (.tuple #[.string ⟨(Lib.itoa x).toArray⟩, .nilIface]) ∧ Below w.heap.size w w' := by
  have hmf : ∀ (fn : Fn) (first cap : Array Value) (w : World), (Instr.makeFunc fn first cap).run Tryz.prog w = .ok (.func fn first cap) w := fun _ _ _ _ => rfl
  have HT := Aside0.mk htab
  clear htab
  have HS := Aside0.mk (fun W => st_i x h0 h1 W)
  have HI := Aside0.mk (fun W => di_i x h0 h1 W)
  go_enter_defers Tryz.func11, Tryz.ntmps11
  go_wp2_with (first | (go_at_call 19; refine (HI.out _).mono ?_; rintro e w2 ⟨rfl, hb2⟩; have H2 := Aside0.mk hb2; clear hb2) | (go_at_call 18; refine (mv_i _ _).mono ?_; rintro e w3 ⟨rfl, hb3⟩; have H3 := Aside0.mk hb3; clear hb3) | (go_at_call 20; refine (HS.out _ (tab_up HT.out (below_step (below_alloc (below_alloc (below_alloc (Below.refl _ _) _) _) _) (below_step H2.out H3.out)))).mono ?_; rintro e w4 ⟨rfl, hb4⟩; obtain ⟨hc0, hc1, hf0, hf1, HB⟩ := ds_facts H2.out H3.out hb4; clear hb4))
  have D := ds_end (r := ⟨(Lib.itoa x).toArray⟩) hc0 hc1 HB.out
  clear hc0 hc1 hf0 hf1
  refine leaves_cons (f := 17) (args := #[.pointer (some ⟨w.heap.size + 1, 0, none⟩), .pointer (some ⟨w.heap.size + 1 + 1, 0, none⟩)]) (by simp) (by simp [go_sem]) ?_
  refine (ds_idle _ _ _).mono ?_
  rintro e u' w'' ⟨rfl, rfl, hw⟩
  rw [← hw] at D
  clear hw
  obtain ⟨d6, d7, hbb⟩ := D
  simp [Leaves, settle, results, Tryz.results11, go_sem, d6, d7]
  exact hbb
set_option maxRecDepth 100000 in
set_option maxHeartbeats 4000000 in
theorem vs_i (x : Int) (h0 : -2147483648 ≤ x) (h1 : x < 2147483648) (w : World) (htab : Lib.TabIs Tryz.prog w "internal/strconv.uint64pow10" .u64 Lib.pow10Tab) : Calls Tryz.prog 8 #[(.agg #[.int .u8 105, .int .u64 (nx x), .string ⟨#[]⟩, .slice none 0 0])] w fun e w' => e = .returned (.tuple #[.string ⟨(Lib.itoa x).toArray⟩, .bool true]) ∧ Below w.heap.size w w' := by
  have HT := Aside0.mk htab
  clear htab
  have HS := Aside0.mk (fun W => ds_i x h0 h1 W)
  go_enter Tryz.func8, Tryz.ntmps8
  go_wp2_with (first | (go_at_call 12; refine (vi_calls _ _ _).mono ?_; rintro e w2 ⟨rfl, hb2⟩; have H2 := Aside0.mk hb2; clear hb2) | (go_at_call 11; refine (HS.out _ (tab_up HT.out (below_step (below_alloc (Below.refl _ _) _) H2.out))).mono ?_; rintro e w4 ⟨rfl, hb4⟩; have HB := Aside0.mk (below_step (below_alloc (Below.refl _ _) _) (below_step H2.out hb4)); clear hb4))
  go_region
  all_goals
    go_wp2
    go_ret2
    exact ⟨rfl, by repeat (first | exact HB.out | apply below_drew1 | apply pw_below_drewN)⟩
set_option maxRecDepth 100000 in
set_option maxHeartbeats 4000000 in
theorem di_u (x : Nat) (hx : x < 4294967296) (w : World) : Calls Tryz.prog 19 #[(.agg #[.int .u8 117, .int .u64 (x : Int), .string ⟨#[]⟩, .slice none 0 0])] w fun e w' => e = .returned (.iface 61 (.int .u32 (x : Int))) ∧ Below w.heap.size w w' := by
  have hw : IntKind.u32.wrap (x : Int) = (x : Int) := by simp [IntKind.wrap, IntKind.bits, IntKind.signed]; omega
  go_enter Tryz.func19, Tryz.ntmps19
  go_wp2
  go_ret
  exact ⟨by simp [hw], below_alloc (Below.refl _ _) _⟩
set_option maxRecDepth 100000 in
set_option maxHeartbeats 4000000 in
theorem ds_u (x : Nat) (hx : x < 4294967296) (w : World) (htab : Lib.TabIs Tryz.prog w "internal/strconv.uint64pow10" .u64 Lib.pow10Tab) : Calls Tryz.prog 11 #[(.agg #[.int .u8 117, .int .u64 (x : Int), .string ⟨#[]⟩, .slice none 0 0])] w fun e w' => e = .returned (.tuple #[.string (⟨#[64]⟩ ++ ⟨#[117]⟩ ++ ⟨#[32]⟩ ++ ⟨(Lib.decDigits x).toArray⟩), .nilIface]) ∧ Below w.heap.size w w' := by
  have hmf : ∀ (fn : Fn) (first cap : Array Value) (w : World), (Instr.makeFunc fn first cap).run Tryz.prog w = .ok (.func fn first cap) w := fun _ _ _ _ => rfl
  have HT := Aside0.mk htab
  clear htab
  have HS := Aside0.mk (fun W => st_u x hx W)
  have HI := Aside0.mk (fun W => di_u x hx W)
  go_enter_defers Tryz.func11, Tryz.ntmps11
  go_wp2_with (first | (go_at_call 19; refine (HI.out _).mono ?_; rintro e w2 ⟨rfl, hb2⟩; have H2 := Aside0.mk hb2; clear hb2) | (go_at_call 18; refine (mv_u _ _).mono ?_; rintro e w3 ⟨rfl, hb3⟩; have H3 := Aside0.mk hb3; clear hb3) | (go_at_call 20; refine (HS.out _ (tab_up HT.out (below_step (below_alloc (below_alloc (below_alloc (Below.refl _ _) _) _) _) (below_step H2.out H3.out)))).mono ?_; rintro e w4 ⟨rfl, hb4⟩; obtain ⟨hc0, hc1, hf0, hf1, HB⟩ := ds_facts H2.out H3.out hb4; clear hb4))
  have D := ds_end (r := (⟨#[64]⟩ ++ ⟨#[117]⟩ ++ ⟨#[32]⟩ ++ ⟨(Lib.decDigits x).toArray⟩)) hc0 hc1 HB.out
  clear hc0 hc1 hf0 hf1
  refine leaves_cons (f := 17) (args := #[.pointer (some ⟨w.heap.size + 1, 0, none⟩), .pointer (some ⟨w.heap.size + 1 + 1, 0, none⟩)]) (by simp) (by simp [go_sem]) ?_
  refine (ds_idle _ _ _).mono ?_
  rintro e u' w'' ⟨rfl, rfl, hw⟩
  rw [← hw] at D
  clear hw
  obtain ⟨d6, d7, hbb⟩ := D
  simp [Leaves, settle, results, Tryz.results11, go_sem, d6, d7]
  exact hbb
set_option maxRecDepth 100000 in
set_option maxHeartbeats 4000000 in
theorem vs_u (x : Nat) (hx : x < 4294967296) (w : World) (htab : Lib.TabIs Tryz.prog w "internal/strconv.uint64pow10" .u64 Lib.pow10Tab) : Calls Tryz.prog 8 #[(.agg #[.int .u8 117, .int .u64 (x : Int), .string ⟨#[]⟩, .slice none 0 0])] w fun e w' => e = .returned (.tuple #[.string (⟨#[64]⟩ ++ ⟨#[117]⟩ ++ ⟨#[32]⟩ ++ ⟨(Lib.decDigits x).toArray⟩), .bool true]) ∧ Below w.heap.size w w' := by
  have HT := Aside0.mk htab
  clear htab
  have HS := Aside0.mk (fun W => ds_u x hx W)
  go_enter Tryz.func8, Tryz.ntmps8
  go_wp2_with (first | (go_at_call 12; refine (vi_calls _ _ _).mono ?_; rintro e w2 ⟨rfl, hb2⟩; have H2 := Aside0.mk hb2; clear hb2) | (go_at_call 11; refine (HS.out _ (tab_up HT.out (below_step (below_alloc (Below.refl _ _) _) H2.out))).mono ?_; rintro e w4 ⟨rfl, hb4⟩; have HB := Aside0.mk (below_step (below_alloc (Below.refl _ _) _) (below_step H2.out hb4)); clear hb4))
  go_region
  all_goals
    go_wp2
    go_ret2
    exact ⟨rfl, by repeat (first | exact HB.out | apply below_drew1 | apply pw_below_drewN)⟩
set_option maxRecDepth 100000 in
set_option maxHeartbeats 4000000 in
theorem di_x (x : Int) (h0 : -9223372036854775808 ≤ x) (h1 : x < 9223372036854775808) (w : World) : Calls Tryz.prog 19 #[(.agg #[.int .u8 120, .int .u64 (nx x), .string ⟨#[]⟩, .slice none 0 0])] w fun e w' => e = .returned (.iface 2 (.int .i64 x)) ∧ Below w.heap.size w w' := by
  have hw : IntKind.i64.wrap (nx x) = x := by unfold nx; split <;> (simp [IntKind.wrap, IntKind.bits, IntKind.signed]; omega)
  go_enter Tryz.func19, Tryz.ntmps19
  go_wp2
  go_ret
  exact ⟨by simp [hw], below_alloc (Below.refl _ _) _⟩
set_option maxRecDepth 100000 in
set_option maxHeartbeats 4000000 in
theorem ds_x (x : Int) (h0 : -9223372036854775808 ≤ x) (h1 : x < 9223372036854775808) (w : World) (htab : Lib.TabIs Tryz.prog w "internal/strconv.uint64pow10" .u64 Lib.pow10Tab) : Calls Tryz.prog 11 #[(.agg #[.int .u8 120, .int .u64 (nx x), .string ⟨#[]⟩, .slice none 0 0])] w fun e w' => e = .returned (.tuple #[.string (⟨#[64]⟩ ++ ⟨#[120]⟩ ++ ⟨#[32]⟩ ++ ⟨(Lib.itoa x).toArray⟩), .nilIface]) ∧ Below w.heap.size w w' := by
  have hmf : ∀ (fn : Fn) (first cap : Array Value) (w : World), (Instr.makeFunc fn first cap).run Tryz.prog w = .ok (.func fn first cap) w := fun _ _ _ _ => rfl
  have HT := Aside0.mk htab
  clear htab
  have HS := Aside0.mk (fun W => st_x x h0 h1 W)
  have HI := Aside0.mk (fun W => di_x x h0 h1 W)
  go_enter_defers Tryz.func11, Tryz.ntmps11
  go_wp2_with (first | (go_at_call 19; refine (HI.out _).mono ?_; rintro e w2 ⟨rfl, hb2⟩; have H2 := Aside0.mk hb2; clear hb2) | (go_at_call 18; refine (mv_x _ _).mono ?_; rintro e w3 ⟨rfl, hb3⟩; have H3 := Aside0.mk hb3; clear hb3) | (go_at_call 20; refine (HS.out _ (tab_up HT.out (below_step (below_alloc (below_alloc (below_alloc (Below.refl _ _) _) _) _) (below_step H2.out H3.out)))).mono ?_; rintro e w4 ⟨rfl, hb4⟩; obtain ⟨hc0, hc1, hf0, hf1, HB⟩ := ds_facts H2.out H3.out hb4; clear hb4))
  have D := ds_end (r := (⟨#[64]⟩ ++ ⟨#[120]⟩ ++ ⟨#[32]⟩ ++ ⟨(Lib.itoa x).toArray⟩)) hc0 hc1 HB.out
  clear hc0 hc1 hf0 hf1
  refine leaves_cons (f := 17) (args := #[.pointer (some ⟨w.heap.size + 1, 0, none⟩), .pointer (some ⟨w.heap.size + 1 + 1, 0, none⟩)]) (by simp) (by simp [go_sem]) ?_
  refine (ds_idle _ _ _).mono ?_
  rintro e u' w'' ⟨rfl, rfl, hw⟩
  rw [← hw] at D
  clear hw
  obtain ⟨d6, d7, hbb⟩ := D
  simp [Leaves, settle, results, Tryz.results11, go_sem, d6, d7]
  exact hbb
set_option maxRecDepth 100000 in
set_option maxHeartbeats 4000000 in
theorem vs_x (x : Int) (h0 : -9223372036854775808 ≤ x) (h1 : x < 9223372036854775808) (w : World) (htab : Lib.TabIs Tryz.prog w "internal/strconv.uint64pow10" .u64 Lib.pow10Tab) : Calls Tryz.prog 8 #[(.agg #[.int .u8 120, .int .u64 (nx x), .string ⟨#[]⟩, .slice none 0 0])] w fun e w' => e = .returned (.tuple #[.string (⟨#[64]⟩ ++ ⟨#[120]⟩ ++ ⟨#[32]⟩ ++ ⟨(Lib.itoa x).toArray⟩), .bool true]) ∧ Below w.heap.size w w' := by
  have HT := Aside0.mk htab
  clear htab
  have HS := Aside0.mk (fun W => ds_x x h0 h1 W)
  go_enter Tryz.func8, Tryz.ntmps8
  go_wp2_with (first | (go_at_call 12; refine (vi_calls _ _ _).mono ?_; rintro e w2 ⟨rfl, hb2⟩; have H2 := Aside0.mk hb2; clear hb2) | (go_at_call 11; refine (HS.out _ (tab_up HT.out (below_step (below_alloc (Below.refl _ _) _) H2.out))).mono ?_; rintro e w4 ⟨rfl, hb4⟩; have HB := Aside0.mk (below_step (below_alloc (Below.refl _ _) _) (below_step H2.out hb4)); clear hb4))
  go_region
  all_goals
    go_wp2
    go_ret2
    exact ⟨rfl, by repeat (first | exact HB.out | apply below_drew1 | apply pw_below_drewN)⟩
set_option maxRecDepth 100000 in
set_option maxHeartbeats 4000000 in
theorem di_t (x : Nat) (hx : x < 18446744073709551616) (w : World) : Calls Tryz.prog 19 #[(.agg #[.int .u8 116, .int .u64 (x : Int), .string ⟨#[]⟩, .slice none 0 0])] w fun e w' => e = .returned (.iface 22 (.int .u64 (x : Int))) ∧ Below w.heap.size w w' := by
  have hw : IntKind.u64.wrap (x : Int) = (x : Int) := by simp [IntKind.wrap, IntKind.bits, IntKind.signed]; omega
  go_enter Tryz.func19, Tryz.ntmps19
  go_wp2
  go_ret
  exact ⟨by simp [hw], below_alloc (Below.refl _ _) _⟩
set_option maxRecDepth 100000 in
set_option maxHeartbeats 4000000 in
theorem ds_t (x : Nat) (hx : x < 18446744073709551616) (w : World) (htab : Lib.TabIs Tryz.prog w "internal/strconv.uint64pow10" .u64 Lib.pow10Tab) : Calls Tryz.prog 11 #[(.agg #[.int .u8 116, .int .u64 (x : Int), .string ⟨#[]⟩, .slice none 0 0])] w fun e w' => e = .returned (.tuple #[.string (⟨#[64]⟩ ++ ⟨#[116]⟩ ++ ⟨#[32]⟩ ++ ⟨(Lib.decDigits x).toArray⟩), .nilIface]) ∧ Below w.heap.size w w' := by
  have hmf : ∀ (fn : Fn) (first cap : Array Value) (w : World), (Instr.makeFunc fn first cap).run Tryz.prog w = .ok (.func fn first cap) w := fun _ _ _ _ => rfl
  have HT := Aside0.mk htab
  clear htab
  have HS := Aside0.mk (fun W => st_t x hx W)
  have HI := Aside0.mk (fun W => di_t x hx W)
  go_enter_defers Tryz.func11, Tryz.ntmps11
  go_wp2_with (first | (go_at_call 19; refine (HI.out _).mono ?_; rintro e w2 ⟨rfl, hb2⟩; have H2 := Aside0.mk hb2; clear hb2) | (go_at_call 18; refine (mv_t _ _).mono ?_; rintro e w3 ⟨rfl, hb3⟩; have H3 := Aside0.mk hb3; clear hb3) | (go_at_call 20; refine (HS.out _ (tab_up HT.out (below_step (below_alloc (below_alloc (below_alloc (Below.refl _ _) _) _) _) (below_step H2.out H3.out)))).mono ?_; rintro e w4 ⟨rfl, hb4⟩; obtain ⟨hc0, hc1, hf0, hf1, HB⟩ := ds_facts H2.out H3.out hb4; clear hb4))
  have D := ds_end (r := (⟨#[64]⟩ ++ ⟨#[116]⟩ ++ ⟨#[32]⟩ ++ ⟨(Lib.decDigits x).toArray⟩)) hc0 hc1 HB.out
  clear hc0 hc1 hf0 hf1
  refine leaves_cons (f := 17) (args := #[.pointer (some ⟨w.heap.size + 1, 0, none⟩), .pointer (some ⟨w.heap.size + 1 + 1, 0, none⟩)]) (by simp) (by simp [go_sem]) ?_
  refine (ds_idle _ _ _).mono ?_
  rintro e u' w'' ⟨rfl, rfl, hw⟩
  rw [← hw] at D
  clear hw
  obtain ⟨d6, d7, hbb⟩ := D
  simp [Leaves, settle, results, Tryz.results11, go_sem, d6, d7]
  exact hbb
set_option maxRecDepth 100000 in
set_option maxHeartbeats 4000000 in
theorem vs_t (x : Nat) (hx : x < 18446744073709551616) (w : World) (htab : Lib.TabIs Tryz.prog w "internal/strconv.uint64pow10" .u64 Lib.pow10Tab) : Calls Tryz.prog 8 #[(.agg #[.int .u8 116, .int .u64 (x : Int), .string ⟨#[]⟩, .slice none 0 0])] w fun e w' => e = .returned (.tuple #[.string (⟨#[64]⟩ ++ ⟨#[116]⟩ ++ ⟨#[32]⟩ ++ ⟨(Lib.decDigits x).toArray⟩), .bool true]) ∧ Below w.heap.size w w' := by
  have HT := Aside0.mk htab
  clear htab
  have HS := Aside0.mk (fun W => ds_t x hx W)
  go_enter Tryz.func8, Tryz.ntmps8
  go_wp2_with (first | (go_at_call 12; refine (vi_calls _ _ _).mono ?_; rintro e w2 ⟨rfl, hb2⟩; have H2 := Aside0.mk hb2; clear hb2) | (go_at_call 11; refine (HS.out _ (tab_up HT.out (below_step (below_alloc (Below.refl _ _) _) H2.out))).mono ?_; rintro e w4 ⟨rfl, hb4⟩; have HB := Aside0.mk (below_step (below_alloc (Below.refl _ _) _) (below_step H2.out hb4)); clear hb4))
  go_region
  all_goals
    go_wp2
    go_ret2
    exact ⟨rfl, by repeat (first | exact HB.out | apply below_drew1 | apply pw_below_drewN)⟩
set_option maxRecDepth 100000 in
set_option maxHeartbeats 4000000 in
theorem di_h (x : Nat) (hx : x < 4294967296) (w : World) : Calls Tryz.prog 19 #[(.agg #[.int .u8 104, .int .u64 (x : Int), .string ⟨#[]⟩, .slice none 0 0])] w fun e w' => e = .returned (.iface 71 (.int .u32 (x : Int))) ∧ Below w.heap.size w w' := by
  have hw : IntKind.u32.wrap (x : Int) = (x : Int) := by simp [IntKind.wrap, IntKind.bits, IntKind.signed]; omega
  go_enter Tryz.func19, Tryz.ntmps19
  go_wp2
  go_ret
  exact ⟨by simp [hw], below_alloc (Below.refl _ _) _⟩
set_option maxRecDepth 100000 in
set_option maxHeartbeats 4000000 in
theorem ds_h (x : Nat) (hx : x < 4294967296) (w : World) (htab : Lib.TabIs Tryz.prog w "internal/strconv.uint64pow10" .u64 Lib.pow10Tab) : Calls Tryz.prog 11 #[(.agg #[.int .u8 104, .int .u64 (x : Int), .string ⟨#[]⟩, .slice none 0 0])] w fun e w' => e = .returned (.tuple #[.string (⟨#[64]⟩ ++ ⟨#[104]⟩ ++ ⟨#[32]⟩ ++ ⟨(Lib.decDigits x).toArray⟩), .nilIface]) ∧ Below w.heap.size w w' := by
  have hmf : ∀ (fn : Fn) (first cap : Array Value) (w : World), (Instr.makeFunc fn first cap).run Tryz.prog w = .ok (.func fn first cap) w := fun _ _ _ _ => rfl
  have HT := Aside0.mk htab
  clear htab
  have HS := Aside0.mk (fun W => st_h x hx W)
  have HI := Aside0.mk (fun W => di_h x hx W)
  go_enter_defers Tryz.func11, Tryz.ntmps11
  go_wp2_with (first | (go_at_call 19; refine (HI.out _).mono ?_; rintro e w2 ⟨rfl, hb2⟩; have H2 := Aside0.mk hb2; clear hb2) | (go_at_call 18; refine (mv_h _ _).mono ?_; rintro e w3 ⟨rfl, hb3⟩; have H3 := Aside0.mk hb3; clear hb3) | (go_at_call 20; refine (HS.out _ (tab_up HT.out (below_step (below_alloc (below_alloc (below_alloc (Below.refl _ _) _) _) _) (below_step H2.out H3.out)))).mono ?_; rintro e w4 ⟨rfl, hb4⟩; obtain ⟨hc0, hc1, hf0, hf1, HB⟩ := ds_facts H2.out H3.out hb4; clear hb4))
  have D := ds_end (r := (⟨#[64]⟩ ++ ⟨#[104]⟩ ++ ⟨#[32]⟩ ++ ⟨(Lib.decDigits x).toArray⟩)) hc0 hc1 HB.out
  clear hc0 hc1 hf0 hf1
  refine leaves_cons (f := 17) (args := #[.pointer (some ⟨w.heap.size + 1, 0, none⟩), .pointer (some ⟨w.heap.size + 1 + 1, 0, none⟩)]) (by simp) (by simp [go_sem]) ?_
  refine (ds_idle _ _ _).mono ?_
  rintro e u' w'' ⟨rfl, rfl, hw⟩
  rw [← hw] at D
  clear hw
  obtain ⟨d6, d7, hbb⟩ := D
  simp [Leaves, settle, results, Tryz.results11, go_sem, d6, d7]
  exact hbb
set_option maxRecDepth 100000 in
set_option maxHeartbeats 4000000 in
theorem vs_h (x : Nat) (hx : x < 4294967296) (w : World) (htab : Lib.TabIs Tryz.prog w "internal/strconv.uint64pow10" .u64 Lib.pow10Tab) : Calls Tryz.prog 8 #[(.agg #[.int .u8 104, .int .u64 (x : Int), .string ⟨#[]⟩, .slice none 0 0])] w fun e w' => e = .returned (.tuple #[.string (⟨#[64]⟩ ++ ⟨#[104]⟩ ++ ⟨#[32]⟩ ++ ⟨(Lib.decDigits x).toArray⟩), .bool true]) ∧ Below w.heap.size w w' := by
  have HT := Aside0.mk htab
  clear htab
  have HS := Aside0.mk (fun W => ds_h x hx W)
  go_enter Tryz.func8, Tryz.ntmps8
  go_wp2_with (first | (go_at_call 12; refine (vi_calls _ _ _).mono ?_; rintro e w2 ⟨rfl, hb2⟩; have H2 := Aside0.mk hb2; clear hb2) | (go_at_call 11; refine (HS.out _ (tab_up HT.out (below_step (below_alloc (Below.refl _ _) _) H2.out))).mono ?_; rintro e w4 ⟨rfl, hb4⟩; have HB := Aside0.mk (below_step (below_alloc (Below.refl _ _) _) (below_step H2.out hb4)); clear hb4))
  go_region
  all_goals
    go_wp2
    go_ret2
    exact ⟨rfl, by repeat (first | exact HB.out | apply below_drew1 | apply pw_below_drewN)⟩


end Go.Proofs.YtjahkodciflgdaaGreatDoor.MFnVtStringNumber
