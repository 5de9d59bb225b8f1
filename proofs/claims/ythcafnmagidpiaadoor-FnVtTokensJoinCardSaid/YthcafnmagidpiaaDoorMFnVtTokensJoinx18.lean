-- Written by a program of this session (myprint.py, out of the translation). Not trusted: Lean checks it.
import Derived.Test.YthcafnmagidpiaaDoorMFnVtTokensJoinx0
import Derived.Test.YthcafnmagidpiaaDoorMFnVtTokensJoinx3
import Derived.Test.YthcafnmagidpiaaDoorMFnVtTokensJoinx17
namespace Go.Proofs.YthcafnmagidpiaaDoor.MFnVtTokensJoin
open Go.RowKit Go.Proofs.YthcafnmagidpiaaDoorW.PrintWords Go.Proofs.YthcafnmagidpiaaDoorW.PrintLast Go.Proofs.YthcafnmagidpiaaDoorW.PrintMore
attribute [local go_sem] max2_int min2_int max_two min_two max_three min_three max_four min_four   -- for this text's walks alone
set_option linter.unusedVariables false
set_option linter.unusedSimpArgs false

/-! ### dbus_DoorTokens: function 12 -/
def dbus_DoorTokens.l0 : Nat → List Int → List ByteArray → List (S48) → Int → Int → Option (List Int × List ByteArray)
 | 0, _, _, _, _, _ => none
 | k + 1, x4, x5, x9, x10, x11 => if x11 < x10 then (if 0 ≤ x11 then (if x11 < (x9.length : Int) then ((some (([wrap64 ((rd_T48 x9 x11).f0)] : List Int) : List Int)).bind fun y173 => (if x4.length + y173.length < 17592186044416 then ((some (([(rd_T48 x9 x11).f1] : List ByteArray) : List ByteArray)).bind fun y179 => (if x5.length + y179.length < 8796093022208 then (dbus_DoorTokens.l0 k (x4 ++ y173) (x5 ++ y179) x9 x10 (wrap64 (x11 + 1))) else (none))) else (none))) else (none)) else (none)) else (some (x4, x5))
def dbus_DoorTokens.f (k : Nat) (a0 : ByteArray) : Option (List Int × List ByteArray) := (dbus_varLex.f k a0).bind fun t168 => (dbus_DoorTokens.l0 k ([] : List Int) ([] : List ByteArray) t168 (t168.length : Int) 0)
theorem dbus_DoorTokens.mono_l : ∀ k, (∀ y0 y1 y2 y3 y4, LeO (dbus_DoorTokens.l0 k y0 y1 y2 y3 y4) (dbus_DoorTokens.l0 (k + 1) y0 y1 y2 y3 y4))
 | 0 => fun _ _ _ _ _ r h => by simp [dbus_DoorTokens.l0] at h
 | k + 1 => by
  have ih0 := dbus_DoorTokens.mono_l k
  ·intro y0 y1 y2 y3 y4
   unfold dbus_DoorTokens.l0
   repeat' first
   | (with_reducible exact ih0 _ _ _ _ _)
   | (with_reducible exact dbus_varLex.mono _ _)
   | (with_reducible exact LeO.refl _)
   | (with_reducible exact LeO.none _)
   | (with_reducible refine LeO.ite ?_ ?_)
   | (with_reducible refine LeO.bind ?_ (fun _ => ?_))
   | exact ih0 _ _ _ _ _
   | exact dbus_varLex.mono _ _
   | exact LeO.none _
   | refine LeO.ite ?_ ?_
   | refine LeO.bind ?_ (fun _ => ?_)
theorem dbus_DoorTokens.mono : ∀ a0 k, LeO (dbus_DoorTokens.f k a0) (dbus_DoorTokens.f (k + 1) a0) := by
 intro a0 k
 have ih0 := dbus_DoorTokens.mono_l k
 unfold dbus_DoorTokens.f
 repeat' first
   | (with_reducible exact ih0 _ _ _ _ _)
   | (with_reducible exact dbus_varLex.mono _ _)
   | (with_reducible exact LeO.refl _)
   | (with_reducible exact LeO.none _)
   | (with_reducible refine LeO.ite ?_ ?_)
   | (with_reducible refine LeO.bind ?_ (fun _ => ?_))
   | exact ih0 _ _ _ _ _
   | exact dbus_varLex.mono _ _
   | exact LeO.none _
   | refine LeO.ite ?_ ?_
   | refine LeO.bind ?_ (fun _ => ?_)
def dbus_DoorTokens.T6 : Bool × List (List Nat × List Nat) := (true, [([], []), ([], []), ([1], [1]), ([2], [2]), ([3], [3]), ([0, 4], [0, 4]), ([], []), ([], []), ([7], [7]), ([8], [8]), ([6, 9, 5], [6, 9]), ([5, 10, 0, 1, 2, 3, 4, 5], [0, 5]), ([10, 11, 0, 1, 2, 3, 4, 5, 6, 7, 8, 9, 10, 11], [6, 10])])
def dbus_DoorTokens.B6 : List Nat := [0, 0, 2, 6, 14, 31, 0, 0, 128, 384, 1023, 2047, 4095]
theorem dbus_DoorTokens.tab6 : rtab .any (opsOf Tryd.f12 6) = dbus_DoorTokens.T6 := by kernel_rfl
theorem dbus_DoorTokens.bits6 : waitsOk dbus_DoorTokens.T6.2 dbus_DoorTokens.B6 = true := by kernel_rfl
set_option maxHeartbeats 8000000 in
set_option maxRecDepth 100000 in
theorem dbus_DoorTokens.calls (k : Nat) (a0 : ByteArray) (r1 : List Int) (r2 : List ByteArray) (w : World) (hT : Lib.Utf8Tabs 0 1 w) (h : dbus_DoorTokens.f k a0 = some (r1, r2)) :
  Calls Tryd.prog 12 #[.string a0] w fun e w' => ∃ v0_ v1_ : Value, e = .returned (.tuple #[v0_, v1_]) ∧ Kd.R (Kd.int .i64) 3 w' w.heap.size (fun _ => True) v0_ r1 ∧ Kd.R Kd.string 9 w' w.heap.size (fun _ => True) v1_ r2 ∧ Below w.heap.size w w' := by
 have hu48 := Tryd.underlying48
 have HTT := Aside0.mk hT
 clear hT
 have HB := Aside0.mk (Below.refl w.heap.size w)
 have H : ((dbus_varLex.f k a0).bind fun t168 => (dbus_DoorTokens.l0 k ([] : List Int) ([] : List ByteArray) t168 (t168.length : Int) 0)) = some (r1, r2) := h
 clear h
 replace H := Option.bind_eq_some_iff.mp H
 obtain ⟨t168, A20, H⟩ := H
 replace H : (dbus_DoorTokens.l0 k ([] : List Int) ([] : List ByteArray) t168 (t168.length : Int) 0) = some (r1, r2) := H
 have A2 := Aside0.mk A20
 clear A20
 have H' := Aside0.mk H
 clear H
 go_enter Tryd.func12, Tryd.ntmps12
 go_wp2_with (first | ((with_reducible refine gate_callee (f := 23) rfl ?_); refine goesL_ (some 9) rfl rfl Tryd.func23 (by kernel_rfl) rfl #[.string a0] rfl (by (try simp only [List.map_toArray, List.map_cons, List.map_nil]); first | done | rfl | (simp only [List.length_drop, List.length_take]; rfl)) ?_; (with_reducible refine (dbus_varLex.calls k a0 t168 _ (utabs_up HTT.out (by repeat (first | (with_reducible first | exact HB.out | apply below_alloc | apply pw_below_drewN | apply below_drew1) | exact HB.out))) A2.out).mono ?_); rintro e w3 ⟨v169, rfl, ho0, hb⟩; refine ⟨_, rfl, ?_⟩; have n0_ := Aside0.mk (Kd.R_lower ho0 (below_size (by repeat (first | (with_reducible first | exact HB.out | apply below_alloc | apply pw_below_drewN | apply below_drew1) | exact HB.out)))); have n1_ := Aside0.mk (below_step (by repeat (first | (with_reducible first | exact HB.out | apply below_alloc | apply pw_below_drewN | apply below_drew1) | exact HB.out)) hb); clear HB; have HO170 := n0_; have HB := n1_; clear n0_ n1_; (try clear hb); (try clear hb2); (try clear hk); (try clear hi); (try clear ho0); obtain ⟨Ao4, co4, eo4⟩ := Kd.R_slice HO170.out; subst eo4))
 go_loopg [4, 5, 11] k (fun kq v4 v5 v11 w' => ∃ (x4_1 : List Int) (x5_1 : List ByteArray) (x11_1 : Int), v11 = .int .i64 x11_1 ∧ Aside0 (dbus_DoorTokens.l0 kq x4_1 x5_1 t168 (t168.length : Int) x11_1 = some (r1, r2)) ∧ Aside0 (kq ≤ k) ∧ Aside0 (Kd.R (Kd.int .i64) 3 w' w.heap.size (fun _ => True) v4 x4_1) ∧ Aside0 (Kd.R Kd.string 9 w' w.heap.size (fun _ => True) v5 x5_1) ∧ Aside0 (Kd.R k48 48 w' w.heap.size (fun _ => True) (.slice Ao4 t168.length co4) t168) ∧ Aside0 (Below w.heap.size w w'))
 case atStart => exact ⟨(([] : List Int)), (([] : List ByteArray)), (0), (by first | rfl | (simp; done) | (simp [*]; done)), H', ⟨Nat.le_refl _⟩, ⟨by first | exact Kd.R_nil _ _ _ _ _ | exact Kd.N_nil _ _ _ _ _ | exact Kd.V_nil _ _ _ _ _ | exact Kd.Q_nil _ _ _ _ _ | exact Kd.S_nil _ _ _ _ _⟩, ⟨by first | exact Kd.R_nil _ _ _ _ _ | exact Kd.N_nil _ _ _ _ _ | exact Kd.V_nil _ _ _ _ _ | exact Kd.Q_nil _ _ _ _ _ | exact Kd.S_nil _ _ _ _ _⟩, ⟨by (with_reducible repeat (first | apply Kd.R_alloc | apply Kd.R_drewN | apply Kd.R_drew)); exact HO170.out⟩, ⟨by repeat (first | (with_reducible first | exact HB.out | apply below_alloc | apply pw_below_drewN | apply below_drew1) | exact HB.out)⟩⟩
 case round =>
  clear H'
  try clear c1
  try clear c2
  try clear p2
  obtain ⟨x4_1, x5_1, x11_1, rfl, HA, HK1, HO_4, HO_5, HO_9, HB⟩ := hrel
  cases gk with
  | zero => exact absurd HA.out (by simp [dbus_DoorTokens.l0])
  | succ k1 =>
   have H := HA.out
   clear HA
   simp only [dbus_DoorTokens.l0] at H
   by_cases c5 : x11_1 < (t168.length : Int)
   ·rw [if_pos c5] at H
    have c5b0 : decide (x11_1 < (t168.length : Int)) = true := decide_eq_true c5
    clear c5
    by_cases c6 : 0 ≤ x11_1
    ·rw [if_pos c6] at H
     have c6b0 : decide (0 ≤ x11_1) = true := decide_eq_true c6
     clear c6
     by_cases c7 : x11_1 < (t168.length : Int)
     ·rw [if_pos c7] at H
      have c7b0 : decide (x11_1 < (t168.length : Int)) = true := decide_eq_true c7
      clear c7
      obtain ⟨y173, hy173⟩ : ∃ y_ : List Int, y_ = (([wrap64 ((rd_T48 t168 x11_1).f0)] : List Int)) := ⟨_, rfl⟩
      replace H : (if x4_1.length + y173.length < 17592186044416 then ((some (([(rd_T48 t168 x11_1).f1] : List ByteArray) : List ByteArray)).bind fun y179 => (if x5_1.length + y179.length < 8796093022208 then (dbus_DoorTokens.l0 k1 (x4_1 ++ y173) (x5_1 ++ y179) t168 (t168.length : Int) (wrap64 (x11_1 + 1))) else (none))) else (none)) = some (r1, r2) := by first | (rw [hy173]; with_reducible exact H) | (have H2_ := (Option.bind_some _ _).symm.trans H; rw [hy173]; with_reducible exact H2_) | (have H2_ := (Option.bind_some _ _).symm.trans H; with_reducible exact H2_) | with_reducible exact H | (rw [hy173]; exact H) | exact H
      have Ny173 := Aside0.mk hy173
      clear hy173
      by_cases c8 : x4_1.length + y173.length < 17592186044416
      ·rw [if_pos c8] at H
       have LMc8 := Aside0.mk c8
       clear c8
       obtain ⟨y176, hy176⟩ : ∃ y_ : List Int, y_ = (x4_1 ++ y173) := ⟨_, rfl⟩
       replace H : ((some (([(rd_T48 t168 x11_1).f1] : List ByteArray) : List ByteArray)).bind fun y179 => (if x5_1.length + y179.length < 8796093022208 then (dbus_DoorTokens.l0 k1 y176 (x5_1 ++ y179) t168 (t168.length : Int) (wrap64 (x11_1 + 1))) else (none))) = some (r1, r2) := by first | (rw [hy176]; with_reducible exact H) | (have H2_ := (Option.bind_some _ _).symm.trans H; rw [hy176]; with_reducible exact H2_) | (have H2_ := (Option.bind_some _ _).symm.trans H; with_reducible exact H2_) | with_reducible exact H | (rw [hy176]; exact H) | exact H
       have Ny176 := Aside0.mk hy176
       clear hy176
       obtain ⟨y179, hy179⟩ : ∃ y_ : List ByteArray, y_ = (([(rd_T48 t168 x11_1).f1] : List ByteArray)) := ⟨_, rfl⟩
       replace H : (if x5_1.length + y179.length < 8796093022208 then (dbus_DoorTokens.l0 k1 y176 (x5_1 ++ y179) t168 (t168.length : Int) (wrap64 (x11_1 + 1))) else (none)) = some (r1, r2) := by first | (rw [hy179]; with_reducible exact H) | (have H2_ := (Option.bind_some _ _).symm.trans H; rw [hy179]; with_reducible exact H2_) | (have H2_ := (Option.bind_some _ _).symm.trans H; with_reducible exact H2_) | with_reducible exact H | (rw [hy179]; exact H) | exact H
       have Ny179 := Aside0.mk hy179
       clear hy179
       by_cases c9 : x5_1.length + y179.length < 8796093022208
       ·rw [if_pos c9] at H
        have LMc9 := Aside0.mk c9
        clear c9
        obtain ⟨y182, hy182⟩ : ∃ y_ : List ByteArray, y_ = (x5_1 ++ y179) := ⟨_, rfl⟩
        replace H : (dbus_DoorTokens.l0 k1 y176 y182 t168 (t168.length : Int) (wrap64 (x11_1 + 1))) = some (r1, r2) := by first | (rw [hy182]; with_reducible exact H) | (have H2_ := (Option.bind_some _ _).symm.trans H; rw [hy182]; with_reducible exact H2_) | (have H2_ := (Option.bind_some _ _).symm.trans H; with_reducible exact H2_) | with_reducible exact H | (rw [hy182]; exact H) | exact H
        have Ny182 := Aside0.mk hy182
        clear hy182
        have H' := Aside0.mk H
        clear H
        have p171 : 0 ≤ (x11_1 : Int) := of_decide_eq_true (by first | (with_reducible assumption) | assumption)
        have q171 : x11_1 < (t168.length : Int) := of_decide_eq_true (by first | (with_reducible assumption) | assumption)
        obtain ⟨ad171, e171, hx171_0, hx171_1⟩ := at_T48 (Kd.R_reads' HO_9.out).2.2 x11_1 p171 q171
        cases e171
        replace p171 := eq_true p171
        replace q171 := eq_true q171
        try go_wp2_with (first | ((with_reducible refine gate_dst (N := 7) rfl ?_); refine box_event ?hg (N := 7) ?hd (cs := #[.int .u8 0, .string (⟨#[]⟩ : ByteArray)]) (t := 48) ?hr ?_; (case hd => rfl); (case hg => rfl); (case hr => first | (go_simp; done) | (go_simp; rfl)); intro gb172 hg w10 hbox hb; have n0_ := Aside0.mk (Kd.R_below (by (with_reducible repeat (first | apply Kd.R_alloc | apply Kd.R_drewN | apply Kd.R_drew)); exact HO_4.out) hb); have n1_ := Aside0.mk (Kd.R_below (by (with_reducible repeat (first | apply Kd.R_alloc | apply Kd.R_drewN | apply Kd.R_drew)); exact HO_5.out) hb); have n2_ := Aside0.mk (Kd.R_below (Kd.R_elderB (by (with_reducible repeat (first | apply Kd.R_alloc | apply Kd.R_drewN | apply Kd.R_drew)); exact HO_9.out) gb172 (Nat.le_of_eq hg.symm)) hb); have n3_ := Aside0.mk (below_step (by repeat (first | (with_reducible first | exact HB.out | apply below_alloc | apply pw_below_drewN | apply below_drew1) | exact HB.out)) hb); have n4_ := Aside0.mk (hbox); have n5_ := Aside0.mk ((by rw [hg]; exact (below_size (by repeat (first | (with_reducible first | exact HB.out | apply below_alloc | apply pw_below_drewN | apply below_drew1) | exact HB.out))) : w.heap.size ≤ gb172)); have n6_ := Aside0.mk ((by rw [hg]; exact (below_size (by repeat (first | (with_reducible first | exact HB.out | apply below_alloc | apply pw_below_drewN | apply below_drew1) | exact HB.out))) : w.heap.size ≤ gb172)); clear HO_4; clear HO_5; clear HO_9; clear HB; have HO_4 := n0_; have HO_5 := n1_; have HO_9 := n2_; have HB := n3_; have BK172 := n4_; have GW172 := n5_; have GE172 := n6_; clear n0_ n1_ n2_ n3_ n4_ n5_ n6_; clear hb hbox hg; have hcz11_0 : w10.cell? ⟨gb172, 0, none⟩ = some (.int .u8 0) := (blk_cell BK172.out 0).trans rfl; have hcz11_1 : w10.cell? ⟨gb172, 1, none⟩ = some (.string (⟨#[]⟩ : ByteArray)) := (blk_cell BK172.out 1).trans rfl; have hfz11_0 := blk_frozen BK172.out 0; have hfz11_1 := blk_frozen BK172.out 1; obtain ⟨Ao12, co12, eo12⟩ := Kd.R_slice HO_4.out; subst eo12; obtain ⟨Ao13, co13, eo13⟩ := Kd.R_slice HO_5.out; subst eo13))
        have n0_ : Aside0 (Kd.R (Kd.int .i64) 3 ((w10.setCell ⟨gb172, 0, none⟩ (.int .u8 ((rd_T48 t168 x11_1).f0))).setCell ⟨gb172, 1, none⟩ (.string ((rd_T48 t168 x11_1).f1))) w.heap.size (fun _ => True) (.slice Ao12 x4_1.length co12) x4_1) := ⟨by (with_reducible repeat (first | apply Kd.R_alloc | apply Kd.R_drewN | apply Kd.R_drew)); exact Kd.R_mono (Kd.R_far (p := ⟨gb172, 1, none⟩) (Kd.R_far (p := ⟨gb172, 0, none⟩) (Kd.R_types HO_4.out BK172.out (by decide)) (fun _ hk => hk.2) (.int .u8 ((rd_T48 t168 x11_1).f0))) (fun _ hk => hk.2) (.string ((rd_T48 t168 x11_1).f1))) (fun _ hk => trivial)⟩
        have n1_ : Aside0 (Kd.R Kd.string 9 ((w10.setCell ⟨gb172, 0, none⟩ (.int .u8 ((rd_T48 t168 x11_1).f0))).setCell ⟨gb172, 1, none⟩ (.string ((rd_T48 t168 x11_1).f1))) w.heap.size (fun _ => True) (.slice Ao13 x5_1.length co13) x5_1) := ⟨by (with_reducible repeat (first | apply Kd.R_alloc | apply Kd.R_drewN | apply Kd.R_drew)); exact Kd.R_mono (Kd.R_far (p := ⟨gb172, 1, none⟩) (Kd.R_far (p := ⟨gb172, 0, none⟩) (Kd.R_types HO_5.out BK172.out (by decide)) (fun _ hk => hk.2) (.int .u8 ((rd_T48 t168 x11_1).f0))) (fun _ hk => hk.2) (.string ((rd_T48 t168 x11_1).f1))) (fun _ hk => trivial)⟩
        have n2_ : Aside0 (Kd.R k48 48 ((w10.setCell ⟨gb172, 0, none⟩ (.int .u8 ((rd_T48 t168 x11_1).f0))).setCell ⟨gb172, 1, none⟩ (.string ((rd_T48 t168 x11_1).f1))) w.heap.size (fun k_ => k_ ≠ gb172) (.slice (some ad171) t168.length co4) t168) := ⟨by (with_reducible repeat (first | apply Kd.R_alloc | apply Kd.R_drewN | apply Kd.R_drew)); exact Kd.R_mono (Kd.R_far (p := ⟨gb172, 1, none⟩) (Kd.R_far (p := ⟨gb172, 0, none⟩) (Kd.R_mono HO_9.out (fun k_ hk => (⟨hk, hk.2⟩ : _ ∧ k_ ≠ gb172))) (fun _ hk => hk.2) (.int .u8 ((rd_T48 t168 x11_1).f0))) (fun _ hk => hk.2) (.string ((rd_T48 t168 x11_1).f1))) (fun _ hk => hk.1.2)⟩
        have n3_ : Aside0 (((w10.setCell ⟨gb172, 0, none⟩ (.int .u8 ((rd_T48 t168 x11_1).f0))).setCell ⟨gb172, 1, none⟩ (.string ((rd_T48 t168 x11_1).f1))).heap[gb172]? = some (.cells #[.int .u8 ((rd_T48 t168 x11_1).f0), .string ((rd_T48 t168 x11_1).f1)] 48 (0, 0))) := ⟨by (with_reducible repeat (first | refine blk_drewN ?_ _ | refine blk_drew ?_ | refine blk_alloc ?_ _)); refine blk_put (cs := #[.int .u8 ((rd_T48 t168 x11_1).f0), .string (⟨#[]⟩ : ByteArray)]) ?_ 1 _ rfl; (with_reducible repeat (first | refine blk_drewN ?_ _ | refine blk_drew ?_ | refine blk_alloc ?_ _)); refine blk_put (cs := #[.int .u8 0, .string (⟨#[]⟩ : ByteArray)]) ?_ 0 _ rfl; (with_reducible repeat (first | refine blk_drewN ?_ _ | refine blk_drew ?_ | refine blk_alloc ?_ _)); exact BK172.out⟩
        have n4_ : Aside0 (Below w.heap.size w ((w10.setCell ⟨gb172, 0, none⟩ (.int .u8 ((rd_T48 t168 x11_1).f0))).setCell ⟨gb172, 1, none⟩ (.string ((rd_T48 t168 x11_1).f1)))) := ⟨by repeat (first | (with_reducible first | exact HB.out | apply below_alloc | apply pw_below_drewN | apply below_drew1 | refine below_set ?_ GE172.out) | exact HB.out)⟩
        (try clear HO_4)
        (try clear HO_5)
        (try clear HO_9)
        (try clear BK172)
        (try clear HB)
        generalize ((w10.setCell ⟨gb172, 0, none⟩ (.int .u8 ((rd_T48 t168 x11_1).f0))).setCell ⟨gb172, 1, none⟩ (.string ((rd_T48 t168 x11_1).f1))) = w14 at n0_ n1_ n2_ n3_ n4_ ⊢
        have HO_4 := n0_
        have HO_5 := n1_
        have HO_9 := n2_
        have BK172 := n3_
        have HB := n4_
        clear n0_ n1_ n2_ n3_ n4_
        have n0_ := Aside0.mk (Kd.R_drew HO_4.out)
        have n1_ := Aside0.mk (Kd.R_drew HO_5.out)
        have n2_ := Aside0.mk (Kd.R_drew HO_9.out)
        have n3_ := Aside0.mk (blk_drew BK172.out)
        have n4_ := Aside0.mk (below_drew1 HB.out)
        clear HO_4
        clear HO_5
        clear HO_9
        clear BK172
        clear HB
        have HO_4 := n0_
        have HO_5 := n1_
        have HO_9 := n2_
        have BK172 := n3_
        have HB := n4_
        clear n0_ n1_ n2_ n3_ n4_
        refine start_ (n := 13) (S := fun w' => w'.cell? ⟨gb172, 0, none⟩ = some (.int .u8 ((rd_T48 t168 x11_1).f0)) ∧ w'.cell? ⟨gb172, 1, none⟩ = some (.string ((rd_T48 t168 x11_1).f1))) (ds := []) #[false, false, false, false, false, false, false, false, false, false, false, false, false] (by kernel_rfl) rfl rfl ⟨(blk_cell BK172.out 0).trans rfl, (blk_cell BK172.out 1).trans rfl⟩ (fun hHeld => ?_); refine with_tabW dbus_DoorTokens.tab6 dbus_DoorTokens.bits6 (fun HT_ HW_ => ?_)
        generalize w14.drew = w15 at HO_4 HO_5 HO_9 BK172 HB hHeld ⊢
        refine pure_ (i := 0) (N := some 15) (v := ?_) (a' := ?_) #[true, false, false, false, false, false, false, false, false, false, false, false, false] rfl rfl (any_of HT_.out (by kernel_rfl)) (fun _ _ _ h => h) (Or.inl ⟨by rfl, ?_⟩) ?_ ?_
        rotate_left
        ·intro w'
         go_simp
         with_reducible rfl
        rotate_left
        ·simp only [Act.put, List.setIfInBounds_toArray, List.set_cons_zero, List.set_cons_succ, i64_w, i32_w]
         rfl
        refine pure_ (i := 1) (N := some 16) (v := ?_) (a' := ?_) #[true, true, false, false, false, false, false, false, false, false, false, false, false] rfl rfl (any_of HT_.out (by kernel_rfl)) (fun _ _ _ h => h) (Or.inl ⟨by rfl, ?_⟩) ?_ ?_
        rotate_left
        ·intro w'
         go_simp
         with_reducible rfl
        rotate_left
        ·simp only [Act.put, List.setIfInBounds_toArray, List.set_cons_zero, List.set_cons_succ, i64_w, i32_w]
         rfl
        refine pure_ (i := 6) (N := some 21) (v := ?_) (a' := ?_) #[true, true, false, false, false, false, true, false, false, false, false, false, false] rfl rfl (any_of HT_.out (by kernel_rfl)) (fun _ _ _ h => h) (Or.inl ⟨by rfl, ?_⟩) ?_ ?_
        rotate_left
        ·intro w'
         go_simp
         with_reducible rfl
        rotate_left
        ·simp only [Act.put, List.setIfInBounds_toArray, List.set_cons_zero, List.set_cons_succ, i64_w, i32_w]
         rfl
        refine pure_ (i := 7) (N := some 22) (v := ?_) (a' := ?_) #[true, true, false, false, false, false, true, true, false, false, false, false, false] rfl rfl (any_of HT_.out (by kernel_rfl)) (fun _ _ _ h => h) (Or.inl ⟨by rfl, ?_⟩) ?_ ?_
        rotate_left
        ·intro w'
         go_simp
         with_reducible rfl
        rotate_left
        ·simp only [Act.put, List.setIfInBounds_toArray, List.set_cons_zero, List.set_cons_succ, i64_w, i32_w]
         rfl
        refine take_ (i := 2) (N := some 17) (v := ?_) (a' := ?_) #[true, true, true, false, false, false, true, true, false, false, false, false, false] rfl rfl (take_ofW HT_.out HW_.out (by kernel_rfl)) (fun _ _ _ h => h) (Or.inl ⟨by rfl, ?_⟩) hHeld ?_ ?_
        rotate_left
        ·rintro w' ⟨s0, s1⟩
         go_simp
         with_reducible rfl
        rotate_left
        ·simp only [Act.put, List.setIfInBounds_toArray, List.set_cons_zero, List.set_cons_succ, i64_w, i32_w]
         rfl
        refine pure_ (i := 3) (N := some 18) (v := ?_) (a' := ?_) #[true, true, true, true, false, false, true, true, false, false, false, false, false] rfl rfl (any_of HT_.out (by kernel_rfl)) (fun _ _ _ h => h) (Or.inl ⟨by rfl, ?_⟩) ?_ ?_
        rotate_left
        ·intro w'
         go_simp
         with_reducible rfl
        rotate_left
        ·simp only [Act.put, List.setIfInBounds_toArray, List.set_cons_zero, List.set_cons_succ, i64_w, i32_w]
         rfl
        refine take_ (i := 8) (N := some 23) (v := ?_) (a' := ?_) #[true, true, true, true, false, false, true, true, true, false, false, false, false] rfl rfl (take_ofW HT_.out HW_.out (by kernel_rfl)) (fun _ _ _ h => h) (Or.inl ⟨by rfl, ?_⟩) hHeld ?_ ?_
        rotate_left
        ·rintro w' ⟨s0, s1⟩
         go_simp
         with_reducible rfl
        rotate_left
        ·simp only [Act.put, List.setIfInBounds_toArray, List.set_cons_zero, List.set_cons_succ, i64_w, i32_w]
         rfl
        refine join_ (σ := Value × Value × Value) 3 #[true, true, true, true, true, true, true, true, true, true, false, false, false] (fun s_ => [(19, s_.1), (20, s_.2.1), (24, s_.2.2)]) (fun s_ w' => (w'.cell? ⟨gb172, 0, none⟩ = some (.int .u8 ((rd_T48 t168 x11_1).f0)) ∧ w'.cell? ⟨gb172, 1, none⟩ = some (.string ((rd_T48 t168 x11_1).f1))) ∧ (Kd.R (Kd.int .i64) 3 w' w.heap.size (fun k_ => some k_ ≠ (s_.2.1 : Value).ownBlock) s_.1 y173) ∧ (Kd.R (Kd.int .i64) 3 w' w.heap.size (fun k_ => some k_ ≠ (s_.1 : Value).ownBlock) s_.2.1 y176) ∧ (Kd.R Kd.string 9 w' w.heap.size (fun k_ => some k_ ≠ (.slice Ao13 x5_1.length co13 : Value).ownBlock) s_.2.2 y179) ∧ (Kd.R Kd.string 9 w' w.heap.size (fun k_ => some k_ ≠ (s_.2.2 : Value).ownBlock) (.slice Ao13 x5_1.length co13) x5_1) ∧ (Kd.R k48 48 w' w.heap.size (fun k_ => k_ ≠ gb172) (.slice (some ad171) t168.length co4) t168) ∧ (w'.heap[gb172]? = some (.cells #[.int .u8 ((rd_T48 t168 x11_1).f0), .string ((rd_T48 t168 x11_1).f1)] 48 (0, 0))) ∧ (Below w.heap.size w w')) ?_ ?_
        rotate_left
        ·intro hCont
         refine two_ (i := 4) (j := 9) (Ni := some 19) (Nj := some 24) #[true, true, true, true, true, false, true, true, true, false, false, false, false] #[true, true, true, true, false, false, true, true, true, true, false, false, false] rfl rfl rfl rfl (two_of HT_.out (by kernel_rfl)) (by decide) (by decide) (fun K hK => ?_) (fun K hK => ?_)
         ·skip
          refine Kd.R_lit_step (Kd.int .i64) _ 3 ?hg (N := 19) ?hd (xs := ([wrap64 ((rd_T48 t168 x11_1).f0)] : List Int)) (inner := [.int .i64 (wrap64 ((rd_T48 t168 x11_1).f0))]) (ok := fun _ => True) (okp := fun _ => True) ?hr ?hp (fun _ hk => hk) trivial (Below.refl _ _) (Nat.le_refl _) (by simp) ?_; (case hd => rfl); (case hg => rfl); (case hr => first | (go_simp; done) | (go_simp; rfl)); (case hp => exact (Reps.one (show Kd.M (Kd.int .i64) _ _ _ (wrap64 ((rd_T48 t168 x11_1).f0)) [.int .i64 (wrap64 ((rd_T48 t168 x11_1).f0))] from rfl) (Reps.none _ _)))
          intro v174 w16 ho17 hb hg_ hnew_
          clear hg_ hnew_
          (first | rw [← Ny173.out] at ho17 | (simp only [Int.reduceToNat] at ho17; rw [← Ny173.out] at ho17))
          have n0_ := Aside0.mk (Kd.R_elder' (by (with_reducible repeat (first | apply Kd.R_alloc | apply Kd.R_drewN | apply Kd.R_drew)); exact HO_4.out) (Kd.R_base ho17) hb)
          have n1_ := Aside0.mk (Kd.R_below (by (with_reducible repeat (first | apply Kd.R_alloc | apply Kd.R_drewN | apply Kd.R_drew)); exact HO_5.out) hb)
          have n2_ := Aside0.mk (Kd.R_below (by (with_reducible repeat (first | apply Kd.R_alloc | apply Kd.R_drewN | apply Kd.R_drew)); exact HO_9.out) hb)
          have n3_ := Aside0.mk (Kd.R_lower (Kd.R_new' ho17 (Kd.R_lt (by (with_reducible repeat (first | apply Kd.R_alloc | apply Kd.R_drewN | apply Kd.R_drew)); exact HO_4.out))) (below_size (by repeat (first | (with_reducible first | exact HB.out | apply below_alloc | apply pw_below_drewN | apply below_drew1 | refine below_set ?_ GE172.out) | exact HB.out))))
          have n4_ := Aside0.mk (blk_below (g := gb172) (o := .cells #[.int .u8 ((rd_T48 t168 x11_1).f0), .string ((rd_T48 t168 x11_1).f1)] 48 (0, 0)) (by (with_reducible repeat (first | refine blk_drewN ?_ _ | refine blk_drew ?_ | refine blk_alloc ?_ _)); exact BK172.out) hb)
          have n5_ := Aside0.mk (below_step (by repeat (first | (with_reducible first | exact HB.out | apply below_alloc | apply pw_below_drewN | apply below_drew1 | refine below_set ?_ GE172.out) | exact HB.out)) hb)
          clear HO_4
          clear HO_5
          clear HO_9
          clear BK172
          clear HB
          have HO_4 := n0_
          have HO_5 := n1_
          have HO_9 := n2_
          have HO175 := n3_
          have BK172 := n4_
          have HB := n5_
          clear n0_ n1_ n2_ n3_ n4_ n5_
          clear hb ho17
          obtain ⟨Ao19, co19, eo19⟩ := Kd.R_slice HO175.out
          (first | subst eo19 | (injection eo19 with f1_ f2_ f3_; have f4_ := f1_.symm; have f5_ := f3_.symm; clear f1_ f2_ f3_; subst f4_; subst f5_))
          refine hK.out _ _ ⟨(blk_cell BK172.out 0).trans rfl, (blk_cell BK172.out 1).trans rfl⟩ (fun hHeld => ?_)
          clear hK K
          refine norm_ (a' := ?_) ?_ ?_
          rotate_left
          ·show Act.put _ (some 19) _ = _
           simp only [Act.put, List.setIfInBounds_toArray, List.set_cons_zero, List.set_cons_succ, i64_w, i32_w]
           rfl
          refine two_ (i := 5) (j := 9) (Ni := some 20) (Nj := some 24) #[true, true, true, true, true, true, true, true, true, false, false, false, false] #[true, true, true, true, true, false, true, true, true, true, false, false, false] rfl rfl rfl rfl (two_of HT_.out (by kernel_rfl)) (by decide) (by decide) (fun K hK => ?_) (fun K hK => ?_)
          ·skip
           refine Kd.R_append_rows_step (Kd.int .i64) (w0 := w) w.heap.size (by rfl) (.tmp 15) (.tmp 19) 27 3 (.int .i64 0) 8 rfl Tryd.underlying27 info3 rfl (by decide) (by omega) (.slice Ao12 x4_1.length co12) x4_1 y173 _ _ _ (fun k_ => some k_ ≠ (.slice Ao19 y173.length co19 : Value).ownBlock) (fun _ => False) rfl rfl ?aO ?aR (fun _ _ h => h) (fun _ h => h.elim) ?aF ?aB ?aS ?aL ?_
           (case aR => repeat (first | exact (Kd.R_reads' HO175.out).2.2 | (with_reducible refine Kd.C_alloc ?_ _) | (with_reducible refine Kd.C_drewN ?_ _) | (with_reducible refine Kd.C_drew ?_)))
           (case aB => exact (by repeat (first | (with_reducible first | exact HB.out | apply below_alloc | apply pw_below_drewN | apply below_drew1 | refine below_set ?_ GE172.out) | exact HB.out)))
           (case aF => exact (fun k_ hk => Kd.fresh' (Kd.R_lt (by (with_reducible repeat (first | apply Kd.R_alloc | apply Kd.R_drewN | apply Kd.R_drew)); exact HO175.out)) k_ hk))
           (case aO => exact (by (with_reducible repeat (first | apply Kd.R_alloc | apply Kd.R_drewN | apply Kd.R_drew)); exact Kd.R_mono HO_4.out (fun _ hk => hk.2)))
           (case aS => exact (below_size (by repeat (first | (with_reducible first | exact HB.out | apply below_alloc | apply pw_below_drewN | apply below_drew1 | refine below_set ?_ GE172.out) | exact HB.out))))
           (case aL => have := LMc8.out; omega)
           intro v177 w18 ho hb hg hat
           rw [← Ny176.out] at ho
           have n0_ := Aside0.mk (Kd.R_over' (by (with_reducible repeat (first | apply Kd.R_alloc | apply Kd.R_drewN | apply Kd.R_drew)); exact HO_5.out) (Kd.R_typed (by (with_reducible repeat (first | apply Kd.R_alloc | apply Kd.R_drewN | apply Kd.R_drew)); exact HO_4.out)) (by decide) hg)
           have n1_ := Aside0.mk (Kd.R_over' (by (with_reducible repeat (first | apply Kd.R_alloc | apply Kd.R_drewN | apply Kd.R_drew)); exact HO_9.out) (Kd.R_typed (by (with_reducible repeat (first | apply Kd.R_alloc | apply Kd.R_drewN | apply Kd.R_drew)); exact HO_4.out)) (by decide) hg)
           have n2_ := Aside0.mk (blk_grown (g := gb172) (o := .cells #[.int .u8 ((rd_T48 t168 x11_1).f0), .string ((rd_T48 t168 x11_1).f1)] 48 (0, 0)) (by (with_reducible repeat (first | refine blk_drewN ?_ _ | refine blk_drew ?_ | refine blk_alloc ?_ _)); exact BK172.out) hg (Kd.R_ne HO_4.out BK172.out (by decide)))
           have n3_ := Aside0.mk (Kd.R_after (ok := (fun _ => True)) (by (with_reducible repeat (first | apply Kd.R_alloc | apply Kd.R_drewN | apply Kd.R_drew)); exact HO175.out) hg hat)
           have n4_ := Aside0.mk (hb)
           have n5_ := Aside0.mk (ho)
           clear HO_5
           clear HO_9
           clear BK172
           clear HO175
           clear HB
           clear HO_4
           have HO_5 := n0_
           have HO_9 := n1_
           have BK172 := n2_
           have HO175 := n3_
           have HB := n4_
           have HO178 := n5_
           clear n0_ n1_ n2_ n3_ n4_ n5_
           clear ho hb hg hat
           refine hK.out _ _ ⟨(blk_cell BK172.out 0).trans rfl, (blk_cell BK172.out 1).trans rfl⟩ (fun hHeld => ?_)
           clear hK K
           refine norm_ (a' := ?_) ?_ ?_
           rotate_left
           ·show Act.put _ (some 20) _ = _
            simp only [Act.put, List.setIfInBounds_toArray, List.set_cons_zero, List.set_cons_succ, i64_w, i32_w]
            rfl
           refine one_ (i := 9) (N := some 24) #[true, true, true, true, true, true, true, true, true, true, false, false, false] rfl rfl (one_of HT_.out (by kernel_rfl)) (by decide) (fun K hK => ?_)
           refine Kd.R_lit_step Kd.string _ 9 ?hg (N := 24) ?hd (xs := ([(rd_T48 t168 x11_1).f1] : List ByteArray)) (inner := [.string ((rd_T48 t168 x11_1).f1)]) (ok := fun _ => True) (okp := fun _ => True) ?hr ?hp (fun _ hk => hk) trivial (Below.refl _ _) (Nat.le_refl _) (by simp) ?_; (case hd => rfl); (case hg => rfl); (case hr => first | (go_simp; done) | (go_simp; rfl)); (case hp => exact (Reps.one (show Kd.M Kd.string _ _ _ ((rd_T48 t168 x11_1).f1) [.string ((rd_T48 t168 x11_1).f1)] from rfl) (Reps.none _ _)))
           intro v180 w20 ho21 hb hg_ hnew_
           clear hg_ hnew_
           (first | rw [← Ny179.out] at ho21 | (simp only [Int.reduceToNat] at ho21; rw [← Ny179.out] at ho21))
           have n0_ := Aside0.mk (Kd.R_elder' (by (with_reducible repeat (first | apply Kd.R_alloc | apply Kd.R_drewN | apply Kd.R_drew)); exact HO_5.out) (Kd.R_base ho21) hb)
           have n1_ := Aside0.mk (Kd.R_below (by (with_reducible repeat (first | apply Kd.R_alloc | apply Kd.R_drewN | apply Kd.R_drew)); exact HO_9.out) hb)
           have n2_ := Aside0.mk (Kd.R_below (by (with_reducible repeat (first | apply Kd.R_alloc | apply Kd.R_drewN | apply Kd.R_drew)); exact HO175.out) hb)
           have n3_ := Aside0.mk (Kd.R_below (by (with_reducible repeat (first | apply Kd.R_alloc | apply Kd.R_drewN | apply Kd.R_drew)); exact HO178.out) hb)
           have n4_ := Aside0.mk (Kd.R_lower (Kd.R_new' ho21 (Kd.R_lt (by (with_reducible repeat (first | apply Kd.R_alloc | apply Kd.R_drewN | apply Kd.R_drew)); exact HO_5.out))) (below_size (by repeat (first | (with_reducible first | exact HB.out | apply below_alloc | apply pw_below_drewN | apply below_drew1 | refine below_set ?_ GE172.out) | exact HB.out))))
           have n5_ := Aside0.mk (blk_below (g := gb172) (o := .cells #[.int .u8 ((rd_T48 t168 x11_1).f0), .string ((rd_T48 t168 x11_1).f1)] 48 (0, 0)) (by (with_reducible repeat (first | refine blk_drewN ?_ _ | refine blk_drew ?_ | refine blk_alloc ?_ _)); exact BK172.out) hb)
           have n6_ := Aside0.mk (below_step (by repeat (first | (with_reducible first | exact HB.out | apply below_alloc | apply pw_below_drewN | apply below_drew1 | refine below_set ?_ GE172.out) | exact HB.out)) hb)
           clear HO_5
           clear HO_9
           clear HO175
           clear HO178
           clear BK172
           clear HB
           have HO_5 := n0_
           have HO_9 := n1_
           have HO175 := n2_
           have HO178 := n3_
           have HO181 := n4_
           have BK172 := n5_
           have HB := n6_
           clear n0_ n1_ n2_ n3_ n4_ n5_ n6_
           clear hb ho21
           refine hK.out _ _ ⟨(blk_cell BK172.out 0).trans rfl, (blk_cell BK172.out 1).trans rfl⟩ (fun hHeld => ?_)
           clear hK K
           refine norm_ (a' := ?_) ?_ ?_
           rotate_left
           ·show Act.put _ (some 24) _ = _
            simp only [Act.put, List.setIfInBounds_toArray, List.set_cons_zero, List.set_cons_succ, i64_w, i32_w]
            rfl
           exact norm_ (by simp only [putAll, Act.put, List.setIfInBounds_toArray, List.set_cons_zero, List.set_cons_succ]) (hCont (.slice Ao19 y173.length co19, v177, v180) _ ⟨hHeld, (by (with_reducible repeat (first | apply Kd.R_alloc | apply Kd.R_drewN | apply Kd.R_drew)); exact Kd.R_mono HO175.out (fun _ hk => hk.2)), (by (with_reducible repeat (first | apply Kd.R_alloc | apply Kd.R_drewN | apply Kd.R_drew)); exact HO178.out), (by (with_reducible repeat (first | apply Kd.R_alloc | apply Kd.R_drewN | apply Kd.R_drew)); exact Kd.R_mono HO181.out (fun _ hk => hk.2)), (by (with_reducible repeat (first | apply Kd.R_alloc | apply Kd.R_drewN | apply Kd.R_drew)); exact Kd.R_mono HO_5.out (fun _ hk => hk.2)), (by (with_reducible repeat (first | apply Kd.R_alloc | apply Kd.R_drewN | apply Kd.R_drew)); exact HO_9.out), (by (with_reducible repeat (first | refine blk_drewN ?_ _ | refine blk_drew ?_ | refine blk_alloc ?_ _)); exact BK172.out), (by repeat (first | (with_reducible first | exact HB.out | apply below_alloc | apply pw_below_drewN | apply below_drew1 | refine below_set ?_ GE172.out) | exact HB.out))⟩)
          ·skip
           refine Kd.R_lit_step Kd.string _ 9 ?hg (N := 24) ?hd (xs := ([(rd_T48 t168 x11_1).f1] : List ByteArray)) (inner := [.string ((rd_T48 t168 x11_1).f1)]) (ok := fun _ => True) (okp := fun _ => True) ?hr ?hp (fun _ hk => hk) trivial (Below.refl _ _) (Nat.le_refl _) (by simp) ?_; (case hd => rfl); (case hg => rfl); (case hr => first | (go_simp; done) | (go_simp; rfl)); (case hp => exact (Reps.one (show Kd.M Kd.string _ _ _ ((rd_T48 t168 x11_1).f1) [.string ((rd_T48 t168 x11_1).f1)] from rfl) (Reps.none _ _)))
           intro v180 w18 ho19 hb hg_ hnew_
           clear hg_ hnew_
           (first | rw [← Ny179.out] at ho19 | (simp only [Int.reduceToNat] at ho19; rw [← Ny179.out] at ho19))
           have n0_ := Aside0.mk (Kd.R_below (by (with_reducible repeat (first | apply Kd.R_alloc | apply Kd.R_drewN | apply Kd.R_drew)); exact HO_4.out) hb)
           have n1_ := Aside0.mk (Kd.R_elder' (by (with_reducible repeat (first | apply Kd.R_alloc | apply Kd.R_drewN | apply Kd.R_drew)); exact HO_5.out) (Kd.R_base ho19) hb)
           have n2_ := Aside0.mk (Kd.R_below (by (with_reducible repeat (first | apply Kd.R_alloc | apply Kd.R_drewN | apply Kd.R_drew)); exact HO_9.out) hb)
           have n3_ := Aside0.mk (Kd.R_below (by (with_reducible repeat (first | apply Kd.R_alloc | apply Kd.R_drewN | apply Kd.R_drew)); exact HO175.out) hb)
           have n4_ := Aside0.mk (Kd.R_lower (Kd.R_new' ho19 (Kd.R_lt (by (with_reducible repeat (first | apply Kd.R_alloc | apply Kd.R_drewN | apply Kd.R_drew)); exact HO_5.out))) (below_size (by repeat (first | (with_reducible first | exact HB.out | apply below_alloc | apply pw_below_drewN | apply below_drew1 | refine below_set ?_ GE172.out) | exact HB.out))))
           have n5_ := Aside0.mk (blk_below (g := gb172) (o := .cells #[.int .u8 ((rd_T48 t168 x11_1).f0), .string ((rd_T48 t168 x11_1).f1)] 48 (0, 0)) (by (with_reducible repeat (first | refine blk_drewN ?_ _ | refine blk_drew ?_ | refine blk_alloc ?_ _)); exact BK172.out) hb)
           have n6_ := Aside0.mk (below_step (by repeat (first | (with_reducible first | exact HB.out | apply below_alloc | apply pw_below_drewN | apply below_drew1 | refine below_set ?_ GE172.out) | exact HB.out)) hb)
           clear HO_4
           clear HO_5
           clear HO_9
           clear HO175
           clear BK172
           clear HB
           have HO_4 := n0_
           have HO_5 := n1_
           have HO_9 := n2_
           have HO175 := n3_
           have HO181 := n4_
           have BK172 := n5_
           have HB := n6_
           clear n0_ n1_ n2_ n3_ n4_ n5_ n6_
           clear hb ho19
           obtain ⟨Ao21, co21, eo21⟩ := Kd.R_slice HO175.out
           (first | subst eo21 | (injection eo21 with f1_ f2_ f3_; have f4_ := f1_.symm; have f5_ := f3_.symm; clear f1_ f2_ f3_; subst f4_; subst f5_))
           refine hK.out _ _ ⟨(blk_cell BK172.out 0).trans rfl, (blk_cell BK172.out 1).trans rfl⟩ (fun hHeld => ?_)
           clear hK K
           refine norm_ (a' := ?_) ?_ ?_
           rotate_left
           ·show Act.put _ (some 24) _ = _
            simp only [Act.put, List.setIfInBounds_toArray, List.set_cons_zero, List.set_cons_succ, i64_w, i32_w]
            rfl
           refine one_ (i := 5) (N := some 20) #[true, true, true, true, true, true, true, true, true, true, false, false, false] rfl rfl (one_of HT_.out (by kernel_rfl)) (by decide) (fun K hK => ?_)
           refine Kd.R_append_rows_step (Kd.int .i64) (w0 := w) w.heap.size (by rfl) (.tmp 15) (.tmp 19) 27 3 (.int .i64 0) 8 rfl Tryd.underlying27 info3 rfl (by decide) (by omega) (.slice Ao12 x4_1.length co12) x4_1 y173 _ _ _ (fun k_ => some k_ ≠ (.slice Ao21 y173.length co21 : Value).ownBlock) (fun _ => False) rfl rfl ?aO ?aR (fun _ _ h => h) (fun _ h => h.elim) ?aF ?aB ?aS ?aL ?_
           (case aR => repeat (first | exact (Kd.R_reads' HO175.out).2.2 | (with_reducible refine Kd.C_alloc ?_ _) | (with_reducible refine Kd.C_drewN ?_ _) | (with_reducible refine Kd.C_drew ?_)))
           (case aB => exact (by repeat (first | (with_reducible first | exact HB.out | apply below_alloc | apply pw_below_drewN | apply below_drew1 | refine below_set ?_ GE172.out) | exact HB.out)))
           (case aF => exact (fun k_ hk => Kd.fresh' (Kd.R_lt (by (with_reducible repeat (first | apply Kd.R_alloc | apply Kd.R_drewN | apply Kd.R_drew)); exact HO175.out)) k_ hk))
           (case aO => exact (by (with_reducible repeat (first | apply Kd.R_alloc | apply Kd.R_drewN | apply Kd.R_drew)); exact Kd.R_mono HO_4.out (fun _ hk => hk.2)))
           (case aS => exact (below_size (by repeat (first | (with_reducible first | exact HB.out | apply below_alloc | apply pw_below_drewN | apply below_drew1 | refine below_set ?_ GE172.out) | exact HB.out))))
           (case aL => have := LMc8.out; omega)
           intro v177 w20 ho hb hg hat
           rw [← Ny176.out] at ho
           have n0_ := Aside0.mk (Kd.R_over' (by (with_reducible repeat (first | apply Kd.R_alloc | apply Kd.R_drewN | apply Kd.R_drew)); exact HO_5.out) (Kd.R_typed (by (with_reducible repeat (first | apply Kd.R_alloc | apply Kd.R_drewN | apply Kd.R_drew)); exact HO_4.out)) (by decide) hg)
           have n1_ := Aside0.mk (Kd.R_over' (by (with_reducible repeat (first | apply Kd.R_alloc | apply Kd.R_drewN | apply Kd.R_drew)); exact HO_9.out) (Kd.R_typed (by (with_reducible repeat (first | apply Kd.R_alloc | apply Kd.R_drewN | apply Kd.R_drew)); exact HO_4.out)) (by decide) hg)
           have n2_ := Aside0.mk (blk_grown (g := gb172) (o := .cells #[.int .u8 ((rd_T48 t168 x11_1).f0), .string ((rd_T48 t168 x11_1).f1)] 48 (0, 0)) (by (with_reducible repeat (first | refine blk_drewN ?_ _ | refine blk_drew ?_ | refine blk_alloc ?_ _)); exact BK172.out) hg (Kd.R_ne HO_4.out BK172.out (by decide)))
           have n3_ := Aside0.mk (Kd.R_after (ok := (fun _ => True)) (by (with_reducible repeat (first | apply Kd.R_alloc | apply Kd.R_drewN | apply Kd.R_drew)); exact HO175.out) hg hat)
           have n4_ := Aside0.mk (Kd.R_over' (by (with_reducible repeat (first | apply Kd.R_alloc | apply Kd.R_drewN | apply Kd.R_drew)); exact HO181.out) (Kd.R_typed (by (with_reducible repeat (first | apply Kd.R_alloc | apply Kd.R_drewN | apply Kd.R_drew)); exact HO_4.out)) (by decide) hg)
           have n5_ := Aside0.mk (hb)
           have n6_ := Aside0.mk (ho)
           clear HO_5
           clear HO_9
           clear BK172
           clear HO175
           clear HO181
           clear HB
           clear HO_4
           have HO_5 := n0_
           have HO_9 := n1_
           have BK172 := n2_
           have HO175 := n3_
           have HO181 := n4_
           have HB := n5_
           have HO178 := n6_
           clear n0_ n1_ n2_ n3_ n4_ n5_ n6_
           clear ho hb hg hat
           refine hK.out _ _ ⟨(blk_cell BK172.out 0).trans rfl, (blk_cell BK172.out 1).trans rfl⟩ (fun hHeld => ?_)
           clear hK K
           refine norm_ (a' := ?_) ?_ ?_
           rotate_left
           ·show Act.put _ (some 20) _ = _
            simp only [Act.put, List.setIfInBounds_toArray, List.set_cons_zero, List.set_cons_succ, i64_w, i32_w]
            rfl
           exact norm_ (by simp only [putAll, Act.put, List.setIfInBounds_toArray, List.set_cons_zero, List.set_cons_succ]) (hCont (.slice Ao21 y173.length co21, v177, v180) _ ⟨hHeld, (by (with_reducible repeat (first | apply Kd.R_alloc | apply Kd.R_drewN | apply Kd.R_drew)); exact Kd.R_mono HO175.out (fun _ hk => hk.2)), (by (with_reducible repeat (first | apply Kd.R_alloc | apply Kd.R_drewN | apply Kd.R_drew)); exact HO178.out), (by (with_reducible repeat (first | apply Kd.R_alloc | apply Kd.R_drewN | apply Kd.R_drew)); exact Kd.R_mono HO181.out (fun _ hk => hk.2)), (by (with_reducible repeat (first | apply Kd.R_alloc | apply Kd.R_drewN | apply Kd.R_drew)); exact Kd.R_mono HO_5.out (fun _ hk => hk.2)), (by (with_reducible repeat (first | apply Kd.R_alloc | apply Kd.R_drewN | apply Kd.R_drew)); exact HO_9.out), (by (with_reducible repeat (first | refine blk_drewN ?_ _ | refine blk_drew ?_ | refine blk_alloc ?_ _)); exact BK172.out), (by repeat (first | (with_reducible first | exact HB.out | apply below_alloc | apply pw_below_drewN | apply below_drew1 | refine below_set ?_ GE172.out) | exact HB.out))⟩)
         ·skip
          refine Kd.R_lit_step Kd.string _ 9 ?hg (N := 24) ?hd (xs := ([(rd_T48 t168 x11_1).f1] : List ByteArray)) (inner := [.string ((rd_T48 t168 x11_1).f1)]) (ok := fun _ => True) (okp := fun _ => True) ?hr ?hp (fun _ hk => hk) trivial (Below.refl _ _) (Nat.le_refl _) (by simp) ?_; (case hd => rfl); (case hg => rfl); (case hr => first | (go_simp; done) | (go_simp; rfl)); (case hp => exact (Reps.one (show Kd.M Kd.string _ _ _ ((rd_T48 t168 x11_1).f1) [.string ((rd_T48 t168 x11_1).f1)] from rfl) (Reps.none _ _)))
          intro v180 w16 ho17 hb hg_ hnew_
          clear hg_ hnew_
          (first | rw [← Ny179.out] at ho17 | (simp only [Int.reduceToNat] at ho17; rw [← Ny179.out] at ho17))
          have n0_ := Aside0.mk (Kd.R_below (by (with_reducible repeat (first | apply Kd.R_alloc | apply Kd.R_drewN | apply Kd.R_drew)); exact HO_4.out) hb)
          have n1_ := Aside0.mk (Kd.R_elder' (by (with_reducible repeat (first | apply Kd.R_alloc | apply Kd.R_drewN | apply Kd.R_drew)); exact HO_5.out) (Kd.R_base ho17) hb)
          have n2_ := Aside0.mk (Kd.R_below (by (with_reducible repeat (first | apply Kd.R_alloc | apply Kd.R_drewN | apply Kd.R_drew)); exact HO_9.out) hb)
          have n3_ := Aside0.mk (Kd.R_lower (Kd.R_new' ho17 (Kd.R_lt (by (with_reducible repeat (first | apply Kd.R_alloc | apply Kd.R_drewN | apply Kd.R_drew)); exact HO_5.out))) (below_size (by repeat (first | (with_reducible first | exact HB.out | apply below_alloc | apply pw_below_drewN | apply below_drew1 | refine below_set ?_ GE172.out) | exact HB.out))))
          have n4_ := Aside0.mk (blk_below (g := gb172) (o := .cells #[.int .u8 ((rd_T48 t168 x11_1).f0), .string ((rd_T48 t168 x11_1).f1)] 48 (0, 0)) (by (with_reducible repeat (first | refine blk_drewN ?_ _ | refine blk_drew ?_ | refine blk_alloc ?_ _)); exact BK172.out) hb)
          have n5_ := Aside0.mk (below_step (by repeat (first | (with_reducible first | exact HB.out | apply below_alloc | apply pw_below_drewN | apply below_drew1 | refine below_set ?_ GE172.out) | exact HB.out)) hb)
          clear HO_4
          clear HO_5
          clear HO_9
          clear BK172
          clear HB
          have HO_4 := n0_
          have HO_5 := n1_
          have HO_9 := n2_
          have HO181 := n3_
          have BK172 := n4_
          have HB := n5_
          clear n0_ n1_ n2_ n3_ n4_ n5_
          clear hb ho17
          refine hK.out _ _ ⟨(blk_cell BK172.out 0).trans rfl, (blk_cell BK172.out 1).trans rfl⟩ (fun hHeld => ?_)
          clear hK K
          refine norm_ (a' := ?_) ?_ ?_
          rotate_left
          ·show Act.put _ (some 24) _ = _
           simp only [Act.put, List.setIfInBounds_toArray, List.set_cons_zero, List.set_cons_succ, i64_w, i32_w]
           rfl
          refine one_ (i := 4) (N := some 19) #[true, true, true, true, true, false, true, true, true, true, false, false, false] rfl rfl (one_of HT_.out (by kernel_rfl)) (by decide) (fun K hK => ?_)
          refine Kd.R_lit_step (Kd.int .i64) _ 3 ?hg (N := 19) ?hd (xs := ([wrap64 ((rd_T48 t168 x11_1).f0)] : List Int)) (inner := [.int .i64 (wrap64 ((rd_T48 t168 x11_1).f0))]) (ok := fun _ => True) (okp := fun _ => True) ?hr ?hp (fun _ hk => hk) trivial (Below.refl _ _) (Nat.le_refl _) (by simp) ?_; (case hd => rfl); (case hg => rfl); (case hr => first | (go_simp; done) | (go_simp; rfl)); (case hp => exact (Reps.one (show Kd.M (Kd.int .i64) _ _ _ (wrap64 ((rd_T48 t168 x11_1).f0)) [.int .i64 (wrap64 ((rd_T48 t168 x11_1).f0))] from rfl) (Reps.none _ _)))
          intro v174 w18 ho19 hb hg_ hnew_
          clear hg_ hnew_
          (first | rw [← Ny173.out] at ho19 | (simp only [Int.reduceToNat] at ho19; rw [← Ny173.out] at ho19))
          have n0_ := Aside0.mk (Kd.R_elder' (by (with_reducible repeat (first | apply Kd.R_alloc | apply Kd.R_drewN | apply Kd.R_drew)); exact HO_4.out) (Kd.R_base ho19) hb)
          have n1_ := Aside0.mk (Kd.R_below (by (with_reducible repeat (first | apply Kd.R_alloc | apply Kd.R_drewN | apply Kd.R_drew)); exact HO_5.out) hb)
          have n2_ := Aside0.mk (Kd.R_below (by (with_reducible repeat (first | apply Kd.R_alloc | apply Kd.R_drewN | apply Kd.R_drew)); exact HO_9.out) hb)
          have n3_ := Aside0.mk (Kd.R_below (by (with_reducible repeat (first | apply Kd.R_alloc | apply Kd.R_drewN | apply Kd.R_drew)); exact HO181.out) hb)
          have n4_ := Aside0.mk (Kd.R_lower (Kd.R_new' ho19 (Kd.R_lt (by (with_reducible repeat (first | apply Kd.R_alloc | apply Kd.R_drewN | apply Kd.R_drew)); exact HO_4.out))) (below_size (by repeat (first | (with_reducible first | exact HB.out | apply below_alloc | apply pw_below_drewN | apply below_drew1 | refine below_set ?_ GE172.out) | exact HB.out))))
          have n5_ := Aside0.mk (blk_below (g := gb172) (o := .cells #[.int .u8 ((rd_T48 t168 x11_1).f0), .string ((rd_T48 t168 x11_1).f1)] 48 (0, 0)) (by (with_reducible repeat (first | refine blk_drewN ?_ _ | refine blk_drew ?_ | refine blk_alloc ?_ _)); exact BK172.out) hb)
          have n6_ := Aside0.mk (below_step (by repeat (first | (with_reducible first | exact HB.out | apply below_alloc | apply pw_below_drewN | apply below_drew1 | refine below_set ?_ GE172.out) | exact HB.out)) hb)
          clear HO_4
          clear HO_5
          clear HO_9
          clear HO181
          clear BK172
          clear HB
          have HO_4 := n0_
          have HO_5 := n1_
          have HO_9 := n2_
          have HO181 := n3_
          have HO175 := n4_
          have BK172 := n5_
          have HB := n6_
          clear n0_ n1_ n2_ n3_ n4_ n5_ n6_
          clear hb ho19
          obtain ⟨Ao21, co21, eo21⟩ := Kd.R_slice HO175.out
          (first | subst eo21 | (injection eo21 with f1_ f2_ f3_; have f4_ := f1_.symm; have f5_ := f3_.symm; clear f1_ f2_ f3_; subst f4_; subst f5_))
          refine hK.out _ _ ⟨(blk_cell BK172.out 0).trans rfl, (blk_cell BK172.out 1).trans rfl⟩ (fun hHeld => ?_)
          clear hK K
          refine norm_ (a' := ?_) ?_ ?_
          rotate_left
          ·show Act.put _ (some 19) _ = _
           simp only [Act.put, List.setIfInBounds_toArray, List.set_cons_zero, List.set_cons_succ, i64_w, i32_w]
           rfl
          refine one_ (i := 5) (N := some 20) #[true, true, true, true, true, true, true, true, true, true, false, false, false] rfl rfl (one_of HT_.out (by kernel_rfl)) (by decide) (fun K hK => ?_)
          refine Kd.R_append_rows_step (Kd.int .i64) (w0 := w) w.heap.size (by rfl) (.tmp 15) (.tmp 19) 27 3 (.int .i64 0) 8 rfl Tryd.underlying27 info3 rfl (by decide) (by omega) (.slice Ao12 x4_1.length co12) x4_1 y173 _ _ _ (fun k_ => some k_ ≠ (.slice Ao21 y173.length co21 : Value).ownBlock) (fun _ => False) rfl rfl ?aO ?aR (fun _ _ h => h) (fun _ h => h.elim) ?aF ?aB ?aS ?aL ?_
          (case aR => repeat (first | exact (Kd.R_reads' HO175.out).2.2 | (with_reducible refine Kd.C_alloc ?_ _) | (with_reducible refine Kd.C_drewN ?_ _) | (with_reducible refine Kd.C_drew ?_)))
          (case aB => exact (by repeat (first | (with_reducible first | exact HB.out | apply below_alloc | apply pw_below_drewN | apply below_drew1 | refine below_set ?_ GE172.out) | exact HB.out)))
          (case aF => exact (fun k_ hk => Kd.fresh' (Kd.R_lt (by (with_reducible repeat (first | apply Kd.R_alloc | apply Kd.R_drewN | apply Kd.R_drew)); exact HO175.out)) k_ hk))
          (case aO => exact (by (with_reducible repeat (first | apply Kd.R_alloc | apply Kd.R_drewN | apply Kd.R_drew)); exact Kd.R_mono HO_4.out (fun _ hk => hk.2)))
          (case aS => exact (below_size (by repeat (first | (with_reducible first | exact HB.out | apply below_alloc | apply pw_below_drewN | apply below_drew1 | refine below_set ?_ GE172.out) | exact HB.out))))
          (case aL => have := LMc8.out; omega)
          intro v177 w20 ho hb hg hat
          rw [← Ny176.out] at ho
          have n0_ := Aside0.mk (Kd.R_over' (by (with_reducible repeat (first | apply Kd.R_alloc | apply Kd.R_drewN | apply Kd.R_drew)); exact HO_5.out) (Kd.R_typed (by (with_reducible repeat (first | apply Kd.R_alloc | apply Kd.R_drewN | apply Kd.R_drew)); exact HO_4.out)) (by decide) hg)
          have n1_ := Aside0.mk (Kd.R_over' (by (with_reducible repeat (first | apply Kd.R_alloc | apply Kd.R_drewN | apply Kd.R_drew)); exact HO_9.out) (Kd.R_typed (by (with_reducible repeat (first | apply Kd.R_alloc | apply Kd.R_drewN | apply Kd.R_drew)); exact HO_4.out)) (by decide) hg)
          have n2_ := Aside0.mk (blk_grown (g := gb172) (o := .cells #[.int .u8 ((rd_T48 t168 x11_1).f0), .string ((rd_T48 t168 x11_1).f1)] 48 (0, 0)) (by (with_reducible repeat (first | refine blk_drewN ?_ _ | refine blk_drew ?_ | refine blk_alloc ?_ _)); exact BK172.out) hg (Kd.R_ne HO_4.out BK172.out (by decide)))
          have n3_ := Aside0.mk (Kd.R_over' (by (with_reducible repeat (first | apply Kd.R_alloc | apply Kd.R_drewN | apply Kd.R_drew)); exact HO181.out) (Kd.R_typed (by (with_reducible repeat (first | apply Kd.R_alloc | apply Kd.R_drewN | apply Kd.R_drew)); exact HO_4.out)) (by decide) hg)
          have n4_ := Aside0.mk (Kd.R_after (ok := (fun _ => True)) (by (with_reducible repeat (first | apply Kd.R_alloc | apply Kd.R_drewN | apply Kd.R_drew)); exact HO175.out) hg hat)
          have n5_ := Aside0.mk (hb)
          have n6_ := Aside0.mk (ho)
          clear HO_5
          clear HO_9
          clear BK172
          clear HO181
          clear HO175
          clear HB
          clear HO_4
          have HO_5 := n0_
          have HO_9 := n1_
          have BK172 := n2_
          have HO181 := n3_
          have HO175 := n4_
          have HB := n5_
          have HO178 := n6_
          clear n0_ n1_ n2_ n3_ n4_ n5_ n6_
          clear ho hb hg hat
          refine hK.out _ _ ⟨(blk_cell BK172.out 0).trans rfl, (blk_cell BK172.out 1).trans rfl⟩ (fun hHeld => ?_)
          clear hK K
          refine norm_ (a' := ?_) ?_ ?_
          rotate_left
          ·show Act.put _ (some 20) _ = _
           simp only [Act.put, List.setIfInBounds_toArray, List.set_cons_zero, List.set_cons_succ, i64_w, i32_w]
           rfl
          exact norm_ (by simp only [putAll, Act.put, List.setIfInBounds_toArray, List.set_cons_zero, List.set_cons_succ]) (hCont (.slice Ao21 y173.length co21, v177, v180) _ ⟨hHeld, (by (with_reducible repeat (first | apply Kd.R_alloc | apply Kd.R_drewN | apply Kd.R_drew)); exact Kd.R_mono HO175.out (fun _ hk => hk.2)), (by (with_reducible repeat (first | apply Kd.R_alloc | apply Kd.R_drewN | apply Kd.R_drew)); exact HO178.out), (by (with_reducible repeat (first | apply Kd.R_alloc | apply Kd.R_drewN | apply Kd.R_drew)); exact Kd.R_mono HO181.out (fun _ hk => hk.2)), (by (with_reducible repeat (first | apply Kd.R_alloc | apply Kd.R_drewN | apply Kd.R_drew)); exact Kd.R_mono HO_5.out (fun _ hk => hk.2)), (by (with_reducible repeat (first | apply Kd.R_alloc | apply Kd.R_drewN | apply Kd.R_drew)); exact HO_9.out), (by (with_reducible repeat (first | refine blk_drewN ?_ _ | refine blk_drew ?_ | refine blk_alloc ?_ _)); exact BK172.out), (by repeat (first | (with_reducible first | exact HB.out | apply below_alloc | apply pw_below_drewN | apply below_drew1 | refine below_set ?_ GE172.out) | exact HB.out))⟩)
        rintro ⟨v174, v177, v180⟩ w22 ⟨hS_, h0_, h1_, h2_, h3_, h4_, h5_, h6_⟩
        have n0_ : Aside0 (Kd.R (Kd.int .i64) 3 w22 w.heap.size (fun k_ => some k_ ≠ (v177 : Value).ownBlock) v174 y173) := ⟨h0_⟩
        have n1_ : Aside0 (Kd.R (Kd.int .i64) 3 w22 w.heap.size (fun k_ => some k_ ≠ (v174 : Value).ownBlock) v177 y176) := ⟨h1_⟩
        have n2_ : Aside0 (Kd.R Kd.string 9 w22 w.heap.size (fun k_ => some k_ ≠ (.slice Ao13 x5_1.length co13 : Value).ownBlock) v180 y179) := ⟨h2_⟩
        have n3_ : Aside0 (Kd.R Kd.string 9 w22 w.heap.size (fun k_ => some k_ ≠ (v180 : Value).ownBlock) (.slice Ao13 x5_1.length co13) x5_1) := ⟨h3_⟩
        have n4_ : Aside0 (Kd.R k48 48 w22 w.heap.size (fun k_ => k_ ≠ gb172) (.slice (some ad171) t168.length co4) t168) := ⟨h4_⟩
        have n5_ : Aside0 (w22.heap[gb172]? = some (.cells #[.int .u8 ((rd_T48 t168 x11_1).f0), .string ((rd_T48 t168 x11_1).f1)] 48 (0, 0))) := ⟨h5_⟩
        have n6_ : Aside0 (Below w.heap.size w w22) := ⟨h6_⟩
        clear HO_4
        clear HO_5
        clear HO_9
        clear BK172
        clear HB
        clear h0_ h1_ h2_ h3_ h4_ h5_ h6_
        have HO175 := n0_
        have HO178 := n1_
        have HO181 := n2_
        have HO_5 := n3_
        have HO_9 := n4_
        have BK172 := n5_
        have HB := n6_
        clear n0_ n1_ n2_ n3_ n4_ n5_ n6_
        have hHeld : w22.cell? ⟨gb172, 0, none⟩ = some (.int .u8 ((rd_T48 t168 x11_1).f0)) ∧ w22.cell? ⟨gb172, 1, none⟩ = some (.string ((rd_T48 t168 x11_1).f1)) := hS_
        obtain ⟨Ao24, co24, eo24⟩ := Kd.R_slice HO181.out
        (first | subst eo24 | (injection eo24 with f1_ f2_ f3_; have f4_ := f1_.symm; have f5_ := f3_.symm; clear f1_ f2_ f3_; subst f4_; subst f5_))
        refine norm_ (a' := ?_) ?_ ?_
        rotate_left
        ·simp only [putAll, Act.put, List.setIfInBounds_toArray, List.set_cons_zero, List.set_cons_succ]
         rfl
        refine one_ (i := 10) (N := some 25) #[true, true, true, true, true, true, true, true, true, true, true, false, false] rfl rfl (one_of HT_.out (by kernel_rfl)) (by decide) (fun K hK => ?_)
        refine Kd.R_append_rows_step Kd.string (w0 := w) w.heap.size (by rfl) (.tmp 21) (.tmp 24) 28 9 (.string ⟨#[]⟩) 16 rfl Tryd.underlying28 info9 rfl (by decide) (by omega) (.slice Ao13 x5_1.length co13) x5_1 y179 _ _ _ (fun k_ => some k_ ≠ (.slice Ao24 y179.length co24 : Value).ownBlock) (fun _ => False) rfl rfl ?aO ?aR (fun _ _ h => h) (fun _ h => h.elim) ?aF ?aB ?aS ?aL ?_
        (case aR => repeat (first | exact (Kd.R_reads' HO181.out).2.2 | (with_reducible refine Kd.C_alloc ?_ _) | (with_reducible refine Kd.C_drewN ?_ _) | (with_reducible refine Kd.C_drew ?_)))
        (case aB => exact (by repeat (first | (with_reducible first | exact HB.out | apply below_alloc | apply pw_below_drewN | apply below_drew1 | refine below_set ?_ GE172.out) | exact HB.out)))
        (case aF => exact (fun k_ hk => Kd.fresh' (Kd.R_lt (by (with_reducible repeat (first | apply Kd.R_alloc | apply Kd.R_drewN | apply Kd.R_drew)); exact HO181.out)) k_ hk))
        (case aO => exact (by (with_reducible repeat (first | apply Kd.R_alloc | apply Kd.R_drewN | apply Kd.R_drew)); exact HO_5.out))
        (case aS => exact (below_size (by repeat (first | (with_reducible first | exact HB.out | apply below_alloc | apply pw_below_drewN | apply below_drew1 | refine below_set ?_ GE172.out) | exact HB.out))))
        (case aL => have := LMc9.out; omega)
        intro v183 w23 ho hb hg hat
        rw [← Ny182.out] at ho
        have n0_ := Aside0.mk (Kd.R_over' (by (with_reducible repeat (first | apply Kd.R_alloc | apply Kd.R_drewN | apply Kd.R_drew)); exact HO_9.out) (Kd.R_typed (by (with_reducible repeat (first | apply Kd.R_alloc | apply Kd.R_drewN | apply Kd.R_drew)); exact HO_5.out)) (by decide) hg)
        have n1_ := Aside0.mk (blk_grown (g := gb172) (o := .cells #[.int .u8 ((rd_T48 t168 x11_1).f0), .string ((rd_T48 t168 x11_1).f1)] 48 (0, 0)) (by (with_reducible repeat (first | refine blk_drewN ?_ _ | refine blk_drew ?_ | refine blk_alloc ?_ _)); exact BK172.out) hg (Kd.R_ne HO_5.out BK172.out (by decide)))
        have n2_ := Aside0.mk (Kd.R_over' (by (with_reducible repeat (first | apply Kd.R_alloc | apply Kd.R_drewN | apply Kd.R_drew)); exact HO175.out) (Kd.R_typed (by (with_reducible repeat (first | apply Kd.R_alloc | apply Kd.R_drewN | apply Kd.R_drew)); exact HO_5.out)) (by decide) hg)
        have n3_ := Aside0.mk (Kd.R_over' (by (with_reducible repeat (first | apply Kd.R_alloc | apply Kd.R_drewN | apply Kd.R_drew)); exact HO178.out) (Kd.R_typed (by (with_reducible repeat (first | apply Kd.R_alloc | apply Kd.R_drewN | apply Kd.R_drew)); exact HO_5.out)) (by decide) hg)
        have n4_ := Aside0.mk (Kd.R_after (ok := (fun _ => True)) (by (with_reducible repeat (first | apply Kd.R_alloc | apply Kd.R_drewN | apply Kd.R_drew)); exact Kd.R_mono HO181.out (fun _ hk => ⟨trivial, hk⟩)) hg hat)
        have n5_ := Aside0.mk (hb)
        have n6_ := Aside0.mk (ho)
        clear HO_9
        clear BK172
        clear HO175
        clear HO178
        clear HO181
        clear HB
        clear HO_5
        have HO_9 := n0_
        have BK172 := n1_
        have HO175 := n2_
        have HO178 := n3_
        have HO181 := n4_
        have HB := n5_
        have HO184 := n6_
        clear n0_ n1_ n2_ n3_ n4_ n5_ n6_
        clear ho hb hg hat
        refine hK.out _ _ ⟨(blk_cell BK172.out 0).trans rfl, (blk_cell BK172.out 1).trans rfl⟩ (fun hHeld => ?_)
        clear hK K
        refine norm_ (a' := ?_) ?_ ?_
        rotate_left
        ·show Act.put _ (some 25) _ = _
         simp only [Act.put, List.setIfInBounds_toArray, List.set_cons_zero, List.set_cons_succ, i64_w, i32_w]
         rfl
        refine pure_ (i := 11) (N := some 4) (v := ?_) (a' := ?_) #[true, true, true, true, true, true, true, true, true, true, true, true, false] rfl rfl (any_of HT_.out (by kernel_rfl)) (fun _ _ _ h => h) (Or.inl ⟨by rfl, ?_⟩) ?_ ?_
        rotate_left
        ·intro w'
         go_simp
         with_reducible rfl
        rotate_left
        ·simp only [Act.put, List.setIfInBounds_toArray, List.set_cons_zero, List.set_cons_succ, i64_w, i32_w]
         rfl
        refine pure_ (i := 12) (N := some 5) (v := ?_) (a' := ?_) #[true, true, true, true, true, true, true, true, true, true, true, true, true] rfl rfl (any_of HT_.out (by kernel_rfl)) (fun _ _ _ h => h) (Or.inl ⟨by rfl, ?_⟩) ?_ ?_
        rotate_left
        ·intro w'
         go_simp
         with_reducible rfl
        rotate_left
        ·simp only [Act.put, List.setIfInBounds_toArray, List.set_cons_zero, List.set_cons_succ, i64_w, i32_w]
         rfl
        refine done_ (done_of HT_.out (by kernel_rfl)) ?_
        try go_wp2
        go_roundg k1
        case measure => have := HK1.out; omega
        case rel => exact ⟨(y176), (y182), (wrap64 (x11_1 + 1)), (by first | rfl | (simp; done) | (simp [*]; done)), H', ⟨by have := HK1.out; omega⟩, ⟨by (with_reducible repeat (first | apply Kd.R_alloc | apply Kd.R_drewN | apply Kd.R_drew)); exact Kd.R_mono HO178.out (fun _ hk => trivial)⟩, ⟨by (with_reducible repeat (first | apply Kd.R_alloc | apply Kd.R_drewN | apply Kd.R_drew)); exact Kd.R_mono HO184.out (fun _ hk => trivial)⟩, ⟨by (with_reducible repeat (first | apply Kd.R_alloc | apply Kd.R_drewN | apply Kd.R_drew)); exact Kd.R_mono HO_9.out (fun _ hk => trivial)⟩, ⟨by repeat (first | (with_reducible first | exact HB.out | apply below_alloc | apply pw_below_drewN | apply below_drew1 | refine below_set ?_ GE172.out) | exact HB.out)⟩⟩
       ·rw [if_neg c9] at H
        exact absurd H (by simp)
      ·rw [if_neg c8] at H
       exact absurd H (by simp)
     ·rw [if_neg c7] at H
      exact absurd H (by simp)
    ·rw [if_neg c6] at H
     exact absurd H (by simp)
   ·rw [if_neg c5] at H
    have c5b0 : decide (x11_1 < (t168.length : Int)) = false := decide_eq_false c5
    clear c5
    simp only [Option.some.injEq, Prod.mk.injEq] at H
    obtain ⟨rfl, rfl⟩ := H
    go_wp2
    go_ret2
    exact ⟨_, _, by first | rfl | (simp [errW_none, errW_some] <;> rfl) | (simp [*, errW_none, errW_some] <;> rfl) | (simp (disch := omega) only [wrap64_id] <;> rfl), by (with_reducible repeat (first | apply Kd.R_alloc | apply Kd.R_drewN | apply Kd.R_drew)); exact HO_4.out, by (with_reducible repeat (first | apply Kd.R_alloc | apply Kd.R_drewN | apply Kd.R_drew)); exact HO_5.out, by repeat (first | (with_reducible first | exact HB.out | apply below_alloc | apply pw_below_drewN | apply below_drew1) | exact HB.out)⟩

/-! ### impl_VtTokens: function 6 -/
def impl_VtTokens.f (k : Nat) (a0 : ByteArray) : Option (List Int × List ByteArray) := (dbus_DoorTokens.f k a0).bind fun bt185 => (some (bt185.1, bt185.2))
theorem impl_VtTokens.mono : ∀ a0 k, LeO (impl_VtTokens.f k a0) (impl_VtTokens.f (k + 1) a0) := by
 intro a0 k
 unfold impl_VtTokens.f
 repeat' first
   | (with_reducible exact dbus_DoorTokens.mono _ _)
   | (with_reducible exact LeO.refl _)
   | (with_reducible exact LeO.none _)
   | (with_reducible refine LeO.ite ?_ ?_)
   | (with_reducible refine LeO.bind ?_ (fun _ => ?_))
   | exact dbus_DoorTokens.mono _ _
   | exact LeO.none _
   | refine LeO.ite ?_ ?_
   | refine LeO.bind ?_ (fun _ => ?_)
set_option maxHeartbeats 8000000 in
set_option maxRecDepth 100000 in
theorem impl_VtTokens.calls (k : Nat) (a0 : ByteArray) (r1 : List Int) (r2 : List ByteArray) (w : World) (hT : Lib.Utf8Tabs 0 1 w) (h : impl_VtTokens.f k a0 = some (r1, r2)) :
  Calls Tryd.prog 6 #[.string a0] w fun e w' => ∃ v0_ v1_ : Value, e = .returned (.tuple #[v0_, v1_]) ∧ Kd.R (Kd.int .i64) 3 w' w.heap.size (fun _ => True) v0_ r1 ∧ Kd.R Kd.string 9 w' w.heap.size (fun _ => True) v1_ r2 ∧ Below w.heap.size w w' := by
 have HTT := Aside0.mk hT
 clear hT
 have HB := Aside0.mk (Below.refl w.heap.size w)
 have H : ((dbus_DoorTokens.f k a0).bind fun bt185 => (some (bt185.1, bt185.2))) = some (r1, r2) := h
 clear h
 replace H := Option.bind_eq_some_iff.mp H
 obtain ⟨⟨t185, t186⟩, A20, H⟩ := H
 replace H : (some (t185, t186)) = some (r1, r2) := H
 have A2 := Aside0.mk A20
 clear A20
 simp only [Option.some.injEq, Prod.mk.injEq] at H
 obtain ⟨rfl, rfl⟩ := H
 go_enter Tryd.func6, Tryd.ntmps6
 go_wp2_with (first | ((with_reducible refine gate_callee (f := 12) rfl ?_); refine goesL_ (some 5) rfl rfl Tryd.func12 (by kernel_rfl) rfl #[.string a0] rfl (by (try simp only [List.map_toArray, List.map_cons, List.map_nil]); first | done | rfl | (simp only [List.length_drop, List.length_take]; rfl)) ?_; (with_reducible refine (dbus_DoorTokens.calls k a0 t185 t186 _ (utabs_up HTT.out (by repeat (first | (with_reducible first | exact HB.out | apply below_alloc | apply pw_below_drewN | apply below_drew1) | exact HB.out))) A2.out).mono ?_); rintro e w3 ⟨v187, v189, rfl, ho0, ho1, hb⟩; refine ⟨_, rfl, ?_⟩; have n0_ := Aside0.mk (Kd.R_lower ho0 (below_size (by repeat (first | (with_reducible first | exact HB.out | apply below_alloc | apply pw_below_drewN | apply below_drew1) | exact HB.out)))); have n1_ := Aside0.mk (Kd.R_lower ho1 (below_size (by repeat (first | (with_reducible first | exact HB.out | apply below_alloc | apply pw_below_drewN | apply below_drew1) | exact HB.out)))); have n2_ := Aside0.mk (below_step (by repeat (first | (with_reducible first | exact HB.out | apply below_alloc | apply pw_below_drewN | apply below_drew1) | exact HB.out)) hb); clear HB; have HO188 := n0_; have HO190 := n1_; have HB := n2_; clear n0_ n1_ n2_; (try clear hb); (try clear hb2); (try clear hk); (try clear hi); (try clear ho0); (try clear ho1)))
 go_ret2
 exact ⟨_, _, by first | rfl | (simp [errW_none, errW_some] <;> rfl) | (simp [*, errW_none, errW_some] <;> rfl) | (simp (disch := omega) only [wrap64_id] <;> rfl), by (with_reducible repeat (first | apply Kd.R_alloc | apply Kd.R_drewN | apply Kd.R_drew)); exact HO188.out, by (with_reducible repeat (first | apply Kd.R_alloc | apply Kd.R_drewN | apply Kd.R_drew)); exact HO190.out, by repeat (first | (with_reducible first | exact HB.out | apply below_alloc | apply pw_below_drewN | apply below_drew1) | exact HB.out)⟩

/-! ### laws_vtTypeLast: function 7 -/
def laws_vtTypeLast.f (a0 : ByteArray) (l1 : List (S26)) : Option (Bool) := if (l1.length : Int) > 1 then (if 0 ≤ (wrap64 ((l1.length : Int) - 2)) then (if (wrap64 ((l1.length : Int) - 2)) < (l1.length : Int) then (if ((rd_T26 l1 (wrap64 ((l1.length : Int) - 2))).f0) = 13 then (if 0 ≤ (wrap64 ((a0.size : Int) - 1)) then (if (wrap64 ((a0.size : Int) - 1)) < (a0.size : Int) then (some (decide ((bt a0 (wrap64 ((a0.size : Int) - 1))) > 32))) else (none)) else (none)) else (some false)) else (none)) else (none)) else (some false)
set_option maxHeartbeats 8000000 in
set_option maxRecDepth 100000 in
theorem laws_vtTypeLast.calls (a0 : ByteArray) (A1 : Option Addr) (c1 : Nat) (l1 : List (S26)) (r : Bool) (w : World) (hr1 : Kd.C k26 w A1 l1.length l1) (hc1 : l1.length ≤ c1) (h : laws_vtTypeLast.f a0 l1 = some r) :
  Calls Tryd.prog 7 #[.string a0, .slice A1 l1.length c1] w fun e w' => e = .returned (.bool r) ∧ Drawn0 w w' := by
 have HR1 := Aside0.mk hr1
 have HC1 := Aside0.mk hc1
 clear hr1 hc1
 have H : (if (l1.length : Int) > 1 then (if 0 ≤ (wrap64 ((l1.length : Int) - 2)) then (if (wrap64 ((l1.length : Int) - 2)) < (l1.length : Int) then (if ((rd_T26 l1 (wrap64 ((l1.length : Int) - 2))).f0) = 13 then (if 0 ≤ (wrap64 ((a0.size : Int) - 1)) then (if (wrap64 ((a0.size : Int) - 1)) < (a0.size : Int) then (some (decide ((bt a0 (wrap64 ((a0.size : Int) - 1))) > 32))) else (none)) else (none)) else (some false)) else (none)) else (none)) else (some false)) = some r := h
 clear h
 by_cases c3 : (l1.length : Int) > 1
 ·rw [if_pos c3] at H
  have c3b0 : decide (1 < (l1.length : Int)) = true := decide_eq_true c3
  have c3b1 : decide (1 < l1.length) = true := decide_eq_true (by omega)
  clear c3
  obtain ⟨ji4, hji4⟩ : ∃ j_ : Int, (wrap64 ((l1.length : Int) - 2)) = j_ := ⟨_, rfl⟩
  replace H : (if 0 ≤ (ji4) then (if (ji4) < (l1.length : Int) then (if ((rd_T26 l1 (ji4)).f0) = 13 then (if 0 ≤ (wrap64 ((a0.size : Int) - 1)) then (if (wrap64 ((a0.size : Int) - 1)) < (a0.size : Int) then (some (decide ((bt a0 (wrap64 ((a0.size : Int) - 1))) > 32))) else (none)) else (none)) else (some false)) else (none)) else (none)) = some r := by first | (rw [hji4] at H; exact H) | (simp only [hji4] at H ⊢; exact H)
  have hji4w : (IntKind.i64.wrap ((l1.length : Int) - 2)) = ji4 := (i64_w _).trans hji4
  by_cases c5 : 0 ≤ (ji4)
  ·rw [if_pos c5] at H
   have c5b0 : decide (0 ≤ (ji4)) = true := decide_eq_true c5
   clear c5
   by_cases c6 : (ji4) < (l1.length : Int)
   ·rw [if_pos c6] at H
    have c6b0 : decide ((ji4) < (l1.length : Int)) = true := decide_eq_true c6
    clear c6
    by_cases c7 : ((rd_T26 l1 (ji4)).f0) = 13
    ·rw [if_pos c7] at H
     have c7b0 : (((rd_T26 l1 (ji4)).f0) == 13) = true := beq_iff_eq.mpr c7
     have c7b1 : (((rd_T26 l1 (ji4)).f0) != 13) = false := bne_eq_false_iff_eq.mpr c7
     clear c7
     obtain ⟨ji8, hji8⟩ : ∃ j_ : Int, (wrap64 ((a0.size : Int) - 1)) = j_ := ⟨_, rfl⟩
     replace H : (if 0 ≤ (ji8) then (if (ji8) < (a0.size : Int) then (some (decide ((bt a0 (ji8)) > 32))) else (none)) else (none)) = some r := by first | (rw [hji8] at H; exact H) | (simp only [hji8] at H ⊢; exact H)
     have hji8w : (IntKind.i64.wrap ((a0.size : Int) - 1)) = ji8 := (i64_w _).trans hji8
     by_cases c9 : 0 ≤ (ji8)
     ·rw [if_pos c9] at H
      have c9b0 : decide (0 ≤ (ji8)) = true := decide_eq_true c9
      clear c9
      by_cases c10 : (ji8) < (a0.size : Int)
      ·rw [if_pos c10] at H
       have c10b0 : decide ((ji8) < (a0.size : Int)) = true := decide_eq_true c10
       clear c10
       obtain rfl := Option.some.inj H
       have p191 : 0 ≤ ((ji4) : Int) := of_decide_eq_true (by first | (with_reducible assumption) | assumption)
       have q191 : (ji4) < (l1.length : Int) := of_decide_eq_true (by first | (with_reducible assumption) | assumption)
       obtain ⟨ad191, e191, hx191_0, hx191_1⟩ := at_T26 HR1.out (ji4) p191 q191
       cases e191
       replace p191 := eq_true p191
       replace q191 := eq_true q191
       have p11 : 0 ≤ ((ji8) : Int) := of_decide_eq_true (by first | (with_reducible assumption) | assumption)
       have q11 : (ji8) < (a0.size : Int) := of_decide_eq_true (by first | (with_reducible assumption) | assumption)
       have hx11 := bt_at a0 (ji8)
       replace p11 := eq_true p11
       replace q11 := eq_true q11
       go_enter Tryd.func7, Tryd.ntmps7
       go_wp2
       go_ret
       exact ⟨by first | rfl | (simp; done) | (simp only [← hji4, ← hji8] <;> (first | rfl | simp)) | (simp [*]; done), by repeat (first | exact Drawn0.refl _ | apply Drawn0.step)⟩
      ·rw [if_neg c10] at H
       exact absurd H (by simp)
     ·rw [if_neg c9] at H
      exact absurd H (by simp)
    ·rw [if_neg c7] at H
     have c7b0 : (((rd_T26 l1 (ji4)).f0) == 13) = false := beq_eq_false_iff_ne.mpr c7
     have c7b1 : (((rd_T26 l1 (ji4)).f0) != 13) = true := bne_iff_ne.mpr c7
     obtain rfl := Option.some.inj H
     have p191 : 0 ≤ ((ji4) : Int) := of_decide_eq_true (by first | (with_reducible assumption) | assumption)
     have q191 : (ji4) < (l1.length : Int) := of_decide_eq_true (by first | (with_reducible assumption) | assumption)
     obtain ⟨ad191, e191, hx191_0, hx191_1⟩ := at_T26 HR1.out (ji4) p191 q191
     cases e191
     replace p191 := eq_true p191
     replace q191 := eq_true q191
     go_enter Tryd.func7, Tryd.ntmps7
     go_wp2
     go_ret
     exact ⟨by first | rfl | (simp; done) | (simp only [← hji4] <;> (first | rfl | simp)) | (simp [*]; done), by repeat (first | exact Drawn0.refl _ | apply Drawn0.step)⟩
   ·rw [if_neg c6] at H
    exact absurd H (by simp)
  ·rw [if_neg c5] at H
   exact absurd H (by simp)
 ·rw [if_neg c3] at H
  have c3b0 : decide (1 < (l1.length : Int)) = false := decide_eq_false c3
  have c3b1 : decide (1 < l1.length) = false := decide_eq_false (by omega)
  clear c3
  obtain rfl := Option.some.inj H
  go_enter Tryd.func7, Tryd.ntmps7
  go_wp2
  go_ret
  exact ⟨by first | rfl | (simp; done) | (simp [*]; done), by repeat (first | exact Drawn0.refl _ | apply Drawn0.step)⟩

end Go.Proofs.YthcafnmagidpiaaDoor.MFnVtTokensJoin
