-- A trial text of this session.
import Derived.Test.YtcnhpiodomknfaaGreatDoorWt19
import Derived.LoopN
namespace Go.Proofs.YtcnhpiodomknfaaGreatDoor.MFnWrTurned
open Go.RowKit Go.Proofs.YtcnhpiodomknfaaGreatDoorW.PrintWords Go.Proofs.YtcnhpiodomknfaaGreatDoorW.PrintLast Go.Proofs.YtcnhpiodomknfaaGreatDoorW.PrintMore
attribute [local go_sem] max2_int min2_int max_two min_two max_three min_three max_four min_four
set_option linter.unusedVariables false
set_option linter.unusedSimpArgs false

theorem f11_idle (p q : Addr) (w : World) : CallsD Tryz.prog 11 #[.pointer (some p), .pointer (some q)] .returning w fun e u' w' => e = .returned (.tuple #[]) ∧ u' = .returning ∧ w' = w := by
  refine callsD_of_wpS Tryz.func11 rfl fun c₀ cs hu => ?_
  apply wpS_seq
  apply wpS_region
  simp [wpOpsS, go_sem, recoverD, hu, Tryz.ntmps11, Exit.thenS]
  refine wpS_cond (t := false) (by simp [Act.eval, Array.replicate]) ?_
  simp only [Bool.false_eq_true, if_false]
  refine wpS_of_wp (wp_skip ?_)
  cases c₀
  simp_all [bodyPostS, results, Tryz.results11]
theorem f18_idle (p : Addr) (w : World) : CallsD Tryz.prog 18 #[.pointer (some p)] .returning w fun e u' w' => e = .returned (.tuple #[]) ∧ u' = .returning ∧ w' = w := by
  refine callsD_of_wpS Tryz.func18 rfl fun c₀ cs hu => ?_
  apply wpS_seq
  apply wpS_region
  simp [wpOpsS, go_sem, recoverD, hu, Tryz.ntmps18, Exit.thenS]
  apply wpS_seq
  apply wpS_seq
  apply wpS_region
  simp [wpOpsS, go_sem, Exit.thenS]
  refine wpS_cond (t := true) (by simp [Act.eval, Array.replicate]) ?_
  simp only [if_true]
  refine wpS_of_wp (wp_ret ?_)
  simp only [Exit.thenS]
  cases c₀
  simp_all [bodyPostS, results, Tryz.results18]
set_option maxRecDepth 100000 in
set_option maxHeartbeats 16000000 in
theorem en1 (e g cap L : Nat) (S : ByteArray) (PW : World → Prop) (w : World) (hc : w.cell? ⟨g, 0, none⟩ = some (.iface 127 (.pointer (some ⟨L, 0, none⟩)))) 
    (hZ : ∀ W, Below w.heap.size w W → Calls Tryz.prog 20 #[.iface 127 (.pointer (some ⟨L, 0, none⟩))] W fun e w' => e = .returned (.agg #[.iface 127 (.pointer (some ⟨L, 0, none⟩)), .string S]) ∧ Below W.heap.size W w')
    (hE : ∀ W, Below w.heap.size w W → W.heap[w.heap.size]? = some (.cells #[.nilIface] 38 (0, 0)) → Calls Tryz.prog 19 #[.pointer (some ⟨e, 0, none⟩), .agg #[.iface 127 (.pointer (some ⟨L, 0, none⟩)), .string S], .int .i64 0] W fun e' w' => e' = .returned (.tuple #[]) ∧ w'.heap[w.heap.size]? = some (.cells #[.nilIface] 38 (0, 0)) ∧ ∀ v, PW (w'.setCell ⟨w.heap.size, 0, none⟩ v)) :
    Calls Tryz.prog 14 #[.pointer (some ⟨e, 0, none⟩), .slice (some ⟨g, 0, none⟩) 1 cap] w fun e' w' => e' = .returned (.nilIface) ∧ PW w' := by
  have hmf : ∀ (fn : Fn) (first cap : Array Value) (w : World), (Instr.makeFunc fn first cap).run Tryz.prog w = .ok (.func fn first cap) w := fun _ _ _ _ => rfl
  have h0 : (⟨g, 0, none⟩ : Addr).add 0 = ⟨g, 0, none⟩ := rfl
  have hb0 := below_alloc (Below.refl w.heap.size w) (.cells #[.nilIface] 38)
  have hc1 := pw_cell_below hb0 hc
  have hh1 := heap_alloc_new w (.cells #[.nilIface] 38)
  have HZ := Aside0.mk hZ
  have HE := Aside0.mk hE
  have HH1 := Aside0.mk hh1
  have HB0 := Aside0.mk hb0
  clear hZ hE hh1 hc hb0
  go_enter_defers Tryz.func14, Tryz.ntmps14
  go_wp2_with fail
  refine wp_loop_rounds 2 ?_
  rw [rounds_succ]
  generalize hR : Code.rounds _ _ _ 1 = R1
  go_wp2_with (first
    | (go_at_call 20; refine (HZ.out _ HB0.out).mono ?_; rintro e1 w2 ⟨rfl, hb⟩; have HB2 := Aside0.mk (below_step HB0.out hb); have HH2 := Aside0.mk (up_heap2 hb HH1.out); clear hb)
    | (go_at_call 19; refine (HE.out _ HB2.out HH2.out).mono ?_; rintro e1 w3 ⟨rfl, h3, hp⟩; have c3 : w3.cell? ⟨w.heap.size, 0, none⟩ = some .nilIface := (cell_of_row w3 w.heap.size 0 _ 38 (0, 0) h3).trans rfl; have f3 := frozen_of_row w3 w.heap.size 0 _ 38 h3; have H3 := Aside0.mk h3; have HP := Aside0.mk hp; clear h3 hp))
  subst hR
  rw [rounds_succ]
  generalize hR : Code.rounds _ _ _ 0 = R1
  go_wp2
  have D : (w3.setCell ⟨w.heap.size, 0, none⟩ .nilIface).cell? ⟨w.heap.size, 0, none⟩ = some .nilIface := World.cell?_setCell_same _ _ _ c3
  have HPW := HP.out .nilIface
  clear c3 f3
  refine leaves_cons (f := 18) (args := #[.pointer (some ⟨w.heap.size, 0, none⟩)]) (by simp) (by simp [go_sem]) ?_
  refine (f18_idle _ _).mono ?_
  rintro e u' w'' ⟨rfl, rfl, hw⟩
  rw [← hw] at D HPW
  simp [Leaves, settle, results, Tryz.results14, go_sem, D]
  exact HPW

end Go.Proofs.YtcnhpiodomknfaaGreatDoor.MFnWrTurned
