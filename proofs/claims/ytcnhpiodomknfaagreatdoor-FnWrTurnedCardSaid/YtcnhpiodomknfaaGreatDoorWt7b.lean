-- A trial text of this session.
import Derived.Test.YtcnhpiodomknfaaGreatDoorWt7
namespace Go.Proofs.YtcnhpiodomknfaaGreatDoor.MFnWrTurned
open Go.RowKit Go.Proofs.YtcnhpiodomknfaaGreatDoorW.PrintWords Go.Proofs.YtcnhpiodomknfaaGreatDoorW.PrintLast Go.Proofs.YtcnhpiodomknfaaGreatDoorW.PrintMore
attribute [local go_sem] max2_int min2_int max_two min_two max_three min_three max_four min_four
set_option linter.unusedVariables false
set_option linter.unusedSimpArgs false

set_option maxRecDepth 100000 in
set_option maxHeartbeats 4000000 in
theorem wto0_calls (w : World) (bi b : Nat) (lr : Int) (hbi : w.heap[bi]? = some (.cells #[.slice none 0 0, .int .i64 0, .int .i8 lr] 47 (0, 0))) :
    Calls Tryz.prog 41 #[.pointer (some ⟨bi, 0, none⟩), .iface 50 (.pointer (some ⟨b, 0, none⟩))] w fun e w' => e = .returned (.tuple #[.int .i64 0, .nilIface]) ∧ (∀ k, k ≠ bi → w'.heap[k]? = w.heap[k]?) ∧ w'.os = w.os ∧ w'.tape = w.tape ∧ w'.output = w.output ∧ w'.heap.size = w.heap.size := by
  have c2 : w.cell? ⟨bi, 2, none⟩ = some (.int .i8 lr) := (cell_of_row w bi 2 _ 47 (0, 0) hbi).trans rfl
  have f2 := frozen_of_row w bi 2 _ 47 hbi
  have hb2 : (w.setCell ⟨bi, 2, none⟩ (.int .i8 0)).heap[bi]? = some (.cells #[.slice none 0 0, .int .i64 0, .int .i8 0] 47 (0, 0)) := heap_setCell_same w bi 2 _ 47 (.int .i8 0) hbi
  have hl : Calls Tryz.prog 40 #[.pointer (some ⟨bi, 0, none⟩)] (w.setCell ⟨bi, 2, none⟩ (.int .i8 0)) fun e w' => e = .returned (.int .i64 0) ∧ ∃ n, w' = (w.setCell ⟨bi, 2, none⟩ (.int .i8 0)).drewN n := Tryz.Buffer_Len bi bi [] _ (nil_isBuffer hb2)
  have HL := Aside0.mk hl
  have HR := Aside0.mk (fun k => rs_calls ((w.setCell ⟨bi, 2, none⟩ (.int .i8 0)).drewN k) bi _ _ (.slice none 0 0) (.inl rfl) hb2)
  have HO : Aside0 (∀ k, k ≠ bi → (w.setCell ⟨bi, 2, none⟩ (.int .i8 0)).heap[k]? = w.heap[k]?) := ⟨fun k hk => Below.heap_setCell w ⟨bi, 2, none⟩ (.int .i8 0) k hk⟩
  clear hbi hb2 hl
  go_enter Tryz.func41, Tryz.ntmps41
  go_wp2_with (first | (go_at_call 40; refine HL.out.mono ?_; rintro e w2 ⟨rfl, kd, rfl⟩) | (go_at_call 64; refine (HR.out kd).mono ?_; rintro e w5 ⟨rfl, z1, z2, z3, z4, z5⟩; have HZ := Aside0.mk (And.intro z1 (And.intro z2 (And.intro z3 (And.intro z4 z5)))); clear z1 z2 z3 z4 z5))
  go_ret2
  exact ⟨rfl, fun k hk => (HZ.out.1 k hk).trans (HO.out k hk), HZ.out.2.1, HZ.out.2.2.1, HZ.out.2.2.2.1, by rw [HZ.out.2.2.2.2]; simp [World.setCell]⟩

end Go.Proofs.YtcnhpiodomknfaaGreatDoor.MFnWrTurned
