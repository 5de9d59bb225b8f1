-- A trial text of this session.
import Derived.Test.YtcnhpiodomknfaaGreatDoorWt5
namespace Go.Proofs.YtcnhpiodomknfaaGreatDoor.MFnWrTurned
open Go.RowKit Go.Proofs.YtcnhpiodomknfaaGreatDoorW.PrintWords Go.Proofs.YtcnhpiodomknfaaGreatDoorW.PrintLast Go.Proofs.YtcnhpiodomknfaaGreatDoorW.PrintMore
attribute [local go_sem] max2_int min2_int max_two min_two max_three min_three max_four min_four
set_option linter.unusedVariables false
set_option linter.unusedSimpArgs false

theorem rs_calls (w : World) (b : Nat) (x y : Value) (sl : Value) (hsl : (sl = .slice none 0 0) ∨ ∃ g l cap, sl = .slice (some ⟨g, 0, none⟩) l cap ∧ l ≤ cap ∧ cap ≤ 9223372036854775807) (hb : w.heap[b]? = some (.cells #[sl, x, y] 47 (0, 0))) :
    Calls Tryz.prog 64 #[.pointer (some ⟨b, 0, none⟩)] w fun e w' => e = .returned (.tuple #[]) ∧ (∀ k, k ≠ b → w'.heap[k]? = w.heap[k]?) ∧ w'.os = w.os ∧ w'.tape = w.tape ∧ w'.output = w.output ∧ w'.heap.size = w.heap.size := by
  have c0 : w.cell? ⟨b, 0, none⟩ = some sl := (cell_of_row w b 0 _ 47 (0, 0) hb).trans rfl
  have c1 : w.cell? ⟨b, 1, none⟩ = some x := (cell_of_row w b 1 _ 47 (0, 0) hb).trans rfl
  have c2 : w.cell? ⟨b, 2, none⟩ = some y := (cell_of_row w b 2 _ 47 (0, 0) hb).trans rfl
  have f0 := frozen_of_row w b 0 _ 47 hb
  have f1 := frozen_of_row w b 1 _ 47 hb
  have f2 := frozen_of_row w b 2 _ 47 hb
  clear hb
  rcases hsl with rfl | ⟨g, l, cap, rfl, hl, hc⟩
  · go_enter Tryz.func64, Tryz.ntmps64
    go_wp2
    go_end0
    refine ⟨rfl, fun k hk => ?_, rfl, rfl, rfl, by simp [World.setCell]⟩
    rw [Below.heap_setCell _ ⟨b, 2, none⟩ _ k hk, Below.heap_setCell _ ⟨b, 1, none⟩ _ k hk, Below.heap_setCell _ ⟨b, 0, none⟩ _ k hk]
  · go_enter Tryz.func64, Tryz.ntmps64
    go_wp2
    all_goals
      go_end0
      refine ⟨rfl, fun k hk => ?_, rfl, rfl, rfl, by simp [World.setCell]⟩
      rw [Below.heap_setCell _ ⟨b, 2, none⟩ _ k hk, Below.heap_setCell _ ⟨b, 1, none⟩ _ k hk, Below.heap_setCell _ ⟨b, 0, none⟩ _ k hk]
theorem len0_calls (w : World) (bi g n cap : Nat) (cur : Array Value) (lr : Int) (hbi : w.heap[bi]? = some (.cells #[.slice (some ⟨g, 0, none⟩) n cap, .int .i64 0, .int .i8 lr] 47 (0, 0))) (hg : w.heap[g]? = some (.cells cur 5 (0, 0))) (hgb : g ≠ bi) (hnc : n ≤ cap) (hcm : cap ≤ maxLen) (hcs : cur.size = cap) :
    Calls Tryz.prog 40 #[.pointer (some ⟨bi, 0, none⟩)] w fun e w' => e = .returned (.int .i64 (n : Int)) ∧ ∃ k, w' = w.drewN k := by
  have hl : (cur.toList.take n).length = n := by rw [List.length_take, Array.length_toList]; omega
  have hI : Lib.IsBuffer 47 5 0 bi (cur.toList.take n) w := ⟨Nat.zero_le _, _, lr, hbi, ⟨by rw [hl]; omega, .inr ⟨g, cap, cur, by rw [hl], Nat.zero_le _, hg, by rw [hl]; exact hnc, hcm, by omega, by rw [hl, Nat.mul_one]⟩⟩, by simpa [Value.ownBlock] using hgb⟩
  have h := Tryz.Buffer_Len 0 bi (cur.toList.take n) w hI
  rw [hl] at h
  exact h
set_option maxRecDepth 100000 in
set_option maxHeartbeats 4000000 in
theorem wto_calls (w : World) (bi b g n cap : Nat) (cur : Array Value) (lr : Int) (hbi : w.heap[bi]? = some (.cells #[.slice (some ⟨g, 0, none⟩) n cap, .int .i64 0, .int .i8 lr] 47 (0, 0))) (hg : w.heap[g]? = some (.cells cur 5 (0, 0))) (hgb : g ≠ bi) (hn : 1 ≤ n) (hnc : n ≤ cap) (hcm : cap ≤ maxLen) (hn2 : n ≤ 100000) (hcs : cur.size = cap) (Q : World → Prop)
    (HW : ∀ W1, (∀ k, k ≠ bi → W1.heap[k]? = w.heap[k]?) → W1.os = w.os → W1.tape = w.tape → W1.output = w.output → W1.heap.size = w.heap.size → W1.heap[bi]? = some (.cells #[.slice (some ⟨g, 0, none⟩) n cap, .int .i64 0, .int .i8 0] 47 (0, 0)) → Calls Tryz.prog 98 #[.pointer (some ⟨b, 0, none⟩), .slice (some ⟨g, 0, none⟩) n cap] W1 fun e w' => e = .returned (.tuple #[.int .i64 (n : Int), .nilIface]) ∧ Q w')
    (HQ : ∀ w', Q w' → w'.heap[bi]? = some (.cells #[.slice (some ⟨g, 0, none⟩) n cap, .int .i64 0, .int .i8 0] 47 (0, 0))) :
    Calls Tryz.prog 41 #[.pointer (some ⟨bi, 0, none⟩), .iface 50 (.pointer (some ⟨b, 0, none⟩))] w fun e w' => e = .returned (.tuple #[.int .i64 (n : Int), .nilIface]) ∧ ∃ w1, Q w1 ∧ (∀ k, k ≠ bi → w'.heap[k]? = w1.heap[k]?) ∧ w'.os = w1.os ∧ w'.tape = w1.tape ∧ w'.output = w1.output ∧ w'.heap.size = w1.heap.size := by
  have c2 : w.cell? ⟨bi, 2, none⟩ = some (.int .i8 lr) := (cell_of_row w bi 2 _ 47 (0, 0) hbi).trans rfl
  have f2 := frozen_of_row w bi 2 _ 47 hbi
  have hb2 : (w.setCell ⟨bi, 2, none⟩ (.int .i8 0)).heap[bi]? = some (.cells #[.slice (some ⟨g, 0, none⟩) n cap, .int .i64 0, .int .i8 0] 47 (0, 0)) := heap_setCell_same w bi 2 _ 47 (.int .i8 0) hbi
  have hoth : ∀ k, k ≠ bi → (w.setCell ⟨bi, 2, none⟩ (.int .i8 0)).heap[k]? = w.heap[k]? := fun k hk => by rw [Below.heap_setCell _ ⟨bi, 2, none⟩ _ k hk]
  have hsz : (w.setCell ⟨bi, 2, none⟩ (.int .i8 0)).heap.size = w.heap.size := by simp [World.setCell]
  have HL := Aside0.mk (len0_calls _ bi g n cap cur 0 hb2 ((hoth g hgb).trans hg) hgb hnc hcm hcs)
  have HC := Aside0.mk (fun k => HW ((w.setCell ⟨bi, 2, none⟩ (.int .i8 0)).drewN k) (fun j hj => hoth j hj) rfl rfl rfl hsz hb2)
  have d0 : ∀ k, ((w.setCell ⟨bi, 2, none⟩ (.int .i8 0)).drewN k).drew.cell? ⟨bi, 0, none⟩ = some (.slice (some ⟨g, 0, none⟩) n cap) := fun k => (cell_of_row (w.setCell ⟨bi, 2, none⟩ (.int .i8 0)) bi 0 _ 47 (0, 0) hb2).trans rfl
  have d1 : ∀ k, ((w.setCell ⟨bi, 2, none⟩ (.int .i8 0)).drewN k).drew.cell? ⟨bi, 1, none⟩ = some (.int .i64 0) := fun k => (cell_of_row (w.setCell ⟨bi, 2, none⟩ (.int .i8 0)) bi 1 _ 47 (0, 0) hb2).trans rfl
  have c0 : w.cell? ⟨bi, 0, none⟩ = some (.slice (some ⟨g, 0, none⟩) n cap) := (cell_of_row w bi 0 _ 47 (0, 0) hbi).trans rfl
  have c1 : w.cell? ⟨bi, 1, none⟩ = some (.int .i64 0) := (cell_of_row w bi 1 _ 47 (0, 0) hbi).trans rfl
  have e0 : (w.setCell ⟨bi, 2, none⟩ (.int .i8 0)).cell? ⟨bi, 0, none⟩ = some (.slice (some ⟨g, 0, none⟩) n cap) := (cell_of_row (w.setCell ⟨bi, 2, none⟩ (.int .i8 0)) bi 0 _ 47 (0, 0) hb2).trans rfl
  have e1 : (w.setCell ⟨bi, 2, none⟩ (.int .i8 0)).cell? ⟨bi, 1, none⟩ = some (.int .i64 0) := (cell_of_row (w.setCell ⟨bi, 2, none⟩ (.int .i8 0)) bi 1 _ 47 (0, 0) hb2).trans rfl
  have hgt : decide ((0 : Int) < (n : Int)) = true := by simp; omega
  have hwn : IntKind.i64.wrap (n : Int) = (n : Int) := by rw [IntKind.wrap_i64]; omega
  have hmf : ∀ (fn : Fn) (first cap : Array Value) (w : World), (Instr.makeFunc fn first cap).run Tryz.prog w = .ok (.func fn first cap) w := fun _ _ _ _ => rfl
  have hmw := m_write b
  have hnw := nil_write b
  have HX := Aside0.mk HQ
  clear hbi hb2 hoth hsz hg HW HQ
  go_enter Tryz.func41, Tryz.ntmps41
  go_wp2_with (go_at_call 40; refine HL.out.mono ?_; rintro e w2 ⟨rfl, kd, rfl⟩; have d0k := d0 kd; have d1k := d1 kd)
  go_region_with (go_at_call 98; refine (HC.out (kd + 1)).mono ?_; rintro e w3 ⟨rfl, hq⟩; have HQQ := Aside0.mk hq; clear hq)
  all_goals
    have hb3 := HX.out _ HQQ.out
    have q1 := (cell_of_row w3 bi 1 _ 47 (0, 0) hb3).trans rfl
    have q4 := frozen_of_row w3 bi 1 _ 47 hb3
    have hb4 : (w3.setCell ⟨bi, 1, none⟩ (.int .i64 (n : Int))).heap[bi]? = some (.cells #[.slice (some ⟨g, 0, none⟩) n cap, .int .i64 (n : Int), .int .i8 0] 47 (0, 0)) := heap_setCell_same w3 bi 1 _ 47 (.int .i64 (n : Int)) hb3
    have HR := Aside0.mk (rs_calls _ bi _ _ (.slice (some ⟨g, 0, none⟩) n cap) (.inr ⟨g, n, cap, rfl, hnc, by unfold maxLen at hcm; omega⟩) hb4)
    have HO : Aside0 (∀ k, k ≠ bi → (w3.setCell ⟨bi, 1, none⟩ (.int .i64 (n : Int))).heap[k]? = w3.heap[k]?) := ⟨fun k hk => Below.heap_setCell w3 ⟨bi, 1, none⟩ (.int .i64 (n : Int)) k hk⟩
    clear hb3 hb4
    go_wp2_with (go_at_call 64; refine HR.out.mono ?_; rintro e w5 ⟨rfl, z1, z2, z3, z4, z5⟩; have HZ := Aside0.mk (And.intro z1 (And.intro z2 (And.intro z3 (And.intro z4 z5)))); clear z1 z2 z3 z4 z5)
    go_ret2
    exact ⟨rfl, w3, HQQ.out, fun k hk => (HZ.out.1 k hk).trans (HO.out k hk), HZ.out.2.1, HZ.out.2.2.1, HZ.out.2.2.2.1, by rw [HZ.out.2.2.2.2]; simp [World.setCell]⟩

end Go.Proofs.YtcnhpiodomknfaaGreatDoor.MFnWrTurned
