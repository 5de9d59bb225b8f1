-- A trial text of this session.
import Derived.Test.YtcnhpiodomknfaaGreatDoorWt3
import Derived.Test.YtcnhpiodomknfaaGreatDoorShelf
import Derived.Shelf.Bytes.WriteAny
namespace Go.Proofs.YtcnhpiodomknfaaGreatDoor.MFnWrTurned
open Go.RowKit Go.Proofs.YtcnhpiodomknfaaGreatDoorW.PrintWords Go.Proofs.YtcnhpiodomknfaaGreatDoorW.PrintLast Go.Proofs.YtcnhpiodomknfaaGreatDoorW.PrintMore
attribute [local go_sem] max2_int min2_int max_two min_two max_three min_three max_four min_four
set_option linter.unusedVariables false
set_option linter.unusedSimpArgs false

theorem nil_isBuffer {w : World} {b : Nat} {lr : Int} (hb : w.heap[b]? = some (.cells #[.slice none 0 0, .int .i64 0, .int .i8 lr] 47 (0, 0))) : Lib.IsBuffer 47 5 b b [] w :=
  ⟨Nat.le_refl _, .slice none 0 0, lr, hb, World.ownsRow_nil _ _ _ _, by simp [Value.ownBlock]⟩
def Z64 : Array Value := madeCells (Value.int .u8 0).cells 64
theorem mk64 (W : World) : (Instr.makeSlice 24 (.int .i64 4) (.int .i64 64)).run Tryz.prog W = .ok (.slice (some ⟨W.heap.size, 0, none⟩) 4 64) (W.alloc (.cells Z64 5)) := by
  obtain ⟨i, hi, hz⟩ := Option.map_eq_some_iff.1 info5y
  simp only [Prod.mk.injEq] at hz
  have h := run_make (P := Tryz.prog) W 24 5 i (.int .u8 0) Tryz.underlying24 hi hz.1 .i64 .i64 4 64 (by omega) (by omega) (by rw [hz.2.2]; omega) (by omega)
  simpa [Z64, hz.2.1] using h
set_option maxRecDepth 100000 in
set_option maxHeartbeats 4000000 in
theorem g4_calls (w : World) (b : Nat) (lr : Int) (hb : w.heap[b]? = some (.cells #[.slice none 0 0, .int .i64 0, .int .i8 lr] 47 (0, 0))) :
    Calls Tryz.prog 100 #[.pointer (some ⟨b, 0, none⟩), .int .i64 4] w fun e w' => e = .returned (.int .i64 0) ∧ ∃ k, w' = ((w.drewN k).alloc (.cells Z64 5)).setCell ⟨b, 0, none⟩ (.slice (some ⟨w.heap.size, 0, none⟩) 4 64) := by
  have hl : Calls Tryz.prog 40 #[.pointer (some ⟨b, 0, none⟩)] w fun e w' => e = .returned (.int .i64 0) ∧ ∃ n, w' = w.drewN n := Tryz.Buffer_Len b b [] w (nil_isBuffer hb)
  have HL := Aside0.mk hl
  clear hl
  have c0 : ∀ k, (w.drewN k).cell? ⟨b, 0, none⟩ = some (.slice none 0 0) := fun k => (cell_of_row w b 0 _ 47 (0, 0) hb).trans rfl
  have c1 : ∀ k, (w.drewN k).cell? ⟨b, 1, none⟩ = some (.int .i64 0) := fun k => (cell_of_row w b 1 _ 47 (0, 0) hb).trans rfl
  have f0 : ∀ k, (w.drewN k).frozen? ⟨b, 0, none⟩ = false := fun k => frozen_of_row w b 0 _ 47 hb
  have c0a : ∀ k o, ((w.drewN k).alloc o).cell? ⟨b, 0, none⟩ = some (.slice none 0 0) := fun k o => pw_cell_below (below_alloc (Below.refl _ _) o) (c0 k)
  have f0a : ∀ k o, ((w.drewN k).alloc o).frozen? ⟨b, 0, none⟩ = false := fun k o => frozen_of_row _ b 0 _ 47 ((heap_alloc_old _ _ (Array.getElem?_eq_some_iff.1 hb).1).trans hb)
  have hmk := mk64
  have heq : ∀ W : World, (binOp .eql 24 (.slice none 0 0) (.slice none 0 0)).run Tryz.prog W = .ok (.bool true) W := fun _ => by kernel_rfl
  clear hb
  go_enter Tryz.func100, Tryz.ntmps100
  go_wp2_with (first | (go_at_call 40; refine HL.out.mono ?_; rintro e w2 ⟨rfl, k, rfl⟩; have c0k := c0 k; have c1k := c1 k) | (go_at_call 99; refine (Tryz.Buffer_tryGrow_none b none 0 0 4 _ c0k (by omega) (by unfold maxLen; omega) (by omega)).mono ?_; rintro e w3 ⟨rfl, rfl⟩))
  go_ret
  exact ⟨rfl, k, rfl⟩
theorem g4_facts {w : World} {b : Nat} {lr : Int} (hb : w.heap[b]? = some (.cells #[.slice none 0 0, .int .i64 0, .int .i8 lr] 47 (0, 0))) (k : Nat) (W : World) (hW : W = ((w.drewN k).alloc (.cells Z64 5)).setCell ⟨b, 0, none⟩ (.slice (some ⟨w.heap.size, 0, none⟩) 4 64)) :
    W.heap[b]? = some (.cells #[.slice (some ⟨w.heap.size, 0, none⟩) 4 64, .int .i64 0, .int .i8 lr] 47 (0, 0)) ∧ W.heap[w.heap.size]? = some (.cells Z64 5 (0, 0)) ∧ w.grownBy W (some b) := by
  subst hW
  have hlt : b < w.heap.size := (Array.getElem?_eq_some_iff.1 hb).1
  refine ⟨heap_setCell_same _ b 0 _ 47 _ ((heap_alloc_old (w.drewN k) _ hlt).trans hb), ?_, ?_⟩
  · rw [Below.heap_setCell _ ⟨b, 0, none⟩ _ _ (by show w.heap.size ≠ b; omega)]
    exact heap_alloc_new (w.drewN k) _
  · have g : w.grownBy (w.drewN k) (some b) := ⟨rfl, rfl, rfl, Nat.le_refl _, fun _ _ _ => rfl⟩
    exact Lib.grownBy_setB (Lib.grownBy_allocR g _) 0 _
theorem grownBy_row {w W : World} {b g : Nat} (h : w.grownBy W (some b)) (hg : w.heap.size ≤ g) (cs : Array Value) : w.grownBy (W.setRow g cs) (some b) := by
  refine ⟨h.os, h.tape, h.output, ?_, fun k hk hr => ?_⟩
  · simpa [World.setRow] using h.size
  · rw [setRow_other _ _ _ _ (by omega)]
    exact h.block k hk hr
theorem Z64_size : Z64.size = 64 := by kernel_rfl
/-- What 'copy' of n bytes behind l ones leaves of a row. -/
def spl (cur : Array Value) (l n : Nat) (cs : List Value) : Array Value := (cur.toList.take l ++ cs ++ cur.toList.drop (l + n)).toArray
theorem hinfo5s : (Tryz.prog.info? 5).map (·.size) = some 1 := by kernel_rfl
set_option maxRecDepth 100000 in
set_option maxHeartbeats 4000000 in
theorem wr_nil (w : World) (b a : Nat) (T : TypeId) (lr : Int) (cs : List Value) (hb : w.heap[b]? = some (.cells #[.slice none 0 0, .int .i64 0, .int .i8 lr] 47 (0, 0))) (hab : a ≠ b) (ha : w.heap[a]? = some (.cells cs.toArray T (0, 0))) (hl : cs.length = 4) (h1 : ∀ v ∈ cs, v.oneCell' = true) :
    Calls Tryz.prog 98 #[.pointer (some ⟨b, 0, none⟩), .slice (some ⟨a, 0, none⟩) 4 4] w fun e w' => e = .returned (.tuple #[.int .i64 4, .nilIface]) ∧
      w'.heap[b]? = some (.cells #[.slice (some ⟨w.heap.size, 0, none⟩) 4 64, .int .i64 0, .int .i8 0] 47 (0, 0)) ∧ w'.heap[w.heap.size]? = some (.cells (spl Z64 0 4 cs) 5 (0, 0)) ∧ w.grownBy w' (some b) := by
  have c2 : w.cell? ⟨b, 2, none⟩ = some (.int .i8 lr) := (cell_of_row w b 2 _ 47 (0, 0) hb).trans rfl
  have f2 : w.frozen? ⟨b, 2, none⟩ = false := frozen_of_row w b 2 _ 47 hb
  have hb2 := heap_setCell_same w b 2 _ 47 (.int .i8 0) hb
  have hb3 : (w.setCell ⟨b, 2, none⟩ (.int .i8 0)).heap[b]? = some (.cells #[.slice none 0 0, .int .i64 0, .int .i8 0] 47 (0, 0)) := hb2
  have hsz : (w.setCell ⟨b, 2, none⟩ (.int .i8 0)).heap.size = w.heap.size := by simp [World.setCell]
  have g0 : w.grownBy (w.setCell ⟨b, 2, none⟩ (.int .i8 0)) (some b) := Lib.grownBy_setCell w b 2 _
  have c0 : (w.setCell ⟨b, 2, none⟩ (.int .i8 0)).cell? ⟨b, 0, none⟩ = some (.slice none 0 0) := (cell_of_row _ b 0 _ 47 (0, 0) hb3).trans rfl
  have HG := Aside0.mk (g4_calls _ b 0 hb3)
  have HF := Aside0.mk (g4_facts hb3)
  have HS := Aside0.mk hsz
  have H0 := Aside0.mk g0
  have HA := Aside0.mk ha
  have HBL : Aside0 (b < w.heap.size) := ⟨(Array.getElem?_eq_some_iff.1 hb).1⟩
  clear hb hb2 hb3 hsz g0 ha
  go_enter Tryz.func98, Tryz.ntmps98
  go_wp2_with (first | (go_at_call 99; refine (Tryz.Buffer_tryGrow_none b none 0 0 4 _ c0 (by omega) (by unfold maxLen; omega) (by omega)).mono ?_; rintro e w3 ⟨rfl, rfl⟩) | fail)
  refine HG.out.mono ?_
  rintro e w4 ⟨rfl, k, hw4⟩
  obtain ⟨q1, q2, q3⟩ := HF.out k w4 hw4
  rw [HS.out] at q1 q2
  have q4 := Lib.grownBy_trans H0.out q3
  have halt : a < w.heap.size := (Array.getElem?_eq_some_iff.1 HA.out).1
  have hblt : w.heap.size ≠ b := by have := HBL.out; omega
  have ha4 : w4.heap[a]? = some (.cells cs.toArray T (0, 0)) := (q4.block a halt (by simp; exact hab)).trans HA.out
  have hsrc : ∀ j v, cs[j]? = some v → w4.cell? ((⟨a, 0, none⟩ : Addr).add j) = some v := fun j v hj => Lib.cells_of_row ha4 cs.length j v (by simpa using hj)
  have d0 : w4.cell? ⟨b, 0, none⟩ = some (.slice (some ⟨w.heap.size, 0, none⟩) 4 64) := (cell_of_row _ b 0 _ 47 (0, 0) q1).trans rfl
  have hcp := run_copy_row (P := Tryz.prog) w4 24 24 3 5 w.heap.size 0 4 64 ⟨a, 0, none⟩ 4 4 Z64 5 cs Tryz.underlying24 hinfo5s q2 (by rw [hl]; rfl) hsrc (by rw [Z64_size, hl]; omega) h1
  have Q1 := Aside0.mk q1
  have Q2 := Aside0.mk q2
  have Q4 := Aside0.mk q4
  clear q1 q2 q3 q4 ha4 hsrc hw4 c0
  rw [hl] at hcp
  go_wp2
  go_ret2
  refine ⟨rfl, ?_, ?_, ?_⟩
  · rw [setRow_other _ _ _ _ (Ne.symm hblt)]
    exact Q1.out
  · rw [setRow_heap w4 w.heap.size Z64 _ 5 (0, 0) Q2.out]
    simp [spl]
  · exact grownBy_row Q4.out (Nat.le_refl _) _
set_option maxRecDepth 100000 in
set_option maxHeartbeats 4000000 in
theorem wr_room (w : World) (b g l cap a n : Nat) (cur : Array Value) (T : TypeId) (lr : Int) (cs : List Value) (hb : w.heap[b]? = some (.cells #[.slice (some ⟨g, 0, none⟩) l cap, .int .i64 0, .int .i8 lr] 47 (0, 0))) (hg : w.heap[g]? = some (.cells cur 5 (0, 0))) (hgb : g ≠ b) (hcs : cur.size = cap) (hcm : cap ≤ 1000) (hroom : l + n ≤ cap) (hn : 1 ≤ n)
    (hab : a ≠ b) (ha : w.heap[a]? = some (.cells cs.toArray T (0, 0))) (hl : cs.length = n) (h1 : ∀ v ∈ cs, v.oneCell' = true) :
    Calls Tryz.prog 98 #[.pointer (some ⟨b, 0, none⟩), .slice (some ⟨a, 0, none⟩) n n] w fun e w' => e = .returned (.tuple #[.int .i64 (n : Int), .nilIface]) ∧
      w'.heap[b]? = some (.cells #[.slice (some ⟨g, 0, none⟩) (l + n) cap, .int .i64 0, .int .i8 0] 47 (0, 0)) ∧ w'.heap[g]? = some (.cells (spl cur l n cs) 5 (0, 0)) ∧ (∀ k, k ≠ b → k ≠ g → w'.heap[k]? = w.heap[k]?) ∧ w'.os = w.os ∧ w'.tape = w.tape ∧ w'.output = w.output ∧ w'.heap.size = w.heap.size := by
  have c2 : w.cell? ⟨b, 2, none⟩ = some (.int .i8 lr) := (cell_of_row w b 2 _ 47 (0, 0) hb).trans rfl
  have f2 : w.frozen? ⟨b, 2, none⟩ = false := frozen_of_row w b 2 _ 47 hb
  have hb2 : (w.setCell ⟨b, 2, none⟩ (.int .i8 0)).heap[b]? = some (.cells #[.slice (some ⟨g, 0, none⟩) l cap, .int .i64 0, .int .i8 0] 47 (0, 0)) := heap_setCell_same w b 2 _ 47 (.int .i8 0) hb
  have c0 : (w.setCell ⟨b, 2, none⟩ (.int .i8 0)).cell? ⟨b, 0, none⟩ = some (.slice (some ⟨g, 0, none⟩) l cap) := (cell_of_row _ b 0 _ 47 (0, 0) hb2).trans rfl
  have f0 : (w.setCell ⟨b, 2, none⟩ (.int .i8 0)).frozen? ⟨b, 0, none⟩ = false := frozen_of_row _ b 0 _ 47 hb2
  have HT := Aside0.mk (Tryz.Buffer_tryGrow_room b (some ⟨g, 0, none⟩) l cap n _ c0 f0 (by omega) (by unfold maxLen; omega) (by omega))
  have hb3 := heap_setCell_same _ b 0 _ 47 (.slice (some ⟨g, 0, none⟩) (l + n) cap) hb2
  have hoth : ∀ k, k ≠ b → ((w.setCell ⟨b, 2, none⟩ (.int .i8 0)).setCell ⟨b, 0, none⟩ (.slice (some ⟨g, 0, none⟩) (l + n) cap)).heap[k]? = w.heap[k]? := fun k hk => by
    rw [Below.heap_setCell _ ⟨b, 0, none⟩ _ k hk, Below.heap_setCell _ ⟨b, 2, none⟩ _ k hk]
  generalize hW : (w.setCell ⟨b, 2, none⟩ (.int .i8 0)).setCell ⟨b, 0, none⟩ (.slice (some ⟨g, 0, none⟩) (l + n) cap) = W at *
  have hos : W.os = w.os ∧ W.tape = w.tape ∧ W.output = w.output ∧ W.heap.size = w.heap.size := by subst hW; exact ⟨rfl, rfl, rfl, by simp [World.setCell]⟩
  have hg1 := (hoth g hgb).trans hg
  have ha1 := (hoth a hab).trans ha
  have hsrc : ∀ j v, cs[j]? = some v → W.cell? ((⟨a, 0, none⟩ : Addr).add j) = some v := fun j v hj => Lib.cells_of_row ha1 cs.length j v (by simpa using hj)
  have d0 : W.cell? ⟨b, 0, none⟩ = some (.slice (some ⟨g, 0, none⟩) (l + n) cap) := (cell_of_row _ b 0 _ 47 (0, 0) hb3).trans rfl
  have hcp := run_copy_row (P := Tryz.prog) W 24 24 3 5 g l n (cap - l) ⟨a, 0, none⟩ n n cur 5 cs Tryz.underlying24 hinfo5s hg1 (by rw [hl]; exact (Nat.min_self n).symm) hsrc (by rw [hcs, hl]; omega) h1
  rw [hl] at hcp
  have hne : ¬ cap = l := by omega
  have HB := Aside0.mk hb3
  have HG := Aside0.mk hg1
  have HO := Aside0.mk hoth
  have HS := Aside0.mk hos
  have HGB := Aside0.mk hgb
  clear hb hg hb2 c0 f0 hb3 hoth hos hg1 ha1 hsrc ha hW h1
  go_enter Tryz.func98, Tryz.ntmps98
  go_wp2_with (first | (go_at_call 99; refine HT.out.mono ?_; rintro e w3 ⟨rfl, rfl⟩))
  all_goals
    go_ret2
    refine ⟨rfl, ?_, ?_, ?_, HS.out.1, HS.out.2.1, HS.out.2.2.1, by simpa using HS.out.2.2.2⟩
    · rw [setRow_other _ _ _ _ (Ne.symm HGB.out)]
      exact HB.out
    · rw [setRow_heap _ g cur _ 5 (0, 0) HG.out]
      simp [spl]
    · intro k hk hk2
      rw [setRow_other _ _ _ _ hk2]
      exact HO.out k hk

end Go.Proofs.YtcnhpiodomknfaaGreatDoor.MFnWrTurned
