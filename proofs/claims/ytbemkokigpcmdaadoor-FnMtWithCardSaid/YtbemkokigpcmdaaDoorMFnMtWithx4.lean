-- Written by a program of this session (myprint.py, out of the translation). Not trusted: Lean checks it.
import Derived.Test.YtbemkokigpcmdaaDoorMFnMtWithx0
import Derived.Test.YtbemkokigpcmdaaDoorMFnMtWithx1
import Derived.Test.YtbemkokigpcmdaaDoorMFnMtWithx3
namespace Go.Proofs.YtbemkokigpcmdaaDoor.MFnMtWith
open Go.RowKit Go.Proofs.YtbemkokigpcmdaaDoorW.PrintWords Go.Proofs.YtbemkokigpcmdaaDoorW.PrintLast Go.Proofs.YtbemkokigpcmdaaDoorW.PrintMore
attribute [local go_sem] max2_int min2_int max_two min_two max_three min_three max_four min_four   -- for this text's walks alone
set_option linter.unusedVariables false
set_option linter.unusedSimpArgs false

/-! ### impl_with: function 6 -/
-- GIVENTEXT
theorem catch_idle (p q s : Addr) (w : World) :
    CallsD Tryd.prog 8 #[.pointer (some p), .pointer (some q), .pointer (some s)] .returning w fun e u' w' => e = .returned (.tuple #[]) ∧ u' = .returning ∧ w' = w := by
  refine callsD_of_wpS Tryd.func8 rfl fun c₀ cs hu => ?_
  apply wpS_seq
  apply wpS_region
  simp [wpOpsS, go_sem, recoverD, hu, Tryd.ntmps8, Exit.thenS]
  refine wpS_cond (t := false) (by simp [Act.eval, Array.replicate]) ?_
  simp only [Bool.false_eq_true, if_false]
  refine wpS_of_wp (wp_skip ?_)
  cases c₀
  simp_all [bodyPostS, results, Tryd.results8]
def impl_with.f (k : Nat) (a0 a1 : Int) (a2 : ByteArray) : Option (ByteArray × ByteArray × Bool) := (impl_option.f k a0 a1 a2).bind fun o => some (o.1, o.2, true)
theorem impl_with.mono : ∀ a0 a1 a2 k, LeO (impl_with.f k a0 a1 a2) (impl_with.f (k + 1) a0 a1 a2) := by
  intro a0 a1 a2 k
  unfold impl_with.f
  exact LeO.bind (impl_option.mono _ _ _ _) (fun _ => LeO.refl _)
theorem keep3 (w w1 w2 : World)
    (h1 : Below (((w.alloc (.cells #[.string ⟨#[]⟩] 9)).alloc (.cells #[.string ⟨#[]⟩] 9)).alloc (.cells #[.bool false] 4)).heap.size (((w.alloc (.cells #[.string ⟨#[]⟩] 9)).alloc (.cells #[.string ⟨#[]⟩] 9)).alloc (.cells #[.bool false] 4)) w1)
    (h2 : Below w1.heap.size w1 w2) :
    w2.cell? ⟨w.heap.size, 0, none⟩ = some (.string ⟨#[]⟩) ∧ w2.cell? ⟨w.heap.size + 1, 0, none⟩ = some (.string ⟨#[]⟩) ∧ w2.cell? ⟨w.heap.size + 1 + 1, 0, none⟩ = some (.bool false) ∧
    w2.frozen? ⟨w.heap.size, 0, none⟩ = false ∧ w2.frozen? ⟨w.heap.size + 1, 0, none⟩ = false ∧ w2.frozen? ⟨w.heap.size + 1 + 1, 0, none⟩ = false ∧ Below w.heap.size w w2 := by
  have s1 : (((w.alloc (.cells #[.string ⟨#[]⟩] 9)).alloc (.cells #[.string ⟨#[]⟩] 9)).alloc (.cells #[.bool false] 4)).heap.size = w.heap.size + 1 + 1 + 1 := by simp
  have hs := h1.size
  have g0 : (((w.alloc (.cells #[.string ⟨#[]⟩] 9)).alloc (.cells #[.string ⟨#[]⟩] 9)).alloc (.cells #[.bool false] 4)).heap[w.heap.size]? = some (.cells #[.string ⟨#[]⟩] 9 (0, 0)) := by
    rw [heap_alloc_old _ _ (by simp; omega), heap_alloc_old _ _ (by simp)]; exact heap_alloc_new _ _
  have g1 : (((w.alloc (.cells #[.string ⟨#[]⟩] 9)).alloc (.cells #[.string ⟨#[]⟩] 9)).alloc (.cells #[.bool false] 4)).heap[w.heap.size + 1]? = some (.cells #[.string ⟨#[]⟩] 9 (0, 0)) := by
    rw [heap_alloc_old _ _ (by simp)]
    have := heap_alloc_new (w.alloc (.cells #[.string ⟨#[]⟩] 9)) (.cells #[.string ⟨#[]⟩] 9)
    simpa using this
  have g2 : (((w.alloc (.cells #[.string ⟨#[]⟩] 9)).alloc (.cells #[.string ⟨#[]⟩] 9)).alloc (.cells #[.bool false] 4)).heap[w.heap.size + 1 + 1]? = some (.cells #[.bool false] 4 (0, 0)) := by
    have := heap_alloc_new ((w.alloc (.cells #[.string ⟨#[]⟩] 9)).alloc (.cells #[.string ⟨#[]⟩] 9)) (.cells #[.bool false] 4)
    simpa using this
  have k : ∀ j, j < w.heap.size + 1 + 1 + 1 → w2.heap[j]? = (((w.alloc (.cells #[.string ⟨#[]⟩] 9)).alloc (.cells #[.string ⟨#[]⟩] 9)).alloc (.cells #[.bool false] 4)).heap[j]? := fun j hj =>
    (h2.block j (by omega)).trans (h1.block j (by omega))
  have g0' := (k _ (by omega)).trans g0
  have g1' := (k _ (by omega)).trans g1
  have g2' := (k _ (by omega)).trans g2
  refine ⟨by rw [cell_of_row w2 _ 0 _ 9 (0, 0) g0']; rfl, by rw [cell_of_row w2 _ 0 _ 9 (0, 0) g1']; rfl, by rw [cell_of_row w2 _ 0 _ 4 (0, 0) g2']; rfl, frozen_of_row w2 _ 0 _ 9 g0', frozen_of_row w2 _ 0 _ 9 g1', frozen_of_row w2 _ 0 _ 4 g2', ?_⟩
  exact (below_alloc (below_alloc (below_alloc (Below.refl _ _) _) _) _).trans ((h1.mono (by omega)).trans (h2.mono (by omega)))
theorem cs_other {w : World} {a b : Addr} {v u : Value} (hn : a ≠ b) (h : w.cell? b = some u) : (w.setCell a v).cell? b = some u := by rw [World.cell?_setCell_other (h := hn)]; exact h
theorem cs_same {w : World} {a : Addr} {v u : Value} (h : w.cell? a = some u) : (w.setCell a v).cell? a = some v := World.cell?_setCell_same _ _ _ h
theorem door_gen (w w2 : World) (p q s : Addr) (o1 o2 : ByteArray) (n01 : p ≠ q) (n02 : p ≠ s) (n12 : q ≠ s) (hp : w.heap.size ≤ p.block) (hq : w.heap.size ≤ q.block) (hs : w.heap.size ≤ s.block)
    (hc6 : w2.cell? p = some (.string ⟨#[]⟩)) (hc7 : w2.cell? q = some (.string ⟨#[]⟩)) (hc8 : w2.cell? s = some (.bool false)) (hb : Below w.heap.size w w2) :
    (((((w2.setCell p (.string o1)).setCell q (.string o2)).setCell p (.string o1)).setCell q (.string o2)).setCell s (.bool true)).drew.cell? p = some (.string o1) ∧
    (((((w2.setCell p (.string o1)).setCell q (.string o2)).setCell p (.string o1)).setCell q (.string o2)).setCell s (.bool true)).drew.cell? q = some (.string o2) ∧
    (((((w2.setCell p (.string o1)).setCell q (.string o2)).setCell p (.string o1)).setCell q (.string o2)).setCell s (.bool true)).drew.cell? s = some (.bool true) ∧
    Below w.heap.size w (((((w2.setCell p (.string o1)).setCell q (.string o2)).setCell p (.string o1)).setCell q (.string o2)).setCell s (.bool true)).drew := by
  rw [World.cell?_drew, World.cell?_drew, World.cell?_drew]
  have a1 : (w2.setCell p (.string o1)).cell? p = some (.string o1) := cs_same hc6
  have a2 : (w2.setCell p (.string o1)).cell? q = some (.string ⟨#[]⟩) := cs_other n01 hc7
  have a3 : (w2.setCell p (.string o1)).cell? s = some (.bool false) := cs_other n02 hc8
  have ab := hb.setCell hp (.string o1)
  generalize w2.setCell p (.string o1) = x1 at *
  have b1 : (x1.setCell q (.string o2)).cell? p = some (.string o1) := cs_other n01.symm a1
  have b2 : (x1.setCell q (.string o2)).cell? q = some (.string o2) := cs_same a2
  have b3 : (x1.setCell q (.string o2)).cell? s = some (.bool false) := cs_other n12 a3
  have bb := ab.setCell hq (.string o2)
  generalize x1.setCell q (.string o2) = x2 at *
  have c1 : (x2.setCell p (.string o1)).cell? p = some (.string o1) := cs_same b1
  have c2 : (x2.setCell p (.string o1)).cell? q = some (.string o2) := cs_other n01 b2
  have c3 : (x2.setCell p (.string o1)).cell? s = some (.bool false) := cs_other n02 b3
  have cb := bb.setCell hp (.string o1)
  generalize x2.setCell p (.string o1) = x3 at *
  have d1 : (x3.setCell q (.string o2)).cell? p = some (.string o1) := cs_other n01.symm c1
  have d2 : (x3.setCell q (.string o2)).cell? q = some (.string o2) := cs_same c2
  have d3 : (x3.setCell q (.string o2)).cell? s = some (.bool false) := cs_other n12 c3
  have db := cb.setCell hq (.string o2)
  generalize x3.setCell q (.string o2) = x4 at *
  exact ⟨cs_other n02.symm d1, cs_other n12.symm d2, cs_same d3, below_drew (db.setCell hs _)⟩
set_option maxHeartbeats 2000000 in
theorem impl_with.calls (k : Nat) (a0 a1 : Int) (a2 r1 r2 : ByteArray) (r3 : Bool) (w : World) (h : impl_with.f k a0 a1 a2 = some (r1, r2, r3)) :
    Calls Tryd.prog 6 #[.int .i64 a0, .int .i64 a1, .string a2] w fun e w' => e = .returned (.tuple #[.string r1, .string r2, .bool r3]) ∧ Below w.heap.size w w' := by
  unfold impl_with.f at h
  replace h := Option.bind_eq_some_iff.mp h
  obtain ⟨⟨o1, o2⟩, ho, h⟩ := h
  simp only [Option.some.injEq, Prod.mk.injEq] at h
  obtain ⟨rfl, rfl, rfl⟩ := h
  have HO := Aside0.mk ho
  clear ho
  have hmf : ∀ (fn : Fn) (first cap : Array Value) (w : World), (Instr.makeFunc fn first cap).run Tryd.prog w = .ok (.func fn first cap) w := fun _ _ _ _ => rfl
  have HB := Aside0.mk (Below.refl w.heap.size w)
  go_enter_defers Tryd.func6, Tryd.ntmps6
  go_upto_region 3 with (fail)
  refine (impl_option.calls k a0 a1 a2 o1 o2 _ HO.out).mono ?_
  rintro e w1 ⟨rfl, hb1⟩
  have HB1 := Aside0.mk hb1
  clear hb1
  go_upto_region 3 with (fail)
  refine (dbus_DoorOption.calls o1 o2 o1 o2 _ rfl).mono ?_
  rintro e w2 ⟨rfl, hb2⟩
  have hk := keep3 w w1 w2 HB1.out hb2
  obtain ⟨hc6, hc7, hc8, hf6, hf7, hf8, hb⟩ := hk
  have HB2 := Aside0.mk hb
  clear hb2 hb
  go_wp2
  go_region
  go_wp2
  have D := door_gen w w2 ⟨w.heap.size, 0, none⟩ ⟨w.heap.size + 1, 0, none⟩ ⟨w.heap.size + 1 + 1, 0, none⟩ o1 o2 (fun e => by injection e with e; omega) (fun e => by injection e with e; omega) (fun e => by injection e with e; omega) (Nat.le_refl _) (by show w.heap.size ≤ w.heap.size + 1; omega) (by show w.heap.size ≤ w.heap.size + 1 + 1; omega) hc6 hc7 hc8 HB2.out
  clear hc6 hc7 hc8 hf6 hf7 hf8
  refine leaves_cons (f := 8) (args := #[.pointer (some ⟨w.heap.size, 0, none⟩), .pointer (some ⟨w.heap.size + 1, 0, none⟩), .pointer (some ⟨w.heap.size + 1 + 1, 0, none⟩)]) (by simp) (by simp [go_sem]) ?_
  refine (catch_idle _ _ _ _).mono ?_
  rintro e u' w'' ⟨rfl, rfl, hw⟩
  rw [← hw] at D
  clear hw
  obtain ⟨d6, d7, d8, hbb⟩ := D
  simp [Leaves, settle, results, Tryd.results6, go_sem, d6, d7, d8]
  exact hbb

end Go.Proofs.YtbemkokigpcmdaaDoor.MFnMtWith
