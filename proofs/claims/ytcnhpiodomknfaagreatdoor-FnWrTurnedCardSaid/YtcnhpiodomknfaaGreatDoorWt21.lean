-- A trial text of this session.
import Derived.Test.YtcnhpiodomknfaaGreatDoorWt20
namespace Go.Proofs.YtcnhpiodomknfaaGreatDoor.MFnWrTurned
open Go.RowKit Go.Proofs.YtcnhpiodomknfaaGreatDoorW.PrintWords Go.Proofs.YtcnhpiodomknfaaGreatDoorW.PrintLast Go.Proofs.YtcnhpiodomknfaaGreatDoorW.PrintMore
attribute [local go_sem] max2_int min2_int max_two min_two max_three min_three max_four min_four
set_option linter.unusedVariables false
set_option linter.unusedSimpArgs false

set_option maxRecDepth 100000 in
set_option maxHeartbeats 4000000 in
theorem dor_calls (t : Bool) (w : World) : Calls Tryz.prog 13 #[.bool t] w fun e w' => e = .returned (if t then .iface 67 (.agg #[]) else .iface 68 (.agg #[])) ∧ w' = w := by
  cases t
  all_goals
    go_enter Tryz.func13, Tryz.ntmps13
    go_wp2
    go_ret
    exact ⟨rfl, rfl⟩
theorem isb_set2 {w : World} {B bi e i : Nat} {T : TypeId} {bs : List Value} {en : Array Value} {v : Value} (hT : T ≠ 5) (h : Lib.IsBuffer 47 5 B bi bs w) (he : w.heap[e]? = some (.cells en T (0, 0))) (hn : e ≠ bi) : Lib.IsBuffer 47 5 B bi bs (w.setCell ⟨e, i, none⟩ v) := by
  obtain ⟨hB, x, lr, hbk, hown, hne⟩ := h
  refine ⟨hB, x, lr, ?_, hown.kept (Lib.grownBy_setCell w e i v) (.inr ?_), hne⟩
  · rw [Below.heap_setCell _ ⟨e, i, none⟩ _ bi (Ne.symm hn)]; exact hbk
  · intro h2
    rcases hown.2 with ⟨rfl, _⟩ | ⟨g, cap, cur, rfl, _, hg, _⟩
    · simp [Value.ownBlock] at h2
    · have : g = e := by simpa [Value.ownBlock] using h2
      subst this
      rw [hg] at he
      injection he with he
      injection he with _ he _
      exact hT he.symm
theorem de_end {w w4 : World} {r : ByteArray} (hc0 : w4.cell? ⟨w.heap.size, 0, none⟩ = some (.string ⟨#[]⟩)) (hc1 : w4.cell? ⟨w.heap.size + 1, 0, none⟩ = some .nilIface) (hB : Below w.heap.size w w4) :
    ((w4.setCell ⟨w.heap.size, 0, none⟩ (.string r)).setCell ⟨w.heap.size + 1, 0, none⟩ .nilIface).cell? ⟨w.heap.size, 0, none⟩ = some (.string r) ∧ ((w4.setCell ⟨w.heap.size, 0, none⟩ (.string r)).setCell ⟨w.heap.size + 1, 0, none⟩ .nilIface).cell? ⟨w.heap.size + 1, 0, none⟩ = some .nilIface ∧ Below w.heap.size w ((w4.setCell ⟨w.heap.size, 0, none⟩ (.string r)).setCell ⟨w.heap.size + 1, 0, none⟩ .nilIface) := by
  refine ⟨?_, ?_, (hB.setCell (by show w.heap.size ≤ w.heap.size; omega) _).setCell (by show w.heap.size ≤ w.heap.size + 1; omega) _⟩
  · rw [World.cell?_setCell_other (h := by intro e; injection e with e; omega)]
    exact World.cell?_setCell_same _ _ _ hc0
  · exact World.cell?_setCell_same _ _ _ ((World.cell?_setCell_other _ _ _ _ (by intro e; injection e with e; omega)).trans hc1)
set_option maxRecDepth 100000 in
set_option maxHeartbeats 16000000 in
theorem de1 (c : UInt8) (t : Bool) (S : ByteArray) (vs : List Value) (bs : List UInt8) (arg : Value) (w : World) (ord : Value) (ho : ord = .iface 67 (.agg #[]) ∨ ord = .iface 68 (.agg #[])) (hdor : ∀ W, Calls Tryz.prog 13 #[.bool t] W fun e w' => e = .returned ord ∧ w' = W)
    (hDS : ∀ W, Below w.heap.size w W → Calls Tryz.prog 15 #[arg] W fun e w' => ∃ g cap L B cap2, e = .returned (.slice (some ⟨g, 0, none⟩) 1 cap) ∧ w'.cell? ⟨g, 0, none⟩ = some (.iface 127 (.pointer (some ⟨L, 0, none⟩))) ∧ Ls w' L ⟨#[c]⟩ B cap2 vs ∧ Below W.heap.size W w')
    (hZ : ∀ W L B cap2, Ls W L ⟨#[c]⟩ B cap2 vs → Calls Tryz.prog 20 #[.iface 127 (.pointer (some ⟨L, 0, none⟩))] W fun e w' => e = .returned (.agg #[.iface 127 (.pointer (some ⟨L, 0, none⟩)), .string S]) ∧ Below W.heap.size W w')
    (hLI : ∀ W b e L B cap2 zb, b < e → zb ≠ b ∧ zb ≠ e → W.heap[zb]? = some (.cells #[.nilIface] 38 (0, 0)) → Ls W L ⟨#[c]⟩ B cap2 vs → W.heap[e]? = some (.cells #[.iface 50 (.pointer (some ⟨b, 0, none⟩)), .slice none 0 0, ord, .int .i64 0] 65 (0, 0)) → W.heap[b]? = some (.cells #[.slice none 0 0, .int .i64 0, .int .i8 0] 47 (0, 0)) →
      Calls Tryz.prog 19 #[.pointer (some ⟨e, 0, none⟩), .agg #[.iface 127 (.pointer (some ⟨L, 0, none⟩)), .string S], .int .i64 0] W fun e' w' => e' = .returned (.tuple #[]) ∧ Lib.IsBuffer 47 5 b b (Lib.byteCells bs) w' ∧ Below b W w' ∧ w'.heap[zb]? = some (.cells #[.nilIface] 38 (0, 0))) :
    Calls Tryz.prog 9 #[arg, .bool t, .int .i64 0] w fun e w' => e = .returned (.tuple #[.string ⟨bs.toArray⟩, .nilIface]) ∧ Below w.heap.size w w' := by
  have hmf : ∀ (fn : Fn) (first cap : Array Value) (w : World), (Instr.makeFunc fn first cap).run Tryz.prog w = .ok (.func fn first cap) w := fun _ _ _ _ => rfl
  have HDS := Aside0.mk hDS
  have HZ := Aside0.mk hZ
  have HLI := Aside0.mk hLI
  have HDR := Aside0.mk hdor
  have HO := Aside0.mk ho
  have k0 := heap_alloc_new w (.cells #[.string ⟨#[]⟩] 9)
  have k1 := heap_alloc_new (w.alloc (.cells #[.string ⟨#[]⟩] 9)) (.cells #[.nilIface] 38)
  have k2 := heap_alloc_new ((w.alloc (.cells #[.string ⟨#[]⟩] 9)).alloc (.cells #[.nilIface] 38)) (.cells #[.slice none 0 0, .int .i64 0, .int .i8 0] 47)
  have k3 := heap_alloc_new (((w.alloc (.cells #[.string ⟨#[]⟩] 9)).alloc (.cells #[.nilIface] 38)).alloc (.cells #[.slice none 0 0, .int .i64 0, .int .i8 0] 47)) (.cells #[.iface 50 (.pointer (some ⟨w.heap.size + 1 + 1, 0, none⟩)), .slice none 0 0, ord, .int .i64 0] 65)
  have l2 := up_heap2 (below_alloc (Below.refl _ _) (.cells #[.iface 50 (.pointer (some ⟨w.heap.size + 1 + 1, 0, none⟩)), .slice none 0 0, ord, .int .i64 0] 65)) k2
  have l1 := up_heap2 (below_alloc (below_alloc (Below.refl _ _) (.cells #[.slice none 0 0, .int .i64 0, .int .i8 0] 47)) (.cells #[.iface 50 (.pointer (some ⟨w.heap.size + 1 + 1, 0, none⟩)), .slice none 0 0, ord, .int .i64 0] 65)) k1
  have l0 := up_heap2 (below_alloc (below_alloc (below_alloc (Below.refl _ _) (.cells #[.nilIface] 38)) (.cells #[.slice none 0 0, .int .i64 0, .int .i8 0] 47)) (.cells #[.iface 50 (.pointer (some ⟨w.heap.size + 1 + 1, 0, none⟩)), .slice none 0 0, ord, .int .i64 0] 65)) k0
  have hB3 := below_alloc (below_alloc (below_alloc (below_alloc (Below.refl w.heap.size w) (.cells #[.string ⟨#[]⟩] 9)) (.cells #[.nilIface] 38)) (.cells #[.slice none 0 0, .int .i64 0, .int .i8 0] 47)) (.cells #[.iface 50 (.pointer (some ⟨w.heap.size + 1 + 1, 0, none⟩)), .slice none 0 0, ord, .int .i64 0] 65)
  simp only [World.size_alloc] at k3 l2 l1
  clear hDS hZ hLI hdor ho k0 k1 k2
  go_enter_defers Tryz.func9, Tryz.ntmps9
  go_wp2_with (first
    | (go_at_call 13; refine (HDR.out _).mono ?_; rintro e1 w2 ⟨rfl, rfl⟩)
    | (go_at_call 12; refine (ne_calls _ _ _ _ HO.out).mono ?_; rintro e1 w2 ⟨rfl, rfl⟩)
    | fail)
  generalize (((w.alloc (.cells #[.string ⟨#[]⟩] 9)).alloc (.cells #[.nilIface] 38)).alloc (.cells #[.slice none 0 0, .int .i64 0, .int .i8 0] 47)).alloc (.cells #[.iface 50 (.pointer (some ⟨w.heap.size + 1 + 1, 0, none⟩)), .slice none 0 0, ord, .int .i64 0] 65) = W3 at *
  refine (HDS.out W3 hB3).mono ?_
  rintro e1 W4 ⟨g, cap, L, B, cap2, rfl, hg, hls, hb4⟩
  have m0 := up_heap2 hb4 l0
  have m1 := up_heap2 hb4 l1
  have m2 := up_heap2 hb4 l2
  have m3 := up_heap2 hb4 k3
  have hB4 := below_step hB3 hb4
  have hsz4 := (Array.getElem?_eq_some_iff.1 m3).1
  have hen := en1 (w.heap.size + 1 + 1 + 1) g cap L S (fun w' => Lib.IsBuffer 47 5 (w.heap.size + 1 + 1) (w.heap.size + 1 + 1) (Lib.byteCells bs) w' ∧ Below (w.heap.size + 1 + 1) W4 w') W4 hg (fun W hb => HZ.out W L B cap2 (hls.below hb)) (fun W hb hh => by
    refine (HLI.out W (w.heap.size + 1 + 1) (w.heap.size + 1 + 1 + 1) L B cap2 W4.heap.size (by omega) ⟨by omega, by omega⟩ hh (hls.below hb) (up_heap2 hb m3) (up_heap2 hb m2)).mono ?_
    rintro e' w' ⟨rfl, hI, hBl, hz⟩
    exact ⟨rfl, hz, fun v => ⟨isb_set2 (by decide) hI hz (by omega), ((keep_below hb (by omega)).trans hBl).setCell (by show w.heap.size + 1 + 1 ≤ W4.heap.size; omega) v⟩⟩)
  have HEN := Aside0.mk hen
  have M0 := Aside0.mk m0
  have M1 := Aside0.mk m1
  have HB4 := Aside0.mk hB4
  clear hen m0 m1 m2 m3 hB4 hg hls hb4 l0 l1 l2 k3 hB3
  go_wp2_with fail
  refine HEN.out.mono ?_
  rintro e1 w5 ⟨rfl, hI5, hB5⟩
  have n0 := (hB5.block w.heap.size (by omega)).trans M0.out
  have n1 := (hB5.block (w.heap.size + 1) (by omega)).trans M1.out
  have hB6 : Below w.heap.size w w5 := HB4.out.trans ⟨hB5.os, hB5.tape, hB5.output, hB5.size, fun k hk => hB5.block k (by omega)⟩
  have HBS := Aside0.mk (Tryz.Buffer_String _ _ bs w5 hI5)
  have HB6 := Aside0.mk hB6
  have c0 : ∀ n, (w5.drewN n).cell? ⟨w.heap.size, 0, none⟩ = some (.string ⟨#[]⟩) := fun n => (cell_of_row w5 w.heap.size 0 _ 9 (0, 0) n0).trans rfl
  have c1 : ∀ n, (w5.drewN n).cell? ⟨w.heap.size + 1, 0, none⟩ = some .nilIface := fun n => (cell_of_row w5 (w.heap.size + 1) 0 _ 38 (0, 0) n1).trans rfl
  have f0 : ∀ n, (w5.drewN n).frozen? ⟨w.heap.size, 0, none⟩ = false := fun n => frozen_of_row w5 w.heap.size 0 _ 9 n0
  have f1 : ∀ n, (w5.drewN n).frozen? ⟨w.heap.size + 1, 0, none⟩ = false := fun n => frozen_of_row w5 (w.heap.size + 1) 0 _ 38 n1
  clear hI5 hB5 n0 n1 hB6
  go_wp2_with (go_at_call 16; refine HBS.out.mono ?_; rintro e1 w6 ⟨rfl, n, rfl⟩; have c0n := c0 n; have c1n := c1 n; have f0n := f0 n; have f1n := f1 n)
  have D := de_end (r := ⟨bs.toArray⟩) c0n c1n (pw_below_drewN HB6.out n)
  clear c0 c1 f0 f1 c0n c1n f0n f1n
  refine leaves_cons (f := 11) (args := #[.pointer (some ⟨w.heap.size, 0, none⟩), .pointer (some ⟨w.heap.size + 1, 0, none⟩)]) (by simp) (by simp [go_sem]) ?_
  refine (f11_idle _ _ _).mono ?_
  rintro e u' w'' ⟨rfl, rfl, hw⟩
  rw [← hw] at D
  clear hw
  obtain ⟨d6, d7, hbb⟩ := D
  simp [Leaves, settle, results, Tryz.results9, go_sem, d6, d7]
  exact hbb

end Go.Proofs.YtcnhpiodomknfaaGreatDoor.MFnWrTurned
