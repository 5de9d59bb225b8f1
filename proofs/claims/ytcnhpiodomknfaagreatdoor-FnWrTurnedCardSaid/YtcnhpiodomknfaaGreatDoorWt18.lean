-- A trial text of this session.
import Derived.Test.YtcnhpiodomknfaaGreatDoorWt17
namespace Go.Proofs.YtcnhpiodomknfaaGreatDoor.MFnWrTurned
open Go.RowKit Go.Proofs.YtcnhpiodomknfaaGreatDoorW.PrintWords Go.Proofs.YtcnhpiodomknfaaGreatDoorW.PrintLast Go.Proofs.YtcnhpiodomknfaaGreatDoorW.PrintMore
attribute [local go_sem] max2_int min2_int max_two min_two max_three min_three max_four min_four
set_option linter.unusedVariables false
set_option linter.unusedSimpArgs false

attribute [-go_sem] Builtin.append_
theorem ls_of_own {w : World} {L base n : Nat} {v : Value} {S : ByteArray} {vs : List Value} (h : w.heap[L]? = some (.cells #[.string S, v] 129 (0, 0))) (ho : w.ownsRow base 20 1 v n vs) (hn : n = vs.length) : ∃ B cap, Ls w L S B cap vs := by
  subst hn
  rcases ho.2 with ⟨rfl, h0⟩ | ⟨g, cap, cur, rfl, hr⟩
  · have hv : vs = [] := List.eq_nil_of_length_eq_zero h0
    subst hv
    exact ⟨none, 0, h, fun j v hj => by simp at hj⟩
  · refine ⟨some g, cap, h, fun j v hj => ⟨g, rfl, ?_⟩⟩
    have hc := ho.cells (g := g) rfl j v hj
    have ha : (⟨g, 0, none⟩ : Addr).add j = ⟨g, j, none⟩ := by unfold Addr.add; split <;> simp_all
    rwa [ha] at hc
theorem info20 : (Tryz.prog.info? 20).map (fun i => (i.zero, i.size, i.bytes)) = some (some .nilIface, 1, 16) := by kernel_rfl
set_option maxRecDepth 100000 in
set_option maxHeartbeats 16000000 in
theorem dl (c : UInt8) (hc : c.toNat ≠ 123) (N : Nat → Int) (d : TypeId) (u : Nat → Value) (ms : List Nat) (hlen : ms.length ≤ 200) (hDT : ∀ W, Calls Tryz.prog 55 #[.string ⟨#[c]⟩] W fun e w' => e = .returned (.string ⟨#[c]⟩) ∧ Drawn0 W w')
    (hDI : ∀ m, m ∈ ms → ∀ A n3 c3 W, Calls Tryz.prog 21 #[.agg #[.int .u8 (c.toNat : Int), .int .u64 (N m), .string ⟨#[]⟩, .slice A n3 c3]] W fun e w' => e = .returned (.iface d (u m)) ∧ Below W.heap.size W w')
    (A : Option Addr) (cp : Nat) (n0 : Int) (w : World) (hC : Kd.C k59 w A ms.length (ms.map fun m => (⟨(c.toNat : Int), N m, ⟨#[]⟩, []⟩ : S59))) :
    Calls Tryz.prog 21 #[.agg #[.int .u8 97, .int .u64 n0, .string ⟨#[c]⟩, .slice A ms.length cp]] w fun e w' => ∃ L B cap, e = .returned (.iface 127 (.pointer (some ⟨L, 0, none⟩))) ∧ Ls w' L ⟨#[c]⟩ B cap (ms.map fun m => .iface d (u m)) ∧ Below w.heap.size w w' := by
  have hc1 : ∀ h, ((((⟨#[c]⟩ : ByteArray)[0]'h).toNat : Int) == 123) = false := fun h => beq_eq_false_iff_ne.mpr (by show ((c.toNat : Nat) : Int) ≠ 123; omega)
  have HDT := Aside0.mk hDT
  have HDI := Aside0.mk hDI
  have HC := Aside0.mk hC
  clear hDT hDI hC hc
  go_enter Tryz.func21, Tryz.ntmps21
  go_wp2_with fail
  refine (HDT.out _).mono ?_
  rintro e1 w2 ⟨rfl, k1, rfl⟩
  go_wp2_with fail
  go_loopg [166] ms.length (fun kq v166 wr => ∃ (i : Nat) (v : Value), v166 = .int .i64 (i : Int) ∧ i ≤ ms.length ∧ Aside0 (kq = ms.length - i ∧ Below w.heap.size w wr ∧ wr.heap[w.heap.size + 1]? = some (.cells #[.string ⟨#[c]⟩, v] 129 (0, 0)) ∧ wr.ownsRow (w.heap.size + 2) 20 1 v i ((ms.take i).map fun m => Value.iface d (u m))))
  case atStart =>
    refine ⟨0, .slice none 0 0, rfl, by omega, ⟨rfl, below_alloc (pw_below_drewN (below_alloc (Below.refl _ _) _) _) _, ?_, by simpa using World.ownsRow_nil _ _ _ _⟩⟩
    have h := heap_alloc_new ((w.alloc (.cells #[.int .u8 97, .int .u64 n0, .string ⟨#[c]⟩, .slice A ms.length cp] 59)).drewN k1) (.cells #[.string ⟨#[c]⟩, .slice none 0 0] 129)
    simpa using h
  case round =>
    obtain ⟨i, v, rfl, hi, HI⟩ := hrel
    by_cases hlt : i < ms.length
    · have hd : decide ((i : Int) < (ms.length : Int)) = true := by simpa using hlt
      obtain ⟨m, hm⟩ : ∃ m, ms[i]? = some m := ⟨ms[i], List.getElem?_eq_getElem hlt⟩
      have HM := Aside0.mk hm
      obtain ⟨ad, A3, c3, rfl, q0, q1, q2, q3, _, _⟩ := at_T59 HC.out (i : Int) (by omega) (by omega)
      have hrd : rd_T59 (ms.map fun m => (⟨(c.toNat : Int), N m, ⟨#[]⟩, []⟩ : S59)) (i : Int) = ⟨(c.toNat : Int), N m, ⟨#[]⟩, []⟩ := by
        unfold rd_T59
        rw [Int.toNat_natCast, List.getD_eq_getElem?_getD, List.getElem?_map, hm]
        rfl
      rw [hrd] at q0 q1 q2 q3
      replace q0 := pw_cell_below HI.out.2.1 q0
      replace q1 := pw_cell_below HI.out.2.1 q1
      replace q2 := pw_cell_below HI.out.2.1 q2
      replace q3 := pw_cell_below HI.out.2.1 q3
      clear hm hrd
      simp only [Int.toNat_natCast] at q0 q1 q2 q3
      go_wp2_with fail
      have hmm : m ∈ ms := List.mem_of_getElem? HM.out
      have h5 := heap_alloc_new wr (.cells #[.int .u8 (c.toNat : Int), .int .u64 (N m), .string ⟨#[]⟩, .slice A3 0 c3] 59)
      have hL5 := (heap_alloc_old wr (.cells #[.int .u8 (c.toNat : Int), .int .u64 (N m), .string ⟨#[]⟩, .slice A3 0 c3] 59) (Array.getElem?_eq_some_iff.1 HI.out.2.2.1).1).trans HI.out.2.2.1
      have hO5 := HI.out.2.2.2.alloc (.cells #[.int .u8 (c.toNat : Int), .int .u64 (N m), .string ⟨#[]⟩, .slice A3 0 c3] 59)
      have hB5 := below_alloc HI.out.2.1 (.cells #[.int .u8 (c.toNat : Int), .int .u64 (N m), .string ⟨#[]⟩, .slice A3 0 c3] 59)
      generalize wr.alloc (.cells #[.int .u8 (c.toNat : Int), .int .u64 (N m), .string ⟨#[]⟩, .slice A3 0 c3] 59) = W5 at *
      generalize wr.heap.size = g5 at *
      have x0 : W5.drew.cell? ⟨g5, 0, none⟩ = some (.int .u8 (c.toNat : Int)) := (cell_of_row W5.drew g5 0 _ 59 (0, 0) h5).trans rfl
      have x1 : W5.drew.cell? ⟨g5, 1, none⟩ = some (.int .u64 (N m)) := (cell_of_row W5.drew g5 1 _ 59 (0, 0) h5).trans rfl
      have x2 : W5.drew.cell? ⟨g5, 2, none⟩ = some (.string ⟨#[]⟩) := (cell_of_row W5.drew g5 2 _ 59 (0, 0) h5).trans rfl
      have x3 : W5.drew.cell? ⟨g5, 3, none⟩ = some (.slice A3 0 c3) := (cell_of_row W5.drew g5 3 _ 59 (0, 0) h5).trans rfl
      have y1 : W5.drew.cell? ⟨w.heap.size + 1, 1, none⟩ = some v := (cell_of_row W5.drew (w.heap.size + 1) 1 _ 129 (0, 0) hL5).trans rfl
      have HMM := Aside0.mk hmm
      have hwi : IntKind.i64.wrap ((i : Int) + 1) = ((i + 1 : Nat) : Int) := by rw [IntKind.wrap_i64]; omega
      have HL5 : Aside0 (W5.drew.heap[w.heap.size + 1]? = some (.cells #[.string ⟨#[c]⟩, v] 129 (0, 0))) := ⟨hL5⟩
      have HO5 : Aside0 (W5.drew.ownsRow (w.heap.size + 2) 20 1 v i ((ms.take i).map fun m => Value.iface d (u m))) := ⟨hO5⟩
      have HB5 := Aside0.mk (below_drew1 hB5)
      have HAP : Aside0 (∀ w6, Below W5.drew.heap.size W5.drew w6 → ∃ A1 c1 w7, (Builtin.append_ #[55, 55] 55 #[v, .slice (some ⟨w6.heap.size, 0, none⟩) 1 1]).run Tryz.prog (w6.alloc (.cells #[.iface d (u m)] 20)) = .ok (.slice A1 (i + 1) c1) w7 ∧ w7.ownsRow (w.heap.size + 2) 20 1 (.slice A1 (i + 1) c1) (i + 1) (((ms.take i).map fun m => Value.iface d (u m)) ++ [.iface d (u m)]) ∧ Below w.heap.size W5.drew w7 ∧ w7.heap[w.heap.size + 1]? = some (.cells #[.string ⟨#[c]⟩, v] 129 (0, 0))) := ⟨fun w6 hb => by
        have hO6 := pw_own_below HO5.out hb
        have hsz : w.heap.size + 2 ≤ w6.heap.size := by
          have h1 := (Array.getElem?_eq_some_iff.1 HL5.out).1
          have h2 := hb.size
          have h3 := HB5.out.size
          omega
        obtain ⟨i0, hi0, hz0⟩ := Option.map_eq_some_iff.1 info20
        simp only [Prod.mk.injEq] at hz0
        obtain ⟨v1, w7, hr, hown, hg, _⟩ := run_append_own (P := Tryz.prog) (w6.alloc (.cells #[.iface d (u m)] 20)) (w.heap.size + 2) 55 55 20 i0 .nilIface 1 16 Tryz.underlying55 hi0 hz0.1 hz0.2.1 hz0.2.2 rfl (by omega) v i _ (hO6.alloc _) ⟨w6.heap.size, 0, none⟩ 1 1 [.iface d (u m)] rfl
          (World.news_of_block (cs := #[.iface d (u m)]) (t := 20) (fr := (0, 0)) (heap_alloc_new w6 _)) (by intro x hx; rw [List.mem_singleton.1 hx]; rfl) (by unfold maxLen; omega) (by omega) (by simp; omega)
        have hG := World.grownBy.trans (World.grownBy_alloc w6 (.cells #[.iface d (u m)] 20) v.ownBlock) hg
        have hob : ∀ k, v.ownBlock = some k → w.heap.size + 2 ≤ k := fun k hk => own_base hO6 k hk
        have hL6 := up_heap2 hb HL5.out
        obtain ⟨A1, c1, rfl⟩ := own_slice hown
        refine ⟨A1, c1, w7, hr, hown, ?_, ?_⟩
        · exact (keep_below hb (by have := (Array.getElem?_eq_some_iff.1 HL5.out).1; omega)).trans ⟨hG.os, hG.tape, hG.output, hG.size, fun k hk => hG.block k (by omega) (fun h => by have := hob k h.symm; omega)⟩
        · exact (hG.block _ (Array.getElem?_eq_some_iff.1 hL6).1 (fun h => by have := hob _ h.symm; omega)).trans hL6⟩
      clear hmm h5 hL5 hO5 hB5 q0 q1 q2 q3
      go_region_with (first
        | (go_at_call 21; refine (HDI.out m HMM.out A3 0 c3 _).mono ?_; rintro e1 w6 ⟨rfl, hb⟩; have HB6 := Aside0.mk hb; have y6 := pw_cell_below hb y1; have y6a := fun o => pw_cell_below (below_alloc (Below.refl w6.heap.size w6) o) y6; obtain ⟨A1, c1, w7, hr, hown, hg7, hL7⟩ := HAP.out w6 hb; have HO7 := Aside0.mk hown; have HG7 := Aside0.mk hg7; have HL7 := Aside0.mk hL7; have f7 := frozen_of_row w7 (w.heap.size + 1) 1 _ 129 hL7; have y7 : w7.cell? ⟨w.heap.size + 1, 1, none⟩ = some v := (cell_of_row w7 (w.heap.size + 1) 1 _ 129 (0, 0) hL7).trans rfl; clear hb hown hg7 hL7))
      all_goals
        go_wp2
        go_roundg (ms.length - (i + 1))
        case measure => have := HI.out.1; omega
        case rel =>
          refine ⟨i + 1, _, by first | rfl | simp, hlt, ⟨rfl, (HB5.out.trans HG7.out).setCell (by show w.heap.size ≤ w.heap.size + 1; omega) _, heap_setCell_same w7 (w.heap.size + 1) 1 _ 129 (.slice A1 (i + 1) c1) HL7.out, ?_⟩⟩
          have ho := HO7.out.kept (Lib.grownBy_setCell w7 (w.heap.size + 1) 1 (.slice A1 (i + 1) c1)) (.inr (fun h => by have := own_base HO7.out _ h; omega))
          rw [List.take_add_one, HM.out]
          simpa using ho
    · have hd : decide ((i : Int) < (ms.length : Int)) = false := by simpa using hlt
      go_wp2_with fail
      have hie : i = ms.length := by omega
      have ho := HI.out.2.2.2
      have hl := HI.out.2.2.1
      have hB := HI.out.2.1
      rw [hie, List.take_length] at ho
      obtain ⟨B, cap, hLs⟩ := ls_of_own hl (n := ms.length) ho (by simp)
      go_ret
      exact ⟨_, B, cap, rfl, hLs, hB⟩

end Go.Proofs.YtcnhpiodomknfaaGreatDoor.MFnWrTurned
