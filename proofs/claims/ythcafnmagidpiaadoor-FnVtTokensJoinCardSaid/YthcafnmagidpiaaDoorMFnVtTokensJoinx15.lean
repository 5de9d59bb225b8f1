-- Texts of this session, several in one.
import Derived.Test.YthcafnmagidpiaaDoorMFnVtTokensJoinx0
import Derived.Test.YthcafnmagidpiaaDoorMFnVtTokensJoinx3
import Derived.Test.YthcafnmagidpiaaDoorMFnVtTokensJoinx11
namespace Go.Proofs.YthcafnmagidpiaaDoor.MFnVtTokensJoin
open Go.RowKit Go.Proofs.YthcafnmagidpiaaDoorW.PrintWords Go.Proofs.YthcafnmagidpiaaDoorW.PrintLast Go.Proofs.YthcafnmagidpiaaDoorW.PrintMore
attribute [local go_sem] max2_int min2_int max_two min_two max_three min_three max_four min_four   -- for this text's walks alone
set_option linter.unusedVariables false
set_option linter.unusedSimpArgs false

/-! ### dbus_findMatching: function 57 -/
-- GIVENTEXT
def dbus_findMatching.step (c l r n : Int) : Int := if c = l then wrap64 (n + 1) else if c = r then wrap64 (n - 1) else n
def dbus_findMatching.l0 : Nat → ByteArray → Int → Int → Int → Nat → Option Int
  | 0, _, _, _, _, _ => none
  | k + 1, s, l, r, n, pos => if pos < s.size then
      (if dbus_findMatching.step ((Utf8.decode s pos).1 : Int) l r n = 0 then some (pos : Int) else dbus_findMatching.l0 k s l r (dbus_findMatching.step ((Utf8.decode s pos).1 : Int) l r n) (pos + (Utf8.decode s pos).2))
      else some (-1)
def dbus_findMatching.f (k : Nat) (a0 : ByteArray) (a1 a2 : Int) : Option Int := dbus_findMatching.l0 k a0 a1 a2 0 0
theorem dbus_findMatching.mono_l : ∀ k s l r n pos, LeO (dbus_findMatching.l0 k s l r n pos) (dbus_findMatching.l0 (k + 1) s l r n pos)
  | 0 => fun _ _ _ _ _ x h => by simp [dbus_findMatching.l0] at h
  | k + 1 => by
    intro s l r n pos
    unfold dbus_findMatching.l0
    refine LeO.ite (LeO.ite (LeO.refl _) (dbus_findMatching.mono_l k _ _ _ _ _)) (LeO.refl _)
theorem dbus_findMatching.mono : ∀ a0 a1 a2 k, LeO (dbus_findMatching.f k a0 a1 a2) (dbus_findMatching.f (k + 1) a0 a1 a2) := fun a0 a1 a2 k => dbus_findMatching.mono_l k a0 a1 a2 0 0
set_option maxHeartbeats 2000000 in
set_option maxRecDepth 100000 in
theorem dbus_findMatching.calls (k : Nat) (a0 : ByteArray) (a1 a2 : Int) (r : Int) (w : World) (h : dbus_findMatching.f k a0 a1 a2 = some r) :
    Calls Tryd.prog 57 #[.string a0, .int .i32 a1, .int .i32 a2] w fun e w' => e = .returned (.int .i64 r) ∧ Below w.heap.size w w' := by
  have H := Aside0.mk h
  clear h
  go_enter Tryd.func57, Tryd.ntmps57
  go_wp2
  go_loopg [7] k (fun kq v7 w' => ∃ (n : Int) (pos : Nat), v7 = .int .i64 n ∧ Aside0 (dbus_findMatching.l0 kq a0 a1 a2 n pos = some r) ∧ Aside0 (w'.heap[w.heap.size]? = some (.stringIter a0 pos)) ∧ Aside0 (Below w.heap.size w w'))
  case atStart => exact ⟨0, 0, rfl, H, ⟨World.iter_heap w a0 0⟩, ⟨(Below.refl _ _).alloc (Nat.le_refl _) _⟩⟩
  case round =>
    clear H
    obtain ⟨n, pos, rfl, HA, HI, HB⟩ := hrel
    cases gk with
    | zero => exact absurd HA.out (by simp [dbus_findMatching.l0])
    | succ k1 =>
      by_cases hp : pos < a0.size
      · have H := HA.out
        clear HA
        simp only [dbus_findMatching.l0, if_pos hp] at H
        have hnx : ∀ ty, (Instr.next (.pointer (some ⟨w.heap.size, 0, none⟩)) true ty).run Tryd.prog wr = _ := fun ty => Lib.run_next_any_at wr w.heap.size a0 pos ty HI.out hp
        have hit2 := Aside0.mk (Lib.iterAt_heap wr w.heap.size a0 pos (pos + (Utf8.decode a0 pos).2) HI.out)
        have hbw2 := Aside0.mk (Lib.below_iterAt HB.out (k := w.heap.size) (Nat.le_refl _) a0 (pos + (Utf8.decode a0 pos).2))
        obtain ⟨W1, hW1⟩ : ∃ W1, W1 = wr.iterAt w.heap.size a0 (pos + (Utf8.decode a0 pos).2) := ⟨_, rfl⟩
        rw [← hW1] at hnx hit2 hbw2
        clear hW1 HI HB hp
        generalize ((Utf8.decode a0 pos).1 : Int) = c at *
        by_cases h1 : c = a1
        · have h1b : (c == a1) = true := beq_iff_eq.mpr h1
          have e : dbus_findMatching.step c a1 a2 n = wrap64 (n + 1) := by simp [dbus_findMatching.step, h1]
          rw [e] at H
          clear h1 e
          by_cases h3 : wrap64 (n + 1) = 0
          · rw [if_pos h3] at H
            obtain rfl := Option.some.inj H
            have h3b : (wrap64 (n + 1) == 0) = true := beq_iff_eq.mpr h3
            clear h3 H
            go_wp2
            go_ret
            exact ⟨rfl, hbw2.out⟩
          · rw [if_neg h3] at H
            have h3b : (wrap64 (n + 1) == 0) = false := beq_eq_false_iff_ne.mpr h3
            have H' := Aside0.mk H
            clear h3 H
            go_wp2
            go_roundg k1
            case measure => omega
            case rel => exact ⟨_, _, rfl, H', hit2, hbw2⟩
        · have h1b : (c == a1) = false := beq_eq_false_iff_ne.mpr h1
          by_cases h2 : c = a2
          · have h2b : (c == a2) = true := beq_iff_eq.mpr h2
            have e : dbus_findMatching.step c a1 a2 n = wrap64 (n - 1) := by simp only [dbus_findMatching.step, if_neg h1, if_pos h2]
            rw [e] at H
            clear h1 h2 e
            by_cases h3 : wrap64 (n - 1) = 0
            · rw [if_pos h3] at H
              obtain rfl := Option.some.inj H
              have h3b : (wrap64 (n - 1) == 0) = true := beq_iff_eq.mpr h3
              clear h3 H
              go_wp2
              go_ret
              exact ⟨rfl, hbw2.out⟩
            · rw [if_neg h3] at H
              have h3b : (wrap64 (n - 1) == 0) = false := beq_eq_false_iff_ne.mpr h3
              have H' := Aside0.mk H
              clear h3 H
              go_wp2
              go_roundg k1
              case measure => omega
              case rel => exact ⟨_, _, rfl, H', hit2, hbw2⟩
          · have h2b : (c == a2) = false := beq_eq_false_iff_ne.mpr h2
            have e : dbus_findMatching.step c a1 a2 n = n := by simp only [dbus_findMatching.step, if_neg h1, if_neg h2]
            rw [e] at H
            clear h1 h2 e
            by_cases h3 : n = 0
            · rw [if_pos h3] at H
              obtain rfl := Option.some.inj H
              have h3b : (n == 0) = true := beq_iff_eq.mpr h3
              clear h3 H
              go_wp2
              go_ret
              exact ⟨rfl, hbw2.out⟩
            · rw [if_neg h3] at H
              have h3b : (n == 0) = false := beq_eq_false_iff_ne.mpr h3
              have H' := Aside0.mk H
              clear h3 H
              go_wp2
              go_roundg k1
              case measure => omega
              case rel => exact ⟨_, _, rfl, H', hit2, hbw2⟩
      · have H := HA.out
        clear HA
        simp only [dbus_findMatching.l0, if_neg hp] at H
        obtain rfl := Option.some.inj H
        clear H
        have hnx : ∀ ty, (Instr.next (.pointer (some ⟨w.heap.size, 0, none⟩)) true ty).run Tryd.prog wr = _ := fun ty => Lib.run_next_end_at wr w.heap.size a0 pos ty HI.out hp
        go_wp2
        go_ret
        exact ⟨rfl, HB.out⟩

end Go.Proofs.YthcafnmagidpiaaDoor.MFnVtTokensJoin

namespace Go.Proofs.YthcafnmagidpiaaDoor.MFnVtTokensJoin
open Go.RowKit Go.Proofs.YthcafnmagidpiaaDoorW.PrintWords Go.Proofs.YthcafnmagidpiaaDoorW.PrintLast Go.Proofs.YthcafnmagidpiaaDoorW.PrintMore
attribute [local go_sem] max2_int min2_int max_two min_two max_three min_three max_four min_four   -- for this text's walks alone
set_option linter.unusedVariables false
set_option linter.unusedSimpArgs false

/-! ### dbus_depthCounter_EnterArray: function 58 -/
def dbus_depthCounter_EnterArray.f (a0_0 : Int) (a0_1 : Int) (a0_2 : Int) : Option (Int × Int × Int) := some (wrap64 (a0_0 + 1), a0_1, a0_2)
set_option maxHeartbeats 8000000 in
set_option maxRecDepth 100000 in
theorem dbus_depthCounter_EnterArray.calls (a0_0 : Int) (a0_1 : Int) (a0_2 : Int) (r1 : Int) (r2 : Int) (r3 : Int) (w0 w : World) (hB : Below w0.heap.size w0 w) (h : dbus_depthCounter_EnterArray.f a0_0 a0_1 a0_2 = some (r1, r2, r3)) :
    Calls Tryd.prog 58 #[.agg #[.int .i64 a0_0, .int .i64 a0_1, .int .i64 a0_2]] w fun e w' => ∃ g_ : Nat, e = .returned (.pointer (some ⟨g_, 0, none⟩)) ∧ IsS84 w0 w' g_ r1 r2 r3 ∧ Below w0.heap.size w0 w' ∧ Below w.heap.size w w' := by
  have hu84 := Tryd.underlying84
  have HBW := Aside0.mk (Below.refl w.heap.size w)
  have HW0 := Aside0.mk hB.size
  have HB := Aside0.mk hB
  clear hB
  have H : (some (wrap64 (a0_0 + 1), a0_1, a0_2)) = some (r1, r2, r3) := h
  clear h
  simp only [Option.some.injEq, Prod.mk.injEq] at H
  obtain ⟨rfl, rfl, rfl⟩ := H
  go_enter Tryd.func58, Tryd.ntmps58
  go_wp2_with (first | ((with_reducible refine gate_dst (N := 1) rfl ?_); refine box_event ?hg (N := 1) ?hd (cs := #[.int .i64 a0_0, .int .i64 a0_1, .int .i64 a0_2]) (t := 84) ?hr ?_; (case hd => rfl); (case hg => rfl); (case hr => first | (go_simp; done) | (go_simp; rfl)); intro gb165 hg w2 hbox hb; have n0_ := Aside0.mk (below_step HBW.out hb); have n1_ := Aside0.mk (below_step (by repeat (first | (with_reducible first | exact HB.out | apply below_alloc | apply pw_below_drewN | apply below_drew1) | exact HB.out)) hb); have n2_ := Aside0.mk (hbox); have n3_ := Aside0.mk ((by rw [hg]; exact (below_size (by repeat (first | (with_reducible first | exact HBW.out | apply below_alloc | apply pw_below_drewN | apply below_drew1) | exact HBW.out))) : w.heap.size ≤ gb165)); have n4_ := Aside0.mk ((Nat.le_trans HW0.out (by rw [hg]; exact (below_size (by repeat (first | (with_reducible first | exact HBW.out | apply below_alloc | apply pw_below_drewN | apply below_drew1) | exact HBW.out))) : w.heap.size ≤ gb165) : w0.heap.size ≤ gb165)); clear HBW; clear HB; have HBW := n0_; have HB := n1_; have BK165 := n2_; have GW165 := n3_; have GE165 := n4_; clear n0_ n1_ n2_ n3_ n4_; clear hb hbox hg; have hcz3_0 : w2.cell? ⟨gb165, 0, none⟩ = some (.int .i64 a0_0) := (blk_cell BK165.out 0).trans rfl; have hcz3_1 : w2.cell? ⟨gb165, 1, none⟩ = some (.int .i64 a0_1) := (blk_cell BK165.out 1).trans rfl; have hcz3_2 : w2.cell? ⟨gb165, 2, none⟩ = some (.int .i64 a0_2) := (blk_cell BK165.out 2).trans rfl; have hfz3_0 := blk_frozen BK165.out 0; have hfz3_1 := blk_frozen BK165.out 1; have hfz3_2 := blk_frozen BK165.out 2))
  go_ret
  exact ⟨_, rfl, (show IsS84 w0 _ gb165 (wrap64 (a0_0 + 1)) a0_1 a0_2 from ⟨by (with_reducible repeat (first | refine blk_drewN ?_ _ | refine blk_drew ?_ | refine blk_alloc ?_ _)); refine blk_put (cs := #[.int .i64 a0_0, .int .i64 a0_1, .int .i64 a0_2]) ?_ 0 _ rfl; (with_reducible repeat (first | refine blk_drewN ?_ _ | refine blk_drew ?_ | refine blk_alloc ?_ _)); exact BK165.out, GE165.out⟩), by repeat (first | (with_reducible first | exact HB.out | apply below_alloc | apply pw_below_drewN | apply below_drew1 | refine below_set ?_ GE165.out) | exact HB.out), by repeat (first | (with_reducible first | exact HBW.out | apply below_alloc | apply pw_below_drewN | apply below_drew1 | refine below_set ?_ GW165.out) | exact HBW.out)⟩

/-! ### dbus_depthCounter_EnterDictEntry: function 59 -/
def dbus_depthCounter_EnterDictEntry.f (a0_0 : Int) (a0_1 : Int) (a0_2 : Int) : Option (Int × Int × Int) := some (a0_0, a0_1, wrap64 (a0_2 + 1))
set_option maxHeartbeats 8000000 in
set_option maxRecDepth 100000 in
theorem dbus_depthCounter_EnterDictEntry.calls (a0_0 : Int) (a0_1 : Int) (a0_2 : Int) (r1 : Int) (r2 : Int) (r3 : Int) (w0 w : World) (hB : Below w0.heap.size w0 w) (h : dbus_depthCounter_EnterDictEntry.f a0_0 a0_1 a0_2 = some (r1, r2, r3)) :
    Calls Tryd.prog 59 #[.agg #[.int .i64 a0_0, .int .i64 a0_1, .int .i64 a0_2]] w fun e w' => ∃ g_ : Nat, e = .returned (.pointer (some ⟨g_, 0, none⟩)) ∧ IsS84 w0 w' g_ r1 r2 r3 ∧ Below w0.heap.size w0 w' ∧ Below w.heap.size w w' := by
  have hu84 := Tryd.underlying84
  have HBW := Aside0.mk (Below.refl w.heap.size w)
  have HW0 := Aside0.mk hB.size
  have HB := Aside0.mk hB
  clear hB
  have H : (some (a0_0, a0_1, wrap64 (a0_2 + 1))) = some (r1, r2, r3) := h
  clear h
  simp only [Option.some.injEq, Prod.mk.injEq] at H
  obtain ⟨rfl, rfl, rfl⟩ := H
  go_enter Tryd.func59, Tryd.ntmps59
  go_wp2_with (first | ((with_reducible refine gate_dst (N := 1) rfl ?_); refine box_event ?hg (N := 1) ?hd (cs := #[.int .i64 a0_0, .int .i64 a0_1, .int .i64 a0_2]) (t := 84) ?hr ?_; (case hd => rfl); (case hg => rfl); (case hr => first | (go_simp; done) | (go_simp; rfl)); intro gb166 hg w2 hbox hb; have n0_ := Aside0.mk (below_step HBW.out hb); have n1_ := Aside0.mk (below_step (by repeat (first | (with_reducible first | exact HB.out | apply below_alloc | apply pw_below_drewN | apply below_drew1) | exact HB.out)) hb); have n2_ := Aside0.mk (hbox); have n3_ := Aside0.mk ((by rw [hg]; exact (below_size (by repeat (first | (with_reducible first | exact HBW.out | apply below_alloc | apply pw_below_drewN | apply below_drew1) | exact HBW.out))) : w.heap.size ≤ gb166)); have n4_ := Aside0.mk ((Nat.le_trans HW0.out (by rw [hg]; exact (below_size (by repeat (first | (with_reducible first | exact HBW.out | apply below_alloc | apply pw_below_drewN | apply below_drew1) | exact HBW.out))) : w.heap.size ≤ gb166) : w0.heap.size ≤ gb166)); clear HBW; clear HB; have HBW := n0_; have HB := n1_; have BK166 := n2_; have GW166 := n3_; have GE166 := n4_; clear n0_ n1_ n2_ n3_ n4_; clear hb hbox hg; have hcz3_0 : w2.cell? ⟨gb166, 0, none⟩ = some (.int .i64 a0_0) := (blk_cell BK166.out 0).trans rfl; have hcz3_1 : w2.cell? ⟨gb166, 1, none⟩ = some (.int .i64 a0_1) := (blk_cell BK166.out 1).trans rfl; have hcz3_2 : w2.cell? ⟨gb166, 2, none⟩ = some (.int .i64 a0_2) := (blk_cell BK166.out 2).trans rfl; have hfz3_0 := blk_frozen BK166.out 0; have hfz3_1 := blk_frozen BK166.out 1; have hfz3_2 := blk_frozen BK166.out 2))
  go_ret
  exact ⟨_, rfl, (show IsS84 w0 _ gb166 a0_0 a0_1 (wrap64 (a0_2 + 1)) from ⟨by (with_reducible repeat (first | refine blk_drewN ?_ _ | refine blk_drew ?_ | refine blk_alloc ?_ _)); refine blk_put (cs := #[.int .i64 a0_0, .int .i64 a0_1, .int .i64 a0_2]) ?_ 2 _ rfl; (with_reducible repeat (first | refine blk_drewN ?_ _ | refine blk_drew ?_ | refine blk_alloc ?_ _)); exact BK166.out, GE166.out⟩), by repeat (first | (with_reducible first | exact HB.out | apply below_alloc | apply pw_below_drewN | apply below_drew1 | refine below_set ?_ GE166.out) | exact HB.out), by repeat (first | (with_reducible first | exact HBW.out | apply below_alloc | apply pw_below_drewN | apply below_drew1 | refine below_set ?_ GW166.out) | exact HBW.out)⟩

/-! ### dbus_depthCounter_EnterStruct: function 60 -/
def dbus_depthCounter_EnterStruct.f (a0_0 : Int) (a0_1 : Int) (a0_2 : Int) : Option (Int × Int × Int) := some (a0_0, wrap64 (a0_1 + 1), a0_2)
set_option maxHeartbeats 8000000 in
set_option maxRecDepth 100000 in
theorem dbus_depthCounter_EnterStruct.calls (a0_0 : Int) (a0_1 : Int) (a0_2 : Int) (r1 : Int) (r2 : Int) (r3 : Int) (w0 w : World) (hB : Below w0.heap.size w0 w) (h : dbus_depthCounter_EnterStruct.f a0_0 a0_1 a0_2 = some (r1, r2, r3)) :
    Calls Tryd.prog 60 #[.agg #[.int .i64 a0_0, .int .i64 a0_1, .int .i64 a0_2]] w fun e w' => ∃ g_ : Nat, e = .returned (.pointer (some ⟨g_, 0, none⟩)) ∧ IsS84 w0 w' g_ r1 r2 r3 ∧ Below w0.heap.size w0 w' ∧ Below w.heap.size w w' := by
  have hu84 := Tryd.underlying84
  have HBW := Aside0.mk (Below.refl w.heap.size w)
  have HW0 := Aside0.mk hB.size
  have HB := Aside0.mk hB
  clear hB
  have H : (some (a0_0, wrap64 (a0_1 + 1), a0_2)) = some (r1, r2, r3) := h
  clear h
  simp only [Option.some.injEq, Prod.mk.injEq] at H
  obtain ⟨rfl, rfl, rfl⟩ := H
  go_enter Tryd.func60, Tryd.ntmps60
  go_wp2_with (first | ((with_reducible refine gate_dst (N := 1) rfl ?_); refine box_event ?hg (N := 1) ?hd (cs := #[.int .i64 a0_0, .int .i64 a0_1, .int .i64 a0_2]) (t := 84) ?hr ?_; (case hd => rfl); (case hg => rfl); (case hr => first | (go_simp; done) | (go_simp; rfl)); intro gb167 hg w2 hbox hb; have n0_ := Aside0.mk (below_step HBW.out hb); have n1_ := Aside0.mk (below_step (by repeat (first | (with_reducible first | exact HB.out | apply below_alloc | apply pw_below_drewN | apply below_drew1) | exact HB.out)) hb); have n2_ := Aside0.mk (hbox); have n3_ := Aside0.mk ((by rw [hg]; exact (below_size (by repeat (first | (with_reducible first | exact HBW.out | apply below_alloc | apply pw_below_drewN | apply below_drew1) | exact HBW.out))) : w.heap.size ≤ gb167)); have n4_ := Aside0.mk ((Nat.le_trans HW0.out (by rw [hg]; exact (below_size (by repeat (first | (with_reducible first | exact HBW.out | apply below_alloc | apply pw_below_drewN | apply below_drew1) | exact HBW.out))) : w.heap.size ≤ gb167) : w0.heap.size ≤ gb167)); clear HBW; clear HB; have HBW := n0_; have HB := n1_; have BK167 := n2_; have GW167 := n3_; have GE167 := n4_; clear n0_ n1_ n2_ n3_ n4_; clear hb hbox hg; have hcz3_0 : w2.cell? ⟨gb167, 0, none⟩ = some (.int .i64 a0_0) := (blk_cell BK167.out 0).trans rfl; have hcz3_1 : w2.cell? ⟨gb167, 1, none⟩ = some (.int .i64 a0_1) := (blk_cell BK167.out 1).trans rfl; have hcz3_2 : w2.cell? ⟨gb167, 2, none⟩ = some (.int .i64 a0_2) := (blk_cell BK167.out 2).trans rfl; have hfz3_0 := blk_frozen BK167.out 0; have hfz3_1 := blk_frozen BK167.out 1; have hfz3_2 := blk_frozen BK167.out 2))
  go_ret
  exact ⟨_, rfl, (show IsS84 w0 _ gb167 a0_0 (wrap64 (a0_1 + 1)) a0_2 from ⟨by (with_reducible repeat (first | refine blk_drewN ?_ _ | refine blk_drew ?_ | refine blk_alloc ?_ _)); refine blk_put (cs := #[.int .i64 a0_0, .int .i64 a0_1, .int .i64 a0_2]) ?_ 1 _ rfl; (with_reducible repeat (first | refine blk_drewN ?_ _ | refine blk_drew ?_ | refine blk_alloc ?_ _)); exact BK167.out, GE167.out⟩), by repeat (first | (with_reducible first | exact HB.out | apply below_alloc | apply pw_below_drewN | apply below_drew1 | refine below_set ?_ GE167.out) | exact HB.out), by repeat (first | (with_reducible first | exact HBW.out | apply below_alloc | apply pw_below_drewN | apply below_drew1 | refine below_set ?_ GW167.out) | exact HBW.out)⟩

end Go.Proofs.YthcafnmagidpiaaDoor.MFnVtTokensJoin

namespace Go.Proofs.YthcafnmagidpiaaDoor.MFnVtTokensJoin
open Go.RowKit Go.Proofs.YthcafnmagidpiaaDoorW.PrintWords Go.Proofs.YthcafnmagidpiaaDoorW.PrintLast Go.Proofs.YthcafnmagidpiaaDoorW.PrintMore
attribute [local go_sem] max2_int min2_int max_two min_two max_three min_three max_four min_four   -- for this text's walks alone
set_option linter.unusedVariables false
set_option linter.unusedSimpArgs false

/-! ### dbus_validSingle: function 54 -/
-- GIVENTEXT
def dbus_validSingle.er (s r : ByteArray) : Option (TypeId × Value) := some (79, .agg #[.string s, .string r])
def dbus_validSingle.simple (c : Int) : Bool := c == 121 || c == 98 || c == 110 || c == 113 || c == 105 || c == 117 || c == 120 || c == 116 || c == 100 || c == 115 || c == 103 || c == 111 || c == 118 || c == 104
def dbus_validSingle.ok (a s d : Int) : Bool := decide (a ≤ 32) && decide (s ≤ 32) && decide (d ≤ 32)
mutual
def dbus_validSingle.g : Nat → ByteArray → Int → Int → Int → Option (Option (TypeId × Value) × ByteArray)
 | 0, _, _, _, _ => none
 | k + 1, s, a, t, d =>
  if s.size = 0 then some (dbus_validSingle.er s ⟨#[101, 109, 112, 116, 121, 32, 115, 105, 103, 110, 97, 116, 117, 114, 101]⟩, ⟨#[]⟩)
  else if dbus_validSingle.ok a t d = false then some (dbus_validSingle.er s ⟨#[99, 111, 110, 116, 97, 105, 110, 101, 114, 32, 110, 101, 115, 116, 105, 110, 103, 32, 116, 111, 111, 32, 100, 101, 101, 112]⟩, ⟨#[]⟩)
  else if dbus_validSingle.simple (bt s 0) = true then some (none, s.extract 1 s.size)
  else if bt s 0 = 97 then
   (if 1 < s.size then
    (if bt s 1 = 123 then (dbus_findMatching.f k (s.extract 1 s.size) 123 125).bind fun i => dbus_validSingle.dict k s a t d i
    else dbus_validSingle.g k (s.extract 1 s.size) (wrap64 (a + 1)) t d)
   else dbus_validSingle.g k (s.extract 1 s.size) (wrap64 (a + 1)) t d)
  else if bt s 0 = 40 then (dbus_findMatching.f k s 40 41).bind fun i => dbus_validSingle.open k s a t d i
  else some (dbus_validSingle.er s ⟨#[105, 110, 118, 97, 108, 105, 100, 32, 116, 121, 112, 101, 32, 99, 104, 97, 114, 97, 99, 116, 101, 114]⟩, ⟨#[]⟩)
def dbus_validSingle.dict : Nat → ByteArray → Int → Int → Int → Int → Option (Option (TypeId × Value) × ByteArray)
 | 0, _, _, _, _, _ => none
 | k + 1, s, a, t, d, i =>
  if i = -1 then some (dbus_validSingle.er s ⟨#[117, 110, 109, 97, 116, 99, 104, 101, 100, 32, 39, 123, 39]⟩, ⟨#[]⟩)
  else if 1 ≤ i ∧ i + 2 ≤ (s.size : Int) ∧ i ≤ 1000000000 then
   (if (s.extract 2 (i + 1).toNat).size = 0 then some (dbus_validSingle.er (s.extract 2 (i + 1).toNat) ⟨#[101, 109, 112, 116, 121, 32, 100, 105, 99, 116]⟩, ⟨#[]⟩)
   else (dbus_validSingle.g k ((s.extract 2 (i + 1).toNat).extract 0 1) (wrap64 (a + 1)) t (wrap64 (d + 1))).bind fun x =>
    if x.1.isSome = true then some (x.1, ⟨#[]⟩) else
    (dbus_validSingle.g k ((s.extract 2 (i + 1).toNat).extract 1 (s.extract 2 (i + 1).toNat).size) (wrap64 (a + 1)) t (wrap64 (d + 1))).bind fun y =>
    if y.1.isSome = true then some (y.1, ⟨#[]⟩) else
    if y.2.size = 0 then some (none, s.extract (i + 1 + 1).toNat s.size)
    else some (dbus_validSingle.er (s.extract 2 (i + 1).toNat) ⟨#[116, 111, 111, 32, 109, 97, 110, 121, 32, 116, 121, 112, 101, 115, 32, 105, 110, 32, 100, 105, 99, 116]⟩, ⟨#[]⟩))
  else none
def dbus_validSingle.open : Nat → ByteArray → Int → Int → Int → Int → Option (Option (TypeId × Value) × ByteArray)
 | 0, _, _, _, _, _ => none
 | k + 1, s, a, t, d, i =>
  if i = -1 then some (dbus_validSingle.er s ⟨#[117, 110, 109, 97, 116, 99, 104, 101, 100, 32, 39, 41, 39]⟩, ⟨#[]⟩)
  else if 1 ≤ i ∧ i + 1 ≤ (s.size : Int) ∧ i ≤ 1000000000 then dbus_validSingle.l k none (s.extract 1 i.toNat) (s.extract (i + 1).toNat s.size) a t d
  else none
def dbus_validSingle.l : Nat → Option (TypeId × Value) → ByteArray → ByteArray → Int → Int → Int → Option (Option (TypeId × Value) × ByteArray)
 | 0, _, _, _, _, _, _ => none
 | k + 1, e, s, r, a, t, d =>
  if e.isSome = true then some (e, ⟨#[]⟩)
  else if s.size = 0 then some (none, r)
  else (dbus_validSingle.g k s a (wrap64 (t + 1)) d).bind fun x => dbus_validSingle.l k x.1 x.2 r a t d
end
set_option maxHeartbeats 1000000 in
set_option maxRecDepth 100000 in
theorem dbus_validSingle.enterA (a s d : Int) (w : World) : Calls Tryd.prog 58 #[.agg #[.int .i64 a, .int .i64 s, .int .i64 d]] w fun e w' => e = .returned (.pointer (some ⟨w.heap.size, 0, none⟩)) ∧ w.alloc (.cells #[.int .i64 (wrap64 (a + 1)), .int .i64 s, .int .i64 d] 84) = w' := by
 have hu := Tryd.underlying84
 go_enter Tryd.func58, Tryd.ntmps58
 go_wp2
 go_ret
 exact ⟨rfl, rfl⟩
set_option maxHeartbeats 1000000 in
set_option maxRecDepth 100000 in
theorem dbus_validSingle.enterD (a s d : Int) (w : World) : Calls Tryd.prog 59 #[.agg #[.int .i64 a, .int .i64 s, .int .i64 d]] w fun e w' => e = .returned (.pointer (some ⟨w.heap.size, 0, none⟩)) ∧ w.alloc (.cells #[.int .i64 a, .int .i64 s, .int .i64 (wrap64 (d + 1))] 84) = w' := by
 have hu := Tryd.underlying84
 go_enter Tryd.func59, Tryd.ntmps59
 go_wp2
 go_ret
 exact ⟨rfl, rfl⟩
set_option maxHeartbeats 1000000 in
set_option maxRecDepth 100000 in
theorem dbus_validSingle.enterS (a s d : Int) (w : World) : Calls Tryd.prog 60 #[.agg #[.int .i64 a, .int .i64 s, .int .i64 d]] w fun e w' => e = .returned (.pointer (some ⟨w.heap.size, 0, none⟩)) ∧ w.alloc (.cells #[.int .i64 a, .int .i64 (wrap64 (s + 1)), .int .i64 d] 84) = w' := by
 have hu := Tryd.underlying84
 go_enter Tryd.func60, Tryd.ntmps60
 go_wp2
 go_ret
 exact ⟨rfl, rfl⟩
set_option maxHeartbeats 1000000 in
set_option maxRecDepth 100000 in
theorem dbus_validSingle.valid (g : Nat) (a s d : Int) (w : World) (h0 : w.cell? ⟨g, 0, none⟩ = some (.int .i64 a)) (h1 : w.cell? ⟨g, 1, none⟩ = some (.int .i64 s)) (h2 : w.cell? ⟨g, 2, none⟩ = some (.int .i64 d)) :
  Calls Tryd.prog 56 #[.pointer (some ⟨g, 0, none⟩)] w fun e w' => e = .returned (.bool (dbus_validSingle.ok a s d)) ∧ w = w' := by
 by_cases c1 : a ≤ 32
 ·have b1 := decide_eq_true c1
  by_cases c2 : s ≤ 32
  ·have b2 := decide_eq_true c2
   have e : dbus_validSingle.ok a s d = decide (d ≤ 32) := by simp [dbus_validSingle.ok, c1, c2]
   rw [e]
   clear e c1 c2
   go_enter Tryd.func56, Tryd.ntmps56
   go_wp2
   go_ret
   exact ⟨rfl, rfl⟩
  ·have b2 := decide_eq_false c2
   have e : dbus_validSingle.ok a s d = false := by simp [dbus_validSingle.ok, c2]
   rw [e]
   clear e c1 c2
   go_enter Tryd.func56, Tryd.ntmps56
   go_wp2
   go_ret
   exact ⟨rfl, rfl⟩
 ·have b1 := decide_eq_false c1
  have e : dbus_validSingle.ok a s d = false := by simp [dbus_validSingle.ok, c1]
  rw [e]
  clear e c1
  go_enter Tryd.func56, Tryd.ntmps56
  go_wp2
  go_ret
  exact ⟨rfl, rfl⟩
theorem dbus_validSingle.emp {s : ByteArray} (h : s.size = 0) : (s.toList == ([] : List UInt8)) = true := by
 have h2 : s.data.toList.length = 0 := h
 rw [beq_iff_eq, ByteArray.toList_eq]; exact List.eq_nil_of_length_eq_zero h2
theorem dbus_validSingle.nemp {s : ByteArray} (h : ¬ s.size = 0) : (s.toList == ([] : List UInt8)) = false := by
 rw [beq_eq_false_iff_ne, ByteArray.toList_eq]; intro e; exact h (congrArg List.length e)
def dbus_validSingle.Core (k : Nat) : Prop := ∀ (a0 : ByteArray) (g : Nat) (a s d : Int) (r1 : Option (TypeId × Value)) (r2 : ByteArray) (w : World)
  (h0 : w.cell? ⟨g, 0, none⟩ = some (.int .i64 a)) (h1 : w.cell? ⟨g, 1, none⟩ = some (.int .i64 s)) (h2 : w.cell? ⟨g, 2, none⟩ = some (.int .i64 d)) (h : dbus_validSingle.g k a0 a s d = some (r1, r2)),
  Calls Tryd.prog 54 #[.string a0, .pointer (some ⟨g, 0, none⟩)] w fun e w' => e = .returned (.tuple #[errW r1, .string r2]) ∧ Below w.heap.size w w'
set_option maxHeartbeats 1000000 in
set_option maxRecDepth 100000 in
theorem dbus_validSingle.w_empty (a0 : ByteArray) (g : Nat) (w : World) (c1 : a0.size = 0) : Calls Tryd.prog 54 #[.string a0, .pointer (some ⟨g, 0, none⟩)] w fun e w' => e = .returned (.tuple #[errW (dbus_validSingle.er a0 ⟨#[101, 109, 112, 116, 121, 32, 115, 105, 103, 110, 97, 116, 117, 114, 101]⟩), .string ⟨#[]⟩]) ∧ Below w.heap.size w w' := by
 have hu := Tryd.underlying79
 have e1 := dbus_validSingle.emp c1
 clear c1
 go_enter Tryd.func54, Tryd.ntmps54
 go_wp2
 go_ret2
 exact ⟨rfl, Below.refl _ _⟩
set_option maxHeartbeats 1000000 in
set_option maxRecDepth 100000 in
theorem dbus_validSingle.w_deep (a0 : ByteArray) (g : Nat) (a s d : Int) (w : World) (h0 : w.cell? ⟨g, 0, none⟩ = some (.int .i64 a)) (h1 : w.cell? ⟨g, 1, none⟩ = some (.int .i64 s)) (h2 : w.cell? ⟨g, 2, none⟩ = some (.int .i64 d)) (c1 : ¬ a0.size = 0) (c2 : dbus_validSingle.ok a s d = false) : Calls Tryd.prog 54 #[.string a0, .pointer (some ⟨g, 0, none⟩)] w fun e w' => e = .returned (.tuple #[errW (dbus_validSingle.er a0 ⟨#[99, 111, 110, 116, 97, 105, 110, 101, 114, 32, 110, 101, 115, 116, 105, 110, 103, 32, 116, 111, 111, 32, 100, 101, 101, 112]⟩), .string ⟨#[]⟩]) ∧ Below w.heap.size w w' := by
 have hu := Tryd.underlying79
 have e1 := dbus_validSingle.nemp c1
 clear c1
 go_enter Tryd.func54, Tryd.ntmps54
 go_wp2_with (first | (go_at_call 56; refine (dbus_validSingle.valid g a s d _ h0 h1 h2).mono ?_; rintro e w' ⟨rfl, rfl⟩))
 go_ret2
 exact ⟨rfl, Below.refl _ _⟩
set_option maxHeartbeats 4000000 in
set_option maxRecDepth 100000 in
theorem dbus_validSingle.w_simple (a0 : ByteArray) (g : Nat) (a s d : Int) (w : World) (h0 : w.cell? ⟨g, 0, none⟩ = some (.int .i64 a)) (h1 : w.cell? ⟨g, 1, none⟩ = some (.int .i64 s)) (h2 : w.cell? ⟨g, 2, none⟩ = some (.int .i64 d)) (c1 : ¬ a0.size = 0) (c2 : dbus_validSingle.ok a s d = true) (c3 : dbus_validSingle.simple (bt a0 0) = true) : Calls Tryd.prog 54 #[.string a0, .pointer (some ⟨g, 0, none⟩)] w fun e w' => e = .returned (.tuple #[errW none, .string (a0.extract 1 a0.size)]) ∧ Below w.heap.size w w' := by
 have e1 := dbus_validSingle.nemp c1
 have q14 : 0 < a0.size := by omega
 have hx14 : ∀ h : 0 < a0.size, ((a0[0]'h).toNat : Int) = bt a0 0 := bt_at a0 0
 have qi14 : (0 < (a0.size : Int)) = True := eq_true (by omega)
 have s1 : 1 ≤ a0.size := by omega
 have s1i : (1 : Int) ≤ (a0.size : Int) := by omega
 replace q14 := eq_true q14
 clear c1
 simp only [dbus_validSingle.simple, Bool.or_eq_true, beq_iff_eq] at c3
 rcases c3 with ((((((((((((c | c) | c) | c) | c) | c) | c) | c) | c) | c) | c) | c) | c) | c
 all_goals
  go_enter Tryd.func54, Tryd.ntmps54
  go_wp2_with (first | (go_at_call 56; refine (dbus_validSingle.valid g a s d _ h0 h1 h2).mono ?_; rintro e w' ⟨rfl, rfl⟩))
  go_quiet (fail)
  go_wp2
  go_ret2
  exact ⟨rfl, pw_below_drewN (Below.refl _ _) _⟩
set_option maxHeartbeats 4000000 in
set_option maxRecDepth 100000 in
theorem dbus_validSingle.w_array (k : Nat) (ih : dbus_validSingle.Core k) (a0 : ByteArray) (g : Nat) (a s d : Int) (r1 : Option (TypeId × Value)) (r2 : ByteArray) (w : World)
  (h0 : w.cell? ⟨g, 0, none⟩ = some (.int .i64 a)) (h1 : w.cell? ⟨g, 1, none⟩ = some (.int .i64 s)) (h2 : w.cell? ⟨g, 2, none⟩ = some (.int .i64 d))
  (c1 : ¬ a0.size = 0) (c2 : dbus_validSingle.ok a s d = true) (c3 : bt a0 0 = 97) (c4 : 1 < a0.size → ¬ bt a0 1 = 123) (h : dbus_validSingle.g k (a0.extract 1 a0.size) (wrap64 (a + 1)) s d = some (r1, r2)) :
  Calls Tryd.prog 54 #[.string a0, .pointer (some ⟨g, 0, none⟩)] w fun e w' => e = .returned (.tuple #[errW r1, .string r2]) ∧ Below w.heap.size w w' := by
 have IH := Aside0.mk ih
 have HH := Aside0.mk h
 clear ih h
 have HB := Aside0.mk (Below.refl w.heap.size w)
 have hg : g < w.heap.size := World.block_lt_of_cell? w ⟨g, 0, none⟩ h0
 have hu := Tryd.underlying84
 have e1 := dbus_validSingle.nemp c1
 have q14 : 0 < a0.size := by omega
 have hx14 : ∀ h : 0 < a0.size, ((a0[0]'h).toNat : Int) = bt a0 0 := bt_at a0 0
 have qi14 : (0 < (a0.size : Int)) = True := eq_true (by omega)
 have s1 : 1 ≤ a0.size := by omega
 have s1i : (1 : Int) ≤ (a0.size : Int) := by omega
 replace q14 := eq_true q14
 clear c1
 by_cases c5 : 1 < a0.size
 ·have c6 := c4 c5
  have c6b : (bt a0 1 == 123) = false := beq_eq_false_iff_ne.mpr c6
  have b5 := decide_eq_true c5
  have b5i : decide ((1 : Int) < (a0.size : Int)) = true := decide_eq_true (by omega)
  have hx15 : ∀ h : 1 < a0.size, ((a0[1]'h).toNat : Int) = bt a0 1 := bt_at a0 1
  have qi15 : (1 < (a0.size : Int)) = True := eq_true (by omega)
  replace c5 := eq_true c5
  clear c4 c6
  go_enter Tryd.func54, Tryd.ntmps54
  go_wp2_with (first | (go_at_call 56; refine (dbus_validSingle.valid g a s d _ h0 h1 h2).mono ?_; rintro e w' ⟨rfl, rfl⟩))
  go_region_held3 (fun w' => w'.cell? ⟨g, 0, none⟩ = some (.int .i64 a) ∧ w'.cell? ⟨g, 1, none⟩ = some (.int .i64 s) ∧ w'.cell? ⟨g, 2, none⟩ = some (.int .i64 d)) (first | exact kk.out | go_keep)
   (first | (go_at_call 58; refine (dbus_validSingle.enterA a s d _).mono ?_; rintro e w' ⟨rfl, rfl⟩) | (go_at_call 54; refine (IH.out _ w.heap.size (wrap64 (a + 1)) s d r1 r2 _ (by simp) (by simp) (by simp) HH.out).mono ?_; rintro e w' ⟨rfl, hb⟩; have hb2 := Aside0.mk (below_step (by repeat (first | (with_reducible first | exact HB.out | apply below_alloc | apply pw_below_drewN | apply below_drew1) | exact HB.out)) hb); have kk := Aside0.mk (And.intro ((hb2.out.cell (p := ⟨g, 0, none⟩) hg).trans h0) (And.intro ((hb2.out.cell (p := ⟨g, 1, none⟩) hg).trans h1) ((hb2.out.cell (p := ⟨g, 2, none⟩) hg).trans h2))); clear hb))
  go_wp2
  go_ret2
  exact ⟨rfl, by repeat (first | (with_reducible first | exact hb2.out | apply below_alloc | apply pw_below_drewN | apply below_drew1) | exact hb2.out)⟩
 ·have b5 := decide_eq_false c5
  have b5i : decide ((1 : Int) < (a0.size : Int)) = false := decide_eq_false (by omega)
  clear c4 c5
  go_enter Tryd.func54, Tryd.ntmps54
  go_wp2_with (first | (go_at_call 56; refine (dbus_validSingle.valid g a s d _ h0 h1 h2).mono ?_; rintro e w' ⟨rfl, rfl⟩))
  go_region_held3 (fun w' => w'.cell? ⟨g, 0, none⟩ = some (.int .i64 a) ∧ w'.cell? ⟨g, 1, none⟩ = some (.int .i64 s) ∧ w'.cell? ⟨g, 2, none⟩ = some (.int .i64 d)) (first | exact kk.out | go_keep)
   (first | (go_at_call 58; refine (dbus_validSingle.enterA a s d _).mono ?_; rintro e w' ⟨rfl, rfl⟩) | (go_at_call 54; refine (IH.out _ w.heap.size (wrap64 (a + 1)) s d r1 r2 _ (by simp) (by simp) (by simp) HH.out).mono ?_; rintro e w' ⟨rfl, hb⟩; have hb2 := Aside0.mk (below_step (by repeat (first | (with_reducible first | exact HB.out | apply below_alloc | apply pw_below_drewN | apply below_drew1) | exact HB.out)) hb); have kk := Aside0.mk (And.intro ((hb2.out.cell (p := ⟨g, 0, none⟩) hg).trans h0) (And.intro ((hb2.out.cell (p := ⟨g, 1, none⟩) hg).trans h1) ((hb2.out.cell (p := ⟨g, 2, none⟩) hg).trans h2))); clear hb))
  go_wp2
  go_ret2
  exact ⟨rfl, by repeat (first | (with_reducible first | exact hb2.out | apply below_alloc | apply pw_below_drewN | apply below_drew1) | exact hb2.out)⟩
set_option maxHeartbeats 4000000 in
set_option maxRecDepth 100000 in
theorem dbus_validSingle.w_dict (K k kf : Nat) (ih : ∀ m, m < K → dbus_validSingle.Core m) (hk : k < K) (a0 : ByteArray) (g : Nat) (a s d i : Int) (r1 : Option (TypeId × Value)) (r2 : ByteArray) (w : World)
  (h0 : w.cell? ⟨g, 0, none⟩ = some (.int .i64 a)) (h1 : w.cell? ⟨g, 1, none⟩ = some (.int .i64 s)) (h2 : w.cell? ⟨g, 2, none⟩ = some (.int .i64 d))
  (c2 : dbus_validSingle.ok a s d = true) (c3 : bt a0 0 = 97) (c5 : 1 < a0.size) (c6 : bt a0 1 = 123) (hf : dbus_findMatching.f kf (a0.extract 1 a0.size) 123 125 = some i) (h : dbus_validSingle.dict k a0 a s d i = some (r1, r2)) :
  Calls Tryd.prog 54 #[.string a0, .pointer (some ⟨g, 0, none⟩)] w fun e w' => e = .returned (.tuple #[errW r1, .string r2]) ∧ Below w.heap.size w w' := by
 have IH := Aside0.mk ih
 have HK := Aside0.mk hk
 have HF := Aside0.mk hf
 clear ih hf hk
 have HB := Aside0.mk (Below.refl w.heap.size w)
 have hg : g < w.heap.size := World.block_lt_of_cell? w ⟨g, 0, none⟩ h0
 have hu := Tryd.underlying84
 have hu2 := Tryd.underlying79
 have e1 := dbus_validSingle.nemp (s := a0) (by omega)
 have q14 : 0 < a0.size := by omega
 have hx14 : ∀ h : 0 < a0.size, ((a0[0]'h).toNat : Int) = bt a0 0 := bt_at a0 0
 have qi14 : (0 < (a0.size : Int)) = True := eq_true (by omega)
 have s1 : 1 ≤ a0.size := by omega
 have s1i : (1 : Int) ≤ (a0.size : Int) := by omega
 have b5 := decide_eq_true c5
 have b5i : decide ((1 : Int) < (a0.size : Int)) = true := decide_eq_true (by omega)
 have hx15 : ∀ h : 1 < a0.size, ((a0[1]'h).toNat : Int) = bt a0 1 := bt_at a0 1
 have qi15 : (1 < (a0.size : Int)) = True := eq_true (by omega)
 cases k with
 | zero => exact absurd h (by simp [dbus_validSingle.dict])
 | succ k1 =>
 simp only [dbus_validSingle.dict] at h
 by_cases ci : i = -1
 ·rw [if_pos ci] at h
  obtain ⟨rfl, rfl⟩ := Prod.mk.inj (Option.some.inj h)
  have cib : (i == -1) = true := beq_iff_eq.mpr ci
  replace q14 := eq_true q14
  replace c5 := eq_true c5
  clear ci h
  go_enter Tryd.func54, Tryd.ntmps54
  go_wp2_with (first | (go_at_call 56; refine (dbus_validSingle.valid g a s d _ h0 h1 h2).mono ?_; rintro e w' ⟨rfl, rfl⟩) | (go_at_call 57; refine (dbus_findMatching.calls kf _ _ _ i _ HF.out).mono ?_; rintro e w5 ⟨rfl, hb⟩; have n0_ := Aside0.mk (below_step (by repeat (first | (with_reducible first | exact HB.out | apply below_alloc | apply pw_below_drewN | apply below_drew1) | exact HB.out)) hb); clear HB; have HB := n0_; clear n0_ hb; have m0 := (HB.out.cell (p := ⟨g, 0, none⟩) hg).trans h0; have m1 := (HB.out.cell (p := ⟨g, 1, none⟩) hg).trans h1; have m2 := (HB.out.cell (p := ⟨g, 2, none⟩) hg).trans h2))
  go_ret2
  exact ⟨rfl, HB.out⟩
 ·rw [if_neg ci] at h
  have cib : (i == -1) = false := beq_eq_false_iff_ne.mpr ci
  clear ci
  by_cases cg : 1 ≤ i ∧ i + 2 ≤ (a0.size : Int) ∧ i ≤ 1000000000
  ·rw [if_pos cg] at h
   obtain ⟨g1, g2, g3⟩ := cg
   have g4 : (i + 1 ≤ (a0.size : Int)) = True := eq_true (by omega)
   have g5 : ((2 : Int) ≤ i + 1) = True := eq_true (by omega)
   have g6 : (0 ≤ i + 1) = True := eq_true (by omega)
   have g7 : (0 ≤ i + 2) = True := eq_true (by omega)
   have g8 : (i + 2 ≤ (a0.size : Int)) = True := eq_true g2
   have g9 : (1 ≤ i) = True := eq_true g1
   by_cases ct : (a0.extract 2 (i + 1).toNat).size = 0
   ·rw [if_pos ct] at h
    obtain ⟨rfl, rfl⟩ := Prod.mk.inj (Option.some.inj h)
    replace q14 := eq_true q14
    replace c5 := eq_true c5
    clear h
    go_enter Tryd.func54, Tryd.ntmps54
    go_wp2_with (first | (go_at_call 56; refine (dbus_validSingle.valid g a s d _ h0 h1 h2).mono ?_; rintro e w' ⟨rfl, rfl⟩) | (go_at_call 57; refine (dbus_findMatching.calls kf _ _ _ i _ HF.out).mono ?_; rintro e w5 ⟨rfl, hb⟩; have n0_ := Aside0.mk (below_step (by repeat (first | (with_reducible first | exact HB.out | apply below_alloc | apply pw_below_drewN | apply below_drew1) | exact HB.out)) hb); clear HB; have HB := n0_; clear n0_ hb; have m0 := (HB.out.cell (p := ⟨g, 0, none⟩) hg).trans h0; have m1 := (HB.out.cell (p := ⟨g, 1, none⟩) hg).trans h1; have m2 := (HB.out.cell (p := ⟨g, 2, none⟩) hg).trans h2))
    go_ret2
    exact ⟨rfl, HB.out⟩
   ·rw [if_neg ct] at h
    have h' := Option.bind_eq_some_iff.mp h
    clear h
    obtain ⟨⟨x1, x2⟩, hx, h⟩ := h'
    have HX := Aside0.mk hx
    have HH := Aside0.mk h
    have ct0 : (a0.extract 2 (i + 1).toNat).size = (i + 1).toNat - 2 := by rw [ByteArray.size_extract]; omega
    have ct1 : 1 ≤ (i + 1).toNat - 2 := by omega
    have ctb : ((((i + 1).toNat - 2 : Nat) : Int) == 0) = false := by rw [beq_eq_false_iff_ne]; omega
    have ct2 : (1 ≤ (i + 1).toNat - 2) = True := eq_true ct1
    have ct3 : ((1 : Int) ≤ (((i + 1).toNat - 2 : Nat) : Int)) = True := eq_true (by omega)
    have CT := Aside0.mk ct0
    clear ct0 ct
    replace q14 := eq_true q14
    replace c5 := eq_true c5
    clear h hx
    go_enter Tryd.func54, Tryd.ntmps54
    go_wp2_with (first | (go_at_call 56; refine (dbus_validSingle.valid g a s d _ h0 h1 h2).mono ?_; rintro e w' ⟨rfl, rfl⟩) | (go_at_call 57; refine (dbus_findMatching.calls kf _ _ _ i _ HF.out).mono ?_; rintro e w5 ⟨rfl, hb⟩; have n0_ := Aside0.mk (below_step (by repeat (first | (with_reducible first | exact HB.out | apply below_alloc | apply pw_below_drewN | apply below_drew1) | exact HB.out)) hb); clear HB; have HB := n0_; clear n0_ hb; have m0 := (HB.out.cell (p := ⟨g, 0, none⟩) hg).trans h0; have m1 := (HB.out.cell (p := ⟨g, 1, none⟩) hg).trans h1; have m2 := (HB.out.cell (p := ⟨g, 2, none⟩) hg).trans h2))

    go_region_with (first | (go_at_call 58; refine (dbus_validSingle.enterA _ _ _ _).mono ?_; rintro e w' ⟨rfl, rfl⟩) | (go_at_call 59; refine (dbus_validSingle.enterD _ _ _ _).mono ?_; rintro e w' ⟨rfl, rfl⟩) | (go_at_call 54; refine (IH.out k1 (by have := HK.out; omega) _ (w5.heap.size + 1) (wrap64 (a + 1)) s (wrap64 (d + 1)) x1 x2 _ (by simp) (by simp) (by simp) HX.out).mono ?_; rintro e w6 ⟨rfl, hb⟩; have hb2 := Aside0.mk (below_step (by repeat (first | (with_reducible first | exact HB.out | apply below_alloc | apply pw_below_drewN | apply below_drew1) | exact HB.out)) hb); have kk := Aside0.mk (And.intro ((hb2.out.cell (p := ⟨g, 0, none⟩) hg).trans h0) (And.intro ((hb2.out.cell (p := ⟨g, 1, none⟩) hg).trans h1) ((hb2.out.cell (p := ⟨g, 2, none⟩) hg).trans h2))); clear hb HB; have HB := hb2; clear hb2))
    cases x1 with
    | some ev =>
     have h := HH.out
     clear HH
     simp only [Option.isSome_some, if_true] at h
     obtain ⟨rfl, rfl⟩ := Prod.mk.inj (Option.some.inj h)
     clear h
     simp only [errW_some]
     go_wp2
     go_ret2
     exact ⟨rfl, by repeat (first | (with_reducible first | exact HB.out | apply below_alloc | apply pw_below_drewN | apply below_drew1) | exact HB.out)⟩
    | none =>
     have h := HH.out
     clear HH
     simp only [Option.isSome_none, Bool.false_eq_true, if_false] at h
     have h' := Option.bind_eq_some_iff.mp h
     clear h
     obtain ⟨⟨y1, y2⟩, hy, h⟩ := h'
     rw [CT.out] at hy
     have HY := Aside0.mk hy
     have HH := Aside0.mk h
     clear h hy HX
     simp only [errW_none]
     obtain ⟨k0, k1_, k2_⟩ := kk.out
     clear m0 m1 m2
     go_wp2
     go_region_with (first | (go_at_call 58; refine (dbus_validSingle.enterA _ _ _ _).mono ?_; rintro e w' ⟨rfl, rfl⟩) | (go_at_call 59; refine (dbus_validSingle.enterD _ _ _ _).mono ?_; rintro e w' ⟨rfl, rfl⟩) | (go_at_call 54; refine (IH.out k1 (by have := HK.out; omega) _ (w6.heap.size + 1) (wrap64 (a + 1)) s (wrap64 (d + 1)) y1 y2 _ (by simp) (by simp) (by simp) HY.out).mono ?_; rintro e w7 ⟨rfl, hb⟩; have hb2 := Aside0.mk (below_step (by repeat (first | (with_reducible first | exact HB.out | apply below_alloc | apply pw_below_drewN | apply below_drew1) | exact HB.out)) hb); have kk := Aside0.mk (And.intro ((hb2.out.cell (p := ⟨g, 0, none⟩) hg).trans h0) (And.intro ((hb2.out.cell (p := ⟨g, 1, none⟩) hg).trans h1) ((hb2.out.cell (p := ⟨g, 2, none⟩) hg).trans h2))); clear hb HB; have HB := hb2; clear hb2))
     cases y1 with
     | some ev =>
      have h := HH.out
      clear HH
      simp only [Option.isSome_some, if_true] at h
      obtain ⟨rfl, rfl⟩ := Prod.mk.inj (Option.some.inj h)
      clear h
      simp only [errW_some]
      go_wp2
      go_ret2
      exact ⟨rfl, by repeat (first | (with_reducible first | exact HB.out | apply below_alloc | apply pw_below_drewN | apply below_drew1) | exact HB.out)⟩
     | none =>
      have h := HH.out
      clear HH
      simp only [Option.isSome_none, Bool.false_eq_true, if_false] at h
      simp only [errW_none]
      by_cases cy : y2.size = 0
      ·rw [if_pos cy] at h
       obtain ⟨rfl, rfl⟩ := Prod.mk.inj (Option.some.inj h)
       have e2 : (!y2.toList.isEmpty) = false := by rw [beq_iff_eq.mp (dbus_validSingle.emp cy)]; rfl
       clear h cy
       go_wp2
       go_ret2
       exact ⟨rfl, by repeat (first | (with_reducible first | exact HB.out | apply below_alloc | apply pw_below_drewN | apply below_drew1) | exact HB.out)⟩
      ·rw [if_neg cy] at h
       obtain ⟨rfl, rfl⟩ := Prod.mk.inj (Option.some.inj h)
       have e2 : (!y2.toList.isEmpty) = true := by simpa [List.isEmpty_iff] using beq_eq_false_iff_ne.mp (dbus_validSingle.nemp cy)
       clear h cy
       go_wp2
       go_ret2
       exact ⟨rfl, by repeat (first | (with_reducible first | exact HB.out | apply below_alloc | apply pw_below_drewN | apply below_drew1) | exact HB.out)⟩
  ·rw [if_neg cg] at h
   exact absurd h (by simp)
set_option maxHeartbeats 4000000 in
set_option maxRecDepth 100000 in
theorem dbus_validSingle.w_open (K k kf : Nat) (ih : ∀ m, m < K → dbus_validSingle.Core m) (hk : k < K) (a0 : ByteArray) (g : Nat) (a s d i : Int) (r1 : Option (TypeId × Value)) (r2 : ByteArray) (w : World)
  (h0 : w.cell? ⟨g, 0, none⟩ = some (.int .i64 a)) (h1 : w.cell? ⟨g, 1, none⟩ = some (.int .i64 s)) (h2 : w.cell? ⟨g, 2, none⟩ = some (.int .i64 d))
  (c0 : ¬ a0.size = 0) (c2 : dbus_validSingle.ok a s d = true) (c3 : bt a0 0 = 40) (hf : dbus_findMatching.f kf a0 40 41 = some i) (h : dbus_validSingle.open k a0 a s d i = some (r1, r2)) :
  Calls Tryd.prog 54 #[.string a0, .pointer (some ⟨g, 0, none⟩)] w fun e w' => e = .returned (.tuple #[errW r1, .string r2]) ∧ Below w.heap.size w w' := by
 have IH := Aside0.mk ih
 have HK := Aside0.mk hk
 have HF := Aside0.mk hf
 clear ih hf hk
 have HB := Aside0.mk (Below.refl w.heap.size w)
 have hg : g < w.heap.size := World.block_lt_of_cell? w ⟨g, 0, none⟩ h0
 have hu := Tryd.underlying84
 have hu2 := Tryd.underlying79
 have e1 := dbus_validSingle.nemp c0
 have q14 : 0 < a0.size := by omega
 have hx14 : ∀ h : 0 < a0.size, ((a0[0]'h).toNat : Int) = bt a0 0 := bt_at a0 0
 have qi14 : (0 < (a0.size : Int)) = True := eq_true (by omega)
 replace q14 := eq_true q14
 clear c0
 cases k with
 | zero => exact absurd h (by simp [dbus_validSingle.open])
 | succ k1 =>
 simp only [dbus_validSingle.open] at h
 by_cases ci : i = -1
 ·rw [if_pos ci] at h
  obtain ⟨rfl, rfl⟩ := Prod.mk.inj (Option.some.inj h)
  have cib : (i == -1) = true := beq_iff_eq.mpr ci
  clear ci h
  go_enter Tryd.func54, Tryd.ntmps54
  go_wp2_with (first | (go_at_call 56; refine (dbus_validSingle.valid g a s d _ h0 h1 h2).mono ?_; rintro e w' ⟨rfl, rfl⟩) | (go_at_call 57; refine (dbus_findMatching.calls kf _ _ _ i _ HF.out).mono ?_; rintro e w5 ⟨rfl, hb⟩; have n0_ := Aside0.mk (below_step (by repeat (first | (with_reducible first | exact HB.out | apply below_alloc | apply pw_below_drewN | apply below_drew1) | exact HB.out)) hb); clear HB; have HB := n0_; clear n0_ hb; have m0 := (HB.out.cell (p := ⟨g, 0, none⟩) hg).trans h0; have m1 := (HB.out.cell (p := ⟨g, 1, none⟩) hg).trans h1; have m2 := (HB.out.cell (p := ⟨g, 2, none⟩) hg).trans h2))
  go_ret2
  exact ⟨rfl, HB.out⟩
 ·rw [if_neg ci] at h
  have cib : (i == -1) = false := beq_eq_false_iff_ne.mpr ci
  clear ci
  by_cases cg : 1 ≤ i ∧ i + 1 ≤ (a0.size : Int) ∧ i ≤ 1000000000
  ·rw [if_pos cg] at h
   have HH := Aside0.mk h
   clear h
   obtain ⟨g1, g2, g3⟩ := cg
   have g4 : (i + 1 ≤ (a0.size : Int)) = True := eq_true (by omega)
   have g5 : (i ≤ (a0.size : Int)) = True := eq_true (by omega)
   have g6 : (0 ≤ i + 1) = True := eq_true (by omega)
   have g7 : (0 ≤ i) = True := eq_true (by omega)
   have g9 : (1 ≤ i) = True := eq_true g1
   go_enter Tryd.func54, Tryd.ntmps54
   go_wp2_with (first | (go_at_call 56; refine (dbus_validSingle.valid g a s d _ h0 h1 h2).mono ?_; rintro e w' ⟨rfl, rfl⟩) | (go_at_call 57; refine (dbus_findMatching.calls kf _ _ _ i _ HF.out).mono ?_; rintro e w5 ⟨rfl, hb⟩; have n0_ := Aside0.mk (below_step (by repeat (first | (with_reducible first | exact HB.out | apply below_alloc | apply pw_below_drewN | apply below_drew1) | exact HB.out)) hb); clear HB; have HB := n0_; clear n0_ hb; have m0 := (HB.out.cell (p := ⟨g, 0, none⟩) hg).trans h0; have m1 := (HB.out.cell (p := ⟨g, 1, none⟩) hg).trans h1; have m2 := (HB.out.cell (p := ⟨g, 2, none⟩) hg).trans h2))
   go_loopg [0, 4] k1 (fun kq v0 v4 w' => ∃ (t : ByteArray) (e : Option (TypeId × Value)), v0 = .string t ∧ v4 = errW e ∧ Aside0 (dbus_validSingle.l kq e t (a0.extract (i + 1).toNat a0.size) a s d = some (r1, r2)) ∧ Aside0 (kq ≤ k1) ∧ Aside0 (Below w.heap.size w w'))
   case atStart => exact ⟨_, none, rfl, rfl, HH, ⟨Nat.le_refl _⟩, HB⟩
   case round =>
    clear HH HB m0 m1 m2 HF
    obtain ⟨t, e, rfl, rfl, HL, HQ, HB⟩ := hrel
    cases gk with
    | zero => exact absurd HL.out (by simp [dbus_validSingle.l])
    | succ k2 =>
    have m0 := (HB.out.cell (p := ⟨g, 0, none⟩) hg).trans h0
    have m1 := (HB.out.cell (p := ⟨g, 1, none⟩) hg).trans h1
    have m2 := (HB.out.cell (p := ⟨g, 2, none⟩) hg).trans h2
    have h := HL.out
    clear HL
    simp only [dbus_validSingle.l] at h
    cases e with
    | some ev =>
     simp only [Option.isSome_some, if_true] at h
     obtain ⟨rfl, rfl⟩ := Prod.mk.inj (Option.some.inj h)
     clear h
     simp only [errW_some]
     go_wp2
     go_ret2
     exact ⟨rfl, by repeat (first | (with_reducible first | exact HB.out | apply below_alloc | apply pw_below_drewN | apply below_drew1) | exact HB.out)⟩
    | none =>
     simp only [Option.isSome_none, Bool.false_eq_true, if_false] at h
     simp only [errW_none]
     by_cases cy : t.size = 0
     ·rw [if_pos cy] at h
      obtain ⟨rfl, rfl⟩ := Prod.mk.inj (Option.some.inj h)
      have e2 : (!t.toList.isEmpty) = false := by rw [beq_iff_eq.mp (dbus_validSingle.emp cy)]; rfl
      clear h cy
      go_wp2
      go_ret2
      exact ⟨rfl, by repeat (first | (with_reducible first | exact HB.out | apply below_alloc | apply pw_below_drewN | apply below_drew1) | exact HB.out)⟩
     ·rw [if_neg cy] at h
      have e2 : (!t.toList.isEmpty) = true := by simpa [List.isEmpty_iff] using beq_eq_false_iff_ne.mp (dbus_validSingle.nemp cy)
      have h' := Option.bind_eq_some_iff.mp h
      clear h cy
      obtain ⟨⟨x1, x2⟩, hx, h⟩ := h'
      have HX := Aside0.mk hx
      have HH := Aside0.mk h
      clear h hx
      go_wp2_with (first | (go_at_call 60; refine (dbus_validSingle.enterS _ _ _ _).mono ?_; rintro e w' ⟨rfl, rfl⟩) | (go_at_call 54; refine (IH.out k2 (by have := HK.out; have := HQ.out; omega) _ (wr.heap.size) a (wrap64 (s + 1)) d x1 x2 _ (by simp) (by simp) (by simp) HX.out).mono ?_; rintro e w6 ⟨rfl, hb⟩; have hb2 := Aside0.mk (below_step (by repeat (first | (with_reducible first | exact HB.out | apply below_alloc | apply pw_below_drewN | apply below_drew1) | exact HB.out)) hb); have kk := Aside0.mk (And.intro ((hb2.out.cell (p := ⟨g, 0, none⟩) hg).trans h0) (And.intro ((hb2.out.cell (p := ⟨g, 1, none⟩) hg).trans h1) ((hb2.out.cell (p := ⟨g, 2, none⟩) hg).trans h2))); clear hb HB; have HB := hb2; clear hb2))
      go_roundg k2
      case measure => omega
      case rel => exact ⟨x2, x1, rfl, rfl, HH, ⟨by have := HQ.out; omega⟩, HB⟩
  ·rw [if_neg cg] at h
   exact absurd h (by simp)
set_option maxHeartbeats 4000000 in
set_option maxRecDepth 100000 in
theorem dbus_validSingle.w_bad (a0 : ByteArray) (g : Nat) (a s d : Int) (w : World)
  (h0 : w.cell? ⟨g, 0, none⟩ = some (.int .i64 a)) (h1 : w.cell? ⟨g, 1, none⟩ = some (.int .i64 s)) (h2 : w.cell? ⟨g, 2, none⟩ = some (.int .i64 d))
  (c1 : ¬ a0.size = 0) (c2 : dbus_validSingle.ok a s d = true) (c3 : dbus_validSingle.simple (bt a0 0) = false) (c4 : ¬ bt a0 0 = 97) (c5 : ¬ bt a0 0 = 40) :
  Calls Tryd.prog 54 #[.string a0, .pointer (some ⟨g, 0, none⟩)] w fun e w' => e = .returned (.tuple #[errW (dbus_validSingle.er a0 ⟨#[105, 110, 118, 97, 108, 105, 100, 32, 116, 121, 112, 101, 32, 99, 104, 97, 114, 97, 99, 116, 101, 114]⟩), .string ⟨#[]⟩]) ∧ Below w.heap.size w w' := by
 have hu2 := Tryd.underlying79
 have e1 := dbus_validSingle.nemp c1
 have q14 : 0 < a0.size := by omega
 have hx14 : ∀ h : 0 < a0.size, ((a0[0]'h).toNat : Int) = bt a0 0 := bt_at a0 0
 have qi14 : (0 < (a0.size : Int)) = True := eq_true (by omega)
 replace q14 := eq_true q14
 have b97 : (bt a0 0 == 97) = false := beq_eq_false_iff_ne.mpr c4
 have b40 : (bt a0 0 == 40) = false := beq_eq_false_iff_ne.mpr c5
 simp only [dbus_validSingle.simple, Bool.or_eq_false_iff] at c3
 obtain ⟨⟨⟨⟨⟨⟨⟨⟨⟨⟨⟨⟨⟨b121, b98⟩, b110⟩, b113⟩, b105⟩, b117⟩, b120⟩, b116⟩, b100⟩, b115⟩, b103⟩, b111⟩, b118⟩, b104⟩ := c3
 clear c1 c4 c5
 go_enter Tryd.func54, Tryd.ntmps54
 go_wp2_with (first | (go_at_call 56; refine (dbus_validSingle.valid g a s d _ h0 h1 h2).mono ?_; rintro e w' ⟨rfl, rfl⟩))
 go_ret2
 exact ⟨rfl, Below.refl _ _⟩

theorem dbus_validSingle.core (k : Nat) : dbus_validSingle.Core k := by
 induction k using Nat.strongRecOn with
 | _ k ih =>
 intro a0 g a s d r1 r2 w h0 h1 h2 h
 cases k with
 | zero => exact absurd h (by simp [dbus_validSingle.g])
 | succ k =>
 simp only [dbus_validSingle.g] at h
 by_cases c1 : a0.size = 0
 ·rw [if_pos c1] at h
  obtain ⟨rfl, rfl⟩ := Prod.mk.inj (Option.some.inj h)
  exact dbus_validSingle.w_empty a0 g w c1
 rw [if_neg c1] at h
 cases c2 : dbus_validSingle.ok a s d with
 | false =>
  rw [c2, if_pos rfl] at h
  obtain ⟨rfl, rfl⟩ := Prod.mk.inj (Option.some.inj h)
  exact dbus_validSingle.w_deep a0 g a s d w h0 h1 h2 c1 c2
 | true =>
 rw [c2, if_neg (by decide)] at h
 cases c3 : dbus_validSingle.simple (bt a0 0) with
 | true =>
  rw [c3, if_pos rfl] at h
  obtain ⟨rfl, rfl⟩ := Prod.mk.inj (Option.some.inj h)
  exact dbus_validSingle.w_simple a0 g a s d w h0 h1 h2 c1 c2 c3
 | false =>
 rw [c3, if_neg (by decide)] at h
 by_cases c4 : bt a0 0 = 97
 ·rw [if_pos c4] at h
  by_cases c5 : 1 < a0.size
  ·rw [if_pos c5] at h
   by_cases c6 : bt a0 1 = 123
   ·rw [if_pos c6] at h
    obtain ⟨i, hi, h⟩ := Option.bind_eq_some_iff.mp h
    exact dbus_validSingle.w_dict (k + 1) k k ih (Nat.lt_succ_self k) a0 g a s d i r1 r2 w h0 h1 h2 c2 c4 c5 c6 hi h
   ·rw [if_neg c6] at h
    exact dbus_validSingle.w_array k (ih k (Nat.lt_succ_self k)) a0 g a s d r1 r2 w h0 h1 h2 c1 c2 c4 (fun _ => c6) h
  ·rw [if_neg c5] at h
   exact dbus_validSingle.w_array k (ih k (Nat.lt_succ_self k)) a0 g a s d r1 r2 w h0 h1 h2 c1 c2 c4 (fun h5 => absurd h5 c5) h
 ·rw [if_neg c4] at h
  by_cases c5 : bt a0 0 = 40
  ·rw [if_pos c5] at h
   obtain ⟨i, hi, h⟩ := Option.bind_eq_some_iff.mp h
   exact dbus_validSingle.w_open (k + 1) k k ih (Nat.lt_succ_self k) a0 g a s d i r1 r2 w h0 h1 h2 c1 c2 c5 hi h
  ·rw [if_neg c5] at h
   obtain ⟨rfl, rfl⟩ := Prod.mk.inj (Option.some.inj h)
   exact dbus_validSingle.w_bad a0 g a s d w h0 h1 h2 c1 c2 c3 c4 c5
theorem dbus_validSingle.mono_l : ∀ k, (∀ s a t d, LeO (dbus_validSingle.g k s a t d) (dbus_validSingle.g (k + 1) s a t d)) ∧ (∀ s a t d i, LeO (dbus_validSingle.dict k s a t d i) (dbus_validSingle.dict (k + 1) s a t d i)) ∧ (∀ s a t d i, LeO (dbus_validSingle.open k s a t d i) (dbus_validSingle.open (k + 1) s a t d i)) ∧ (∀ e s r a t d, LeO (dbus_validSingle.l k e s r a t d) (dbus_validSingle.l (k + 1) e s r a t d))
 | 0 => ⟨fun _ _ _ _ r h => by simp [dbus_validSingle.g] at h, fun _ _ _ _ _ r h => by simp [dbus_validSingle.dict] at h, fun _ _ _ _ _ r h => by simp [dbus_validSingle.open] at h, fun _ _ _ _ _ _ r h => by simp [dbus_validSingle.l] at h⟩
 | k + 1 => by
  obtain ⟨ih0, ih1, ih2, ih3⟩ := dbus_validSingle.mono_l k
  refine ⟨?_, ?_, ?_, ?_⟩
  ·intro s a t d
   unfold dbus_validSingle.g
   repeat' first
   | (with_reducible exact ih0 _ _ _ _)
   | (with_reducible exact ih1 _ _ _ _ _)
   | (with_reducible exact ih2 _ _ _ _ _)
   | (with_reducible exact dbus_findMatching.mono _ _ _ _)
   | (with_reducible exact LeO.refl _)
   | (with_reducible refine LeO.ite ?_ ?_)
   | (with_reducible refine LeO.bind ?_ (fun _ => ?_))
  ·intro s a t d i
   unfold dbus_validSingle.dict
   repeat' first
   | (with_reducible exact ih0 _ _ _ _)
   | (with_reducible exact LeO.refl _)
   | (with_reducible refine LeO.ite ?_ ?_)
   | (with_reducible refine LeO.bind ?_ (fun _ => ?_))
  ·intro s a t d i
   unfold dbus_validSingle.open
   repeat' first
   | (with_reducible exact ih3 _ _ _ _ _ _)
   | (with_reducible exact LeO.refl _)
   | (with_reducible refine LeO.ite ?_ ?_)
  ·intro e s r a t d
   unfold dbus_validSingle.l
   repeat' first
   | (with_reducible exact ih0 _ _ _ _)
   | (with_reducible exact ih3 _ _ _ _ _ _)
   | (with_reducible exact LeO.refl _)
   | (with_reducible refine LeO.ite ?_ ?_)
   | (with_reducible refine LeO.bind ?_ (fun _ => ?_))
def dbus_validSingle.f (k : Nat) (a0 : ByteArray) (s1_0 s1_1 s1_2 : Int) : Option (Option (TypeId × Value) × ByteArray × Int × Int × Int) := (dbus_validSingle.g k a0 s1_0 s1_1 s1_2).bind fun x => some (x.1, x.2, s1_0, s1_1, s1_2)
theorem dbus_validSingle.mono : ∀ a0 s1_0 s1_1 s1_2 k, LeO (dbus_validSingle.f k a0 s1_0 s1_1 s1_2) (dbus_validSingle.f (k + 1) a0 s1_0 s1_1 s1_2) := by
 intro a0 s1_0 s1_1 s1_2 k
 exact LeO.bind ((dbus_validSingle.mono_l k).1 _ _ _ _) (fun _ => LeO.refl _)
theorem dbus_validSingle.calls (k : Nat) (a0 : ByteArray) (g : Nat) (s1_0 s1_1 s1_2 : Int) (r1 : Option (TypeId × Value)) (r2 : ByteArray) (r3 r4 r5 : Int) (w0 w : World) (hI : IsS84 w0 w g s1_0 s1_1 s1_2) (hB : Below w0.heap.size w0 w) (h : dbus_validSingle.f k a0 s1_0 s1_1 s1_2 = some (r1, r2, r3, r4, r5)) :
  Calls Tryd.prog 54 #[.string a0, .pointer (some ⟨g, 0, none⟩)] w fun e w' => e = .returned (.tuple #[errW r1, .string r2]) ∧ IsS84 w0 w' g r3 r4 r5 ∧ Below w0.heap.size w0 w' ∧ KeepBut w w' g none := by
 obtain ⟨⟨x1, x2⟩, hx, h⟩ := Option.bind_eq_some_iff.mp h
 simp only [Option.some.injEq, Prod.mk.injEq] at h
 obtain ⟨rfl, rfl, rfl, rfl, rfl⟩ := h
 refine (dbus_validSingle.core k a0 g s1_0 s1_1 s1_2 x1 x2 w (cellS84_0 hI.1) (cellS84_1 hI.1) (cellS84_2 hI.1) hx).mono ?_
 rintro e w' ⟨he, hb⟩
 exact ⟨he, hI.below hb, below_then hB hB.size hb, ⟨hb.size, fun i hi _ _ => hb.block i hi⟩⟩

end Go.Proofs.YthcafnmagidpiaaDoor.MFnVtTokensJoin

namespace Go.Proofs.YthcafnmagidpiaaDoor.MFnVtTokensJoin
open Go.RowKit Go.Proofs.YthcafnmagidpiaaDoorW.PrintWords Go.Proofs.YthcafnmagidpiaaDoorW.PrintLast Go.Proofs.YthcafnmagidpiaaDoorW.PrintMore
attribute [local go_sem] max2_int min2_int max_two min_two max_three min_three max_four min_four   -- for this text's walks alone
set_option linter.unusedVariables false
set_option linter.unusedSimpArgs false

/-! ### dbus_ParseSignature: function 49 -/
-- GIVENTEXT
def dbus_ParseSignature.l : Nat → Option (TypeId × Value) → ByteArray → Option (Option (TypeId × Value))
  | 0, _, _ => none
  | k + 1, e, s => if e.isSome = true then some e else if s.size = 0 then some none else (dbus_validSingle.g k s 0 0 0).bind fun x => dbus_ParseSignature.l k x.1 x.2
def dbus_ParseSignature.f (k : Nat) (a0 : ByteArray) : Option (ByteArray × Option (TypeId × Value)) :=
  if a0.size = 0 then some (⟨#[]⟩, none)
  else if 255 < a0.size then some (⟨#[]⟩, dbus_validSingle.er a0 ⟨#[116, 111, 111, 32, 108, 111, 110, 103]⟩)
  else (dbus_ParseSignature.l k none a0).bind fun e => if e.isSome = true then some (⟨#[]⟩, e) else some (a0, e)
theorem dbus_ParseSignature.mono_l : ∀ k e s, LeO (dbus_ParseSignature.l k e s) (dbus_ParseSignature.l (k + 1) e s)
  | 0 => fun _ _ r h => by simp [dbus_ParseSignature.l] at h
  | k + 1 => by
    intro e s
    unfold dbus_ParseSignature.l
    exact LeO.ite (LeO.refl _) (LeO.ite (LeO.refl _) (LeO.bind ((dbus_validSingle.mono_l k).1 _ _ _ _) (fun _ => dbus_ParseSignature.mono_l k _ _)))
theorem dbus_ParseSignature.mono : ∀ a0 k, LeO (dbus_ParseSignature.f k a0) (dbus_ParseSignature.f (k + 1) a0) := by
  intro a0 k
  exact LeO.ite (LeO.refl _) (LeO.ite (LeO.refl _) (LeO.bind (dbus_ParseSignature.mono_l k _ _) (fun _ => LeO.refl _)))
set_option maxHeartbeats 2000000 in
set_option maxRecDepth 100000 in
theorem dbus_ParseSignature.calls (k : Nat) (a0 : ByteArray) (r1 : ByteArray) (r2 : Option (TypeId × Value)) (w : World) (h : dbus_ParseSignature.f k a0 = some (r1, r2)) :
    Calls Tryd.prog 49 #[.string a0] w fun e w' => e = .returned (.tuple #[.agg #[.string r1], errW r2]) ∧ Below w.heap.size w w' := by
  have hu := Tryd.underlying71
  have hu2 := Tryd.underlying79
  have hu3 := Tryd.underlying84
  have HB := Aside0.mk (Below.refl w.heap.size w)
  unfold dbus_ParseSignature.f at h
  by_cases c1 : a0.size = 0
  · rw [if_pos c1] at h
    obtain ⟨rfl, rfl⟩ := Prod.mk.inj (Option.some.inj h)
    have b1 : ((a0.size : Int) == 0) = true := by rw [beq_iff_eq]; omega
    clear c1 h
    go_enter Tryd.func49, Tryd.ntmps49
    go_wp2
    exact bodyPost_ret (v := .tuple #[.agg #[.string ⟨#[]⟩], .nilIface]) (by simp [results, Tryd.results49, go_sem, hu]) rfl ⟨rfl, by repeat (first | (with_reducible first | exact HB.out | apply below_alloc | apply pw_below_drewN | apply below_drew1) | exact HB.out)⟩
  · rw [if_neg c1] at h
    have b1 : ((a0.size : Int) == 0) = false := by rw [beq_eq_false_iff_ne]; omega
    by_cases c2 : 255 < a0.size
    · rw [if_pos c2] at h
      obtain ⟨rfl, rfl⟩ := Prod.mk.inj (Option.some.inj h)
      have b2 : decide ((255 : Int) < (a0.size : Int)) = true := decide_eq_true (by omega)
      have b3 : decide (255 < a0.size) = true := decide_eq_true c2
      clear c1 c2 h
      go_enter Tryd.func49, Tryd.ntmps49
      go_wp2
      exact bodyPost_ret (v := .tuple #[.agg #[.string ⟨#[]⟩], errW (dbus_validSingle.er a0 ⟨#[116, 111, 111, 32, 108, 111, 110, 103]⟩)]) (by simp [results, Tryd.results49, go_sem, hu]; rfl) rfl ⟨rfl, by repeat (first | (with_reducible first | exact HB.out | apply below_alloc | apply pw_below_drewN | apply below_drew1) | exact HB.out)⟩
    · rw [if_neg c2] at h
      have b2 : decide ((255 : Int) < (a0.size : Int)) = false := decide_eq_false (by omega)
      have b3 : decide (255 < a0.size) = false := decide_eq_false c2
      clear c1 c2
      have h' := Option.bind_eq_some_iff.mp h
      clear h
      obtain ⟨ev, hl, hr⟩ := h'
      have HL := Aside0.mk hl
      have HR := Aside0.mk hr
      clear hl hr
      go_enter Tryd.func49, Tryd.ntmps49
      go_wp2
      go_loopg [0, 3] k (fun kq v0 v3 w' => ∃ (t : ByteArray) (e : Option (TypeId × Value)), v0 = .string t ∧ v3 = errW e ∧ Aside0 (dbus_ParseSignature.l kq e t = some ev) ∧ Aside0 (w'.cell? ⟨w.heap.size, 0, none⟩ = some (.string a0)) ∧ Aside0 (w'.frozen? ⟨w.heap.size, 0, none⟩ = false) ∧ Aside0 (w.heap.size < w'.heap.size) ∧ Aside0 (Below w.heap.size w w'))
      case atStart => exact ⟨_, none, rfl, rfl, HL, ⟨by simp⟩, ⟨by simp⟩, ⟨by simp⟩, ⟨by repeat (first | (with_reducible first | exact HB.out | apply below_alloc | apply pw_below_drewN | apply below_drew1) | exact HB.out)⟩⟩
      case round =>
        clear HL HB b1 b2 b3
        obtain ⟨t, e, rfl, rfl, HL, HC, HZ, HS, HB⟩ := hrel
        cases gk with
        | zero => exact absurd HL.out (by simp [dbus_ParseSignature.l])
        | succ k2 =>
        have h := HL.out
        clear HL
        simp only [dbus_ParseSignature.l] at h
        cases e with
        | some x =>
          simp only [Option.isSome_some, if_true] at h
          obtain rfl := Option.some.inj h
          have hr := HR.out
          clear h HR
          simp only [Option.isSome_some, if_true] at hr
          obtain ⟨rfl, rfl⟩ := Prod.mk.inj (Option.some.inj hr)
          clear hr
          have hc := HC.out
          have hz := HZ.out
          simp only [errW_some]
          go_wp2
          exact bodyPost_ret (v := .tuple #[.agg #[.string ⟨#[]⟩], .iface x.1 x.2]) (by simp [results, Tryd.results49, go_sem, hu, hc]) rfl ⟨rfl, below_set HB.out (Nat.le_refl _)⟩
        | none =>
          simp only [Option.isSome_none, Bool.false_eq_true, if_false] at h
          simp only [errW_none]
          by_cases cy : t.size = 0
          · rw [if_pos cy] at h
            obtain rfl := Option.some.inj h
            have hr := HR.out
            clear h HR
            simp only [Option.isSome_none, Bool.false_eq_true, if_false] at hr
            obtain ⟨rfl, rfl⟩ := Prod.mk.inj (Option.some.inj hr)
            have e2 : ((t.size : Int) != 0) = false := by simp [cy]
            clear hr cy
            have hc := HC.out
            have hz := HZ.out
            go_wp2
            exact bodyPost_ret (v := .tuple #[.agg #[.string a0], .nilIface]) (by simp [results, Tryd.results49, go_sem, hu, hc]) rfl ⟨rfl, by repeat (first | (with_reducible first | exact HB.out | apply below_alloc | apply pw_below_drewN | apply below_drew1) | exact HB.out)⟩
          · rw [if_neg cy] at h
            have e2 : ((t.size : Int) != 0) = true := by rw [bne_iff_ne]; omega
            have h' := Option.bind_eq_some_iff.mp h
            clear h cy
            obtain ⟨⟨x1, x2⟩, hx, h⟩ := h'
            have HX := Aside0.mk hx
            have HH := Aside0.mk h
            clear h hx
            go_wp2_with (first | (go_at_call 54; refine (dbus_validSingle.core k2 _ wr.heap.size 0 0 0 x1 x2 _ (by simp) (by simp) (by simp) HX.out).mono ?_; rintro e w6 ⟨rfl, hb⟩; have hb2 := Aside0.mk (below_step (by repeat (first | (with_reducible first | exact HB.out | apply below_alloc | apply pw_below_drewN | apply below_drew1) | exact HB.out)) hb); have hbw := Aside0.mk (below_step (below_alloc (Below.refl wr.heap.size wr) _) hb); clear HB hb))
            go_roundg k2
            case measure => omega
            case rel => exact ⟨x2, x1, rfl, rfl, HH, ⟨(hbw.out.cell (p := ⟨w.heap.size, 0, none⟩) HS.out).trans HC.out⟩, ⟨(hbw.out.frozen (p := ⟨w.heap.size, 0, none⟩) HS.out).trans HZ.out⟩, ⟨Nat.lt_of_lt_of_le HS.out hbw.out.size⟩, hb2⟩

end Go.Proofs.YthcafnmagidpiaaDoor.MFnVtTokensJoin
