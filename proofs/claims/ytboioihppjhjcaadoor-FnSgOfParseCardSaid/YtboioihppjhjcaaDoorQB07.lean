-- Texts of this session, several in one.
import Derived.Test.YtboioihppjhjcaaDoorQB06
import Derived.Test.YtboioihppjhjcaaDoorQB04
import Derived.Test.YtboioihppjhjcaaDoorQB02
import Derived.Test.YtboioihppjhjcaaDoorQB05
import Derived.OpenShut
import Derived.Deep.Slices
import Derived.Test.YtboioihppjhjcaaDoorQB03
namespace Go.Proofs.YtboioihppjhjcaaDoor.MFnSgOf
open Go.RowKit Go.Proofs.YtboioihppjhjcaaDoorW.PrintWords Go.Proofs.YtboioihppjhjcaaDoorW.PrintLast Go.Proofs.YtboioihppjhjcaaDoorW.PrintMore
attribute [local go_sem] max2_int min2_int max_two min_two max_three min_three max_four min_four   -- for this text's walks alone
set_option linter.unusedVariables false
set_option linter.unusedSimpArgs false

/-! ### spec_TidyAll: function 14 -/
def spec_TidyAll.l0 : Nat → List (S31) → List (S31) → Int → Int → Option (Bool)
 | 0, _, _, _, _ => none
 | k + 1, x0, x5, x6, x7 => if x7 < x6 then (if 0 ≤ x7 then (if x7 < (x5.length : Int) then ((spec_Tidy.f k ((rd_T31 x5 x7).f0) ((rd_T31 x5 x7).f1) ((rd_T31 x5 x7).f2) ((rd_T31 x5 x7).f3)).bind fun t158 => (if t158 = true then (spec_TidyAll.l0 k x0 x5 x6 (wrap64 (x7 + 1))) else (some false))) else (none)) else (none)) else ((spec_SigsOf.f k x0).bind fun t159 => ((spec_Valid.f k t159).bind fun t160 => (some t160)))
def spec_TidyAll.f (k : Nat) (l0 : List (S31)) : Option (Bool) := spec_TidyAll.l0 k l0 l0 (l0.length : Int) 0
set_option maxHeartbeats 8000000 in
set_option maxRecDepth 100000 in
theorem spec_TidyAll.calls (k : Nat) (A0 : Option Addr) (c0 : Nat) (l0 : List (S31)) (r : Bool) (w : World) (hT : Lib.Utf8Tabs 1 2 w) (hr0 : Kd.C k31 w A0 l0.length l0) (hc0 : l0.length ≤ c0) (h : spec_TidyAll.f k l0 = some r) :
  Calls Tryd.prog 14 #[.slice A0 l0.length c0] w fun e w' => e = .returned (.bool r) ∧ Below w.heap.size w w' := by
 have hu31 := Tryd.underlying31
 have HR0 := Aside0.mk hr0
 have HC0 := Aside0.mk hc0
 clear hr0 hc0
 have HB := Aside0.mk (Below.refl w.heap.size w)
 have H : (spec_TidyAll.l0 k l0 l0 (l0.length : Int) 0) = some r := h
 clear h
 have H' := Aside0.mk H
 clear H
 go_enter Tryd.func14, Tryd.ntmps14
 go_wp2
 go_loopg [7] k (fun kq v7 w' => ∃ (x7_1 : Int), v7 = .int .i64 x7_1 ∧ Aside0 (spec_TidyAll.l0 kq l0 l0 (l0.length : Int) x7_1 = some r) ∧ Aside0 (kq ≤ k) ∧ Aside0 (Below w.heap.size w w'))
 case atStart => exact ⟨(0), (by first | rfl | (simp; done) | (simp [*]; done)), H', ⟨Nat.le_refl _⟩, ⟨by repeat (first | (with_reducible first | exact HB.out | apply below_alloc | apply pw_below_drewN | apply below_drew1) | exact HB.out)⟩⟩
 case round =>
  clear H'
  try clear c1
  obtain ⟨x7_1, rfl, HA, HK1, HB⟩ := hrel
  cases gk with
  | zero => exact absurd HA.out (by simp [spec_TidyAll.l0])
  | succ k1 =>
   have H := HA.out
   clear HA
   simp only [spec_TidyAll.l0] at H
   by_cases c2 : x7_1 < (l0.length : Int)
   ·rw [if_pos c2] at H
    have c2b0 : decide (x7_1 < (l0.length : Int)) = true := decide_eq_true c2
    clear c2
    by_cases c3 : 0 ≤ x7_1
    ·rw [if_pos c3] at H
     have c3b0 : decide (0 ≤ x7_1) = true := decide_eq_true c3
     clear c3
     by_cases c4 : x7_1 < (l0.length : Int)
     ·rw [if_pos c4] at H
      have c4b0 : decide (x7_1 < (l0.length : Int)) = true := decide_eq_true c4
      clear c4
      replace H := Option.bind_eq_some_iff.mp H
      obtain ⟨t158, A50, H⟩ := H
      replace H : (if t158 = true then (spec_TidyAll.l0 k1 l0 l0 (l0.length : Int) (wrap64 (x7_1 + 1))) else (some false)) = some r := H
      have A5 := Aside0.mk A50
      clear A50
      by_cases c6 : t158 = true
      ·subst c6
       have H1 : (spec_TidyAll.l0 k1 l0 l0 (l0.length : Int) (wrap64 (x7_1 + 1))) = some r := by rw [if_pos rfl] at H; exact H
       clear H
       have H := H1
       clear H1
       have H' := Aside0.mk H
       clear H
       have p156 : 0 ≤ (x7_1 : Int) := of_decide_eq_true (by first | (with_reducible assumption) | assumption)
       have q156 : x7_1 < (l0.length : Int) := of_decide_eq_true (by first | (with_reducible assumption) | assumption)
       obtain ⟨ad156, A156_3, c156_3, e156, hx156_0, hx156_1, hx156_2, hx156_3, hl156_3, hi156_3⟩ := at_T31 HR0.out x7_1 p156 q156
       cases e156
       replace hx156_0 := (HB.out.cell (World.block_lt_of_cell? w _ hx156_0)).trans hx156_0
       replace hx156_1 := (HB.out.cell (World.block_lt_of_cell? w _ hx156_1)).trans hx156_1
       replace hx156_2 := (HB.out.cell (World.block_lt_of_cell? w _ hx156_2)).trans hx156_2
       replace hx156_3 := (HB.out.cell (World.block_lt_of_cell? w _ hx156_3)).trans hx156_3
       have HR156_3 := Aside0.mk hi156_3
       have HC156_3 := Aside0.mk hl156_3
       clear hi156_3 hl156_3
       replace p156 := eq_true p156
       replace q156 := eq_true q156
       go_wp2_with (first | ((with_reducible refine gate_dst (N := 4) rfl ?_); refine box_event ?hg (N := 4) ?hd (cs := #[.int .u8 0, .int .u64 0, .string (⟨#[]⟩ : ByteArray), .slice none 0 0]) (t := 31) ?hr ?_; (case hd => rfl); (case hg => rfl); (case hr => first | (go_simp; done) | (go_simp; rfl)); intro gb157 hg w7 hbox hb; have n0_ := Aside0.mk (below_step (by repeat (first | (with_reducible first | exact HB.out | apply below_alloc | apply pw_below_drewN | apply below_drew1) | exact HB.out)) hb); have n1_ := Aside0.mk (hbox); have n2_ := Aside0.mk ((by rw [hg]; exact (below_size (by repeat (first | (with_reducible first | exact HB.out | apply below_alloc | apply pw_below_drewN | apply below_drew1) | exact HB.out))) : w.heap.size ≤ gb157)); have n3_ := Aside0.mk ((by rw [hg]; exact (below_size (by repeat (first | (with_reducible first | exact HB.out | apply below_alloc | apply pw_below_drewN | apply below_drew1) | exact HB.out))) : w.heap.size ≤ gb157)); clear HB; have HB := n0_; have BK157 := n1_; have GW157 := n2_; have GE157 := n3_; clear n0_ n1_ n2_ n3_; clear hb hbox hg; have hcz8_0 : w7.cell? ⟨gb157, 0, none⟩ = some (.int .u8 0) := (blk_cell BK157.out 0).trans rfl; have hcz8_1 : w7.cell? ⟨gb157, 1, none⟩ = some (.int .u64 0) := (blk_cell BK157.out 1).trans rfl; have hcz8_2 : w7.cell? ⟨gb157, 2, none⟩ = some (.string (⟨#[]⟩ : ByteArray)) := (blk_cell BK157.out 2).trans rfl; have hcz8_3 : w7.cell? ⟨gb157, 3, none⟩ = some (.slice none 0 0) := (blk_cell BK157.out 3).trans rfl; have hfz8_0 := blk_frozen BK157.out 0; have hfz8_1 := blk_frozen BK157.out 1; have hfz8_2 := blk_frozen BK157.out 2; have hfz8_3 := blk_frozen BK157.out 3) | ((with_reducible refine gate_callee (f := 12) rfl ?_); refine goesL_ (some 12) rfl rfl Tryd.func12 (by kernel_rfl) rfl #[.agg #[.int .u8 ((rd_T31 l0 x7_1).f0), .int .u64 ((rd_T31 l0 x7_1).f1), .string ((rd_T31 l0 x7_1).f2), .slice A156_3 ((rd_T31 l0 x7_1).f3).length c156_3]] rfl (by (try simp only [List.map_toArray, List.map_cons, List.map_nil]); first | done | rfl | (simp only [List.length_drop, List.length_take]; rfl)) ?_; (with_reducible refine (spec_Tidy.calls k1 ((rd_T31 l0 x7_1).f0) ((rd_T31 l0 x7_1).f1) ((rd_T31 l0 x7_1).f2) _ _ ((rd_T31 l0 x7_1).f3) true _ ?sideT ?side1 ?side2 A5.out).mono ?_); (case sideT => exact Utf8Tabs_below hT (by repeat (first | (with_reducible first | exact HB.out | apply below_alloc | apply pw_below_drewN | apply below_drew1 | refine below_set ?_ GE157.out) | exact HB.out))); (case side1 => exact Kd.C_below HR156_3.out (by repeat (first | (with_reducible first | exact HB.out | apply below_alloc | apply pw_below_drewN | apply below_drew1 | refine below_set ?_ GE157.out) | exact HB.out))); (case side2 => exact HC156_3.out); rintro e w9 ⟨rfl, hb⟩; refine ⟨_, rfl, ?_⟩; have n0_ := Aside0.mk (blk_below (g := gb157) (o := .cells #[.int .u8 ((rd_T31 l0 x7_1).f0), .int .u64 ((rd_T31 l0 x7_1).f1), .string ((rd_T31 l0 x7_1).f2), .slice A156_3 ((rd_T31 l0 x7_1).f3).length c156_3] 31 (0, 0)) (by (with_reducible repeat (first | refine blk_drewN ?_ _ | refine blk_drew ?_ | refine blk_alloc ?_ _)); refine blk_put (cs := #[.int .u8 ((rd_T31 l0 x7_1).f0), .int .u64 ((rd_T31 l0 x7_1).f1), .string ((rd_T31 l0 x7_1).f2), .slice none 0 0]) ?_ 3 _ rfl; (with_reducible repeat (first | refine blk_drewN ?_ _ | refine blk_drew ?_ | refine blk_alloc ?_ _)); refine blk_put (cs := #[.int .u8 ((rd_T31 l0 x7_1).f0), .int .u64 ((rd_T31 l0 x7_1).f1), .string (⟨#[]⟩ : ByteArray), .slice none 0 0]) ?_ 2 _ rfl; (with_reducible repeat (first | refine blk_drewN ?_ _ | refine blk_drew ?_ | refine blk_alloc ?_ _)); refine blk_put (cs := #[.int .u8 ((rd_T31 l0 x7_1).f0), .int .u64 0, .string (⟨#[]⟩ : ByteArray), .slice none 0 0]) ?_ 1 _ rfl; (with_reducible repeat (first | refine blk_drewN ?_ _ | refine blk_drew ?_ | refine blk_alloc ?_ _)); refine blk_put (cs := #[.int .u8 0, .int .u64 0, .string (⟨#[]⟩ : ByteArray), .slice none 0 0]) ?_ 0 _ rfl; (with_reducible repeat (first | refine blk_drewN ?_ _ | refine blk_drew ?_ | refine blk_alloc ?_ _)); exact BK157.out) hb); have n1_ := Aside0.mk (below_step (by repeat (first | (with_reducible first | exact HB.out | apply below_alloc | apply pw_below_drewN | apply below_drew1 | refine below_set ?_ GE157.out) | exact HB.out)) hb); clear BK157; clear HB; have BK157 := n0_; have HB := n1_; clear n0_ n1_; (try clear hb); (try clear hb2); (try clear hk); (try clear hi)))
       go_roundg k1
       case measure => have := HK1.out; omega
       case rel => exact ⟨(wrap64 (x7_1 + 1)), (by first | rfl | (simp; done) | (simp [*]; done)), H', ⟨by have := HK1.out; omega⟩, ⟨by repeat (first | (with_reducible first | exact HB.out | apply below_alloc | apply pw_below_drewN | apply below_drew1 | refine below_set ?_ GE157.out) | exact HB.out)⟩⟩
      ·replace c6 := Bool.eq_false_iff.mpr c6
       subst c6
       have H1 : (some false) = some r := by rw [if_neg (show ¬ (false = true) by decide)] at H; exact H
       clear H
       have H := H1
       clear H1
       obtain rfl := Option.some.inj H
       have p156 : 0 ≤ (x7_1 : Int) := of_decide_eq_true (by first | (with_reducible assumption) | assumption)
       have q156 : x7_1 < (l0.length : Int) := of_decide_eq_true (by first | (with_reducible assumption) | assumption)
       obtain ⟨ad156, A156_3, c156_3, e156, hx156_0, hx156_1, hx156_2, hx156_3, hl156_3, hi156_3⟩ := at_T31 HR0.out x7_1 p156 q156
       cases e156
       replace hx156_0 := (HB.out.cell (World.block_lt_of_cell? w _ hx156_0)).trans hx156_0
       replace hx156_1 := (HB.out.cell (World.block_lt_of_cell? w _ hx156_1)).trans hx156_1
       replace hx156_2 := (HB.out.cell (World.block_lt_of_cell? w _ hx156_2)).trans hx156_2
       replace hx156_3 := (HB.out.cell (World.block_lt_of_cell? w _ hx156_3)).trans hx156_3
       have HR156_3 := Aside0.mk hi156_3
       have HC156_3 := Aside0.mk hl156_3
       clear hi156_3 hl156_3
       replace p156 := eq_true p156
       replace q156 := eq_true q156
       go_wp2_with (first | ((with_reducible refine gate_dst (N := 4) rfl ?_); refine box_event ?hg (N := 4) ?hd (cs := #[.int .u8 0, .int .u64 0, .string (⟨#[]⟩ : ByteArray), .slice none 0 0]) (t := 31) ?hr ?_; (case hd => rfl); (case hg => rfl); (case hr => first | (go_simp; done) | (go_simp; rfl)); intro gb157 hg w10 hbox hb; have n0_ := Aside0.mk (below_step (by repeat (first | (with_reducible first | exact HB.out | apply below_alloc | apply pw_below_drewN | apply below_drew1) | exact HB.out)) hb); have n1_ := Aside0.mk (hbox); have n2_ := Aside0.mk ((by rw [hg]; exact (below_size (by repeat (first | (with_reducible first | exact HB.out | apply below_alloc | apply pw_below_drewN | apply below_drew1) | exact HB.out))) : w.heap.size ≤ gb157)); have n3_ := Aside0.mk ((by rw [hg]; exact (below_size (by repeat (first | (with_reducible first | exact HB.out | apply below_alloc | apply pw_below_drewN | apply below_drew1) | exact HB.out))) : w.heap.size ≤ gb157)); clear HB; have HB := n0_; have BK157 := n1_; have GW157 := n2_; have GE157 := n3_; clear n0_ n1_ n2_ n3_; clear hb hbox hg; have hcz11_0 : w10.cell? ⟨gb157, 0, none⟩ = some (.int .u8 0) := (blk_cell BK157.out 0).trans rfl; have hcz11_1 : w10.cell? ⟨gb157, 1, none⟩ = some (.int .u64 0) := (blk_cell BK157.out 1).trans rfl; have hcz11_2 : w10.cell? ⟨gb157, 2, none⟩ = some (.string (⟨#[]⟩ : ByteArray)) := (blk_cell BK157.out 2).trans rfl; have hcz11_3 : w10.cell? ⟨gb157, 3, none⟩ = some (.slice none 0 0) := (blk_cell BK157.out 3).trans rfl; have hfz11_0 := blk_frozen BK157.out 0; have hfz11_1 := blk_frozen BK157.out 1; have hfz11_2 := blk_frozen BK157.out 2; have hfz11_3 := blk_frozen BK157.out 3) | ((with_reducible refine gate_callee (f := 12) rfl ?_); refine goesL_ (some 12) rfl rfl Tryd.func12 (by kernel_rfl) rfl #[.agg #[.int .u8 ((rd_T31 l0 x7_1).f0), .int .u64 ((rd_T31 l0 x7_1).f1), .string ((rd_T31 l0 x7_1).f2), .slice A156_3 ((rd_T31 l0 x7_1).f3).length c156_3]] rfl (by (try simp only [List.map_toArray, List.map_cons, List.map_nil]); first | done | rfl | (simp only [List.length_drop, List.length_take]; rfl)) ?_; (with_reducible refine (spec_Tidy.calls k1 ((rd_T31 l0 x7_1).f0) ((rd_T31 l0 x7_1).f1) ((rd_T31 l0 x7_1).f2) _ _ ((rd_T31 l0 x7_1).f3) false _ ?sideT ?side1 ?side2 A5.out).mono ?_); (case sideT => exact Utf8Tabs_below hT (by repeat (first | (with_reducible first | exact HB.out | apply below_alloc | apply pw_below_drewN | apply below_drew1 | refine below_set ?_ GE157.out) | exact HB.out))); (case side1 => exact Kd.C_below HR156_3.out (by repeat (first | (with_reducible first | exact HB.out | apply below_alloc | apply pw_below_drewN | apply below_drew1 | refine below_set ?_ GE157.out) | exact HB.out))); (case side2 => exact HC156_3.out); rintro e w12 ⟨rfl, hb⟩; refine ⟨_, rfl, ?_⟩; have n0_ := Aside0.mk (blk_below (g := gb157) (o := .cells #[.int .u8 ((rd_T31 l0 x7_1).f0), .int .u64 ((rd_T31 l0 x7_1).f1), .string ((rd_T31 l0 x7_1).f2), .slice A156_3 ((rd_T31 l0 x7_1).f3).length c156_3] 31 (0, 0)) (by (with_reducible repeat (first | refine blk_drewN ?_ _ | refine blk_drew ?_ | refine blk_alloc ?_ _)); refine blk_put (cs := #[.int .u8 ((rd_T31 l0 x7_1).f0), .int .u64 ((rd_T31 l0 x7_1).f1), .string ((rd_T31 l0 x7_1).f2), .slice none 0 0]) ?_ 3 _ rfl; (with_reducible repeat (first | refine blk_drewN ?_ _ | refine blk_drew ?_ | refine blk_alloc ?_ _)); refine blk_put (cs := #[.int .u8 ((rd_T31 l0 x7_1).f0), .int .u64 ((rd_T31 l0 x7_1).f1), .string (⟨#[]⟩ : ByteArray), .slice none 0 0]) ?_ 2 _ rfl; (with_reducible repeat (first | refine blk_drewN ?_ _ | refine blk_drew ?_ | refine blk_alloc ?_ _)); refine blk_put (cs := #[.int .u8 ((rd_T31 l0 x7_1).f0), .int .u64 0, .string (⟨#[]⟩ : ByteArray), .slice none 0 0]) ?_ 1 _ rfl; (with_reducible repeat (first | refine blk_drewN ?_ _ | refine blk_drew ?_ | refine blk_alloc ?_ _)); refine blk_put (cs := #[.int .u8 0, .int .u64 0, .string (⟨#[]⟩ : ByteArray), .slice none 0 0]) ?_ 0 _ rfl; (with_reducible repeat (first | refine blk_drewN ?_ _ | refine blk_drew ?_ | refine blk_alloc ?_ _)); exact BK157.out) hb); have n1_ := Aside0.mk (below_step (by repeat (first | (with_reducible first | exact HB.out | apply below_alloc | apply pw_below_drewN | apply below_drew1 | refine below_set ?_ GE157.out) | exact HB.out)) hb); clear BK157; clear HB; have BK157 := n0_; have HB := n1_; clear n0_ n1_; (try clear hb); (try clear hb2); (try clear hk); (try clear hi)))
       go_ret
       exact ⟨by first | rfl | (simp [errW_none, errW_some] <;> rfl) | (simp [*, errW_none, errW_some] <;> rfl) | (simp (disch := omega) only [wrap64_id] <;> rfl), by repeat (first | (with_reducible first | exact HB.out | apply below_alloc | apply pw_below_drewN | apply below_drew1 | refine below_set ?_ GE157.out) | exact HB.out)⟩
     ·rw [if_neg c4] at H
      exact absurd H (by simp)
    ·rw [if_neg c3] at H
     exact absurd H (by simp)
   ·rw [if_neg c2] at H
    have c2b0 : decide (x7_1 < (l0.length : Int)) = false := decide_eq_false c2
    clear c2
    replace H := Option.bind_eq_some_iff.mp H
    obtain ⟨t159, A130, H⟩ := H
    replace H : ((spec_Valid.f k1 t159).bind fun t160 => (some t160)) = some r := H
    have A13 := Aside0.mk A130
    clear A130
    replace H := Option.bind_eq_some_iff.mp H
    obtain ⟨t160, A140, H⟩ := H
    replace H : (some t160) = some r := H
    have A14 := Aside0.mk A140
    clear A140
    obtain rfl := Option.some.inj H
    go_wp2_with (first | ((with_reducible refine gate_callee (f := 7) rfl ?_); refine goesL_ (some 16) rfl rfl Tryd.func7 (by kernel_rfl) rfl #[.slice A0 l0.length c0] rfl (by (try simp only [List.map_toArray, List.map_cons, List.map_nil]); first | done | rfl | (simp only [List.length_drop, List.length_take]; rfl)) ?_; (with_reducible refine (spec_SigsOf.calls k1 _ _ l0 t159 _ ?side1 ?side2 A13.out).mono ?_); (case side1 => repeat (first | exact (Kd.C_below HR0.out HB.out) | (with_reducible refine Kd.C_alloc ?_ _) | (with_reducible refine Kd.C_drewN ?_ _) | (with_reducible refine Kd.C_drew ?_))); (case side2 => exact HC0.out); rintro e w15 ⟨rfl, hb⟩; refine ⟨_, rfl, ?_⟩; have n0_ := Aside0.mk (below_step (by repeat (first | (with_reducible first | exact HB.out | apply below_alloc | apply pw_below_drewN | apply below_drew1) | exact HB.out)) hb); clear HB; have HB := n0_; clear n0_; (try clear hb); (try clear hb2); (try clear hk); (try clear hi)) | ((with_reducible refine gate_callee (f := 22) rfl ?_); refine goesL_ (some 17) rfl rfl Tryd.func22 (by kernel_rfl) rfl #[.string t159] rfl (by (try simp only [List.map_toArray, List.map_cons, List.map_nil]); first | done | rfl | (simp only [List.length_drop, List.length_take]; rfl)) ?_; (with_reducible refine (spec_Valid.calls k1 t159 t160 _ A14.out).mono ?_); rintro e w16 ⟨rfl, hb⟩; refine ⟨_, rfl, ?_⟩; have n0_ := Aside0.mk (below_step (by repeat (first | (with_reducible first | exact HB.out | apply below_alloc | apply pw_below_drewN | apply below_drew1) | exact HB.out)) hb); clear HB; have HB := n0_; clear n0_; (try clear hb); (try clear hb2); (try clear hk); (try clear hi)))
    go_ret
    exact ⟨by first | rfl | (simp [errW_none, errW_some] <;> rfl) | (simp [*, errW_none, errW_some] <;> rfl) | (simp (disch := omega) only [wrap64_id] <;> rfl), by repeat (first | (with_reducible first | exact HB.out | apply below_alloc | apply pw_below_drewN | apply below_drew1) | exact HB.out)⟩

/-! ### laws_sgSmall: function 5 -/
def laws_sgSmall.l0 : Nat → List (S31) → List (S31) → Int → Int → Option (Bool)
 | 0, _, _, _, _ => none
 | k + 1, x0, x13, x14, x15 => if x15 < x14 then (if 0 ≤ x15 then (if x15 < (x13.length : Int) then ((spec_Tidy.f k ((rd_T31 x13 x15).f0) ((rd_T31 x13 x15).f1) ((rd_T31 x13 x15).f2) ((rd_T31 x13 x15).f3)).bind fun t165 => (if t165 = true then ((laws_sgKeys.f k ((rd_T31 x13 x15).f0) ((rd_T31 x13 x15).f1) ((rd_T31 x13 x15).f2) ((rd_T31 x13 x15).f3)).bind fun t166 => (if t166 = true then (laws_sgSmall.l0 k x0 x13 x14 (wrap64 (x15 + 1))) else (some false))) else (some false))) else (none)) else (none)) else ((spec_TidyAll.f k x0).bind fun t162 => (some t162))
/-- What sgBounded is to say. -/
def FB (l0 : List S31) : Prop := l0.length ≤ 50 ∧ (nodesL l0).length ≤ 300 ∧ ∀ x ∈ nodesL l0, x.f2.size ≤ 65536
def SmPost (l0 : List S31) (r : Bool) (w : World) (e : Ending) (w' : World) : Prop := ∃ b, e = .returned (.bool b) ∧ Below w.heap.size w w' ∧ (b = true → r = true ∧ FB l0)
set_option maxHeartbeats 8000000 in
set_option maxRecDepth 100000 in
theorem laws_sgSmall.calls (k : Nat) (A0 : Option Addr) (c0 : Nat) (l0 : List (S31)) (r : Bool) (w : World) (hT : Lib.Utf8Tabs 1 2 w) (hr0 : Kd.C k31 w A0 l0.length l0) (hc0 : l0.length ≤ c0) (h : FB l0 → laws_sgSmall.l0 k l0 l0 (l0.length : Int) 0 = some r) :
  Calls Tryd.prog 5 #[.slice A0 l0.length c0] w fun e w' => SmPost l0 r w e w' := by
 have hu31 := Tryd.underlying31
 have HR0 := Aside0.mk hr0
 have HC0 := Aside0.mk hc0
 have HH := Aside0.mk h
 clear hr0 hc0 h
 have HB := Aside0.mk (Below.refl w.heap.size w)
 go_enter Tryd.func5, Tryd.ntmps5
 go_upto_region 1 with (fail)
 go_cut [12] (fun v12 wc => ∃ (x12_1 : Bool), v12 = .bool x12_1 ∧ Aside0 (x12_1 = false → FB l0) ∧ Aside0 (Below w.heap.size w wc))
 case first =>
  by_cases c3 : (l0.length : Int) > 50
  ·have c3b0 : decide (50 < (l0.length : Int)) = true := decide_eq_true c3
   have c3b1 : decide (50 < l0.length) = true := decide_eq_true (by omega)
   clear c3
   (first | rw [c3b0] | (simp only [i64_w, i32_w]; rw [c3b0]) | skip)
   go_wp2
   go_meet
   case rel => exact ⟨true, rfl, ⟨fun h => by cases h⟩, ⟨(by repeat (first | (with_reducible first | exact HB.out | apply below_alloc | apply pw_below_drewN | apply below_drew1) | exact HB.out))⟩⟩
  ·have C3 := Aside0.mk c3
   have c3b0 : decide (50 < (l0.length : Int)) = false := decide_eq_false c3
   have c3b1 : decide (50 < l0.length) = false := decide_eq_false (by omega)
   clear c3
   (first | rw [c3b0] | (simp only [i64_w, i32_w]; rw [c3b0]) | skip)
   go_wp2_with (first | (go_at_call 11; (refine (bd_calls l0 300 (by omega) (by have := C3.out; omega) A0 c0 _ ?side1).mono ?_); (case side1 => repeat (first | exact (Kd.C_below HR0.out HB.out) | (with_reducible refine Kd.C_alloc ?_ _) | (with_reducible refine Kd.C_drewN ?_ _) | (with_reducible refine Kd.C_drew ?_))); rintro e w5 ⟨b5, rfl, hb, hf⟩; have n0_ := Aside0.mk (below_step (by repeat (first | (with_reducible first | exact HB.out | apply below_alloc | apply pw_below_drewN | apply below_drew1) | exact HB.out)) hb); have HF := Aside0.mk hf; clear HB; have HB := n0_; clear n0_ hf hb))
   go_meet
   case rel => exact ⟨_, rfl, ⟨fun h => ⟨by have := C3.out; omega, HF.out (by cases b5 <;> first | rfl | cases h)⟩⟩, ⟨(by repeat (first | (with_reducible first | exact HB.out | apply below_alloc | apply pw_below_drewN | apply below_drew1) | exact HB.out))⟩⟩
 case rest =>
  obtain ⟨x12_1, rfl, HF, HB⟩ := hcut
  by_cases c6 : x12_1 = true
  ·subst c6
   go_wp2
   go_ret
   unfold SmPost
   exact ⟨false, rfl, (by repeat (first | (with_reducible first | exact HB.out | apply below_alloc | apply pw_below_drewN | apply below_drew1) | exact HB.out)), fun h => by cases h⟩
  ·replace c6 := Bool.eq_false_iff.mpr c6
   subst c6
   have HX := Aside0.mk (HF.out rfl)
   clear HF
   have H := HH.out HX.out
   clear HH
   have H' := Aside0.mk H
   clear H
   go_wp2
   go_loopg [15] k (fun kq v15 w' => ∃ (x15_2 : Int), v15 = .int .i64 x15_2 ∧ Aside0 (laws_sgSmall.l0 kq l0 l0 (l0.length : Int) x15_2 = some r) ∧ Aside0 (kq ≤ k) ∧ Aside0 (Below w.heap.size w w'))
   case atStart => exact ⟨(0), (by first | rfl | (simp; done) | (simp [*]; done)), H', ⟨Nat.le_refl _⟩, ⟨by repeat (first | (with_reducible first | exact HB.out | apply below_alloc | apply pw_below_drewN | apply below_drew1) | exact HB.out)⟩⟩
   case round =>
    clear H'
    try clear p2
    try clear c3
    try clear c3b0
    try clear c3b1
    try clear c5
    try clear c6
    try clear p6
    try clear p2
    obtain ⟨x15_2, rfl, HA, HK2, HB⟩ := hrel
    cases gk with
    | zero => exact absurd HA.out (by simp [laws_sgSmall.l0])
    | succ k2 =>
     have H := HA.out
     clear HA
     simp only [laws_sgSmall.l0] at H
     by_cases c7 : x15_2 < (l0.length : Int)
     ·rw [if_pos c7] at H
      have c7b0 : decide (x15_2 < (l0.length : Int)) = true := decide_eq_true c7
      clear c7
      by_cases c8 : 0 ≤ x15_2
      ·rw [if_pos c8] at H
       have c8b0 : decide (0 ≤ x15_2) = true := decide_eq_true c8
       clear c8
       by_cases c9 : x15_2 < (l0.length : Int)
       ·rw [if_pos c9] at H
        have c9b0 : decide (x15_2 < (l0.length : Int)) = true := decide_eq_true c9
        clear c9
        replace H := Option.bind_eq_some_iff.mp H
        obtain ⟨t165, A100, H⟩ := H
        replace H : (if t165 = true then ((laws_sgKeys.f k2 ((rd_T31 l0 x15_2).f0) ((rd_T31 l0 x15_2).f1) ((rd_T31 l0 x15_2).f2) ((rd_T31 l0 x15_2).f3)).bind fun t166 => (if t166 = true then (laws_sgSmall.l0 k2 l0 l0 (l0.length : Int) (wrap64 (x15_2 + 1))) else (some false))) else (some false)) = some r := H
        have A10 := Aside0.mk A100
        clear A100
        by_cases c11 : t165 = true
        ·subst c11
         have H1 : ((laws_sgKeys.f k2 ((rd_T31 l0 x15_2).f0) ((rd_T31 l0 x15_2).f1) ((rd_T31 l0 x15_2).f2) ((rd_T31 l0 x15_2).f3)).bind fun t166 => (if t166 = true then (laws_sgSmall.l0 k2 l0 l0 (l0.length : Int) (wrap64 (x15_2 + 1))) else (some false))) = some r := by rw [if_pos rfl] at H; exact H
         clear H
         have H := H1
         clear H1
         replace H := Option.bind_eq_some_iff.mp H
         obtain ⟨t166, A120, H⟩ := H
         replace H : (if t166 = true then (laws_sgSmall.l0 k2 l0 l0 (l0.length : Int) (wrap64 (x15_2 + 1))) else (some false)) = some r := H
         have A12 := Aside0.mk A120
         clear A120
         by_cases c13 : t166 = true
         ·subst c13
          have H1 : (laws_sgSmall.l0 k2 l0 l0 (l0.length : Int) (wrap64 (x15_2 + 1))) = some r := by rw [if_pos rfl] at H; exact H
          clear H
          have H := H1
          clear H1
          have H' := Aside0.mk H
          clear H
          have p163 : 0 ≤ (x15_2 : Int) := of_decide_eq_true (by first | (with_reducible assumption) | assumption)
          have q163 : x15_2 < (l0.length : Int) := of_decide_eq_true (by first | (with_reducible assumption) | assumption)
          obtain ⟨ad163, A163_3, c163_3, e163, hx163_0, hx163_1, hx163_2, hx163_3, hl163_3, hi163_3⟩ := at_T31 HR0.out x15_2 p163 q163
          cases e163
          replace hx163_0 := (HB.out.cell (World.block_lt_of_cell? w _ hx163_0)).trans hx163_0
          replace hx163_1 := (HB.out.cell (World.block_lt_of_cell? w _ hx163_1)).trans hx163_1
          replace hx163_2 := (HB.out.cell (World.block_lt_of_cell? w _ hx163_2)).trans hx163_2
          replace hx163_3 := (HB.out.cell (World.block_lt_of_cell? w _ hx163_3)).trans hx163_3
          have HR163_3 := Aside0.mk hi163_3
          have HC163_3 := Aside0.mk hl163_3
          clear hi163_3 hl163_3
          replace p163 := eq_true p163
          replace q163 := eq_true q163
          go_wp2_with (first | ((with_reducible refine gate_dst (N := 4) rfl ?_); refine box_event ?hg (N := 4) ?hd (cs := #[.int .u8 0, .int .u64 0, .string (⟨#[]⟩ : ByteArray), .slice none 0 0]) (t := 31) ?hr ?_; (case hd => rfl); (case hg => rfl); (case hr => first | (go_simp; done) | (go_simp; rfl)); intro gb164 hg w14 hbox hb; have n0_ := Aside0.mk (below_step (by repeat (first | (with_reducible first | exact HB.out | apply below_alloc | apply pw_below_drewN | apply below_drew1) | exact HB.out)) hb); have n1_ := Aside0.mk (hbox); have n2_ := Aside0.mk ((by rw [hg]; exact (below_size (by repeat (first | (with_reducible first | exact HB.out | apply below_alloc | apply pw_below_drewN | apply below_drew1) | exact HB.out))) : w.heap.size ≤ gb164)); have n3_ := Aside0.mk ((by rw [hg]; exact (below_size (by repeat (first | (with_reducible first | exact HB.out | apply below_alloc | apply pw_below_drewN | apply below_drew1) | exact HB.out))) : w.heap.size ≤ gb164)); clear HB; have HB := n0_; have BK164 := n1_; have GW164 := n2_; have GE164 := n3_; clear n0_ n1_ n2_ n3_; clear hb hbox hg; have hcz15_0 : w14.cell? ⟨gb164, 0, none⟩ = some (.int .u8 0) := (blk_cell BK164.out 0).trans rfl; have hcz15_1 : w14.cell? ⟨gb164, 1, none⟩ = some (.int .u64 0) := (blk_cell BK164.out 1).trans rfl; have hcz15_2 : w14.cell? ⟨gb164, 2, none⟩ = some (.string (⟨#[]⟩ : ByteArray)) := (blk_cell BK164.out 2).trans rfl; have hcz15_3 : w14.cell? ⟨gb164, 3, none⟩ = some (.slice none 0 0) := (blk_cell BK164.out 3).trans rfl; have hfz15_0 := blk_frozen BK164.out 0; have hfz15_1 := blk_frozen BK164.out 1; have hfz15_2 := blk_frozen BK164.out 2; have hfz15_3 := blk_frozen BK164.out 3) | ((with_reducible refine gate_callee (f := 12) rfl ?_); refine goesL_ (some 20) rfl rfl Tryd.func12 (by kernel_rfl) rfl #[.agg #[.int .u8 ((rd_T31 l0 x15_2).f0), .int .u64 ((rd_T31 l0 x15_2).f1), .string ((rd_T31 l0 x15_2).f2), .slice A163_3 ((rd_T31 l0 x15_2).f3).length c163_3]] rfl (by (try simp only [List.map_toArray, List.map_cons, List.map_nil]); first | done | rfl | (simp only [List.length_drop, List.length_take]; rfl)) ?_; (with_reducible refine (spec_Tidy.calls k2 ((rd_T31 l0 x15_2).f0) ((rd_T31 l0 x15_2).f1) ((rd_T31 l0 x15_2).f2) _ _ ((rd_T31 l0 x15_2).f3) true _ ?sideT ?side1 ?side2 A10.out).mono ?_); (case sideT => exact Utf8Tabs_below hT (by repeat (first | (with_reducible first | exact HB.out | apply below_alloc | apply pw_below_drewN | apply below_drew1 | refine below_set ?_ GE164.out) | exact HB.out))); (case side1 => exact Kd.C_below HR163_3.out (by repeat (first | (with_reducible first | exact HB.out | apply below_alloc | apply pw_below_drewN | apply below_drew1 | refine below_set ?_ GE164.out) | exact HB.out))); (case side2 => exact HC163_3.out); rintro e w16 ⟨rfl, hb⟩; refine ⟨_, rfl, ?_⟩; have n0_ := Aside0.mk (blk_below (g := gb164) (o := .cells #[.int .u8 ((rd_T31 l0 x15_2).f0), .int .u64 ((rd_T31 l0 x15_2).f1), .string ((rd_T31 l0 x15_2).f2), .slice A163_3 ((rd_T31 l0 x15_2).f3).length c163_3] 31 (0, 0)) (by (with_reducible repeat (first | refine blk_drewN ?_ _ | refine blk_drew ?_ | refine blk_alloc ?_ _)); refine blk_put (cs := #[.int .u8 ((rd_T31 l0 x15_2).f0), .int .u64 ((rd_T31 l0 x15_2).f1), .string ((rd_T31 l0 x15_2).f2), .slice none 0 0]) ?_ 3 _ rfl; (with_reducible repeat (first | refine blk_drewN ?_ _ | refine blk_drew ?_ | refine blk_alloc ?_ _)); refine blk_put (cs := #[.int .u8 ((rd_T31 l0 x15_2).f0), .int .u64 ((rd_T31 l0 x15_2).f1), .string (⟨#[]⟩ : ByteArray), .slice none 0 0]) ?_ 2 _ rfl; (with_reducible repeat (first | refine blk_drewN ?_ _ | refine blk_drew ?_ | refine blk_alloc ?_ _)); refine blk_put (cs := #[.int .u8 ((rd_T31 l0 x15_2).f0), .int .u64 0, .string (⟨#[]⟩ : ByteArray), .slice none 0 0]) ?_ 1 _ rfl; (with_reducible repeat (first | refine blk_drewN ?_ _ | refine blk_drew ?_ | refine blk_alloc ?_ _)); refine blk_put (cs := #[.int .u8 0, .int .u64 0, .string (⟨#[]⟩ : ByteArray), .slice none 0 0]) ?_ 0 _ rfl; (with_reducible repeat (first | refine blk_drewN ?_ _ | refine blk_drew ?_ | refine blk_alloc ?_ _)); exact BK164.out) hb); have n1_ := Aside0.mk (below_step (by repeat (first | (with_reducible first | exact HB.out | apply below_alloc | apply pw_below_drewN | apply below_drew1 | refine below_set ?_ GE164.out) | exact HB.out)) hb); clear BK164; clear HB; have BK164 := n0_; have HB := n1_; clear n0_ n1_; (try clear hb); (try clear hb2); (try clear hk); (try clear hi); have hcz17_0 : w16.cell? ⟨gb164, 0, none⟩ = some (.int .u8 ((rd_T31 l0 x15_2).f0)) := (blk_cell BK164.out 0).trans rfl; have hcz17_1 : w16.cell? ⟨gb164, 1, none⟩ = some (.int .u64 ((rd_T31 l0 x15_2).f1)) := (blk_cell BK164.out 1).trans rfl; have hcz17_2 : w16.cell? ⟨gb164, 2, none⟩ = some (.string ((rd_T31 l0 x15_2).f2)) := (blk_cell BK164.out 2).trans rfl; have hcz17_3 : w16.cell? ⟨gb164, 3, none⟩ = some (.slice A163_3 ((rd_T31 l0 x15_2).f3).length c163_3) := (blk_cell BK164.out 3).trans rfl; have hfz17_0 := blk_frozen BK164.out 0; have hfz17_1 := blk_frozen BK164.out 1; have hfz17_2 := blk_frozen BK164.out 2; have hfz17_3 := blk_frozen BK164.out 3) | (go_at_call 13; (with_reducible refine (laws_sgKeys.calls k2 ((rd_T31 l0 x15_2).f0) ((rd_T31 l0 x15_2).f1) ((rd_T31 l0 x15_2).f2) _ _ ((rd_T31 l0 x15_2).f3) true _ ?side1 ?side2 A12.out).mono ?_); (case side1 => repeat (first | exact (Kd.C_below HR163_3.out HB.out) | (with_reducible refine Kd.C_alloc ?_ _) | (with_reducible refine Kd.C_drewN ?_ _) | (with_reducible refine Kd.C_drew ?_))); (case side2 => exact HC163_3.out); rintro e w18 ⟨rfl, hb⟩; have n0_ := Aside0.mk (blk_below (g := gb164) (o := .cells #[.int .u8 ((rd_T31 l0 x15_2).f0), .int .u64 ((rd_T31 l0 x15_2).f1), .string ((rd_T31 l0 x15_2).f2), .slice A163_3 ((rd_T31 l0 x15_2).f3).length c163_3] 31 (0, 0)) (by (with_reducible repeat (first | refine blk_drewN ?_ _ | refine blk_drew ?_ | refine blk_alloc ?_ _)); exact BK164.out) hb); have n1_ := Aside0.mk (below_step (by repeat (first | (with_reducible first | exact HB.out | apply below_alloc | apply pw_below_drewN | apply below_drew1 | refine below_set ?_ GE164.out) | exact HB.out)) hb); clear BK164; clear HB; have BK164 := n0_; have HB := n1_; clear n0_ n1_; (try clear hb); (try clear hb2); (try clear hk); (try clear hi)))
          go_roundg k2
          case measure => have := HK2.out; omega
          case rel => exact ⟨(wrap64 (x15_2 + 1)), (by first | rfl | (simp; done) | (simp [*]; done)), H', ⟨by have := HK2.out; omega⟩, ⟨by repeat (first | (with_reducible first | exact HB.out | apply below_alloc | apply pw_below_drewN | apply below_drew1 | refine below_set ?_ GE164.out) | exact HB.out)⟩⟩
         ·replace c13 := Bool.eq_false_iff.mpr c13
          subst c13
          have H1 : (some false) = some r := by rw [if_neg (show ¬ (false = true) by decide)] at H; exact H
          clear H
          have H := H1
          clear H1
          obtain rfl := Option.some.inj H
          have p163 : 0 ≤ (x15_2 : Int) := of_decide_eq_true (by first | (with_reducible assumption) | assumption)
          have q163 : x15_2 < (l0.length : Int) := of_decide_eq_true (by first | (with_reducible assumption) | assumption)
          obtain ⟨ad163, A163_3, c163_3, e163, hx163_0, hx163_1, hx163_2, hx163_3, hl163_3, hi163_3⟩ := at_T31 HR0.out x15_2 p163 q163
          cases e163
          replace hx163_0 := (HB.out.cell (World.block_lt_of_cell? w _ hx163_0)).trans hx163_0
          replace hx163_1 := (HB.out.cell (World.block_lt_of_cell? w _ hx163_1)).trans hx163_1
          replace hx163_2 := (HB.out.cell (World.block_lt_of_cell? w _ hx163_2)).trans hx163_2
          replace hx163_3 := (HB.out.cell (World.block_lt_of_cell? w _ hx163_3)).trans hx163_3
          have HR163_3 := Aside0.mk hi163_3
          have HC163_3 := Aside0.mk hl163_3
          clear hi163_3 hl163_3
          replace p163 := eq_true p163
          replace q163 := eq_true q163
          go_wp2_with (first | ((with_reducible refine gate_dst (N := 4) rfl ?_); refine box_event ?hg (N := 4) ?hd (cs := #[.int .u8 0, .int .u64 0, .string (⟨#[]⟩ : ByteArray), .slice none 0 0]) (t := 31) ?hr ?_; (case hd => rfl); (case hg => rfl); (case hr => first | (go_simp; done) | (go_simp; rfl)); intro gb164 hg w19 hbox hb; have n0_ := Aside0.mk (below_step (by repeat (first | (with_reducible first | exact HB.out | apply below_alloc | apply pw_below_drewN | apply below_drew1) | exact HB.out)) hb); have n1_ := Aside0.mk (hbox); have n2_ := Aside0.mk ((by rw [hg]; exact (below_size (by repeat (first | (with_reducible first | exact HB.out | apply below_alloc | apply pw_below_drewN | apply below_drew1) | exact HB.out))) : w.heap.size ≤ gb164)); have n3_ := Aside0.mk ((by rw [hg]; exact (below_size (by repeat (first | (with_reducible first | exact HB.out | apply below_alloc | apply pw_below_drewN | apply below_drew1) | exact HB.out))) : w.heap.size ≤ gb164)); clear HB; have HB := n0_; have BK164 := n1_; have GW164 := n2_; have GE164 := n3_; clear n0_ n1_ n2_ n3_; clear hb hbox hg; have hcz20_0 : w19.cell? ⟨gb164, 0, none⟩ = some (.int .u8 0) := (blk_cell BK164.out 0).trans rfl; have hcz20_1 : w19.cell? ⟨gb164, 1, none⟩ = some (.int .u64 0) := (blk_cell BK164.out 1).trans rfl; have hcz20_2 : w19.cell? ⟨gb164, 2, none⟩ = some (.string (⟨#[]⟩ : ByteArray)) := (blk_cell BK164.out 2).trans rfl; have hcz20_3 : w19.cell? ⟨gb164, 3, none⟩ = some (.slice none 0 0) := (blk_cell BK164.out 3).trans rfl; have hfz20_0 := blk_frozen BK164.out 0; have hfz20_1 := blk_frozen BK164.out 1; have hfz20_2 := blk_frozen BK164.out 2; have hfz20_3 := blk_frozen BK164.out 3) | ((with_reducible refine gate_callee (f := 12) rfl ?_); refine goesL_ (some 20) rfl rfl Tryd.func12 (by kernel_rfl) rfl #[.agg #[.int .u8 ((rd_T31 l0 x15_2).f0), .int .u64 ((rd_T31 l0 x15_2).f1), .string ((rd_T31 l0 x15_2).f2), .slice A163_3 ((rd_T31 l0 x15_2).f3).length c163_3]] rfl (by (try simp only [List.map_toArray, List.map_cons, List.map_nil]); first | done | rfl | (simp only [List.length_drop, List.length_take]; rfl)) ?_; (with_reducible refine (spec_Tidy.calls k2 ((rd_T31 l0 x15_2).f0) ((rd_T31 l0 x15_2).f1) ((rd_T31 l0 x15_2).f2) _ _ ((rd_T31 l0 x15_2).f3) true _ ?sideT ?side1 ?side2 A10.out).mono ?_); (case sideT => exact Utf8Tabs_below hT (by repeat (first | (with_reducible first | exact HB.out | apply below_alloc | apply pw_below_drewN | apply below_drew1 | refine below_set ?_ GE164.out) | exact HB.out))); (case side1 => exact Kd.C_below HR163_3.out (by repeat (first | (with_reducible first | exact HB.out | apply below_alloc | apply pw_below_drewN | apply below_drew1 | refine below_set ?_ GE164.out) | exact HB.out))); (case side2 => exact HC163_3.out); rintro e w21 ⟨rfl, hb⟩; refine ⟨_, rfl, ?_⟩; have n0_ := Aside0.mk (blk_below (g := gb164) (o := .cells #[.int .u8 ((rd_T31 l0 x15_2).f0), .int .u64 ((rd_T31 l0 x15_2).f1), .string ((rd_T31 l0 x15_2).f2), .slice A163_3 ((rd_T31 l0 x15_2).f3).length c163_3] 31 (0, 0)) (by (with_reducible repeat (first | refine blk_drewN ?_ _ | refine blk_drew ?_ | refine blk_alloc ?_ _)); refine blk_put (cs := #[.int .u8 ((rd_T31 l0 x15_2).f0), .int .u64 ((rd_T31 l0 x15_2).f1), .string ((rd_T31 l0 x15_2).f2), .slice none 0 0]) ?_ 3 _ rfl; (with_reducible repeat (first | refine blk_drewN ?_ _ | refine blk_drew ?_ | refine blk_alloc ?_ _)); refine blk_put (cs := #[.int .u8 ((rd_T31 l0 x15_2).f0), .int .u64 ((rd_T31 l0 x15_2).f1), .string (⟨#[]⟩ : ByteArray), .slice none 0 0]) ?_ 2 _ rfl; (with_reducible repeat (first | refine blk_drewN ?_ _ | refine blk_drew ?_ | refine blk_alloc ?_ _)); refine blk_put (cs := #[.int .u8 ((rd_T31 l0 x15_2).f0), .int .u64 0, .string (⟨#[]⟩ : ByteArray), .slice none 0 0]) ?_ 1 _ rfl; (with_reducible repeat (first | refine blk_drewN ?_ _ | refine blk_drew ?_ | refine blk_alloc ?_ _)); refine blk_put (cs := #[.int .u8 0, .int .u64 0, .string (⟨#[]⟩ : ByteArray), .slice none 0 0]) ?_ 0 _ rfl; (with_reducible repeat (first | refine blk_drewN ?_ _ | refine blk_drew ?_ | refine blk_alloc ?_ _)); exact BK164.out) hb); have n1_ := Aside0.mk (below_step (by repeat (first | (with_reducible first | exact HB.out | apply below_alloc | apply pw_below_drewN | apply below_drew1 | refine below_set ?_ GE164.out) | exact HB.out)) hb); clear BK164; clear HB; have BK164 := n0_; have HB := n1_; clear n0_ n1_; (try clear hb); (try clear hb2); (try clear hk); (try clear hi); have hcz22_0 : w21.cell? ⟨gb164, 0, none⟩ = some (.int .u8 ((rd_T31 l0 x15_2).f0)) := (blk_cell BK164.out 0).trans rfl; have hcz22_1 : w21.cell? ⟨gb164, 1, none⟩ = some (.int .u64 ((rd_T31 l0 x15_2).f1)) := (blk_cell BK164.out 1).trans rfl; have hcz22_2 : w21.cell? ⟨gb164, 2, none⟩ = some (.string ((rd_T31 l0 x15_2).f2)) := (blk_cell BK164.out 2).trans rfl; have hcz22_3 : w21.cell? ⟨gb164, 3, none⟩ = some (.slice A163_3 ((rd_T31 l0 x15_2).f3).length c163_3) := (blk_cell BK164.out 3).trans rfl; have hfz22_0 := blk_frozen BK164.out 0; have hfz22_1 := blk_frozen BK164.out 1; have hfz22_2 := blk_frozen BK164.out 2; have hfz22_3 := blk_frozen BK164.out 3) | (go_at_call 13; (with_reducible refine (laws_sgKeys.calls k2 ((rd_T31 l0 x15_2).f0) ((rd_T31 l0 x15_2).f1) ((rd_T31 l0 x15_2).f2) _ _ ((rd_T31 l0 x15_2).f3) false _ ?side1 ?side2 A12.out).mono ?_); (case side1 => repeat (first | exact (Kd.C_below HR163_3.out HB.out) | (with_reducible refine Kd.C_alloc ?_ _) | (with_reducible refine Kd.C_drewN ?_ _) | (with_reducible refine Kd.C_drew ?_))); (case side2 => exact HC163_3.out); rintro e w23 ⟨rfl, hb⟩; have n0_ := Aside0.mk (blk_below (g := gb164) (o := .cells #[.int .u8 ((rd_T31 l0 x15_2).f0), .int .u64 ((rd_T31 l0 x15_2).f1), .string ((rd_T31 l0 x15_2).f2), .slice A163_3 ((rd_T31 l0 x15_2).f3).length c163_3] 31 (0, 0)) (by (with_reducible repeat (first | refine blk_drewN ?_ _ | refine blk_drew ?_ | refine blk_alloc ?_ _)); exact BK164.out) hb); have n1_ := Aside0.mk (below_step (by repeat (first | (with_reducible first | exact HB.out | apply below_alloc | apply pw_below_drewN | apply below_drew1 | refine below_set ?_ GE164.out) | exact HB.out)) hb); clear BK164; clear HB; have BK164 := n0_; have HB := n1_; clear n0_ n1_; (try clear hb); (try clear hb2); (try clear hk); (try clear hi)))
          go_ret
          (unfold SmPost; exact ⟨_, rfl, (by repeat (first | (with_reducible first | exact HB.out | apply below_alloc | apply pw_below_drewN | apply below_drew1 | refine below_set ?_ GE164.out) | exact HB.out)), fun h => ⟨h, HX.out⟩⟩)
        ·replace c11 := Bool.eq_false_iff.mpr c11
         subst c11
         have H1 : (some false) = some r := by rw [if_neg (show ¬ (false = true) by decide)] at H; exact H
         clear H
         have H := H1
         clear H1
         obtain rfl := Option.some.inj H
         have p163 : 0 ≤ (x15_2 : Int) := of_decide_eq_true (by first | (with_reducible assumption) | assumption)
         have q163 : x15_2 < (l0.length : Int) := of_decide_eq_true (by first | (with_reducible assumption) | assumption)
         obtain ⟨ad163, A163_3, c163_3, e163, hx163_0, hx163_1, hx163_2, hx163_3, hl163_3, hi163_3⟩ := at_T31 HR0.out x15_2 p163 q163
         cases e163
         replace hx163_0 := (HB.out.cell (World.block_lt_of_cell? w _ hx163_0)).trans hx163_0
         replace hx163_1 := (HB.out.cell (World.block_lt_of_cell? w _ hx163_1)).trans hx163_1
         replace hx163_2 := (HB.out.cell (World.block_lt_of_cell? w _ hx163_2)).trans hx163_2
         replace hx163_3 := (HB.out.cell (World.block_lt_of_cell? w _ hx163_3)).trans hx163_3
         have HR163_3 := Aside0.mk hi163_3
         have HC163_3 := Aside0.mk hl163_3
         clear hi163_3 hl163_3
         replace p163 := eq_true p163
         replace q163 := eq_true q163
         go_wp2_with (first | ((with_reducible refine gate_dst (N := 4) rfl ?_); refine box_event ?hg (N := 4) ?hd (cs := #[.int .u8 0, .int .u64 0, .string (⟨#[]⟩ : ByteArray), .slice none 0 0]) (t := 31) ?hr ?_; (case hd => rfl); (case hg => rfl); (case hr => first | (go_simp; done) | (go_simp; rfl)); intro gb164 hg w24 hbox hb; have n0_ := Aside0.mk (below_step (by repeat (first | (with_reducible first | exact HB.out | apply below_alloc | apply pw_below_drewN | apply below_drew1) | exact HB.out)) hb); have n1_ := Aside0.mk (hbox); have n2_ := Aside0.mk ((by rw [hg]; exact (below_size (by repeat (first | (with_reducible first | exact HB.out | apply below_alloc | apply pw_below_drewN | apply below_drew1) | exact HB.out))) : w.heap.size ≤ gb164)); have n3_ := Aside0.mk ((by rw [hg]; exact (below_size (by repeat (first | (with_reducible first | exact HB.out | apply below_alloc | apply pw_below_drewN | apply below_drew1) | exact HB.out))) : w.heap.size ≤ gb164)); clear HB; have HB := n0_; have BK164 := n1_; have GW164 := n2_; have GE164 := n3_; clear n0_ n1_ n2_ n3_; clear hb hbox hg; have hcz25_0 : w24.cell? ⟨gb164, 0, none⟩ = some (.int .u8 0) := (blk_cell BK164.out 0).trans rfl; have hcz25_1 : w24.cell? ⟨gb164, 1, none⟩ = some (.int .u64 0) := (blk_cell BK164.out 1).trans rfl; have hcz25_2 : w24.cell? ⟨gb164, 2, none⟩ = some (.string (⟨#[]⟩ : ByteArray)) := (blk_cell BK164.out 2).trans rfl; have hcz25_3 : w24.cell? ⟨gb164, 3, none⟩ = some (.slice none 0 0) := (blk_cell BK164.out 3).trans rfl; have hfz25_0 := blk_frozen BK164.out 0; have hfz25_1 := blk_frozen BK164.out 1; have hfz25_2 := blk_frozen BK164.out 2; have hfz25_3 := blk_frozen BK164.out 3) | ((with_reducible refine gate_callee (f := 12) rfl ?_); refine goesL_ (some 20) rfl rfl Tryd.func12 (by kernel_rfl) rfl #[.agg #[.int .u8 ((rd_T31 l0 x15_2).f0), .int .u64 ((rd_T31 l0 x15_2).f1), .string ((rd_T31 l0 x15_2).f2), .slice A163_3 ((rd_T31 l0 x15_2).f3).length c163_3]] rfl (by (try simp only [List.map_toArray, List.map_cons, List.map_nil]); first | done | rfl | (simp only [List.length_drop, List.length_take]; rfl)) ?_; (with_reducible refine (spec_Tidy.calls k2 ((rd_T31 l0 x15_2).f0) ((rd_T31 l0 x15_2).f1) ((rd_T31 l0 x15_2).f2) _ _ ((rd_T31 l0 x15_2).f3) false _ ?sideT ?side1 ?side2 A10.out).mono ?_); (case sideT => exact Utf8Tabs_below hT (by repeat (first | (with_reducible first | exact HB.out | apply below_alloc | apply pw_below_drewN | apply below_drew1 | refine below_set ?_ GE164.out) | exact HB.out))); (case side1 => exact Kd.C_below HR163_3.out (by repeat (first | (with_reducible first | exact HB.out | apply below_alloc | apply pw_below_drewN | apply below_drew1 | refine below_set ?_ GE164.out) | exact HB.out))); (case side2 => exact HC163_3.out); rintro e w26 ⟨rfl, hb⟩; refine ⟨_, rfl, ?_⟩; have n0_ := Aside0.mk (blk_below (g := gb164) (o := .cells #[.int .u8 ((rd_T31 l0 x15_2).f0), .int .u64 ((rd_T31 l0 x15_2).f1), .string ((rd_T31 l0 x15_2).f2), .slice A163_3 ((rd_T31 l0 x15_2).f3).length c163_3] 31 (0, 0)) (by (with_reducible repeat (first | refine blk_drewN ?_ _ | refine blk_drew ?_ | refine blk_alloc ?_ _)); refine blk_put (cs := #[.int .u8 ((rd_T31 l0 x15_2).f0), .int .u64 ((rd_T31 l0 x15_2).f1), .string ((rd_T31 l0 x15_2).f2), .slice none 0 0]) ?_ 3 _ rfl; (with_reducible repeat (first | refine blk_drewN ?_ _ | refine blk_drew ?_ | refine blk_alloc ?_ _)); refine blk_put (cs := #[.int .u8 ((rd_T31 l0 x15_2).f0), .int .u64 ((rd_T31 l0 x15_2).f1), .string (⟨#[]⟩ : ByteArray), .slice none 0 0]) ?_ 2 _ rfl; (with_reducible repeat (first | refine blk_drewN ?_ _ | refine blk_drew ?_ | refine blk_alloc ?_ _)); refine blk_put (cs := #[.int .u8 ((rd_T31 l0 x15_2).f0), .int .u64 0, .string (⟨#[]⟩ : ByteArray), .slice none 0 0]) ?_ 1 _ rfl; (with_reducible repeat (first | refine blk_drewN ?_ _ | refine blk_drew ?_ | refine blk_alloc ?_ _)); refine blk_put (cs := #[.int .u8 0, .int .u64 0, .string (⟨#[]⟩ : ByteArray), .slice none 0 0]) ?_ 0 _ rfl; (with_reducible repeat (first | refine blk_drewN ?_ _ | refine blk_drew ?_ | refine blk_alloc ?_ _)); exact BK164.out) hb); have n1_ := Aside0.mk (below_step (by repeat (first | (with_reducible first | exact HB.out | apply below_alloc | apply pw_below_drewN | apply below_drew1 | refine below_set ?_ GE164.out) | exact HB.out)) hb); clear BK164; clear HB; have BK164 := n0_; have HB := n1_; clear n0_ n1_; (try clear hb); (try clear hb2); (try clear hk); (try clear hi)))
         go_ret
         (unfold SmPost; exact ⟨_, rfl, (by repeat (first | (with_reducible first | exact HB.out | apply below_alloc | apply pw_below_drewN | apply below_drew1 | refine below_set ?_ GE164.out) | exact HB.out)), fun h => ⟨h, HX.out⟩⟩)
       ·rw [if_neg c9] at H
        exact absurd H (by simp)
      ·rw [if_neg c8] at H
       exact absurd H (by simp)
     ·rw [if_neg c7] at H
      have c7b0 : decide (x15_2 < (l0.length : Int)) = false := decide_eq_false c7
      clear c7
      replace H := Option.bind_eq_some_iff.mp H
      obtain ⟨t162, A270, H⟩ := H
      replace H : (some t162) = some r := H
      have A27 := Aside0.mk A270
      clear A270
      obtain rfl := Option.some.inj H
      go_wp2_with (first | ((with_reducible refine gate_callee (f := 14) rfl ?_); refine goesL_ (some 29) rfl rfl Tryd.func14 (by kernel_rfl) rfl #[.slice A0 l0.length c0] rfl (by (try simp only [List.map_toArray, List.map_cons, List.map_nil]); first | done | rfl | (simp only [List.length_drop, List.length_take]; rfl)) ?_; (with_reducible refine (spec_TidyAll.calls k2 _ _ l0 t162 _ ?sideT ?side1 ?side2 A27.out).mono ?_); (case sideT => exact Utf8Tabs_below hT (by repeat (first | (with_reducible first | exact HB.out | apply below_alloc | apply pw_below_drewN | apply below_drew1) | exact HB.out))); (case side1 => repeat (first | exact (Kd.C_below HR0.out HB.out) | (with_reducible refine Kd.C_alloc ?_ _) | (with_reducible refine Kd.C_drewN ?_ _) | (with_reducible refine Kd.C_drew ?_))); (case side2 => exact HC0.out); rintro e w28 ⟨rfl, hb⟩; refine ⟨_, rfl, ?_⟩; have n0_ := Aside0.mk (below_step (by repeat (first | (with_reducible first | exact HB.out | apply below_alloc | apply pw_below_drewN | apply below_drew1) | exact HB.out)) hb); clear HB; have HB := n0_; clear n0_; (try clear hb); (try clear hb2); (try clear hk); (try clear hi)))
      go_ret
      (unfold SmPost; exact ⟨_, rfl, (by repeat (first | (with_reducible first | exact HB.out | apply below_alloc | apply pw_below_drewN | apply below_drew1) | exact HB.out)), fun h => ⟨h, HX.out⟩⟩)

end Go.Proofs.YtboioihppjhjcaaDoor.MFnSgOf

namespace Go.Proofs.YtboioihppjhjcaaDoor.MFnSgOf
open Go.RowKit Go.Proofs.YtboioihppjhjcaaDoorW.PrintWords Go.Proofs.YtboioihppjhjcaaDoorW.PrintLast Go.Proofs.YtboioihppjhjcaaDoorW.PrintMore
attribute [local go_sem] max2_int min2_int max_two min_two max_three min_three max_four min_four
set_option linter.unusedVariables false
set_option linter.unusedSimpArgs false

open Go.Proofs.YtboioihppjhjcaaDoor.Hlp Go.Proofs.YtboioihppjhjcaaDoor.SgT Go.Proofs.YtboioihppjhjcaaDoor.SgZ Go.Proofs.YtboioihppjhjcaaDoor.MFnSgOfs Go.Proofs.YtboioihppjhjcaaDoor.MFnSgOfy
theorem kid_of {n : Nat} {l : List S31} {y : S31} (hy : y ∈ l) (hn : (nodesL l).length ≤ n) (hs : Sh l) : (nodes y).length ≤ n ∧ Sh [y] := by
  obtain ⟨p, q, rfl⟩ := List.append_of_mem hy
  rw [nodesL_app, nodesL] at hn
  simp only [List.length_append] at hn
  refine ⟨by omega, fun z hz => ?_⟩
  rw [nodesL, nodesL, List.append_nil] at hz
  exact hs z (by rw [nodesL_app, nodesL]; simp [hz])
theorem toV_mk (x : S31) : (⟨x.f0, x.f1, x.f2, toVL x.f3⟩ : S53) = toV x := by cases x; rw [toV]
/-- sgKeys's rows. -/
theorem ky_l1 (n : Nat) (L0 : List S31) (hk : ∀ x ∈ L0, ∃ b, Ev (fun k => laws_sgKeys.f k x.f0 x.f1 x.f2 x.f3) b ∧ (b = true → KY n x)) (hz : L0.length ≤ 1000) :
    ∀ d i : Nat, L0.length - i = d → i ≤ L0.length → ∃ r, Ev (fun k => laws_sgKeys.l1 k L0 (L0.length : Int) (i : Int)) r ∧ (r = true → ∀ y ∈ L0.drop i, KY n y) := by
  intro d
  induction d with
  | zero =>
    intro i hd hi
    refine ⟨true, Ev.step (f := fun _ => some true) (fun k => ?_) (Ev.now _), fun _ y hy => ?_⟩
    · simp only [laws_sgKeys.l1]; rw [if_neg (by omega)]
    · rw [List.drop_eq_nil_of_le (by omega)] at hy; cases hy
  | succ d ih =>
    intro i hd hi
    have hlt : i < L0.length := by omega
    have e : L0.drop i = L0[i] :: L0.drop (i + 1) := List.drop_eq_getElem_cons hlt
    obtain ⟨r, hr, hr2⟩ := ih (i + 1) (by omega) (by omega)
    obtain ⟨q, hq, hq2⟩ := hk _ (List.getElem_mem hlt)
    have ew : wrap64 ((i : Int) + 1) = ((i + 1 : Nat) : Int) := w64 (by omega) (by omega)
    have st : ∀ k, laws_sgKeys.l1 (k + 1) L0 (L0.length : Int) (i : Int) = (laws_sgKeys.f k L0[i].f0 L0[i].f1 L0[i].f2 L0[i].f3).bind fun t => (if t = true then (laws_sgKeys.l1 k L0 (L0.length : Int) ((i + 1 : Nat) : Int)) else (some false)) := by
      intro k; simp only [laws_sgKeys.l1, rd_drop hlt, ew]; rw [if_pos (by omega), if_pos (by omega), if_pos (by omega)]
    cases q with
    | true =>
      refine ⟨r, Ev.step st (Ev.bind hq (ev_ite_pos rfl (fun _ => rfl) hr)), fun h1 y hy => ?_⟩
      rw [e] at hy
      rcases List.mem_cons.mp hy with rfl | hy
      · exact hq2 rfl
      · exact hr2 h1 y hy
    | false => exact ⟨false, Ev.step st (Ev.bind hq (ev_ite_neg (by simp) (fun _ => rfl) (Ev.now _))), fun h => by cases h⟩
/-- sgKeys's text. -/
theorem ky_l0 (a b : Int) (s : ByteArray) (l : List S31) (hs : s.size ≤ 65536) (r1 : Bool) (h1 : Ev (fun k => laws_sgKeys.l1 k l (l.length : Int) 0) r1) :
    ∀ d i : Nat, s.size - i = d → i ≤ s.size → ∃ r, Ev (fun k => laws_sgKeys.l0 k (i : Int) a b s l) r ∧ (r = true → r1 = true ∧ (a = 97 → ∀ j : Nat, i ≤ j → j + 1 < s.size → ¬ (bt s (j : Int) = 123 ∧ (bt s ((j + 1 : Nat) : Int) = 98 ∨ bt s ((j + 1 : Nat) : Int) = 103)))) := by
  have stop : ∀ i : Nat, i ≤ s.size → ¬ (a = 97 ∧ i + 1 < s.size) → Ev (fun k => laws_sgKeys.l0 k (i : Int) a b s l) r1 := by
    intro i hi hn
    have ew : wrap64 ((i : Int) + 1) = ((i + 1 : Nat) : Int) := w64 (by omega) (by omega)
    refine Ev.step (f := fun k => laws_sgKeys.j1 k (i : Int) false a b s l) (fun k => ?_) (Ev.step (f := fun k => laws_sgKeys.l1 k l (l.length : Int) 0) (fun k => ?_) h1)
    · simp only [laws_sgKeys.l0, ew]
      by_cases ha : a = 97
      · rw [if_pos ha, decide_eq_false (by omega)]
      · rw [if_neg ha]
    · simp only [laws_sgKeys.j1]; rw [if_neg (by simp)]
  intro d
  induction d with
  | zero => intro i hd hi; exact ⟨r1, stop i hi (by omega), fun h => ⟨h, fun _ j h1 h2 => by omega⟩⟩
  | succ d ih =>
    intro i hd hi
    by_cases hgo : a = 97 ∧ i + 1 < s.size
    · obtain ⟨ha, hlt⟩ := hgo
      have ew : wrap64 ((i : Int) + 1) = ((i + 1 : Nat) : Int) := w64 (by omega) (by omega)
      have s0 : ∀ k, laws_sgKeys.l0 (k + 1) (i : Int) a b s l = laws_sgKeys.j1 k (i : Int) true a b s l := by
        intro k; simp only [laws_sgKeys.l0, ew]; rw [if_pos ha, decide_eq_true (by omega)]
      have s1 : ∀ k, laws_sgKeys.j1 (k + 1) (i : Int) true a b s l = if bt s (i : Int) = 123 then (if bt s ((i + 1 : Nat) : Int) = 98 then some false else (if bt s ((i + 1 : Nat) : Int) = 103 then some false else laws_sgKeys.l0 k ((i + 1 : Nat) : Int) a b s l)) else laws_sgKeys.l0 k ((i + 1 : Nat) : Int) a b s l := by
        intro k; simp only [laws_sgKeys.j1, ew]; rw [if_pos trivial, if_pos (by omega), if_pos (by omega)]
        by_cases h : bt s (i : Int) = 123
        · rw [if_pos h, if_pos h, if_pos (by omega), if_pos (by omega)]
        · rw [if_neg h, if_neg h]
      obtain ⟨r, hr, hr2⟩ := ih (i + 1) (by omega) (by omega)
      have more : (¬ (bt s (i : Int) = 123 ∧ (bt s ((i + 1 : Nat) : Int) = 98 ∨ bt s ((i + 1 : Nat) : Int) = 103))) → (r = true → r1 = true ∧ (a = 97 → ∀ j : Nat, i ≤ j → j + 1 < s.size → ¬ (bt s (j : Int) = 123 ∧ (bt s ((j + 1 : Nat) : Int) = 98 ∨ bt s ((j + 1 : Nat) : Int) = 103)))) := by
        intro h0 h1
        obtain ⟨p, q⟩ := hr2 h1
        refine ⟨p, fun ha j h2 h3 => ?_⟩
        by_cases hj : j = i
        · subst hj; exact h0
        · exact q ha j (by omega) h3
      by_cases h123 : bt s (i : Int) = 123
      · by_cases h98 : bt s ((i + 1 : Nat) : Int) = 98
        · exact ⟨false, Ev.step s0 (Ev.step s1 (ev_ite_pos h123 (fun _ => rfl) (ev_ite_pos h98 (fun _ => rfl) (Ev.now _)))), fun h => by cases h⟩
        · by_cases h103 : bt s ((i + 1 : Nat) : Int) = 103
          · exact ⟨false, Ev.step s0 (Ev.step s1 (ev_ite_pos h123 (fun _ => rfl) (ev_ite_neg h98 (fun _ => rfl) (ev_ite_pos h103 (fun _ => rfl) (Ev.now _))))), fun h => by cases h⟩
          · exact ⟨r, Ev.step s0 (Ev.step s1 (ev_ite_pos h123 (fun _ => rfl) (ev_ite_neg h98 (fun _ => rfl) (ev_ite_neg h103 (fun _ => rfl) hr)))), more (fun h => h.2.elim h98 h103)⟩
      · exact ⟨r, Ev.step s0 (Ev.step s1 (ev_ite_neg h123 (fun _ => rfl) hr)), more (fun h => h123 h.1)⟩
    · exact ⟨r1, stop i hi hgo, fun h => ⟨h, fun ha j h1 h2 => absurd ⟨ha, by omega⟩ hgo⟩⟩
theorem nk_of (s : ByteArray) (h : ∀ j : Nat, j + 1 < s.size → ¬ (bt s (j : Int) = 123 ∧ (bt s ((j + 1 : Nat) : Int) = 98 ∨ bt s ((j + 1 : Nat) : Int) = 103))) : NK (97 :: bl s) := by
  have key : ∀ (c : UInt8) (p q : List UInt8), 97 :: bl s = p ++ 123 :: c :: q → ∃ j : Nat, j + 1 < s.size ∧ bt s (j : Int) = 123 ∧ bt s ((j + 1 : Nat) : Int) = (c.toNat : Int) := by
    intro c p q e
    cases p with
    | nil => exact absurd (List.cons.inj e).1 (by decide)
    | cons d p =>
      have e2 : bl s = p ++ 123 :: c :: q := (List.cons.inj e).2
      refine ⟨p.length, ?_, ?_, ?_⟩
      · rw [← bl_len, e2]; simp only [List.length_append, List.length_cons]; omega
      · exact bt_drop (c := 123) (r := c :: q) (by rw [e2]; simp)
      · exact bt_drop (c := c) (r := q) (by rw [e2]; simp)
  intro p q
  refine ⟨fun e => ?_, fun e => ?_⟩
  · obtain ⟨j, h1, h2, h3⟩ := key 98 p q e
    exact h j h1 ⟨h2, .inl h3⟩
  · obtain ⟨j, h1, h2, h3⟩ := key 103 p q e
    exact h j h1 ⟨h2, .inr h3⟩
/-- What sgKeys says of a value that is small enough. -/
theorem ky_ev : ∀ n (x : S31), (nodes x).length ≤ n → (nodes x).length ≤ 1000 → Sh [x] → ∃ b, Ev (fun k => laws_sgKeys.f k x.f0 x.f1 x.f2 x.f3) b ∧ (b = true → KY n x) := by
  intro n
  induction n with
  | zero => intro x h; rw [nodes_eq] at h; simp at h
  | succ n ih =>
    intro x h hm hs
    obtain ⟨h1, h2, _⟩ := hs.cons
    rw [nodes_eq] at h hm
    simp only [List.length_cons] at h hm
    have hl := nodesL_len x.f3
    obtain ⟨r1, hr, hr2⟩ := ky_l1 n x.f3 (fun y hy => ih y (kid_of hy (by omega) h2).1 (kid_of hy (by omega) h2).1 (kid_of hy (Nat.le_refl _) h2).2) (by omega) _ 0 rfl (Nat.zero_le _)
    obtain ⟨r, hq, hq2⟩ := ky_l0 x.f0 x.f1 x.f2 x.f3 h1 r1 hr _ 0 rfl (Nat.zero_le _)
    refine ⟨r, Ev.step (f := fun k => laws_sgKeys.l0 k 0 x.f0 x.f1 x.f2 x.f3) (fun k => by simp only [laws_sgKeys.f]) hq, fun hb => ?_⟩
    obtain ⟨p, q⟩ := hq2 hb
    exact ⟨fun ha => nk_of x.f2 (fun j hj => q ha j (Nat.zero_le _) hj), fun y hy => hr2 p y (by rw [List.drop_zero]; exact hy)⟩
/-- The values' signatures, joined. -/
theorem ss_l0 (L0 : List S31) (hx : ∀ x ∈ L0, Ev (fun k => spec_SigOf.f k x.f0 x.f1 x.f2 x.f3) (sig x)) (hz : L0.length ≤ 1000) : ∀ (d i : Nat) (acc : ByteArray), L0.length - i = d → i ≤ L0.length →
    acc.size + (sigL (L0.drop i)).size ≤ 1000000000000 → Ev (fun k => spec_SigsOf.l0 k acc L0 (L0.length : Int) (i : Int)) (acc ++ sigL (L0.drop i)) := by
  intro d
  induction d with
  | zero =>
    intro i acc hd hi hs
    have e : L0.drop i = [] := List.drop_eq_nil_of_le (by omega)
    rw [e] at hs ⊢
    rw [sigL] at hs ⊢
    have e2 : acc ++ (⟨#[]⟩ : ByteArray) = acc := bl_ext (by rw [bl_append]; simp [bl])
    rw [e2]
    refine Ev.step (f := fun _ => some acc) (fun k => ?_) (Ev.now _)
    simp only [spec_SigsOf.l0]
    rw [if_neg (by omega)]
  | succ d ih =>
    intro i acc hd hi hs
    have hlt : i < L0.length := by omega
    have e : L0.drop i = L0[i] :: L0.drop (i + 1) := List.drop_eq_getElem_cons hlt
    rw [e] at hs ⊢
    rw [sigL] at hs ⊢
    rw [sz_app] at hs
    have h1 := hx _ (List.getElem_mem hlt)
    have h2 := ih (i + 1) (acc ++ sig L0[i]) (by omega) (by omega) (by rw [sz_app]; omega)
    have e2 : acc ++ (sig L0[i] ++ sigL (L0.drop (i + 1))) = acc ++ sig L0[i] ++ sigL (L0.drop (i + 1)) := bl_ext (by simp [bl_append])
    rw [e2]
    have ew : wrap64 ((i : Int) + 1) = ((i + 1 : Nat) : Int) := w64 (by omega) (by omega)
    have st : ∀ k, spec_SigsOf.l0 (k + 1) acc L0 (L0.length : Int) (i : Int) = (spec_SigOf.f k L0[i].f0 L0[i].f1 L0[i].f2 L0[i].f3).bind fun t => (if acc.size + t.size ≤ 9223372036854775807 then (spec_SigsOf.l0 k (acc ++ t) L0 (L0.length : Int) ((i + 1 : Nat) : Int)) else none) := by
      intro k
      simp only [spec_SigsOf.l0, rd_drop hlt, ew]
      rw [if_pos (by omega), if_pos (by omega), if_pos (by omega)]
    exact Ev.step st (Ev.bind h1 (ev_ite_pos (by omega) (fun _ => rfl) h2))
theorem ss_ev (L : List S31) (hn : (nodesL L).length ≤ 1000) (hs : Sh L) : Ev (fun k => spec_SigsOf.f k L) (sigL L) := by
  have hl := nodesL_len L
  have hz := sigL_size _ L (Nat.le_refl _) hs
  have := ss_l0 L (fun x hx => ev_sig _ x (Nat.le_refl _) (kid_of hx hn hs).1 (kid_of hx hn hs).2) (by omega) _ 0 ⟨#[]⟩ rfl (Nat.zero_le _) (by rw [List.drop_zero]; have : (⟨#[]⟩ : ByteArray).size = 0 := rfl; omega)
  rw [List.drop_zero] at this
  have e2 : (⟨#[]⟩ : ByteArray) ++ sigL L = sigL L := bl_ext (by rw [bl_append]; simp [bl])
  rw [e2] at this
  exact this
/-- TidyAll's rows. -/
theorem ta_l0 (L : List S31) (ht : ∀ x ∈ L, ∃ b, Ev (fun k => spec_Tidy.f k x.f0 x.f1 x.f2 x.f3) b) (hz : L.length ≤ 1000) (v : Bool) (hv : Ev (fun k => (spec_SigsOf.f k L).bind fun t159 => ((spec_Valid.f k t159).bind fun t160 => (some t160))) v) :
    ∀ d i : Nat, L.length - i = d → i ≤ L.length → ∃ r, Ev (fun k => spec_TidyAll.l0 k L L (L.length : Int) (i : Int)) r ∧ (r = true → v = true) := by
  intro d
  induction d with
  | zero =>
    intro i hd hi
    refine ⟨v, Ev.step (fun k => ?_) hv, id⟩
    simp only [spec_TidyAll.l0]; rw [if_neg (by omega)]
  | succ d ih =>
    intro i hd hi
    have hlt : i < L.length := by omega
    obtain ⟨r, hr, hr2⟩ := ih (i + 1) (by omega) (by omega)
    obtain ⟨q, hq⟩ := ht _ (List.getElem_mem hlt)
    have ew : wrap64 ((i : Int) + 1) = ((i + 1 : Nat) : Int) := w64 (by omega) (by omega)
    have st : ∀ k, spec_TidyAll.l0 (k + 1) L L (L.length : Int) (i : Int) = (spec_Tidy.f k L[i].f0 L[i].f1 L[i].f2 L[i].f3).bind fun t => (if t = true then (spec_TidyAll.l0 k L L (L.length : Int) ((i + 1 : Nat) : Int)) else (some false)) := by
      intro k; simp only [spec_TidyAll.l0, rd_drop hlt, ew]; rw [if_pos (by omega), if_pos (by omega), if_pos (by omega)]
    cases q with
    | true => exact ⟨r, Ev.step st (Ev.bind hq (ev_ite_pos rfl (fun _ => rfl) hr)), hr2⟩
    | false => exact ⟨false, Ev.step st (Ev.bind hq (ev_ite_neg (by simp) (fun _ => rfl) (Ev.now _))), fun h => by cases h⟩
theorem tidy_of {x : S31} (hn : (nodes x).length ≤ 300) (hs : Sh [x]) : ∃ b, Ev (fun k => spec_Tidy.f k x.f0 x.f1 x.f2 x.f3) b ∧ (b = true → x.f0 ≠ 123 ∧ VALID (bl (sig x)) ∧ TD 300 x) :=
  ti_ev 300 x (by omega) hs (td_ev 300 x hn (by omega) hs)
theorem ta_ev (L : List S31) (hn : (nodesL L).length ≤ 300) (hs : Sh L) : ∃ b, Ev (fun k => spec_TidyAll.f k L) b ∧ (b = true → VALID (bl (sigL L))) := by
  have hl := nodesL_len L
  have hz := sigL_size _ L (Nat.le_refl _) hs
  obtain ⟨v, hv, hv2⟩ := va_ev (sigL L) (by omega)
  obtain ⟨r, hr, hr2⟩ := ta_l0 L (fun x hx => by
    obtain ⟨b, hb, _⟩ := tidy_of (kid_of hx hn hs).1 (kid_of hx hn hs).2
    exact ⟨b, hb⟩) (by omega) v (Ev.bind (ss_ev L (by omega) hs) (Ev.bind hv (Ev.now _))) _ 0 rfl (Nat.zero_le _)
  exact ⟨r, hr, fun h => hv2 (hr2 h)⟩
/-- What sgSmall tells of a value. -/
def GV (x : S31) : Prop := x.f0 ≠ 123 ∧ VALID (bl (sig x)) ∧ TD 300 x ∧ KY 300 x
theorem sm_l0 (L : List S31) (hn : (nodesL L).length ≤ 300) (hs : Sh L) (v : Bool) (hv : Ev (fun k => (spec_TidyAll.f k L).bind fun t162 => (some t162)) v) :
    ∀ d i : Nat, L.length - i = d → i ≤ L.length → ∃ r, Ev (fun k => laws_sgSmall.l0 k L L (L.length : Int) (i : Int)) r ∧ (r = true → v = true ∧ ∀ x ∈ L.drop i, GV x) := by
  have hl := nodesL_len L
  intro d
  induction d with
  | zero =>
    intro i hd hi
    refine ⟨v, Ev.step (fun k => ?_) hv, fun h => ⟨h, fun y hy => ?_⟩⟩
    · simp only [laws_sgSmall.l0]; rw [if_neg (by omega)]
    · rw [List.drop_eq_nil_of_le (by omega)] at hy; cases hy
  | succ d ih =>
    intro i hd hi
    have hlt : i < L.length := by omega
    have e : L.drop i = L[i] :: L.drop (i + 1) := List.drop_eq_getElem_cons hlt
    obtain ⟨r, hr, hr2⟩ := ih (i + 1) (by omega) (by omega)
    have hm := List.getElem_mem hlt
    obtain ⟨p, hp, hp2⟩ := tidy_of (kid_of hm hn hs).1 (kid_of hm hn hs).2
    obtain ⟨q, hq, hq2⟩ := ky_ev 300 _ (kid_of hm hn hs).1 (by have := (kid_of hm hn hs).1; omega) (kid_of hm hn hs).2
    have ew : wrap64 ((i : Int) + 1) = ((i + 1 : Nat) : Int) := w64 (by omega) (by omega)
    have st : ∀ k, laws_sgSmall.l0 (k + 1) L L (L.length : Int) (i : Int) = (spec_Tidy.f k L[i].f0 L[i].f1 L[i].f2 L[i].f3).bind fun t => (if t = true then ((laws_sgKeys.f k L[i].f0 L[i].f1 L[i].f2 L[i].f3).bind fun u => (if u = true then (laws_sgSmall.l0 k L L (L.length : Int) ((i + 1 : Nat) : Int)) else (some false))) else (some false)) := by
      intro k; simp only [laws_sgSmall.l0, rd_drop hlt, ew]; rw [if_pos (by omega), if_pos (by omega), if_pos (by omega)]
    cases p with
    | true =>
      cases q with
      | true =>
        refine ⟨r, Ev.step st (Ev.bind hp (ev_ite_pos rfl (fun _ => rfl) (Ev.bind hq (ev_ite_pos rfl (fun _ => rfl) hr)))), fun h => ?_⟩
        obtain ⟨a, b⟩ := hr2 h
        refine ⟨a, fun y hy => ?_⟩
        rw [e] at hy
        rcases List.mem_cons.mp hy with rfl | hy
        · obtain ⟨h1, h2, h3⟩ := hp2 rfl
          exact ⟨h1, h2, h3, hq2 rfl⟩
        · exact b y hy
      | false => exact ⟨false, Ev.step st (Ev.bind hp (ev_ite_pos rfl (fun _ => rfl) (Ev.bind hq (ev_ite_neg (by simp) (fun _ => rfl) (Ev.now _))))), fun h => by cases h⟩
    | false => exact ⟨false, Ev.step st (Ev.bind hp (ev_ite_neg (by simp) (fun _ => rfl) (Ev.now _))), fun h => by cases h⟩
/-- What sgSmall tells. -/
theorem sm_ev (L : List S31) (h : FB L) : ∃ r, Ev (fun k => laws_sgSmall.l0 k L L (L.length : Int) 0) r ∧ (r = true → VALID (bl (sigL L)) ∧ ∀ x ∈ L, GV x) := by
  obtain ⟨_, h2, h3⟩ := h
  obtain ⟨v, hv, hv2⟩ := ta_ev L h2 h3
  obtain ⟨r, hr, hr2⟩ := sm_l0 L h2 h3 v (Ev.bind hv (Ev.now _)) _ 0 rfl (Nat.zero_le _)
  exact ⟨r, hr, fun h => ⟨hv2 (hr2 h).1, fun x hx => (hr2 h).2 x (by rw [List.drop_zero]; exact hx)⟩⟩
/-- The tree made anew. -/
theorem vi_l0 (a b : Int) (s : ByteArray) (L0 : List S31) (hx : ∀ x ∈ L0, Ev (fun k => impl_valIn.f k x.f0 x.f1 x.f2 x.f3) (x.f0, x.f1, x.f2, toVL x.f3)) (hz : L0.length ≤ 1000) : ∀ (d i : Nat) (acc : List S53), L0.length - i = d → i ≤ L0.length → acc.length = i →
    Ev (fun k => impl_valIn.l0 k L0 (L0.length : Int) (i : Int) a b s acc) (a, b, s, acc ++ toVL (L0.drop i)) := by
  intro d
  induction d with
  | zero =>
    intro i acc hd hi ha
    rw [List.drop_eq_nil_of_le (by omega), toVL, List.append_nil]
    refine Ev.step (f := fun _ => some (a, b, s, acc)) (fun k => ?_) (Ev.now _)
    simp only [impl_valIn.l0]
    rw [if_neg (by omega)]
  | succ d ih =>
    intro i acc hd hi ha
    have hlt : i < L0.length := by omega
    have e : L0.drop i = L0[i] :: L0.drop (i + 1) := List.drop_eq_getElem_cons hlt
    rw [e, toVL]
    have h1 := hx _ (List.getElem_mem hlt)
    have h2 := ih (i + 1) (acc ++ [toV L0[i]]) (by omega) (by omega) (by rw [List.length_append]; simp [ha])
    rw [List.append_assoc] at h2
    have ew : wrap64 ((i : Int) + 1) = ((i + 1 : Nat) : Int) := w64 (by omega) (by omega)
    have st : ∀ k, impl_valIn.l0 (k + 1) L0 (L0.length : Int) (i : Int) a b s acc = (impl_valIn.f k L0[i].f0 L0[i].f1 L0[i].f2 L0[i].f3).bind fun bt197 => (if acc.length < 2513169434916 then (impl_valIn.l0 k L0 (L0.length : Int) ((i + 1 : Nat) : Int) a b s (acc ++ [(⟨bt197.1, bt197.2.1, bt197.2.2.1, bt197.2.2.2⟩ : S53)])) else (none)) := by
      intro k
      simp only [impl_valIn.l0, rd_drop hlt, ew]
      rw [if_pos (by omega), if_pos (by omega), if_pos (by omega)]
    exact Ev.step st (Ev.bind h1 (ev_ite_pos (by omega) (fun _ => rfl) (by simp only [toV_mk]; exact h2)))
theorem vi_ev : ∀ n (x : S31), (nodes x).length ≤ n → (nodes x).length ≤ 1000 → Ev (fun k => impl_valIn.f k x.f0 x.f1 x.f2 x.f3) (x.f0, x.f1, x.f2, toVL x.f3) := by
  intro n
  induction n with
  | zero => intro x h; rw [nodes_eq] at h; simp at h
  | succ n ih =>
    intro x h hm
    rw [nodes_eq] at h hm
    simp only [List.length_cons] at h hm
    have hl := nodesL_len x.f3
    have kid : ∀ y ∈ x.f3, (nodes y).length ≤ (nodesL x.f3).length := fun y hy => by
      obtain ⟨p, q, e⟩ := List.append_of_mem hy
      rw [e, nodesL_app, nodesL]; simp only [List.length_append]; omega
    have := vi_l0 x.f0 x.f1 x.f2 x.f3 (fun y hy => ih y (by have := kid y hy; omega) (by have := kid y hy; omega)) (by omega) _ 0 [] rfl (Nat.zero_le _) rfl
    rw [List.drop_zero, List.nil_append] at this
    exact Ev.step (fun k => by simp only [impl_valIn.f]; rfl) this
theorem vs_l0 (L0 : List S31) (hn : (nodesL L0).length ≤ 1000) : ∀ (d i : Nat) (acc : List S53), L0.length - i = d → i ≤ L0.length → acc.length = i →
    Ev (fun k => impl_valsIn.l0 k acc L0 (L0.length : Int) (i : Int)) (acc ++ toVL (L0.drop i)) := by
  have hl := nodesL_len L0
  intro d
  induction d with
  | zero =>
    intro i acc hd hi ha
    rw [List.drop_eq_nil_of_le (by omega), toVL, List.append_nil]
    refine Ev.step (f := fun _ => some acc) (fun k => ?_) (Ev.now _)
    simp only [impl_valsIn.l0]
    rw [if_neg (by omega)]
  | succ d ih =>
    intro i acc hd hi ha
    have hlt : i < L0.length := by omega
    have e : L0.drop i = L0[i] :: L0.drop (i + 1) := List.drop_eq_getElem_cons hlt
    rw [e, toVL]
    have hk : (nodes L0[i]).length ≤ 1000 := by
      obtain ⟨p, q, e2⟩ := List.append_of_mem (List.getElem_mem hlt)
      have e3 := congrArg (fun l => (nodesL l).length) e2
      simp only [nodesL_app, nodesL, List.length_append] at e3
      omega
    have h1 := vi_ev _ L0[i] (Nat.le_refl _) hk
    have h2 := ih (i + 1) (acc ++ [toV L0[i]]) (by omega) (by omega) (by rw [List.length_append]; simp [ha])
    rw [List.append_assoc] at h2
    have ew : wrap64 ((i : Int) + 1) = ((i + 1 : Nat) : Int) := w64 (by omega) (by omega)
    have st : ∀ k, impl_valsIn.l0 (k + 1) acc L0 (L0.length : Int) (i : Int) = (impl_valIn.f k L0[i].f0 L0[i].f1 L0[i].f2 L0[i].f3).bind fun bt208 => (if acc.length < 2513169434916 then (impl_valsIn.l0 k (acc ++ [(⟨bt208.1, bt208.2.1, bt208.2.2.1, bt208.2.2.2⟩ : S53)]) L0 (L0.length : Int) ((i + 1 : Nat) : Int)) else (none)) := by
      intro k
      simp only [impl_valsIn.l0, rd_drop hlt, ew]
      rw [if_pos (by omega), if_pos (by omega), if_pos (by omega)]
    exact Ev.step st (Ev.bind h1 (ev_ite_pos (by omega) (fun _ => rfl) (by simp only [toV_mk]; exact h2)))
theorem vs_ev (L : List S31) (hn : (nodesL L).length ≤ 1000) : Ev (fun k => impl_valsIn.f k L) (toVL L) := by
  have := vs_l0 L hn _ 0 [] rfl (Nat.zero_le _) rfl
  rw [List.drop_zero, List.nil_append] at this
  exact this
theorem nodesL_mem {y : S31} : ∀ {l : List S31}, y ∈ nodesL l → ∃ z ∈ l, y ∈ nodes z
  | [], h => by rw [nodesL] at h; cases h
  | x :: r, h => by
    rw [nodesL] at h
    rcases List.mem_append.mp h with h | h
    · exact ⟨x, by simp, h⟩
    · obtain ⟨z, h1, h2⟩ := nodesL_mem h
      exact ⟨z, by simp [h1], h2⟩
theorem nodes_le : ∀ n (x : S31), (nodes x).length ≤ n → ∀ y ∈ nodes x, (nodes y).length ≤ (nodes x).length := by
  intro n
  induction n with
  | zero => intro x h; rw [nodes_eq] at h; simp at h
  | succ n ih =>
    intro x h y hy
    have e := nodes_eq x
    rw [e] at hy
    rcases List.mem_cons.mp hy with rfl | hy
    · exact Nat.le_refl _
    · obtain ⟨z, h1, h2⟩ := nodesL_mem hy
      have h3 : (nodes z).length ≤ (nodesL x.f3).length := by
        obtain ⟨p, q, e⟩ := List.append_of_mem h1
        rw [e, nodesL_app, nodesL]; simp only [List.length_append]; omega
      rw [e] at h ⊢
      simp only [List.length_cons] at h ⊢
      have := ih z (by omega) y h2
      omega
theorem rows_le {x : S31} (h : (nodes x).length ≤ 300) : ∀ y ∈ nodes x, y.f3.length ≤ 1000 := fun y hy => by
  have h1 := nodes_le _ x (Nat.le_refl _) y hy
  rw [nodes_eq y] at h1
  have := nodesL_len y.f3
  simp only [List.length_cons] at h1
  omega
/-- The values that sgSmall lets in, as rows of the door with their signatures and types. -/
theorem vts_of : ∀ L : List S31, (nodesL L).length ≤ 300 → (∀ x ∈ L, GV x) → ∃ zs, VTs (toVL L) zs ∧ Bs (zs.map Prod.fst).flatten = sigL L ∧ zs.map Prod.fst = L.map (fun x => bl (sig x)) := by
  have key : ∀ L : List S31, (nodesL L).length ≤ 300 → (∀ x ∈ L, GV x) → ∃ zs : List (List UInt8 × List UInt8), zs.map Prod.fst = L.map (fun x => bl (sig x)) ∧ (∀ (j : Nat) y z, (toVL L)[j]? = some y → zs[j]? = some z → VT 300 y z.1 z.2) ∧ (∀ z ∈ zs, Z 32 32 32 z.1 z.2 ∧ z.1.length ≤ 255) := by
    intro L
    induction L with
    | nil => intro _ _; exact ⟨[], rfl, fun j y z h => by rw [toVL] at h; simp at h, fun z h => by cases h⟩
    | cons x r ih =>
      intro hn hg
      rw [nodesL, List.length_append] at hn
      obtain ⟨zs, h1, h2, h3⟩ := ih (by omega) (fun y hy => hg y (List.mem_cons_of_mem _ hy))
      obtain ⟨g1, g2, g3, g4⟩ := hg x (by simp)
      obtain ⟨t, hz, hv⟩ := vt_of 300 x 32 32 32 g3 g4 g1 (by omega) (rows_le (by omega)) (by omega) (by omega) (by omega) (sig32 g3 g1 (by omega) g2) g2.1
      refine ⟨(bl (sig x), t) :: zs, by simp [h1], fun j y z h4 h5 => ?_, fun z hz2 => ?_⟩
      · rw [toVL] at h4
        cases j with
        | zero => simp at h4 h5; subst h4; subst h5; exact hv
        | succ j => simp at h4 h5; exact h2 j y z h4 h5
      · rcases List.mem_cons.mp hz2 with rfl | hz2
        · exact ⟨hz, g2.1⟩
        · exact h3 z hz2
  intro L hn hg
  obtain ⟨zs, h1, h2, h3⟩ := key L hn hg
  have hl := nodesL_len L
  have hlen : zs.length = L.length := by have := congrArg List.length h1; simpa using this
  have hVL : (toVL L).length = L.length := by rw [toVL_map, List.length_map]
  refine ⟨zs, ⟨by rw [hVL, hlen], by rw [hVL]; omega, fun j y z a b => ⟨300, h2 j y z a b⟩, h3, ?_⟩, ?_, h1⟩
  · have : ∀ zs : List (List UInt8 × List UInt8), (∀ z ∈ zs, z.1.length ≤ 255) → (zs.map Prod.fst).flatten.length ≤ 255 * zs.length := by
      intro zs
      induction zs with
      | nil => intro _; simp
      | cons z r ih =>
        intro h
        have h4 := ih (fun y hy => h y (List.mem_cons_of_mem _ hy))
        have h5 := h z (by simp)
        simp only [List.map_cons, List.flatten_cons, List.length_append, List.length_cons]
        omega
    have := this zs (fun z hz => (h3 z hz).2)
    omega
  · rw [h1]
    have : ∀ L : List S31, (L.map (fun x => bl (sig x))).flatten = bl (sigL L) := by
      intro L
      induction L with
      | nil => rw [sigL]; rfl
      | cons x r ih => rw [sigL, bl_append, List.map_cons, List.flatten_cons, ih]
    rw [this]
    exact (Bs_bl2 _).symm

end Go.Proofs.YtboioihppjhjcaaDoor.MFnSgOf

namespace Go.Proofs.YtboioihppjhjcaaDoor.MFnSgOf
open Go.RowKit Go.Proofs.YtboioihppjhjcaaDoorW.PrintWords Go.Proofs.YtboioihppjhjcaaDoorW.PrintLast Go.Proofs.YtboioihppjhjcaaDoorW.PrintMore
attribute [local go_sem] max2_int min2_int max_two min_two max_three min_three max_four min_four
set_option linter.unusedVariables false
set_option linter.unusedSimpArgs false

open Go.Proofs.YtboioihppjhjcaaDoor.Hlp Go.Proofs.YtboioihppjhjcaaDoor.SgT Go.Proofs.YtboioihppjhjcaaDoor.SgZ Go.Proofs.YtboioihppjhjcaaDoor.MFnSgOfs Go.Proofs.YtboioihppjhjcaaDoor.MFnSgOfy
/-- What the law's guard is to give. -/
theorem small_ev (L : List S31) : ∃ k r, (FB L → laws_sgSmall.l0 k L L (L.length : Int) 0 = some r) ∧ (r = true → FB L → VALID (bl (sigL L)) ∧ ∀ x ∈ L, GV x) := by
  by_cases h : FB L
  · obtain ⟨r, hr, h2⟩ := sm_ev L h
    obtain ⟨k, hk⟩ := hr.rounds
    exact ⟨k, r, fun _ => hk, fun h _ => h2 h⟩
  · exact ⟨0, false, fun h2 => absurd h2 h, fun h => by cases h⟩
end Go.Proofs.YtboioihppjhjcaaDoor.MFnSgOf

namespace Go.Proofs.YtboioihppjhjcaaDoor.MFnSgOf
open Go.RowKit Go.Proofs.YtboioihppjhjcaaDoorW.PrintWords Go.Proofs.YtboioihppjhjcaaDoorW.PrintLast Go.Proofs.YtboioihppjhjcaaDoorW.PrintMore
attribute [local go_sem] max2_int min2_int max_two min_two max_three min_three max_four min_four
set_option linter.unusedVariables false
set_option linter.unusedSimpArgs false

section
open Go Go.Deep Go.ChangeShapes Go.WideShapes
instance : Inhabited S31 := ⟨z31⟩
variable {H : Type} {enc : TypeId × Value → H} {P : Program} {w : World} {base : Nat} {spare : Nat → Bool} {held : Bool}
/-- How a slice that came in reads in memory, for any kind of its elements; of these with fewer rounds. -/
theorem open_C {α : Type} [Inhabited α] (d : Kd α) {t e : TypeId} (ht : P.underlying t = some (.slice e)) (hc : P.cellsOf e = d.sz)
    {fuel : Nat} {cs : List Value} {x : DataW H × List MemPlace}
    (hel : ∀ (n : Nat), n < fuel → ∀ (cs : List Value) (y : DataW H × List MemPlace), DataW.trod enc P w base spare held n e cs = some y → ∃ x, d.K w x cs)
    (h : DataW.trod enc P w base spare held fuel t cs = some x) :
    ∃ (A : Option Addr) (xs : List α) (c : Nat), cs = [.slice A xs.length c] ∧ xs.length ≤ c ∧ d.C w A xs.length xs := by
  rcases DataW.trod_slice ht h with h0 | ⟨a, len, cap, elems, rest, n, rfl, rfl, _, hb, hl, hm, hlen0, hx, _, _⟩
  · exact ⟨none, [], 0, h0.1, Nat.le_refl _, rfl, Nat.zero_le _, fun h => absurd h (Nat.lt_irrefl _)⟩
  · have each : ∀ i, i < len → ∃ q : α, ∃ c, c.length = d.sz ∧ d.K w q c ∧ ∀ j u, c[j]? = some u → w.cell? (a.add (i * d.sz + j)) = some u := by
      intro i hi
      have h3 := hx i hi
      rw [List.getElem?_eq_getElem (by omega)] at h3
      obtain ⟨cs', h1, h2⟩ := Option.bind_eq_some_iff.mp h3
      obtain ⟨q, hq⟩ := hel n (Nat.lt_succ_self n) cs' _ h2
      rw [hc] at h1
      obtain ⟨_, hlen, hcell⟩ := World.cells?_some h1
      refine ⟨q, cs', hlen, hq, fun j u hu => ?_⟩
      have hj : j < d.sz := by have := (List.getElem?_eq_some_iff.1 hu).1; omega
      have := hcell j hj
      rw [Deep.add_add] at this
      rw [this, hu]
    obtain ⟨q, hq⟩ := choose_lt each
    refine ⟨some a, (List.range len).map q, cap, by simp, by simpa using hl, by simp, by simp; unfold maxLen at hm; omega, fun _ => ⟨a, rfl, fun j p hj => ?_⟩⟩
    have hjl : j < len := by have := (List.getElem?_eq_some_iff.1 hj).1; simpa using this
    have hp : p = q j := by simp [hjl] at hj; exact hj.symm
    subst hp
    exact hq j hjl
set_option maxRecDepth 100000 in
/-- How a value that came in reads in memory. -/
theorem el31 : ∀ (n : Nat) (cs : List Value) (y : DataW H × List MemPlace), DataW.trod enc Tryd.prog w base spare held n 31 cs = some y → ∃ x, k31.K w x cs := by
  intro n
  induction n using Nat.strongRecOn with
  | _ n ih =>
  intro cs y h
  obtain ⟨xs, m, rfl, _, hl, hxl, hf⟩ := DataW.trod_struct Tryd.underlying31 h
  have e31 : Tryd.prog.cellsOf 31 = 4 := by kernel_rfl
  have e5 : Tryd.prog.cellsOf 5 = 1 := by kernel_rfl
  have e29 : Tryd.prog.cellsOf 29 = 1 := by kernel_rfl
  have e9 : Tryd.prog.cellsOf 9 = 1 := by kernel_rfl
  have e22 : Tryd.prog.cellsOf 22 = 1 := by kernel_rfl
  rw [e31] at hl
  match cs, hl, xs, hxl with
  | [v0, v1, v2, v3], _, [y0, y1, y2, y3], _ =>
    have g0 := hf 0 _ rfl
    have g1 := hf 1 _ rfl
    have g2 := hf 2 _ rfl
    have g3 := hf 3 _ rfl
    simp only [e5, e29, e9, e22, List.drop_succ_cons, List.drop_zero, List.take_succ_cons, List.take_zero, List.getElem?_cons_zero, List.getElem?_cons_succ] at g0 g1 g2 g3
    obtain ⟨a, ha, _, _⟩ := DataW.trod_int Tryd.underlying5 g0
    obtain ⟨b, hb, _, _⟩ := DataW.trod_int Tryd.underlying29 g1
    obtain ⟨s, hs, _⟩ := DataW.trod_string Tryd.underlying9 g2
    obtain ⟨A, rows, c, hc, hle, hC⟩ := open_C k31 Tryd.underlying22 e31 (fun n' hn' => ih n' (by omega)) g3
    injection ha with ha
    injection hb with hb
    injection hs with hs
    injection hc with hc
    subst ha hb hs hc
    exact ⟨⟨a, b, s, rows⟩, k31_mk w ⟨a, b, s, rows⟩ hle hC⟩
end

end Go.Proofs.YtboioihppjhjcaaDoor.MFnSgOf

namespace Go.Proofs.YtboioihppjhjcaaDoor.MFnSgOf
open Go.RowKit Go.Proofs.YtboioihppjhjcaaDoorW.PrintWords Go.Proofs.YtboioihppjhjcaaDoorW.PrintLast Go.Proofs.YtboioihppjhjcaaDoorW.PrintMore
attribute [local go_sem] max2_int min2_int max_two min_two max_three min_three max_four min_four   -- for this text's walks alone
set_option linter.unusedVariables false
set_option linter.unusedSimpArgs false

/-! ### dbus_ParseSignature: function 18 -/
-- GIVENTEXT
def dbus_ParseSignature.l : Nat → Option (TypeId × Value) → ByteArray → Option (Option (TypeId × Value))
 | 0, _, _ => none
 | k + 1, e, s => if e.isSome = true then some e else if s.size = 0 then some none else (dbus_validSingle.g k s 0 0 0).bind fun x => dbus_ParseSignature.l k x.1 x.2
def dbus_ParseSignature.f (k : Nat) (a0 : ByteArray) : Option (ByteArray × Option (TypeId × Value)) :=
 if a0.size = 0 then some (⟨#[]⟩, none)
 else if 255 < a0.size then some (⟨#[]⟩, dbus_validSingle.er a0 ⟨#[116, 111, 111, 32, 108, 111, 110, 103]⟩)
 else (dbus_ParseSignature.l k none a0).bind fun e => if e.isSome = true then some (⟨#[]⟩, e) else some (a0, e)
set_option maxHeartbeats 2000000 in
set_option maxRecDepth 100000 in
theorem dbus_ParseSignature.calls (k : Nat) (a0 : ByteArray) (r1 : ByteArray) (r2 : Option (TypeId × Value)) (w : World) (h : dbus_ParseSignature.f k a0 = some (r1, r2)) :
  Calls Tryd.prog 18 #[.string a0] w fun e w' => e = .returned (.tuple #[.agg #[.string r1], errW r2]) ∧ Below w.heap.size w w' := by
 have hu := Tryd.underlying43
 have hu2 := Tryd.underlying57
 have hu3 := Tryd.underlying62
 have HB := Aside0.mk (Below.refl w.heap.size w)
 unfold dbus_ParseSignature.f at h
 by_cases c1 : a0.size = 0
 ·rw [if_pos c1] at h
  obtain ⟨rfl, rfl⟩ := Prod.mk.inj (Option.some.inj h)
  have b1 : ((a0.size : Int) == 0) = true := by rw [beq_iff_eq]; omega
  clear c1 h
  go_enter Tryd.func18, Tryd.ntmps18
  go_wp2
  exact bodyPost_ret (v := .tuple #[.agg #[.string ⟨#[]⟩], .nilIface]) (by simp [results, Tryd.results18, go_sem, hu]) rfl ⟨rfl, by repeat (first | (with_reducible first | exact HB.out | apply below_alloc | apply pw_below_drewN | apply below_drew1) | exact HB.out)⟩
 ·rw [if_neg c1] at h
  have b1 : ((a0.size : Int) == 0) = false := by rw [beq_eq_false_iff_ne]; omega
  by_cases c2 : 255 < a0.size
  ·rw [if_pos c2] at h
   obtain ⟨rfl, rfl⟩ := Prod.mk.inj (Option.some.inj h)
   have b2 : decide ((255 : Int) < (a0.size : Int)) = true := decide_eq_true (by omega)
   have b3 : decide (255 < a0.size) = true := decide_eq_true c2
   clear c1 c2 h
   go_enter Tryd.func18, Tryd.ntmps18
   go_wp2
   exact bodyPost_ret (v := .tuple #[.agg #[.string ⟨#[]⟩], errW (dbus_validSingle.er a0 ⟨#[116, 111, 111, 32, 108, 111, 110, 103]⟩)]) (by simp [results, Tryd.results18, go_sem, hu]; rfl) rfl ⟨rfl, by repeat (first | (with_reducible first | exact HB.out | apply below_alloc | apply pw_below_drewN | apply below_drew1) | exact HB.out)⟩
  ·rw [if_neg c2] at h
   have b2 : decide ((255 : Int) < (a0.size : Int)) = false := decide_eq_false (by omega)
   have b3 : decide (255 < a0.size) = false := decide_eq_false c2
   clear c1 c2
   have h' := Option.bind_eq_some_iff.mp h
   clear h
   obtain ⟨ev, hl, hr⟩ := h'
   have HL := Aside0.mk hl
   have HR := Aside0.mk hr
   clear hl hr
   go_enter Tryd.func18, Tryd.ntmps18
   go_wp2
   go_loopg [0, 3] k (fun kq v0 v3 w' => ∃ (t : ByteArray) (e : Option (TypeId × Value)), v0 = .string t ∧ v3 = errW e ∧ Aside0 (dbus_ParseSignature.l kq e t = some ev) ∧ Aside0 (w'.cell? ⟨w.heap.size, 0, none⟩ = some (.string a0)) ∧ Aside0 (w'.frozen? ⟨w.heap.size, 0, none⟩ = false) ∧ Aside0 (w.heap.size < w'.heap.size) ∧ Aside0 (Below w.heap.size w w'))
   case atStart => exact ⟨_, none, rfl, rfl, HL, ⟨by simp⟩, ⟨by simp⟩, ⟨by simp⟩, ⟨by repeat (first | (with_reducible first | exact HB.out | apply below_alloc | apply pw_below_drewN | apply below_drew1) | exact HB.out)⟩⟩
   case round =>
    clear HL HB b1 b2 b3
    obtain ⟨t, e, rfl, rfl, HL, HC, HZ, HS, HB⟩ := hrel
    cases gk with
    | zero => exact absurd HL.out (by simp [dbus_ParseSignature.l])
    | succ k2 =>
    have h := HL.out
    clear HL
    simp only [dbus_ParseSignature.l] at h
    cases e with
    | some x =>
     simp only [Option.isSome_some, if_true] at h
     obtain rfl := Option.some.inj h
     have hr := HR.out
     clear h HR
     simp only [Option.isSome_some, if_true] at hr
     obtain ⟨rfl, rfl⟩ := Prod.mk.inj (Option.some.inj hr)
     clear hr
     have hc := HC.out
     have hz := HZ.out
     simp only [errW_some]
     go_wp2
     exact bodyPost_ret (v := .tuple #[.agg #[.string ⟨#[]⟩], .iface x.1 x.2]) (by simp [results, Tryd.results18, go_sem, hu, hc]) rfl ⟨rfl, below_set HB.out (Nat.le_refl _)⟩
    | none =>
     simp only [Option.isSome_none, Bool.false_eq_true, if_false] at h
     simp only [errW_none]
     by_cases cy : t.size = 0
     ·rw [if_pos cy] at h
      obtain rfl := Option.some.inj h
      have hr := HR.out
      clear h HR
      simp only [Option.isSome_none, Bool.false_eq_true, if_false] at hr
      obtain ⟨rfl, rfl⟩ := Prod.mk.inj (Option.some.inj hr)
      have e2 : ((t.size : Int) != 0) = false := by simp [cy]
      clear hr cy
      have hc := HC.out
      have hz := HZ.out
      go_wp2
      exact bodyPost_ret (v := .tuple #[.agg #[.string a0], .nilIface]) (by simp [results, Tryd.results18, go_sem, hu, hc]) rfl ⟨rfl, by repeat (first | (with_reducible first | exact HB.out | apply below_alloc | apply pw_below_drewN | apply below_drew1) | exact HB.out)⟩
     ·rw [if_neg cy] at h
      have e2 : ((t.size : Int) != 0) = true := by rw [bne_iff_ne]; omega
      have h' := Option.bind_eq_some_iff.mp h
      clear h cy
      obtain ⟨⟨x1, x2⟩, hx, h⟩ := h'
      have HX := Aside0.mk hx
      have HH := Aside0.mk h
      clear h hx
      go_wp2_with (first | (go_at_call 28; refine (dbus_validSingle.core k2 _ wr.heap.size 0 0 0 x1 x2 _ (by simp) (by simp) (by simp) HX.out).mono ?_; rintro e w6 ⟨rfl, hb⟩; have hb2 := Aside0.mk (below_step (by repeat (first | (with_reducible first | exact HB.out | apply below_alloc | apply pw_below_drewN | apply below_drew1) | exact HB.out)) hb); have hbw := Aside0.mk (below_step (below_alloc (Below.refl wr.heap.size wr) _) hb); clear HB hb))
      go_roundg k2
      case measure => omega
      case rel => exact ⟨x2, x1, rfl, rfl, HH, ⟨(hbw.out.cell (p := ⟨w.heap.size, 0, none⟩) HS.out).trans HC.out⟩, ⟨(hbw.out.frozen (p := ⟨w.heap.size, 0, none⟩) HS.out).trans HZ.out⟩, ⟨Nat.lt_of_lt_of_le HS.out hbw.out.size⟩, hb2⟩

/-! ### dbus_Signature_String: function 19 -/
def dbus_Signature_String.f (a0_0 : ByteArray) : Option (ByteArray) := some a0_0
set_option maxHeartbeats 8000000 in
set_option maxRecDepth 100000 in
theorem dbus_Signature_String.calls (a0_0 : ByteArray) (r : ByteArray) (w : World) (h : dbus_Signature_String.f a0_0 = some r) :
  Calls Tryd.prog 19 #[.agg #[.string a0_0]] w fun e w' => e = .returned (.string r) ∧ Below w.heap.size w w' := by
 have hu43 := Tryd.underlying43
 have HB := Aside0.mk (Below.refl w.heap.size w)
 have H : (some a0_0) = some r := h
 clear h
 obtain rfl := Option.some.inj H
 go_enter Tryd.func19, Tryd.ntmps19
 go_wp2_with (first | ((with_reducible refine gate_dst (N := 1) rfl ?_); refine box_event ?hg (N := 1) ?hd (cs := #[.string a0_0]) (t := 43) ?hr ?_; (case hd => rfl); (case hg => rfl); (case hr => first | (go_simp; done) | (go_simp; rfl)); intro gb224 hg w2 hbox hb; have n0_ := Aside0.mk (below_step (by repeat (first | (with_reducible first | exact HB.out | apply below_alloc | apply pw_below_drewN | apply below_drew1) | exact HB.out)) hb); have n1_ := Aside0.mk (hbox); have n2_ := Aside0.mk ((by rw [hg]; exact (below_size (by repeat (first | (with_reducible first | exact HB.out | apply below_alloc | apply pw_below_drewN | apply below_drew1) | exact HB.out))) : w.heap.size ≤ gb224)); have n3_ := Aside0.mk ((by rw [hg]; exact (below_size (by repeat (first | (with_reducible first | exact HB.out | apply below_alloc | apply pw_below_drewN | apply below_drew1) | exact HB.out))) : w.heap.size ≤ gb224)); clear HB; have HB := n0_; have BK224 := n1_; have GW224 := n2_; have GE224 := n3_; clear n0_ n1_ n2_ n3_; clear hb hbox hg; have hcz3_0 : w2.cell? ⟨gb224, 0, none⟩ = some (.string a0_0) := (blk_cell BK224.out 0).trans rfl; have hfz3_0 := blk_frozen BK224.out 0))
 go_ret
 exact ⟨by first | rfl | (simp [errW_none, errW_some] <;> rfl) | (simp [*, errW_none, errW_some] <;> rfl) | (simp (disch := omega) only [wrap64_id] <;> rfl), by repeat (first | (with_reducible first | exact HB.out | apply below_alloc | apply pw_below_drewN | apply below_drew1 | refine below_set ?_ GE224.out) | exact HB.out)⟩

/-! ### impl_SgParse: function 8 -/
def impl_SgParse.f (k : Nat) (a0 : ByteArray) : Option (ByteArray × Bool) := (dbus_ParseSignature.f k a0).bind fun bt225 => ((dbus_Signature_String.f bt225.1).bind fun t228 => (if bt225.2.isNone = true then (some (t228, true)) else (some (t228, false))))
set_option maxHeartbeats 8000000 in
set_option maxRecDepth 100000 in
theorem impl_SgParse.calls (k : Nat) (a0 : ByteArray) (r1 : ByteArray) (r2 : Bool) (w : World) (h : impl_SgParse.f k a0 = some (r1, r2)) :
  Calls Tryd.prog 8 #[.string a0] w fun e w' => e = .returned (.tuple #[.string r1, .bool r2]) ∧ Below w.heap.size w w' := by
 have hu43 := Tryd.underlying43
 have hu36 := Tryd.underlying36
 have HB := Aside0.mk (Below.refl w.heap.size w)
 have H : ((dbus_ParseSignature.f k a0).bind fun bt225 => ((dbus_Signature_String.f bt225.1).bind fun t228 => (if bt225.2.isNone = true then (some (t228, true)) else (some (t228, false))))) = some (r1, r2) := h
 clear h
 replace H := Option.bind_eq_some_iff.mp H
 obtain ⟨⟨t225, t226⟩, A20, H⟩ := H
 replace H : ((dbus_Signature_String.f t225).bind fun t228 => (if t226.isNone = true then (some (t228, true)) else (some (t228, false)))) = some (r1, r2) := H
 have A2 := Aside0.mk A20
 clear A20
 replace H := Option.bind_eq_some_iff.mp H
 obtain ⟨t228, A30, H⟩ := H
 replace H : (if t226.isNone = true then (some (t228, true)) else (some (t228, false))) = some (r1, r2) := H
 have A3 := Aside0.mk A30
 clear A30
 rcases t226 with _ | q229
 ·have H1 : (some (t228, true)) = some (r1, r2) := by rw [if_pos (show (none : Option (TypeId × Value)).isNone = true by rfl)] at H; exact H
  clear H
  have H := H1
  clear H1
  try simp only [errW_none, errW_some]
  simp only [Option.some.injEq, Prod.mk.injEq] at H
  obtain ⟨rfl, rfl⟩ := H
  go_enter Tryd.func8, Tryd.ntmps8
  try go_wp2_with (first | ((with_reducible refine gate_callee (f := 18) rfl ?_); refine goesL_ (some 8) rfl rfl Tryd.func18 (by kernel_rfl) rfl #[.string a0] rfl (by (try simp only [List.map_toArray, List.map_cons, List.map_nil]); first | done | rfl | (simp only [List.length_drop, List.length_take]; rfl)) ?_; (with_reducible refine (dbus_ParseSignature.calls k a0 t225 none _ A2.out).mono ?_); rintro e w4 ⟨rfl, hb⟩; refine ⟨_, rfl, ?_⟩; have n0_ := Aside0.mk (below_step (by repeat (first | (with_reducible first | exact HB.out | apply below_alloc | apply pw_below_drewN | apply below_drew1) | exact HB.out)) hb); clear HB; have HB := n0_; clear n0_; (try clear hb); (try clear hb2); (try clear hk); (try clear hi); (try simp only [errW_none, errW_some])) | ((with_reducible refine gate_dst (N := 4) rfl ?_); refine box_event ?hg (N := 4) ?hd (cs := #[.string (⟨#[]⟩ : ByteArray)]) (t := 43) ?hr ?_; (case hd => rfl); (case hg => rfl); (case hr => first | (go_simp; done) | (go_simp; rfl)); intro gb227 hg w5 hbox hb; have n0_ := Aside0.mk (below_step (by repeat (first | (with_reducible first | exact HB.out | apply below_alloc | apply pw_below_drewN | apply below_drew1) | exact HB.out)) hb); have n1_ := Aside0.mk (hbox); have n2_ := Aside0.mk ((by rw [hg]; exact (below_size (by repeat (first | (with_reducible first | exact HB.out | apply below_alloc | apply pw_below_drewN | apply below_drew1) | exact HB.out))) : w.heap.size ≤ gb227)); have n3_ := Aside0.mk ((by rw [hg]; exact (below_size (by repeat (first | (with_reducible first | exact HB.out | apply below_alloc | apply pw_below_drewN | apply below_drew1) | exact HB.out))) : w.heap.size ≤ gb227)); clear HB; have HB := n0_; have BK227 := n1_; have GW227 := n2_; have GE227 := n3_; clear n0_ n1_ n2_ n3_; clear hb hbox hg; have hcz6_0 : w5.cell? ⟨gb227, 0, none⟩ = some (.string (⟨#[]⟩ : ByteArray)) := (blk_cell BK227.out 0).trans rfl; have hfz6_0 := blk_frozen BK227.out 0))
  have n0_ : Aside0 ((w5.setCell ⟨gb227, 0, none⟩ (.string t225)).heap[gb227]? = some (.cells #[.string t225] 43 (0, 0))) := ⟨by (with_reducible repeat (first | refine blk_drewN ?_ _ | refine blk_drew ?_ | refine blk_alloc ?_ _)); refine blk_put (cs := #[.string (⟨#[]⟩ : ByteArray)]) ?_ 0 _ rfl; (with_reducible repeat (first | refine blk_drewN ?_ _ | refine blk_drew ?_ | refine blk_alloc ?_ _)); exact BK227.out⟩
  have n1_ : Aside0 (Below w.heap.size w (w5.setCell ⟨gb227, 0, none⟩ (.string t225))) := ⟨by repeat (first | (with_reducible first | exact HB.out | apply below_alloc | apply pw_below_drewN | apply below_drew1 | refine below_set ?_ GE227.out) | exact HB.out)⟩
  (try clear BK227)
  (try clear HB)
  generalize (w5.setCell ⟨gb227, 0, none⟩ (.string t225)) = w7 at n0_ n1_ ⊢
  have BK227 := n0_
  have HB := n1_
  clear n0_ n1_
  have n0_ := Aside0.mk (blk_drew BK227.out)
  have n1_ := Aside0.mk (below_drew1 HB.out)
  clear BK227
  clear HB
  have BK227 := n0_
  have HB := n1_
  clear n0_ n1_
  refine start_ (n := 6) (S := fun w' => w'.cell? ⟨gb227, 0, none⟩ = some (.string t225)) (ds := []) #[false, false, false, false, false, false] (by kernel_rfl) rfl rfl ((blk_cell BK227.out 0).trans rfl) (fun hHeld => ?_)
  generalize w7.drew = w8 at BK227 HB hHeld ⊢
  refine pure_ (i := 2) (N := some 13) (v := ?_) (a' := ?_) #[false, false, true, false, false, false] rfl rfl (by kernel_rfl) (fun _ _ _ h => h) (Or.inl ⟨by rfl, ?_⟩) ?_ ?_
  rotate_left
  ·intro w'
   go_simp
   with_reducible rfl
  rotate_left
  ·simp only [Act.put, List.setIfInBounds_toArray, List.set_cons_zero, List.set_cons_succ, i64_w, i32_w]
   rfl
  refine pure_ (i := 3) (N := some 14) (v := ?_) (a' := ?_) #[false, false, true, true, false, false] rfl rfl (by kernel_rfl) (fun _ _ _ h => h) (Or.inl ⟨by rfl, ?_⟩) ?_ ?_
  rotate_left
  ·intro w'
   go_simp
   with_reducible rfl
  rotate_left
  ·simp only [Act.put, List.setIfInBounds_toArray, List.set_cons_zero, List.set_cons_succ, i64_w, i32_w]
   rfl
  refine take_ (i := 0) (N := some 11) (v := ?_) (a' := ?_) #[true, false, true, true, false, false] rfl rfl (by kernel_rfl) (fun _ _ _ h => h) (Or.inl ⟨by rfl, ?_⟩) hHeld ?_ ?_
  rotate_left
  ·intro w' s0
   go_simp
   with_reducible rfl
  rotate_left
  ·simp only [Act.put, List.setIfInBounds_toArray, List.set_cons_zero, List.set_cons_succ, i64_w, i32_w]
   rfl
  refine one_ (i := 1) (N := some 12) #[true, true, true, true, false, false] rfl rfl (by kernel_rfl) (by decide) (fun K hK => ?_)
  refine goes_ Tryd.func19 (by kernel_rfl) rfl #[.agg #[.string t225]] (by rfl) rfl rfl (by (try simp only [List.map_toArray, List.map_cons, List.map_nil]); first | done | rfl | (simp only [List.length_drop, List.length_take]; rfl)) ?_
  with_reducible refine (dbus_Signature_String.calls t225 t228 _ A3.out).mono ?_
  rintro e w9 ⟨rfl, hb⟩
  refine ⟨_, rfl, ?_⟩
  have n0_ := Aside0.mk (blk_below (g := gb227) (o := .cells #[.string t225] 43 (0, 0)) (by (with_reducible repeat (first | refine blk_drewN ?_ _ | refine blk_drew ?_ | refine blk_alloc ?_ _)); exact BK227.out) hb)
  have n1_ := Aside0.mk (below_step (by repeat (first | (with_reducible first | exact HB.out | apply below_alloc | apply pw_below_drewN | apply below_drew1 | refine below_set ?_ GE227.out) | exact HB.out)) hb)
  clear BK227
  clear HB
  have BK227 := n0_
  have HB := n1_
  clear n0_ n1_
  (try clear hb)
  (try clear hb2)
  (try clear hk)
  (try clear hi)
  refine hK.out _ _ ((blk_cell BK227.out 0).trans rfl) (fun hHeld => ?_)
  clear hK K
  refine norm_ (a' := ?_) ?_ ?_
  rotate_left
  ·show Act.put _ (some 12) _ = _
   simp only [Act.put, List.setIfInBounds_toArray, List.set_cons_zero, List.set_cons_succ, i64_w, i32_w]
   rfl
  refine pure_ (i := 4) (N := some 2) (v := ?_) (a' := ?_) #[true, true, true, true, true, false] rfl rfl (by kernel_rfl) (fun _ _ _ h => h) (Or.inl ⟨by rfl, ?_⟩) ?_ ?_
  rotate_left
  ·intro w'
   go_simp
   with_reducible rfl
  rotate_left
  ·simp only [Act.put, List.setIfInBounds_toArray, List.set_cons_zero, List.set_cons_succ, i64_w, i32_w]
   rfl
  refine pure_ (i := 5) (N := some 3) (v := ?_) (a' := ?_) #[true, true, true, true, true, true] rfl rfl (by kernel_rfl) (fun _ _ _ h => h) (Or.inl ⟨by rfl, ?_⟩) ?_ ?_
  rotate_left
  ·intro w'
   go_simp
   with_reducible rfl
  rotate_left
  ·simp only [Act.put, List.setIfInBounds_toArray, List.set_cons_zero, List.set_cons_succ, i64_w, i32_w]
   rfl
  refine done_ (by kernel_rfl) ?_
  try go_wp2
  go_ret2
  exact ⟨by first | rfl | (simp [errW_none, errW_some] <;> rfl) | (simp [*, errW_none, errW_some] <;> rfl) | (simp (disch := omega) only [wrap64_id] <;> rfl), by repeat (first | (with_reducible first | exact HB.out | apply below_alloc | apply pw_below_drewN | apply below_drew1 | refine below_set ?_ GE227.out) | exact HB.out)⟩
 ·have H1 : (some (t228, false)) = some (r1, r2) := by rw [if_neg (show ¬ (some q229).isNone = true by simp)] at H; exact H
  clear H
  have H := H1
  clear H1
  try simp only [errW_none, errW_some]
  simp only [Option.some.injEq, Prod.mk.injEq] at H
  obtain ⟨rfl, rfl⟩ := H
  go_enter Tryd.func8, Tryd.ntmps8
  try go_wp2_with (first | ((with_reducible refine gate_callee (f := 18) rfl ?_); refine goesL_ (some 8) rfl rfl Tryd.func18 (by kernel_rfl) rfl #[.string a0] rfl (by (try simp only [List.map_toArray, List.map_cons, List.map_nil]); first | done | rfl | (simp only [List.length_drop, List.length_take]; rfl)) ?_; (with_reducible refine (dbus_ParseSignature.calls k a0 t225 (some q229) _ A2.out).mono ?_); rintro e w10 ⟨rfl, hb⟩; refine ⟨_, rfl, ?_⟩; have n0_ := Aside0.mk (below_step (by repeat (first | (with_reducible first | exact HB.out | apply below_alloc | apply pw_below_drewN | apply below_drew1) | exact HB.out)) hb); clear HB; have HB := n0_; clear n0_; (try clear hb); (try clear hb2); (try clear hk); (try clear hi); (try simp only [errW_none, errW_some])) | ((with_reducible refine gate_dst (N := 4) rfl ?_); refine box_event ?hg (N := 4) ?hd (cs := #[.string (⟨#[]⟩ : ByteArray)]) (t := 43) ?hr ?_; (case hd => rfl); (case hg => rfl); (case hr => first | (go_simp; done) | (go_simp; rfl)); intro gb227 hg w11 hbox hb; have n0_ := Aside0.mk (below_step (by repeat (first | (with_reducible first | exact HB.out | apply below_alloc | apply pw_below_drewN | apply below_drew1) | exact HB.out)) hb); have n1_ := Aside0.mk (hbox); have n2_ := Aside0.mk ((by rw [hg]; exact (below_size (by repeat (first | (with_reducible first | exact HB.out | apply below_alloc | apply pw_below_drewN | apply below_drew1) | exact HB.out))) : w.heap.size ≤ gb227)); have n3_ := Aside0.mk ((by rw [hg]; exact (below_size (by repeat (first | (with_reducible first | exact HB.out | apply below_alloc | apply pw_below_drewN | apply below_drew1) | exact HB.out))) : w.heap.size ≤ gb227)); clear HB; have HB := n0_; have BK227 := n1_; have GW227 := n2_; have GE227 := n3_; clear n0_ n1_ n2_ n3_; clear hb hbox hg; have hcz12_0 : w11.cell? ⟨gb227, 0, none⟩ = some (.string (⟨#[]⟩ : ByteArray)) := (blk_cell BK227.out 0).trans rfl; have hfz12_0 := blk_frozen BK227.out 0))
  have n0_ : Aside0 ((w11.setCell ⟨gb227, 0, none⟩ (.string t225)).heap[gb227]? = some (.cells #[.string t225] 43 (0, 0))) := ⟨by (with_reducible repeat (first | refine blk_drewN ?_ _ | refine blk_drew ?_ | refine blk_alloc ?_ _)); refine blk_put (cs := #[.string (⟨#[]⟩ : ByteArray)]) ?_ 0 _ rfl; (with_reducible repeat (first | refine blk_drewN ?_ _ | refine blk_drew ?_ | refine blk_alloc ?_ _)); exact BK227.out⟩
  have n1_ : Aside0 (Below w.heap.size w (w11.setCell ⟨gb227, 0, none⟩ (.string t225))) := ⟨by repeat (first | (with_reducible first | exact HB.out | apply below_alloc | apply pw_below_drewN | apply below_drew1 | refine below_set ?_ GE227.out) | exact HB.out)⟩
  (try clear BK227)
  (try clear HB)
  generalize (w11.setCell ⟨gb227, 0, none⟩ (.string t225)) = w13 at n0_ n1_ ⊢
  have BK227 := n0_
  have HB := n1_
  clear n0_ n1_
  have n0_ := Aside0.mk (blk_drew BK227.out)
  have n1_ := Aside0.mk (below_drew1 HB.out)
  clear BK227
  clear HB
  have BK227 := n0_
  have HB := n1_
  clear n0_ n1_
  refine start_ (n := 6) (S := fun w' => w'.cell? ⟨gb227, 0, none⟩ = some (.string t225)) (ds := []) #[false, false, false, false, false, false] (by kernel_rfl) rfl rfl ((blk_cell BK227.out 0).trans rfl) (fun hHeld => ?_)
  generalize w13.drew = w14 at BK227 HB hHeld ⊢
  refine pure_ (i := 2) (N := some 13) (v := ?_) (a' := ?_) #[false, false, true, false, false, false] rfl rfl (by kernel_rfl) (fun _ _ _ h => h) (Or.inl ⟨by rfl, ?_⟩) ?_ ?_
  rotate_left
  ·intro w'
   go_simp
   with_reducible rfl
  rotate_left
  ·simp only [Act.put, List.setIfInBounds_toArray, List.set_cons_zero, List.set_cons_succ, i64_w, i32_w]
   rfl
  refine pure_ (i := 3) (N := some 14) (v := ?_) (a' := ?_) #[false, false, true, true, false, false] rfl rfl (by kernel_rfl) (fun _ _ _ h => h) (Or.inl ⟨by rfl, ?_⟩) ?_ ?_
  rotate_left
  ·intro w'
   go_simp
   with_reducible rfl
  rotate_left
  ·simp only [Act.put, List.setIfInBounds_toArray, List.set_cons_zero, List.set_cons_succ, i64_w, i32_w]
   rfl
  refine take_ (i := 0) (N := some 11) (v := ?_) (a' := ?_) #[true, false, true, true, false, false] rfl rfl (by kernel_rfl) (fun _ _ _ h => h) (Or.inl ⟨by rfl, ?_⟩) hHeld ?_ ?_
  rotate_left
  ·intro w' s0
   go_simp
   with_reducible rfl
  rotate_left
  ·simp only [Act.put, List.setIfInBounds_toArray, List.set_cons_zero, List.set_cons_succ, i64_w, i32_w]
   rfl
  refine one_ (i := 1) (N := some 12) #[true, true, true, true, false, false] rfl rfl (by kernel_rfl) (by decide) (fun K hK => ?_)
  refine goes_ Tryd.func19 (by kernel_rfl) rfl #[.agg #[.string t225]] (by rfl) rfl rfl (by (try simp only [List.map_toArray, List.map_cons, List.map_nil]); first | done | rfl | (simp only [List.length_drop, List.length_take]; rfl)) ?_
  with_reducible refine (dbus_Signature_String.calls t225 t228 _ A3.out).mono ?_
  rintro e w15 ⟨rfl, hb⟩
  refine ⟨_, rfl, ?_⟩
  have n0_ := Aside0.mk (blk_below (g := gb227) (o := .cells #[.string t225] 43 (0, 0)) (by (with_reducible repeat (first | refine blk_drewN ?_ _ | refine blk_drew ?_ | refine blk_alloc ?_ _)); exact BK227.out) hb)
  have n1_ := Aside0.mk (below_step (by repeat (first | (with_reducible first | exact HB.out | apply below_alloc | apply pw_below_drewN | apply below_drew1 | refine below_set ?_ GE227.out) | exact HB.out)) hb)
  clear BK227
  clear HB
  have BK227 := n0_
  have HB := n1_
  clear n0_ n1_
  (try clear hb)
  (try clear hb2)
  (try clear hk)
  (try clear hi)
  refine hK.out _ _ ((blk_cell BK227.out 0).trans rfl) (fun hHeld => ?_)
  clear hK K
  refine norm_ (a' := ?_) ?_ ?_
  rotate_left
  ·show Act.put _ (some 12) _ = _
   simp only [Act.put, List.setIfInBounds_toArray, List.set_cons_zero, List.set_cons_succ, i64_w, i32_w]
   rfl
  refine pure_ (i := 4) (N := some 2) (v := ?_) (a' := ?_) #[true, true, true, true, true, false] rfl rfl (by kernel_rfl) (fun _ _ _ h => h) (Or.inl ⟨by rfl, ?_⟩) ?_ ?_
  rotate_left
  ·intro w'
   go_simp
   with_reducible rfl
  rotate_left
  ·simp only [Act.put, List.setIfInBounds_toArray, List.set_cons_zero, List.set_cons_succ, i64_w, i32_w]
   rfl
  refine pure_ (i := 5) (N := some 3) (v := ?_) (a' := ?_) #[true, true, true, true, true, true] rfl rfl (by kernel_rfl) (fun _ _ _ h => h) (Or.inl ⟨by rfl, ?_⟩) ?_ ?_
  rotate_left
  ·intro w'
   go_simp
   with_reducible rfl
  rotate_left
  ·simp only [Act.put, List.setIfInBounds_toArray, List.set_cons_zero, List.set_cons_succ, i64_w, i32_w]
   rfl
  refine done_ (by kernel_rfl) ?_
  try go_wp2
  go_ret2
  exact ⟨by first | rfl | (simp [errW_none, errW_some] <;> rfl) | (simp [*, errW_none, errW_some] <;> rfl) | (simp (disch := omega) only [wrap64_id] <;> rfl), by repeat (first | (with_reducible first | exact HB.out | apply below_alloc | apply pw_below_drewN | apply below_drew1 | refine below_set ?_ GE227.out) | exact HB.out)⟩

/-! ### dbus_Signature_Empty: function 20 -/
def dbus_Signature_Empty.f (a0_0 : ByteArray) : Option (Bool) := some (a0_0.toList == ([] : List UInt8))
set_option maxHeartbeats 8000000 in
set_option maxRecDepth 100000 in
theorem dbus_Signature_Empty.calls (a0_0 : ByteArray) (r : Bool) (w : World) (h : dbus_Signature_Empty.f a0_0 = some r) :
  Calls Tryd.prog 20 #[.agg #[.string a0_0]] w fun e w' => e = .returned (.bool r) ∧ Below w.heap.size w w' := by
 have hu43 := Tryd.underlying43
 have HB := Aside0.mk (Below.refl w.heap.size w)
 have H : (some (a0_0.toList == ([] : List UInt8))) = some r := h
 clear h
 obtain rfl := Option.some.inj H
 go_enter Tryd.func20, Tryd.ntmps20
 go_wp2_with (first | ((with_reducible refine gate_dst (N := 1) rfl ?_); refine box_event ?hg (N := 1) ?hd (cs := #[.string a0_0]) (t := 43) ?hr ?_; (case hd => rfl); (case hg => rfl); (case hr => first | (go_simp; done) | (go_simp; rfl)); intro gb230 hg w2 hbox hb; have n0_ := Aside0.mk (below_step (by repeat (first | (with_reducible first | exact HB.out | apply below_alloc | apply pw_below_drewN | apply below_drew1) | exact HB.out)) hb); have n1_ := Aside0.mk (hbox); have n2_ := Aside0.mk ((by rw [hg]; exact (below_size (by repeat (first | (with_reducible first | exact HB.out | apply below_alloc | apply pw_below_drewN | apply below_drew1) | exact HB.out))) : w.heap.size ≤ gb230)); have n3_ := Aside0.mk ((by rw [hg]; exact (below_size (by repeat (first | (with_reducible first | exact HB.out | apply below_alloc | apply pw_below_drewN | apply below_drew1) | exact HB.out))) : w.heap.size ≤ gb230)); clear HB; have HB := n0_; have BK230 := n1_; have GW230 := n2_; have GE230 := n3_; clear n0_ n1_ n2_ n3_; clear hb hbox hg; have hcz3_0 : w2.cell? ⟨gb230, 0, none⟩ = some (.string a0_0) := (blk_cell BK230.out 0).trans rfl; have hfz3_0 := blk_frozen BK230.out 0))
 go_ret
 exact ⟨by first | rfl | (simp [errW_none, errW_some] <;> rfl) | (simp [*, errW_none, errW_some] <;> rfl) | (simp (disch := omega) only [wrap64_id] <;> rfl), by repeat (first | (with_reducible first | exact HB.out | apply below_alloc | apply pw_below_drewN | apply below_drew1 | refine below_set ?_ GE230.out) | exact HB.out)⟩

/-! ### impl_SgEmpty: function 9 -/
def impl_SgEmpty.f (k : Nat) (a0 : ByteArray) : Option (Bool) := (dbus_ParseSignature.f k a0).bind fun bt231 => (if bt231.2.isNone = true then ((dbus_Signature_Empty.f bt231.1).bind fun t235 => (some t235)) else (some false))
set_option maxHeartbeats 8000000 in
set_option maxRecDepth 100000 in
theorem impl_SgEmpty.calls (k : Nat) (a0 : ByteArray) (r : Bool) (w : World) (h : impl_SgEmpty.f k a0 = some r) :
  Calls Tryd.prog 9 #[.string a0] w fun e w' => e = .returned (.bool r) ∧ Below w.heap.size w w' := by
 have hu43 := Tryd.underlying43
 have hu36 := Tryd.underlying36
 have HB := Aside0.mk (Below.refl w.heap.size w)
 have H : ((dbus_ParseSignature.f k a0).bind fun bt231 => (if bt231.2.isNone = true then ((dbus_Signature_Empty.f bt231.1).bind fun t235 => (some t235)) else (some false))) = some r := h
 clear h
 replace H := Option.bind_eq_some_iff.mp H
 obtain ⟨⟨t231, t232⟩, A20, H⟩ := H
 replace H : (if t232.isNone = true then ((dbus_Signature_Empty.f t231).bind fun t235 => (some t235)) else (some false)) = some r := H
 have A2 := Aside0.mk A20
 clear A20
 rcases t232 with _ | q234
 ·have H1 : ((dbus_Signature_Empty.f t231).bind fun t235 => (some t235)) = some r := by rw [if_pos (show (none : Option (TypeId × Value)).isNone = true by rfl)] at H; exact H
  clear H
  have H := H1
  clear H1
  try simp only [errW_none, errW_some]
  replace H := Option.bind_eq_some_iff.mp H
  obtain ⟨t235, A30, H⟩ := H
  replace H : (some t235) = some r := H
  have A3 := Aside0.mk A30
  clear A30
  obtain rfl := Option.some.inj H
  go_enter Tryd.func9, Tryd.ntmps9
  go_wp2_with (first | ((with_reducible refine gate_callee (f := 18) rfl ?_); refine goesL_ (some 7) rfl rfl Tryd.func18 (by kernel_rfl) rfl #[.string a0] rfl (by (try simp only [List.map_toArray, List.map_cons, List.map_nil]); first | done | rfl | (simp only [List.length_drop, List.length_take]; rfl)) ?_; (with_reducible refine (dbus_ParseSignature.calls k a0 t231 none _ A2.out).mono ?_); rintro e w4 ⟨rfl, hb⟩; refine ⟨_, rfl, ?_⟩; have n0_ := Aside0.mk (below_step (by repeat (first | (with_reducible first | exact HB.out | apply below_alloc | apply pw_below_drewN | apply below_drew1) | exact HB.out)) hb); clear HB; have HB := n0_; clear n0_; (try clear hb); (try clear hb2); (try clear hk); (try clear hi); (try simp only [errW_none, errW_some])) | ((with_reducible refine gate_dst (N := 3) rfl ?_); refine box_event ?hg (N := 3) ?hd (cs := #[.string (⟨#[]⟩ : ByteArray)]) (t := 43) ?hr ?_; (case hd => rfl); (case hg => rfl); (case hr => first | (go_simp; done) | (go_simp; rfl)); intro gb233 hg w5 hbox hb; have n0_ := Aside0.mk (below_step (by repeat (first | (with_reducible first | exact HB.out | apply below_alloc | apply pw_below_drewN | apply below_drew1) | exact HB.out)) hb); have n1_ := Aside0.mk (hbox); have n2_ := Aside0.mk ((by rw [hg]; exact (below_size (by repeat (first | (with_reducible first | exact HB.out | apply below_alloc | apply pw_below_drewN | apply below_drew1) | exact HB.out))) : w.heap.size ≤ gb233)); have n3_ := Aside0.mk ((by rw [hg]; exact (below_size (by repeat (first | (with_reducible first | exact HB.out | apply below_alloc | apply pw_below_drewN | apply below_drew1) | exact HB.out))) : w.heap.size ≤ gb233)); clear HB; have HB := n0_; have BK233 := n1_; have GW233 := n2_; have GE233 := n3_; clear n0_ n1_ n2_ n3_; clear hb hbox hg; have hcz6_0 : w5.cell? ⟨gb233, 0, none⟩ = some (.string (⟨#[]⟩ : ByteArray)) := (blk_cell BK233.out 0).trans rfl; have hfz6_0 := blk_frozen BK233.out 0) | (go_at_call 20; (with_reducible refine (dbus_Signature_Empty.calls t231 t235 _ A3.out).mono ?_); rintro e w7 ⟨rfl, hb⟩; have n0_ := Aside0.mk (blk_below (g := gb233) (o := .cells #[.string t231] 43 (0, 0)) (by (with_reducible repeat (first | refine blk_drewN ?_ _ | refine blk_drew ?_ | refine blk_alloc ?_ _)); refine blk_put (cs := #[.string (⟨#[]⟩ : ByteArray)]) ?_ 0 _ rfl; (with_reducible repeat (first | refine blk_drewN ?_ _ | refine blk_drew ?_ | refine blk_alloc ?_ _)); exact BK233.out) hb); have n1_ := Aside0.mk (below_step (by repeat (first | (with_reducible first | exact HB.out | apply below_alloc | apply pw_below_drewN | apply below_drew1 | refine below_set ?_ GE233.out) | exact HB.out)) hb); clear BK233; clear HB; have BK233 := n0_; have HB := n1_; clear n0_ n1_; (try clear hb); (try clear hb2); (try clear hk); (try clear hi)))
  go_ret
  exact ⟨by first | rfl | (simp [errW_none, errW_some] <;> rfl) | (simp [*, errW_none, errW_some] <;> rfl) | (simp (disch := omega) only [wrap64_id] <;> rfl), by repeat (first | (with_reducible first | exact HB.out | apply below_alloc | apply pw_below_drewN | apply below_drew1 | refine below_set ?_ GE233.out) | exact HB.out)⟩
 ·have H1 : (some false) = some r := by rw [if_neg (show ¬ (some q234).isNone = true by simp)] at H; exact H
  clear H
  have H := H1
  clear H1
  try simp only [errW_none, errW_some]
  obtain rfl := Option.some.inj H
  go_enter Tryd.func9, Tryd.ntmps9
  go_wp2_with (first | ((with_reducible refine gate_callee (f := 18) rfl ?_); refine goesL_ (some 7) rfl rfl Tryd.func18 (by kernel_rfl) rfl #[.string a0] rfl (by (try simp only [List.map_toArray, List.map_cons, List.map_nil]); first | done | rfl | (simp only [List.length_drop, List.length_take]; rfl)) ?_; (with_reducible refine (dbus_ParseSignature.calls k a0 t231 (some q234) _ A2.out).mono ?_); rintro e w8 ⟨rfl, hb⟩; refine ⟨_, rfl, ?_⟩; have n0_ := Aside0.mk (below_step (by repeat (first | (with_reducible first | exact HB.out | apply below_alloc | apply pw_below_drewN | apply below_drew1) | exact HB.out)) hb); clear HB; have HB := n0_; clear n0_; (try clear hb); (try clear hb2); (try clear hk); (try clear hi); (try simp only [errW_none, errW_some])) | ((with_reducible refine gate_dst (N := 3) rfl ?_); refine box_event ?hg (N := 3) ?hd (cs := #[.string (⟨#[]⟩ : ByteArray)]) (t := 43) ?hr ?_; (case hd => rfl); (case hg => rfl); (case hr => first | (go_simp; done) | (go_simp; rfl)); intro gb233 hg w9 hbox hb; have n0_ := Aside0.mk (below_step (by repeat (first | (with_reducible first | exact HB.out | apply below_alloc | apply pw_below_drewN | apply below_drew1) | exact HB.out)) hb); have n1_ := Aside0.mk (hbox); have n2_ := Aside0.mk ((by rw [hg]; exact (below_size (by repeat (first | (with_reducible first | exact HB.out | apply below_alloc | apply pw_below_drewN | apply below_drew1) | exact HB.out))) : w.heap.size ≤ gb233)); have n3_ := Aside0.mk ((by rw [hg]; exact (below_size (by repeat (first | (with_reducible first | exact HB.out | apply below_alloc | apply pw_below_drewN | apply below_drew1) | exact HB.out))) : w.heap.size ≤ gb233)); clear HB; have HB := n0_; have BK233 := n1_; have GW233 := n2_; have GE233 := n3_; clear n0_ n1_ n2_ n3_; clear hb hbox hg; have hcz10_0 : w9.cell? ⟨gb233, 0, none⟩ = some (.string (⟨#[]⟩ : ByteArray)) := (blk_cell BK233.out 0).trans rfl; have hfz10_0 := blk_frozen BK233.out 0))
  go_ret
  exact ⟨by first | rfl | (simp [errW_none, errW_some] <;> rfl) | (simp [*, errW_none, errW_some] <;> rfl) | (simp (disch := omega) only [wrap64_id] <;> rfl), by repeat (first | (with_reducible first | exact HB.out | apply below_alloc | apply pw_below_drewN | apply below_drew1 | refine below_set ?_ GE233.out) | exact HB.out)⟩

/-! ### dbus_DoorBegin: function 21 -/
-- GIVENTEXT
def dbus_DoorBegin.f (k : Nat) (a0 : ByteArray) (a1 a2 a3 : Int) : Option (ByteArray × Option (TypeId × Value)) := (dbus_validSingle.g k a0 a1 a2 a3).bind fun x => some (x.2, x.1)
set_option maxHeartbeats 2000000 in
set_option maxRecDepth 100000 in
theorem dbus_DoorBegin.calls (k : Nat) (a0 : ByteArray) (a1 a2 a3 : Int) (r1 : ByteArray) (r2 : Option (TypeId × Value)) (w : World) (h : dbus_DoorBegin.f k a0 a1 a2 a3 = some (r1, r2)) :
  Calls Tryd.prog 21 #[.string a0, .int .i64 a1, .int .i64 a2, .int .i64 a3] w fun e w' => e = .returned (.tuple #[.string r1, errW r2]) ∧ Below w.heap.size w w' := by
 have hu3 := Tryd.underlying62
 have HB := Aside0.mk (Below.refl w.heap.size w)
 obtain ⟨⟨x1, x2⟩, hx, h⟩ := Option.bind_eq_some_iff.mp h
 obtain ⟨rfl, rfl⟩ := Prod.mk.inj (Option.some.inj h)
 have HX := Aside0.mk hx
 clear h hx
 go_enter Tryd.func21, Tryd.ntmps21
 go_wp2_with (first | (go_at_call 28; refine (dbus_validSingle.core k _ w.heap.size a1 a2 a3 x1 x2 _ (by simp) (by simp) (by simp) HX.out).mono ?_; rintro e w6 ⟨rfl, hb⟩; have hb2 := Aside0.mk (below_step (by repeat (first | (with_reducible first | exact HB.out | apply below_alloc | apply pw_below_drewN | apply below_drew1) | exact HB.out)) hb); clear HB hb))
 go_ret2
 exact ⟨rfl, hb2.out⟩

/-! ### impl_SgBegin: function 10 -/
def impl_SgBegin.f (k : Nat) (a0 : ByteArray) (a1 : Int) (a2 : Int) (a3 : Int) : Option (ByteArray × Bool) := (dbus_DoorBegin.f k a0 a1 a2 a3).bind fun bt236 => (if bt236.2.isNone = true then (some (bt236.1, true)) else (some (bt236.1, false)))
set_option maxHeartbeats 8000000 in
set_option maxRecDepth 100000 in
theorem impl_SgBegin.calls (k : Nat) (a0 : ByteArray) (a1 : Int) (a2 : Int) (a3 : Int) (r1 : ByteArray) (r2 : Bool) (w : World) (h : impl_SgBegin.f k a0 a1 a2 a3 = some (r1, r2)) :
  Calls Tryd.prog 10 #[.string a0, .int .i64 a1, .int .i64 a2, .int .i64 a3] w fun e w' => e = .returned (.tuple #[.string r1, .bool r2]) ∧ Below w.heap.size w w' := by
 have hu36 := Tryd.underlying36
 have HB := Aside0.mk (Below.refl w.heap.size w)
 have H : ((dbus_DoorBegin.f k a0 a1 a2 a3).bind fun bt236 => (if bt236.2.isNone = true then (some (bt236.1, true)) else (some (bt236.1, false)))) = some (r1, r2) := h
 clear h
 replace H := Option.bind_eq_some_iff.mp H
 obtain ⟨⟨t236, t237⟩, A50, H⟩ := H
 replace H : (if t237.isNone = true then (some (t236, true)) else (some (t236, false))) = some (r1, r2) := H
 have A5 := Aside0.mk A50
 clear A50
 rcases t237 with _ | q238
 ·have H1 : (some (t236, true)) = some (r1, r2) := by rw [if_pos (show (none : Option (TypeId × Value)).isNone = true by rfl)] at H; exact H
  clear H
  have H := H1
  clear H1
  try simp only [errW_none, errW_some]
  simp only [Option.some.injEq, Prod.mk.injEq] at H
  obtain ⟨rfl, rfl⟩ := H
  go_enter Tryd.func10, Tryd.ntmps10
  go_wp2_with (first | (go_at_call 21; (with_reducible refine (dbus_DoorBegin.calls k a0 a1 a2 a3 t236 none _ A5.out).mono ?_); rintro e w6 ⟨rfl, hb⟩; have n0_ := Aside0.mk (below_step (by repeat (first | (with_reducible first | exact HB.out | apply below_alloc | apply pw_below_drewN | apply below_drew1) | exact HB.out)) hb); clear HB; have HB := n0_; clear n0_; (try clear hb); (try clear hb2); (try clear hk); (try clear hi); (try simp only [errW_none, errW_some])))
  repeat (go_quiet (first | (go_at_call 21; (with_reducible refine (dbus_DoorBegin.calls k a0 a1 a2 a3 t236 none _ A5.out).mono ?_); rintro e w6 ⟨rfl, hb⟩; have n0_ := Aside0.mk (below_step (by repeat (first | (with_reducible first | exact HB.out | apply below_alloc | apply pw_below_drewN | apply below_drew1) | exact HB.out)) hb); clear HB; have HB := n0_; clear n0_; (try clear hb); (try clear hb2); (try clear hk); (try clear hi); (try simp only [errW_none, errW_some]))); try go_wp2_with (first | (go_at_call 21; (with_reducible refine (dbus_DoorBegin.calls k a0 a1 a2 a3 t236 none _ A5.out).mono ?_); rintro e w6 ⟨rfl, hb⟩; have n0_ := Aside0.mk (below_step (by repeat (first | (with_reducible first | exact HB.out | apply below_alloc | apply pw_below_drewN | apply below_drew1) | exact HB.out)) hb); clear HB; have HB := n0_; clear n0_; (try clear hb); (try clear hb2); (try clear hk); (try clear hi); (try simp only [errW_none, errW_some]))))
  go_ret2
  exact ⟨by first | rfl | (simp [errW_none, errW_some] <;> rfl) | (simp [*, errW_none, errW_some] <;> rfl) | (simp (disch := omega) only [wrap64_id] <;> rfl), by repeat (first | (with_reducible first | exact HB.out | apply below_alloc | apply pw_below_drewN | apply below_drew1) | exact HB.out)⟩
 ·have H1 : (some (t236, false)) = some (r1, r2) := by rw [if_neg (show ¬ (some q238).isNone = true by simp)] at H; exact H
  clear H
  have H := H1
  clear H1
  try simp only [errW_none, errW_some]
  simp only [Option.some.injEq, Prod.mk.injEq] at H
  obtain ⟨rfl, rfl⟩ := H
  go_enter Tryd.func10, Tryd.ntmps10
  go_wp2_with (first | (go_at_call 21; (with_reducible refine (dbus_DoorBegin.calls k a0 a1 a2 a3 t236 (some q238) _ A5.out).mono ?_); rintro e w7 ⟨rfl, hb⟩; have n0_ := Aside0.mk (below_step (by repeat (first | (with_reducible first | exact HB.out | apply below_alloc | apply pw_below_drewN | apply below_drew1) | exact HB.out)) hb); clear HB; have HB := n0_; clear n0_; (try clear hb); (try clear hb2); (try clear hk); (try clear hi); (try simp only [errW_none, errW_some])))
  repeat (go_quiet (first | (go_at_call 21; (with_reducible refine (dbus_DoorBegin.calls k a0 a1 a2 a3 t236 (some q238) _ A5.out).mono ?_); rintro e w7 ⟨rfl, hb⟩; have n0_ := Aside0.mk (below_step (by repeat (first | (with_reducible first | exact HB.out | apply below_alloc | apply pw_below_drewN | apply below_drew1) | exact HB.out)) hb); clear HB; have HB := n0_; clear n0_; (try clear hb); (try clear hb2); (try clear hk); (try clear hi); (try simp only [errW_none, errW_some]))); try go_wp2_with (first | (go_at_call 21; (with_reducible refine (dbus_DoorBegin.calls k a0 a1 a2 a3 t236 (some q238) _ A5.out).mono ?_); rintro e w7 ⟨rfl, hb⟩; have n0_ := Aside0.mk (below_step (by repeat (first | (with_reducible first | exact HB.out | apply below_alloc | apply pw_below_drewN | apply below_drew1) | exact HB.out)) hb); clear HB; have HB := n0_; clear n0_; (try clear hb); (try clear hb2); (try clear hk); (try clear hi); (try simp only [errW_none, errW_some]))))
  go_ret2
  exact ⟨by first | rfl | (simp [errW_none, errW_some] <;> rfl) | (simp [*, errW_none, errW_some] <;> rfl) | (simp (disch := omega) only [wrap64_id] <;> rfl), by repeat (first | (with_reducible first | exact HB.out | apply below_alloc | apply pw_below_drewN | apply below_drew1) | exact HB.out)⟩

-- NOT PRINTED: function 4 (laws_FnSgOfParse)


end Go.Proofs.YtboioihppjhjcaaDoor.MFnSgOf

namespace Go.Proofs.YtboioihppjhjcaaDoor.MFnSgOf
open Go.RowKit Go.Proofs.YtboioihppjhjcaaDoorW.PrintWords Go.Proofs.YtboioihppjhjcaaDoorW.PrintLast Go.Proofs.YtboioihppjhjcaaDoorW.PrintMore
attribute [local go_sem] max2_int min2_int max_two min_two max_three min_three max_four min_four
set_option linter.unusedVariables false
set_option linter.unusedSimpArgs false

open Go.Proofs.YtboioihppjhjcaaDoor.Hlp Go.Proofs.YtboioihppjhjcaaDoor.SgT Go.Proofs.YtboioihppjhjcaaDoor.SgZ Go.Proofs.YtboioihppjhjcaaDoor.MFnSgOfs Go.Proofs.YtboioihppjhjcaaDoor.MFnSgOfy Go.Proofs.YtboioihppjhjcaaDoor.MFnSgOfi
theorem p_nil {s : ByteArray} (h : s.size = 0) : Ev (fun k => dbus_ParseSignature.l k none s) none := by
  refine Ev.step (f := fun _ => some none) (fun k => ?_) (Ev.now _)
  simp only [dbus_ParseSignature.l]; rw [if_neg (by decide), if_pos h]
theorem p_more {s : ByteArray} (h : ¬ s.size = 0) (k : Nat) : dbus_ParseSignature.l (k + 1) none s = (dbus_validSingle.g k s 0 0 0).bind fun x => dbus_ParseSignature.l k x.1 x.2 := by
  simp only [dbus_ParseSignature.l]; rw [if_neg (by decide), if_neg h]
/-- Complete types ahead are gone through. -/
theorem eat : ∀ (xs : List (List UInt8)) (s : ByteArray), (∀ x ∈ xs, T 32 32 32 x) → bl s = xs.flatten → s.size ≤ 1000000000 →
    Ev (fun k => dbus_ParseSignature.l k none s) none
  | [], s, _, hb, _ => p_nil (by rw [← bl_len, hb]; rfl)
  | x :: xs, s, hx, hb, hs => by
    have tx := hx x List.mem_cons_self
    have hl := tx.len
    have h0 : ¬ s.size = 0 := by rw [← bl_len, hb, List.flatten_cons, List.length_append]; omega
    refine Ev.step (fun k => p_more h0 k) (Ev.bind (takes tx s 0 0 0 xs.flatten (by omega) (by omega) (by omega) (by omega) (by omega) (by omega) (by rw [hb]; simp) hs) ?_)
    refine eat xs (s.extract x.length s.size) (fun y hy => hx y (List.mem_cons_of_mem _ hy)) ?_ (by rw [MFnSgOfi.size_drop]; omega)
    rw [MFnSgOfi.bl_drop, hb]; simp
theorem pz_ev {s : ByteArray} (h : VALID (bl s)) : Ev (fun k => dbus_ParseSignature.f k s) (s, none) := by
  obtain ⟨h1, xs, hx, hb⟩ := h
  rw [bl_len] at h1
  unfold dbus_ParseSignature.f
  by_cases h0 : s.size = 0
  · have e : s = ⟨#[]⟩ := bl_ext (by rw [show bl s = [] from List.eq_nil_of_length_eq_zero h0]; rfl)
    subst e
    exact ev_ite_pos rfl (fun _ => rfl) (Ev.now _)
  · exact ev_ite_neg h0 (fun _ => rfl) (ev_ite_neg (by omega) (fun _ => rfl) (Ev.bind (eat xs s hx hb (by omega)) (ev_ite_neg (by decide) (fun _ => rfl) (Ev.now _))))
theorem parse_ev {s : ByteArray} (h : VALID (bl s)) : ∃ k, impl_SgParse.f k s = some (s, true) := by
  apply Ev.rounds
  unfold impl_SgParse.f dbus_Signature_String.f
  exact Ev.bind (pz_ev h) (Ev.bind (Ev.now _) (ev_ite_pos rfl (fun _ => rfl) (Ev.now _)))
theorem empty_ev {s : ByteArray} (h : VALID (bl s)) : ∃ k, impl_SgEmpty.f k s = some (s.toList == ([] : List UInt8)) := by
  apply Ev.rounds
  unfold impl_SgEmpty.f dbus_Signature_Empty.f
  exact Ev.bind (pz_ev h) (ev_ite_pos rfl (fun _ => rfl) (Ev.bind (Ev.now _) (Ev.now _)))
theorem begin_ev {x rest : List UInt8} (tt : T 32 32 32 x) {s : ByteArray} (hb : bl s = x ++ rest) (hs : s.size ≤ 1000000000) : ∃ k, impl_SgBegin.f k s 0 0 0 = some (s.extract x.length s.size, true) := by
  have h := takes tt s 0 0 0 rest (by omega) (by omega) (by omega) (by omega) (by omega) (by omega) hb hs
  apply Ev.rounds
  unfold impl_SgBegin.f dbus_DoorBegin.f
  exact Ev.bind (Ev.bind h (Ev.now _)) (ev_ite_pos rfl (fun _ => rfl) (Ev.now _))
theorem valid_nil : VALID (bl ⟨#[]⟩) := ⟨Nat.zero_le _, [], fun _ h => absurd h (by simp), rfl⟩
/-- One value's row. -/
theorem vt_one {x : S31} (hn : (nodes x).length ≤ 300) (g : GV x) : ∃ t, VTs (toVL [x]) [(bl (sig x), t)] := by
  obtain ⟨zs, hz, _, h3⟩ := vts_of [x] (by rw [nodesL, nodesL, List.append_nil]; exact hn) (fun y hy => by rw [List.mem_singleton.mp hy]; exact g)
  match zs, h3 with
  | [], h3 => simp at h3
  | [z], h3 =>
    simp at h3
    exact ⟨z.2, by rw [← h3]; exact hz⟩
  | _ :: _ :: _, h3 => simp at h3
/-- A new row of one value. -/
theorem one_row {w : World} {A3 : Option Addr} {c3 : Nat} (x : S31) (hl : x.f3.length ≤ c3) (hC : k31.C w A3 x.f3.length x.f3) (w2 : World) (a : Addr)
    (hB : Below w.heap.size w w2) (h0 : w2.cell? (a.add 0) = some (.int .u8 x.f0)) (h1 : w2.cell? (a.add 1) = some (.int .u64 x.f1)) (h2 : w2.cell? (a.add 2) = some (.string x.f2)) (h3 : w2.cell? (a.add 3) = some (.slice A3 x.f3.length c3)) :
    Kd.C k31 w2 (some a) [x].length [x] := by
  refine ⟨rfl, by simp, fun _ => ⟨a, rfl, fun j p hj => ?_⟩⟩
  cases j with
  | succ j => simp at hj
  | zero =>
    simp at hj
    subst hj
    refine ⟨[.int .u8 x.f0, .int .u64 x.f1, .string x.f2, .slice A3 x.f3.length c3], rfl, k31_mk w2 x hl (Kd.C_below hC hB), fun k u hu => ?_⟩
    match k, hu with
    | 0, hu => simp at hu; subst hu; exact h0
    | 1, hu => simp at hu; subst hu; exact h1
    | 2, hu => simp at hu; subst hu; exact h2
    | 3, hu => simp at hu; subst hu; exact h3
    | k + 4, hu => simp at hu
theorem sigL_T : ∀ L : List S31, (∀ x ∈ L, GV x) → ∀ i (h : i < L.length), T 32 32 32 (bl (sig L[i])) := fun L hg i h => by
  obtain ⟨g1, g2, g3, _⟩ := hg _ (List.getElem_mem h)
  exact sig32 g3 g1 (by omega) g2
theorem sigL_drop {L : List S31} {i : Nat} (h : i < L.length) : sigL (L.drop i) = sig L[i] ++ sigL (L.drop (i + 1)) := by
  rw [List.drop_eq_getElem_cons h, sigL]
theorem sigL_empty {L : List S31} (hg : ∀ x ∈ L, GV x) : ((sigL L).toList == ([] : List UInt8)) = decide (L.length = 0) := by
  cases L with
  | nil => rw [sigL, toList_bl]; rfl
  | cons x r =>
    have hl := (sigL_T _ hg 0 (by simp)).len
    have e : (sigL (x :: r)).toList ≠ [] := fun h => by
      rw [toList_bl, sigL, bl_append] at h
      have := congrArg List.length h
      simp at this
      simp [this] at hl
    simp [e]

end Go.Proofs.YtboioihppjhjcaaDoor.MFnSgOf

namespace Go.Proofs.YtboioihppjhjcaaDoor.MFnSgOf
open Go.RowKit Go.Proofs.YtboioihppjhjcaaDoorW.PrintWords Go.Proofs.YtboioihppjhjcaaDoorW.PrintLast Go.Proofs.YtboioihppjhjcaaDoorW.PrintMore
attribute [local go_sem] max2_int min2_int max_two min_two max_three min_three max_four min_four
set_option linter.unusedVariables false
set_option linter.unusedSimpArgs false

open Go.Proofs.YtboioihppjhjcaaDoor.Hlp Go.Proofs.YtboioihppjhjcaaDoor.SgT Go.Proofs.YtboioihppjhjcaaDoor.SgZ Go.Proofs.YtboioihppjhjcaaDoor.MFnSgOfs Go.Proofs.YtboioihppjhjcaaDoor.MFnSgOfy
set_option maxRecDepth 100000 in
set_option maxHeartbeats 16000000 in
theorem law2_calls (L : List S31) (A : Option Addr) (c : Nat) (w : World) (hT : Lib.Utf8Tabs 1 2 w) (hC : Kd.C k31 w A L.length L) (hc : L.length ≤ c) :
    Calls Tryd.prog 4 #[.slice A L.length c] w fun e w' => e = .returned (.bool true) ∧ Below w.heap.size w w' := by
  by_cases c2 : (L.length : Int) > 2147483647
  · have c2b0 : decide (2147483647 < (L.length : Int)) = true := decide_eq_true c2
    have c2b1 : decide (2147483647 < L.length) = true := decide_eq_true (by omega)
    clear c2
    go_enter Tryd.func4, Tryd.ntmps4
    go_wp2
    go_ret
    exact ⟨rfl, Below.refl _ _⟩
  · have c2b0 : decide (2147483647 < (L.length : Int)) = false := decide_eq_false c2
    have c2b1 : decide (2147483647 < L.length) = false := decide_eq_false (by omega)
    clear c2
    obtain ⟨k, r, hk, hr⟩ := small_ev L
    have HS := Aside0.mk (laws_sgSmall.calls k A c L r w hT hC hc hk)
    have HR := Aside0.mk hr
    have HC := Aside0.mk hC
    have HL := Aside0.mk hc
    clear hk hr hC hc hT
    go_enter Tryd.func4, Tryd.ntmps4
    go_wp2_with fail
    refine HS.out.mono ?_
    rintro e1 w2 h1
    unfold SmPost at h1
    obtain ⟨b, rfl, hb, hf⟩ := h1
    have HB := Aside0.mk hb
    clear hb HS
    cases b with
    | false =>
      clear hf
      go_wp2
      go_ret
      exact ⟨rfl, HB.out⟩
    | true =>
      obtain ⟨h2, h3⟩ := hf rfl
      obtain ⟨h4, h5⟩ := HR.out h2 h3
      obtain ⟨zs, hz, hs, _⟩ := vts_of L h3.2.1 h5
      obtain ⟨kv, hkv⟩ := (vs_ev L (by have := h3.2.1; omega)).rounds
      have HG := Aside0.mk (sg_calls L (toVL L) kv hkv zs hz A c w2 HL.out (Kd.C_below HC.out HB.out))
      rw [hs] at HG
      have HF := Aside0.mk h3
      have HX := Aside0.mk h5
      have HV := Aside0.mk h4
      clear hf h2 h3 h4 h5 hz hs hkv HR
      go_wp2_with fail
      refine HG.out.mono ?_
      rintro e2 w3 ⟨rfl, hb2⟩
      have HB2 := Aside0.mk (below_step HB.out hb2)
      clear hb2 HG
      obtain ⟨kp, hkp⟩ := parse_ev HV.out
      obtain ⟨ke, hke⟩ := empty_ev HV.out
      obtain ⟨kn, hkn⟩ := empty_ev valid_nil
      have HP := Aside0.mk hkp
      have HE := Aside0.mk hke
      have HN := Aside0.mk hkn
      clear hkp hke hkn
      go_wp2_with fail
      refine (impl_SgParse.calls kp _ _ _ w3 HP.out).mono ?_
      rintro e3 w4 ⟨rfl, hb3⟩
      have HB3 := Aside0.mk (below_step HB2.out hb3)
      clear hb3
      obtain ⟨b0, hb0⟩ : ∃ b0, decide (L.length = 0) = b0 := ⟨_, rfl⟩
      have q0 : ((L.length : Int) == 0) = b0 := by rw [← hb0]; by_cases h : L.length = 0 <;> simp [h]
      have q1 : (b0 != b0) = false := by cases b0 <;> rfl
      have HZ := Aside0.mk ((sigL_empty HX.out).trans hb0)
      have HD := Aside0.mk hb0
      clear hb0
      go_wp2_with fail
      refine (impl_SgEmpty.calls ke _ _ w4 HE.out).mono ?_
      rw [HZ.out]
      rintro e4 w5 ⟨rfl, hb4⟩
      have HB4 := Aside0.mk (below_step HB3.out hb4)
      clear hb4
      go_wp2_with fail
      refine (impl_SgEmpty.calls kn _ _ w5 HN.out).mono ?_
      rintro e5 w6 ⟨rfl, hb5⟩
      have HB5 := Aside0.mk (below_step HB4.out hb5)
      have q2 : ((⟨#[]⟩ : ByteArray).toList == ([] : List UInt8)) = true := by rw [toList_bl]; rfl
      rw [q2]
      clear hb5 q2
      go_wp2_with fail
      obtain ⟨n, hn⟩ : ∃ n, L.length = n := ⟨_, rfl⟩
      have HH := Aside0.mk hn
      rw [hn]
      clear hn
      go_loopg [3, 54] L.length (fun kq v3 v54 wr => ∃ (i : Nat), v3 = .string (sigL (L.drop i)) ∧ v54 = .int .i64 (i : Int) ∧ Aside0 (i ≤ L.length ∧ kq = L.length - i ∧ (sigL (L.drop i)).size ≤ 255) ∧ Aside0 (Below w.heap.size w wr))
      case atStart => exact ⟨0, by rw [List.drop_zero], rfl, ⟨Nat.zero_le _, rfl, by rw [List.drop_zero]; exact HV.out.1⟩, HB5⟩
      case round =>
        obtain ⟨i, rfl, rfl, HI, HW⟩ := hrel
        by_cases hlt : i < n
        · have hi := HI.out.1
          have hiL : i < L.length := by rw [HH.out]; exact hlt
          obtain ⟨ad, A3, c3, eA, p0, p1, p2, p3, hl3, hC3⟩ := at_T31 HC.out (i : Int) (by omega) (by omega)
          rw [rd_drop hiL] at p0 p1 p2 p3 hl3 hC3
          obtain ⟨x, hx⟩ : ∃ x, L[i] = x := ⟨_, rfl⟩
          rw [hx] at p0 p1 p2 p3 hl3 hC3
          rw [Int.toNat_natCast] at p0 p1 p2 p3
          cases eA
          obtain ⟨kn3, hkn3⟩ : ∃ kn3, x.f3.length = kn3 := ⟨_, rfl⟩
          rw [hkn3] at p3
          replace p0 := (HW.out.cell (World.block_lt_of_cell? w _ p0)).trans p0
          replace p1 := (HW.out.cell (World.block_lt_of_cell? w _ p1)).trans p1
          replace p2 := (HW.out.cell (World.block_lt_of_cell? w _ p2)).trans p2
          replace p3 := (HW.out.cell (World.block_lt_of_cell? w _ p3)).trans p3
          have q0 : decide ((i : Int) < (n : Int)) = true := by simp; omega
          have q3 : ((0 : Int) ≤ (i : Int)) = True := eq_true (by omega)
          have q4 : ((i : Int) < (n : Int)) = True := eq_true (by omega)
          have q5 : (i < n) = True := eq_true hlt
          have HX3 : Aside0 (sigL (L.drop i) = sig x ++ sigL (L.drop (i + 1)) ∧ GV x ∧ (nodes x).length ≤ 300 ∧ T 32 32 32 (bl (sig x)) ∧ i + 1 ≤ L.length) := ⟨by rw [← hx]; exact sigL_drop hiL, by rw [← hx]; exact HX.out _ (List.getElem_mem hiL), by rw [← hx]; exact (kid_of (List.getElem_mem hiL) HF.out.2.1 HF.out.2.2).1, by rw [← hx]; exact sigL_T _ HX.out i hiL, hiL⟩
          have HL3 := Aside0.mk hl3
          have HC3 := Aside0.mk hC3
          have HK3 := Aside0.mk hkn3
          clear hx hl3 hC3 hkn3 hi hiL
          go_wp2_with fail
          have hbb := below_alloc (below_alloc (Below.refl wr.heap.size wr) (.cells #[.int .u8 x.f0, .int .u64 x.f1, .string x.f2, .slice A3 kn3 c3] 31)) (.cells #[.int .u8 x.f0, .int .u64 x.f1, .string x.f2, .slice A3 kn3 c3] 31)
          have hbk := heap_alloc_new (wr.alloc (.cells #[.int .u8 x.f0, .int .u64 x.f1, .string x.f2, .slice A3 kn3 c3] 31)) (.cells #[.int .u8 x.f0, .int .u64 x.f1, .string x.f2, .slice A3 kn3 c3] 31)
          rw [World.size_alloc] at hbk
          obtain ⟨h1, h2, h3, h4, h5⟩ := HX3.out
          obtain ⟨tt, htt⟩ := vt_one h3 h2
          obtain ⟨k1, hk1⟩ := (vs_ev [x] (by rw [nodesL, nodesL, List.append_nil]; omega)).rounds
          have hrow := one_row x HL3.out HC3.out _ ⟨wr.heap.size + 1, 0, none⟩ (below_step HW.out hbb) ((blk_cell hbk 0).trans rfl) ((blk_cell hbk 1).trans rfl) ((blk_cell hbk 2).trans rfl) ((blk_cell hbk 3).trans (by rw [HK3.out]; rfl))
          have hsg := sg_calls [x] (toVL [x]) k1 hk1 [(bl (sig x), tt)] htt (some ⟨wr.heap.size + 1, 0, none⟩) 1 _ (by simp) hrow
          have es : Bs (([(bl (sig x), tt)] : List (List UInt8 × List UInt8)).map Prod.fst).flatten = sig x := by simp; exact (Bs_bl2 _).symm
          rw [es] at hsg
          refine hsg.mono ?_
          rintro e6 w7 ⟨rfl, hb6⟩
          have HB6 := Aside0.mk (below_step (below_step HW.out hbb) hb6)
          have hs0 := HI.out.2.2
          have hlx := h4.len
          obtain ⟨s0, e0⟩ : ∃ s0, sigL (L.drop i) = s0 := ⟨_, rfl⟩
          obtain ⟨s1, e1⟩ : ∃ s1, sigL (L.drop (i + 1)) = s1 := ⟨_, rfl⟩
          obtain ⟨sx, ex⟩ : ∃ sx, sig x = sx := ⟨_, rfl⟩
          rw [e0, e1, ex] at h1
          rw [e0] at hs0
          rw [ex] at h4 hlx
          rw [bl_len] at hlx
          have hsz : s0.size = sx.size + s1.size := by rw [h1, ByteArray.size_append]
          have hbl : bl s0 = bl sx ++ bl s1 := by rw [h1, bl_append]
          obtain ⟨kb, hkb⟩ := begin_ev h4 hbl (by omega)
          have er : s0.extract (bl sx).length s0.size = s1 := bl_ext (by rw [MFnSgOfi.bl_drop, hbl]; simp)
          have ef : s0.extract 0 sx.size = sx := bl_ext (by rw [bl_extract, hbl, ← bl_len]; simp)
          rw [er] at hkb
          simp only [e0, ex]
          have HKB := Aside0.mk hkb
          have HE1 := Aside0.mk e1
          have f1 : decide ((s0.size : Int) ≤ (s1.size : Int)) = false := by simp; omega
          have f1b : decide (s0.size ≤ s1.size) = false := by simp; omega
          have f2 : IntKind.i64.wrap ((s0.size : Int) - (s1.size : Int)) = (sx.size : Int) := by rw [IntKind.wrap_i64]; omega
          have f3 : ((0 : Int) ≤ (sx.size : Int)) = True := eq_true (by omega)
          have f4 : ((sx.size : Int) ≤ (s0.size : Int)) = True := eq_true (by omega)
          have f5 : (sx.size ≤ s0.size) = True := eq_true (by omega)
          have f6 : IntKind.i64.wrap ((i : Int) + 1) = ((i + 1 : Nat) : Int) := by have h50 := HF.out.1; rw [IntKind.wrap_i64]; omega
          have HS1 : Aside0 (i + 1 ≤ L.length ∧ s1.size ≤ 255) := ⟨h5, by omega⟩
          clear hbb hbk h1 h2 h3 h4 h5 htt hk1 hrow hsg es hb6 hs0 hlx e0 e1 ex hsz hbl hkb er HX3
          go_wp2_with fail
          refine (impl_SgBegin.calls kb _ _ _ _ _ _ w7 HKB.out).mono ?_
          rintro e7 w8 ⟨rfl, hb7⟩
          have HB7 := Aside0.mk (below_step HB6.out hb7)
          clear hb7
          go_wp2_with fail
          go_roundg (L.length - (i + 1))
          case measure => have h9 := HI.out.2.1; have h8 := HS1.out.1; omega
          case rel => exact ⟨i + 1, by rw [HE1.out], rfl, ⟨HS1.out.1, rfl, by rw [HE1.out]; exact HS1.out.2⟩, HB7⟩
        · have q3 : decide ((i : Int) < (n : Int)) = false := by simp; omega
          have e3 : decide (i < n) = false := by simp; omega
          have q4 : sigL (L.drop i) = ⟨#[]⟩ := by rw [List.drop_eq_nil_of_le (by rw [HH.out]; omega), sigL]
          rw [q4]
          have q5 : ((⟨#[]⟩ : ByteArray) == ⟨#[]⟩) = true := by decide
          go_wp2_with fail
          go_ret
          exact ⟨rfl, HW.out⟩

end Go.Proofs.YtboioihppjhjcaaDoor.MFnSgOf
