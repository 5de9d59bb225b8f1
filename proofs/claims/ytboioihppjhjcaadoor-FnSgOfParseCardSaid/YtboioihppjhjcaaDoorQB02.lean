-- Texts of this session, several in one.
import Derived.Test.YtboioihppjhjcaaDoorQB01
import Derived.Defers
import Derived.Test.YtboioihppjhjcaaDoorQBW
import Derived.Lib.Strings
import Derived.Laws.RangeAny
namespace Go.Proofs.YtboioihppjhjcaaDoor.MFnSgOf
open Go.RowKit Go.Proofs.YtboioihppjhjcaaDoorW.PrintWords Go.Proofs.YtboioihppjhjcaaDoorW.PrintLast Go.Proofs.YtboioihppjhjcaaDoorW.PrintMore
attribute [local go_sem] max2_int min2_int max_two min_two max_three min_three max_four min_four   -- for this text's walks alone
set_option linter.unusedVariables false
set_option linter.unusedSimpArgs false

/-! ### laws_sgKeys: function 13 -/
mutual
def laws_sgKeys.l0 : Nat → Int → Int → Int → ByteArray → List (S31) → Option (Bool)
 | 0, _, _, _, _, _ => none
 | k + 1, x3, x151000, x151001, x151002, x151003 => if x151000 = 97 then (laws_sgKeys.j1 k x3 (decide ((wrap64 (x3 + 1)) < (x151002.size : Int))) x151000 x151001 x151002 x151003) else (laws_sgKeys.j1 k x3 false x151000 x151001 x151002 x151003)
def laws_sgKeys.j1 : Nat → Int → Bool → Int → Int → ByteArray → List (S31) → Option (Bool)
 | 0, _, _, _, _, _, _ => none
 | k + 1, x3, x16, x151000, x151001, x151002, x151003 => if x16 = true then (if 0 ≤ x3 then (if x3 < (x151002.size : Int) then (if (bt x151002 x3) = 123 then (if 0 ≤ (wrap64 (x3 + 1)) then (if (wrap64 (x3 + 1)) < (x151002.size : Int) then (if (bt x151002 (wrap64 (x3 + 1))) = 98 then (some false) else (if (bt x151002 (wrap64 (x3 + 1))) = 103 then (some false) else (laws_sgKeys.l0 k (wrap64 (x3 + 1)) x151000 x151001 x151002 x151003))) else (none)) else (none)) else (laws_sgKeys.l0 k (wrap64 (x3 + 1)) x151000 x151001 x151002 x151003)) else (none)) else (none)) else (laws_sgKeys.l1 k x151003 (x151003.length : Int) 0)
def laws_sgKeys.l1 : Nat → List (S31) → Int → Int → Option (Bool)
 | 0, _, _, _ => none
 | k + 1, x41, x42, x43 => if x43 < x42 then (if 0 ≤ x43 then (if x43 < (x41.length : Int) then ((laws_sgKeys.f k ((rd_T31 x41 x43).f0) ((rd_T31 x41 x43).f1) ((rd_T31 x41 x43).f2) ((rd_T31 x41 x43).f3)).bind fun t153 => (if t153 = true then (laws_sgKeys.l1 k x41 x42 (wrap64 (x43 + 1))) else (some false))) else (none)) else (none)) else (some true)
def laws_sgKeys.f : Nat → Int → Int → ByteArray → List (S31) → Option (Bool)
 | 0, _, _, _, _ => none
 | k + 1, a0_0, a0_1, a0_2, l0_3 => laws_sgKeys.l0 k 0 a0_0 a0_1 a0_2 l0_3
end
set_option maxHeartbeats 8000000 in
set_option maxRecDepth 100000 in
theorem laws_sgKeys.calls (k : Nat) : ∀ (a0_0 : Int) (a0_1 : Int) (a0_2 : ByteArray) (A0_3 : Option Addr) (c0_3 : Nat) (l0_3 : List (S31)) (r : Bool) (w : World) (hr0_3 : Kd.C k31 w A0_3 l0_3.length l0_3) (hc0_3 : l0_3.length ≤ c0_3) (h : laws_sgKeys.f k a0_0 a0_1 a0_2 l0_3 = some r),
  Calls Tryd.prog 13 #[.agg #[.int .u8 a0_0, .int .u64 a0_1, .string a0_2, .slice A0_3 l0_3.length c0_3]] w fun e w' => e = .returned (.bool r) ∧ Below w.heap.size w w' := by
 induction k using Nat.strongRecOn with
 | _ k ih =>
 intro a0_0 a0_1 a0_2 A0_3 c0_3 l0_3 r w hr0_3 hc0_3 h
 cases k with
 | zero => exact absurd h (by simp [laws_sgKeys.f])
 | succ k =>
 simp only [laws_sgKeys.f] at h
 have hu31 := Tryd.underlying31
 have HR0_3 := Aside0.mk hr0_3
 have HC0_3 := Aside0.mk hc0_3
 clear hr0_3 hc0_3
 have HB := Aside0.mk (Below.refl w.heap.size w)
 have H : (laws_sgKeys.l0 k 0 a0_0 a0_1 a0_2 l0_3) = some r := h
 clear h
 have H' := Aside0.mk H
 clear H
 go_enter Tryd.func13, Tryd.ntmps13
 go_wp2_with (first | ((with_reducible refine gate_dst (N := 1) rfl ?_); (try (refine gate_guard (by rfl) ?_; dsimp only)); refine box_event ?hg (N := 1) ?hd (cs := #[.int .u8 a0_0, .int .u64 a0_1, .string a0_2, .slice A0_3 l0_3.length c0_3]) (t := 31) ?hr ?_; (case hd => rfl); (case hg => rfl); (case hr => first | (go_simp; done) | (go_simp; rfl)); intro gb150 hg w2 hbox hb; have n0_ := Aside0.mk (below_step (by repeat (first | (with_reducible first | exact HB.out | apply below_alloc | apply pw_below_drewN | apply below_drew1) | exact HB.out)) hb); have n1_ := Aside0.mk (hbox); have n2_ := Aside0.mk ((by rw [hg]; exact (below_size (by repeat (first | (with_reducible first | exact HB.out | apply below_alloc | apply pw_below_drewN | apply below_drew1) | exact HB.out))) : w.heap.size ≤ gb150)); have n3_ := Aside0.mk ((by rw [hg]; exact (below_size (by repeat (first | (with_reducible first | exact HB.out | apply below_alloc | apply pw_below_drewN | apply below_drew1) | exact HB.out))) : w.heap.size ≤ gb150)); clear HB; have HB := n0_; have BK150 := n1_; have GW150 := n2_; have GE150 := n3_; clear n0_ n1_ n2_ n3_; clear hb hbox hg))
 go_loopg [3] k (fun kq v3 w' => ∃ (x3_1 : Int), v3 = .int .i64 x3_1 ∧ Aside0 (laws_sgKeys.l0 kq x3_1 a0_0 a0_1 a0_2 l0_3 = some r) ∧ Aside0 (kq ≤ k) ∧ Aside0 (w'.heap[gb150]? = some (.cells #[.int .u8 a0_0, .int .u64 a0_1, .string a0_2, (.slice A0_3 l0_3.length c0_3)] 31 (0, 0))) ∧ Aside0 (Below w.heap.size w w'))
 case atStart => exact ⟨(0), (by first | rfl | (simp; done) | (simp [*]; done)), H', ⟨Nat.le_refl _⟩, ⟨by (with_reducible repeat (first | refine blk_drewN ?_ _ | refine blk_drew ?_ | refine blk_alloc ?_ _)); exact BK150.out⟩, ⟨by repeat (first | (with_reducible first | exact HB.out | apply below_alloc | apply pw_below_drewN | apply below_drew1 | refine below_set ?_ GE150.out) | exact HB.out)⟩⟩
 case round =>
  clear H'
  try clear c1
  try clear p2
  obtain ⟨x3_1, rfl, HA, HK1, BK150, HB⟩ := hrel
  cases gk with
  | zero => exact absurd HA.out (by simp [laws_sgKeys.l0])
  | succ k1 =>
   have H := HA.out
   clear HA
   simp only [laws_sgKeys.l0] at H
   have HC3 := Aside0.mk H
   clear H
   go_upto_region 2 with (fail)
   go_cut [16] (fun v16 wc => ∃ (kq : Nat) (x16_2 : Bool), v16 = .bool x16_2 ∧ Aside0 (laws_sgKeys.j1 kq x3_1 x16_2 a0_0 a0_1 a0_2 l0_3 = some r) ∧ Aside0 (kq ≤ k1) ∧ Aside0 (wc.heap[gb150]? = some (.cells #[.int .u8 a0_0, .int .u64 a0_1, .string a0_2, (.slice A0_3 l0_3.length c0_3)] 31 (0, 0))) ∧ Aside0 (Below w.heap.size w wc))
   case first =>
    have H := HC3.out
    clear HC3
    by_cases c4 : a0_0 = 97
    ·rw [if_pos c4] at H
     have c4b0 : (a0_0 == 97) = true := beq_iff_eq.mpr c4
     have c4b1 : (a0_0 != 97) = false := bne_eq_false_iff_eq.mpr c4
     clear c4
     (first | rw [c4b0] | (simp only [i64_w, i32_w]; rw [c4b0]) | skip)
     have H' := Aside0.mk H
     clear H
     have hcz5_0 : wr.cell? ⟨gb150, 0, none⟩ = some (.int .u8 a0_0) := (blk_cell BK150.out 0).trans rfl
     have hcz5_1 : wr.cell? ⟨gb150, 1, none⟩ = some (.int .u64 a0_1) := (blk_cell BK150.out 1).trans rfl
     have hcz5_2 : wr.cell? ⟨gb150, 2, none⟩ = some (.string a0_2) := (blk_cell BK150.out 2).trans rfl
     have hcz5_3 : wr.cell? ⟨gb150, 3, none⟩ = some (.slice A0_3 l0_3.length c0_3) := (blk_cell BK150.out 3).trans rfl
     have hfz5_0 := blk_frozen BK150.out 0
     have hfz5_1 := blk_frozen BK150.out 1
     have hfz5_2 := blk_frozen BK150.out 2
     have hfz5_3 := blk_frozen BK150.out 3
     go_wp2
     go_meet
     case rel => exact ⟨_, (decide ((wrap64 (x3_1 + 1)) < (a0_2.size : Int))), (by first | rfl | (simp; done) | (simp [*]; done)), H', ⟨by have := HK1.out; first | omega | exact Nat.le_refl _⟩, ⟨by (with_reducible repeat (first | refine blk_drewN ?_ _ | refine blk_drew ?_ | refine blk_alloc ?_ _)); exact BK150.out⟩, ⟨by repeat (first | (with_reducible first | exact HB.out | apply below_alloc | apply pw_below_drewN | apply below_drew1 | refine below_set ?_ GE150.out) | exact HB.out)⟩⟩
    ·rw [if_neg c4] at H
     have c4b0 : (a0_0 == 97) = false := beq_eq_false_iff_ne.mpr c4
     have c4b1 : (a0_0 != 97) = true := bne_iff_ne.mpr c4
     (first | rw [c4b0] | (simp only [i64_w, i32_w]; rw [c4b0]) | skip)
     have H' := Aside0.mk H
     clear H
     have hcz6_0 : wr.cell? ⟨gb150, 0, none⟩ = some (.int .u8 a0_0) := (blk_cell BK150.out 0).trans rfl
     have hcz6_1 : wr.cell? ⟨gb150, 1, none⟩ = some (.int .u64 a0_1) := (blk_cell BK150.out 1).trans rfl
     have hcz6_2 : wr.cell? ⟨gb150, 2, none⟩ = some (.string a0_2) := (blk_cell BK150.out 2).trans rfl
     have hcz6_3 : wr.cell? ⟨gb150, 3, none⟩ = some (.slice A0_3 l0_3.length c0_3) := (blk_cell BK150.out 3).trans rfl
     have hfz6_0 := blk_frozen BK150.out 0
     have hfz6_1 := blk_frozen BK150.out 1
     have hfz6_2 := blk_frozen BK150.out 2
     have hfz6_3 := blk_frozen BK150.out 3
     go_wp2
     go_meet
     case rel => exact ⟨_, (false), (by first | rfl | (simp; done) | (simp [*]; done)), H', ⟨by have := HK1.out; first | omega | exact Nat.le_refl _⟩, ⟨by (with_reducible repeat (first | refine blk_drewN ?_ _ | refine blk_drew ?_ | refine blk_alloc ?_ _)); exact BK150.out⟩, ⟨by repeat (first | (with_reducible first | exact HB.out | apply below_alloc | apply pw_below_drewN | apply below_drew1 | refine below_set ?_ GE150.out) | exact HB.out)⟩⟩
   case rest =>
    clear HC3
    try clear c1
    try clear p2
    try clear c4
    try clear c4b0
    try clear c4b1
    try clear p6
    try clear hcz5_0
    try clear hcz5_1
    try clear hcz5_2
    try clear hcz5_3
    try clear hcz6_0
    try clear hcz6_1
    try clear hcz6_2
    try clear hcz6_3
    try clear hfz5_0
    try clear hfz5_1
    try clear hfz5_2
    try clear hfz5_3
    try clear hfz6_0
    try clear hfz6_1
    try clear hfz6_2
    try clear hfz6_3
    try clear p2
    obtain ⟨kq, x16_2, rfl, HA, HJ2, BK150, HB⟩ := hcut
    cases kq with
    | zero => exact absurd HA.out (by simp [laws_sgKeys.j1])
    | succ kj2 =>
     have H := HA.out
     clear HA
     simp only [laws_sgKeys.j1] at H
     by_cases c7 : x16_2 = true
     ·subst c7
      have H1 : (if 0 ≤ x3_1 then (if x3_1 < (a0_2.size : Int) then (if (bt a0_2 x3_1) = 123 then (if 0 ≤ (wrap64 (x3_1 + 1)) then (if (wrap64 (x3_1 + 1)) < (a0_2.size : Int) then (if (bt a0_2 (wrap64 (x3_1 + 1))) = 98 then (some false) else (if (bt a0_2 (wrap64 (x3_1 + 1))) = 103 then (some false) else (laws_sgKeys.l0 kj2 (wrap64 (x3_1 + 1)) a0_0 a0_1 a0_2 l0_3))) else (none)) else (none)) else (laws_sgKeys.l0 kj2 (wrap64 (x3_1 + 1)) a0_0 a0_1 a0_2 l0_3)) else (none)) else (none)) = some r := by rw [if_pos rfl] at H; exact H
      clear H
      have H := H1
      clear H1
      by_cases c8 : 0 ≤ x3_1
      ·rw [if_pos c8] at H
       have c8b0 : decide (0 ≤ x3_1) = true := decide_eq_true c8
       clear c8
       by_cases c9 : x3_1 < (a0_2.size : Int)
       ·rw [if_pos c9] at H
        have c9b0 : decide (x3_1 < (a0_2.size : Int)) = true := decide_eq_true c9
        clear c9
        by_cases c11 : (bt a0_2 x3_1) = 123
        ·rw [if_pos c11] at H
         have c11b0 : ((bt a0_2 x3_1) == 123) = true := beq_iff_eq.mpr c11
         have c11b1 : ((bt a0_2 x3_1) != 123) = false := bne_eq_false_iff_eq.mpr c11
         clear c11
         obtain ⟨ji12, hji12⟩ : ∃ j_ : Int, (wrap64 (x3_1 + 1)) = j_ := ⟨_, rfl⟩
         replace H : (if 0 ≤ (ji12) then (if (ji12) < (a0_2.size : Int) then (if (bt a0_2 (ji12)) = 98 then (some false) else (if (bt a0_2 (ji12)) = 103 then (some false) else (laws_sgKeys.l0 kj2 ji12 a0_0 a0_1 a0_2 l0_3))) else (none)) else (none)) = some r := by first | (rw [hji12] at H; exact H) | (simp only [hji12] at H ⊢; exact H)
         have hji12w : (IntKind.i64.wrap (x3_1 + 1)) = ji12 := (i64_w _).trans hji12
         by_cases c13 : 0 ≤ (ji12)
         ·rw [if_pos c13] at H
          have c13b0 : decide (0 ≤ (ji12)) = true := decide_eq_true c13
          clear c13
          by_cases c14 : (ji12) < (a0_2.size : Int)
          ·rw [if_pos c14] at H
           have c14b0 : decide ((ji12) < (a0_2.size : Int)) = true := decide_eq_true c14
           clear c14
           by_cases c16 : (bt a0_2 (ji12)) = 98
           ·rw [if_pos c16] at H
            have c16b0 : ((bt a0_2 (ji12)) == 98) = true := beq_iff_eq.mpr c16
            have c16b1 : ((bt a0_2 (ji12)) != 98) = false := bne_eq_false_iff_eq.mpr c16
            clear c16
            obtain rfl := Option.some.inj H
            have hcz17_0 : wc.cell? ⟨gb150, 0, none⟩ = some (.int .u8 a0_0) := (blk_cell BK150.out 0).trans rfl
            have hcz17_1 : wc.cell? ⟨gb150, 1, none⟩ = some (.int .u64 a0_1) := (blk_cell BK150.out 1).trans rfl
            have hcz17_2 : wc.cell? ⟨gb150, 2, none⟩ = some (.string a0_2) := (blk_cell BK150.out 2).trans rfl
            have hcz17_3 : wc.cell? ⟨gb150, 3, none⟩ = some (.slice A0_3 l0_3.length c0_3) := (blk_cell BK150.out 3).trans rfl
            have hfz17_0 := blk_frozen BK150.out 0
            have hfz17_1 := blk_frozen BK150.out 1
            have hfz17_2 := blk_frozen BK150.out 2
            have hfz17_3 := blk_frozen BK150.out 3
            have p10 : 0 ≤ (x3_1 : Int) := of_decide_eq_true (by first | (with_reducible assumption) | assumption)
            have q10 : x3_1 < (a0_2.size : Int) := of_decide_eq_true (by first | (with_reducible assumption) | assumption)
            have hx10 := bt_at a0_2 x3_1
            replace p10 := eq_true p10
            replace q10 := eq_true q10
            have p15 : 0 ≤ ((ji12) : Int) := of_decide_eq_true (by first | (with_reducible assumption) | assumption)
            have q15 : (ji12) < (a0_2.size : Int) := of_decide_eq_true (by first | (with_reducible assumption) | assumption)
            have hx15 := bt_at a0_2 (ji12)
            replace p15 := eq_true p15
            replace q15 := eq_true q15
            go_wp2
            go_ret
            exact ⟨by first | rfl | (simp [errW_none, errW_some] <;> rfl) | (simp only [← hji12]; first | rfl | (simp [errW_none, errW_some] <;> rfl)) | (simp [*, errW_none, errW_some] <;> rfl) | (simp (disch := omega) only [wrap64_id] <;> rfl), by repeat (first | (with_reducible first | exact HB.out | apply below_alloc | apply pw_below_drewN | apply below_drew1 | refine below_set ?_ GE150.out) | exact HB.out)⟩
           ·rw [if_neg c16] at H
            have c16b0 : ((bt a0_2 (ji12)) == 98) = false := beq_eq_false_iff_ne.mpr c16
            have c16b1 : ((bt a0_2 (ji12)) != 98) = true := bne_iff_ne.mpr c16
            by_cases c19 : (bt a0_2 (ji12)) = 103
            ·rw [if_pos c19] at H
             have c19b0 : ((bt a0_2 (ji12)) == 103) = true := beq_iff_eq.mpr c19
             have c19b1 : ((bt a0_2 (ji12)) != 103) = false := bne_eq_false_iff_eq.mpr c19
             clear c19
             obtain rfl := Option.some.inj H
             have hcz20_0 : wc.cell? ⟨gb150, 0, none⟩ = some (.int .u8 a0_0) := (blk_cell BK150.out 0).trans rfl
             have hcz20_1 : wc.cell? ⟨gb150, 1, none⟩ = some (.int .u64 a0_1) := (blk_cell BK150.out 1).trans rfl
             have hcz20_2 : wc.cell? ⟨gb150, 2, none⟩ = some (.string a0_2) := (blk_cell BK150.out 2).trans rfl
             have hcz20_3 : wc.cell? ⟨gb150, 3, none⟩ = some (.slice A0_3 l0_3.length c0_3) := (blk_cell BK150.out 3).trans rfl
             have hfz20_0 := blk_frozen BK150.out 0
             have hfz20_1 := blk_frozen BK150.out 1
             have hfz20_2 := blk_frozen BK150.out 2
             have hfz20_3 := blk_frozen BK150.out 3
             have p10 : 0 ≤ (x3_1 : Int) := of_decide_eq_true (by first | (with_reducible assumption) | assumption)
             have q10 : x3_1 < (a0_2.size : Int) := of_decide_eq_true (by first | (with_reducible assumption) | assumption)
             have hx10 := bt_at a0_2 x3_1
             replace p10 := eq_true p10
             replace q10 := eq_true q10
             have p15 : 0 ≤ ((ji12) : Int) := of_decide_eq_true (by first | (with_reducible assumption) | assumption)
             have q15 : (ji12) < (a0_2.size : Int) := of_decide_eq_true (by first | (with_reducible assumption) | assumption)
             have hx15 := bt_at a0_2 (ji12)
             replace p15 := eq_true p15
             replace q15 := eq_true q15
             have p18 : 0 ≤ ((ji12) : Int) := of_decide_eq_true (by first | (with_reducible assumption) | assumption)
             have q18 : (ji12) < (a0_2.size : Int) := of_decide_eq_true (by first | (with_reducible assumption) | assumption)
             have hx18 := bt_at a0_2 (ji12)
             replace p18 := eq_true p18
             replace q18 := eq_true q18
             go_wp2
             go_ret
             exact ⟨by first | rfl | (simp [errW_none, errW_some] <;> rfl) | (simp only [← hji12]; first | rfl | (simp [errW_none, errW_some] <;> rfl)) | (simp [*, errW_none, errW_some] <;> rfl) | (simp (disch := omega) only [wrap64_id] <;> rfl), by repeat (first | (with_reducible first | exact HB.out | apply below_alloc | apply pw_below_drewN | apply below_drew1 | refine below_set ?_ GE150.out) | exact HB.out)⟩
            ·rw [if_neg c19] at H
             have c19b0 : ((bt a0_2 (ji12)) == 103) = false := beq_eq_false_iff_ne.mpr c19
             have c19b1 : ((bt a0_2 (ji12)) != 103) = true := bne_iff_ne.mpr c19
             have H' := Aside0.mk H
             clear H
             have hcz21_0 : wc.cell? ⟨gb150, 0, none⟩ = some (.int .u8 a0_0) := (blk_cell BK150.out 0).trans rfl
             have hcz21_1 : wc.cell? ⟨gb150, 1, none⟩ = some (.int .u64 a0_1) := (blk_cell BK150.out 1).trans rfl
             have hcz21_2 : wc.cell? ⟨gb150, 2, none⟩ = some (.string a0_2) := (blk_cell BK150.out 2).trans rfl
             have hcz21_3 : wc.cell? ⟨gb150, 3, none⟩ = some (.slice A0_3 l0_3.length c0_3) := (blk_cell BK150.out 3).trans rfl
             have hfz21_0 := blk_frozen BK150.out 0
             have hfz21_1 := blk_frozen BK150.out 1
             have hfz21_2 := blk_frozen BK150.out 2
             have hfz21_3 := blk_frozen BK150.out 3
             have p10 : 0 ≤ (x3_1 : Int) := of_decide_eq_true (by first | (with_reducible assumption) | assumption)
             have q10 : x3_1 < (a0_2.size : Int) := of_decide_eq_true (by first | (with_reducible assumption) | assumption)
             have hx10 := bt_at a0_2 x3_1
             replace p10 := eq_true p10
             replace q10 := eq_true q10
             have p15 : 0 ≤ ((ji12) : Int) := of_decide_eq_true (by first | (with_reducible assumption) | assumption)
             have q15 : (ji12) < (a0_2.size : Int) := of_decide_eq_true (by first | (with_reducible assumption) | assumption)
             have hx15 := bt_at a0_2 (ji12)
             replace p15 := eq_true p15
             replace q15 := eq_true q15
             have p18 : 0 ≤ ((ji12) : Int) := of_decide_eq_true (by first | (with_reducible assumption) | assumption)
             have q18 : (ji12) < (a0_2.size : Int) := of_decide_eq_true (by first | (with_reducible assumption) | assumption)
             have hx18 := bt_at a0_2 (ji12)
             replace p18 := eq_true p18
             replace q18 := eq_true q18
             go_wp2
             go_roundg kj2
             case measure => have := HK1.out; have := HJ2.out; omega
             case rel => exact ⟨(ji12), (by first | rfl | (simp; done) | (simp only [← hji12] <;> (first | rfl | simp)) | (simp [*]; done)), H', ⟨by have := HK1.out; have := HJ2.out; omega⟩, ⟨by (with_reducible repeat (first | refine blk_drewN ?_ _ | refine blk_drew ?_ | refine blk_alloc ?_ _)); exact BK150.out⟩, ⟨by repeat (first | (with_reducible first | exact HB.out | apply below_alloc | apply pw_below_drewN | apply below_drew1 | refine below_set ?_ GE150.out) | exact HB.out)⟩⟩
          ·rw [if_neg c14] at H
           exact absurd H (by simp)
         ·rw [if_neg c13] at H
          exact absurd H (by simp)
        ·rw [if_neg c11] at H
         have c11b0 : ((bt a0_2 x3_1) == 123) = false := beq_eq_false_iff_ne.mpr c11
         have c11b1 : ((bt a0_2 x3_1) != 123) = true := bne_iff_ne.mpr c11
         have H' := Aside0.mk H
         clear H
         have hcz22_0 : wc.cell? ⟨gb150, 0, none⟩ = some (.int .u8 a0_0) := (blk_cell BK150.out 0).trans rfl
         have hcz22_1 : wc.cell? ⟨gb150, 1, none⟩ = some (.int .u64 a0_1) := (blk_cell BK150.out 1).trans rfl
         have hcz22_2 : wc.cell? ⟨gb150, 2, none⟩ = some (.string a0_2) := (blk_cell BK150.out 2).trans rfl
         have hcz22_3 : wc.cell? ⟨gb150, 3, none⟩ = some (.slice A0_3 l0_3.length c0_3) := (blk_cell BK150.out 3).trans rfl
         have hfz22_0 := blk_frozen BK150.out 0
         have hfz22_1 := blk_frozen BK150.out 1
         have hfz22_2 := blk_frozen BK150.out 2
         have hfz22_3 := blk_frozen BK150.out 3
         have p10 : 0 ≤ (x3_1 : Int) := of_decide_eq_true (by first | (with_reducible assumption) | assumption)
         have q10 : x3_1 < (a0_2.size : Int) := of_decide_eq_true (by first | (with_reducible assumption) | assumption)
         have hx10 := bt_at a0_2 x3_1
         replace p10 := eq_true p10
         replace q10 := eq_true q10
         go_wp2
         go_roundg kj2
         case measure => have := HK1.out; have := HJ2.out; omega
         case rel => exact ⟨(wrap64 (x3_1 + 1)), (by first | rfl | (simp; done) | (simp [*]; done)), H', ⟨by have := HK1.out; have := HJ2.out; omega⟩, ⟨by (with_reducible repeat (first | refine blk_drewN ?_ _ | refine blk_drew ?_ | refine blk_alloc ?_ _)); exact BK150.out⟩, ⟨by repeat (first | (with_reducible first | exact HB.out | apply below_alloc | apply pw_below_drewN | apply below_drew1 | refine below_set ?_ GE150.out) | exact HB.out)⟩⟩
       ·rw [if_neg c9] at H
        exact absurd H (by simp)
      ·rw [if_neg c8] at H
       exact absurd H (by simp)
     ·replace c7 := Bool.eq_false_iff.mpr c7
      subst c7
      have H1 : (laws_sgKeys.l1 kj2 l0_3 (l0_3.length : Int) 0) = some r := by rw [if_neg (show ¬ (false = true) by decide)] at H; exact H
      clear H
      have H := H1
      clear H1
      have H' := Aside0.mk H
      clear H
      have hcz23_0 : wc.cell? ⟨gb150, 0, none⟩ = some (.int .u8 a0_0) := (blk_cell BK150.out 0).trans rfl
      have hcz23_1 : wc.cell? ⟨gb150, 1, none⟩ = some (.int .u64 a0_1) := (blk_cell BK150.out 1).trans rfl
      have hcz23_2 : wc.cell? ⟨gb150, 2, none⟩ = some (.string a0_2) := (blk_cell BK150.out 2).trans rfl
      have hcz23_3 : wc.cell? ⟨gb150, 3, none⟩ = some (.slice A0_3 l0_3.length c0_3) := (blk_cell BK150.out 3).trans rfl
      have hfz23_0 := blk_frozen BK150.out 0
      have hfz23_1 := blk_frozen BK150.out 1
      have hfz23_2 := blk_frozen BK150.out 2
      have hfz23_3 := blk_frozen BK150.out 3
      go_wp2
      go_loopg [43] kj2 (fun kq v43 w' => ∃ (x43_3 : Int), v43 = .int .i64 x43_3 ∧ Aside0 (laws_sgKeys.l1 kq l0_3 (l0_3.length : Int) x43_3 = some r) ∧ Aside0 (kq ≤ kj2) ∧ Aside0 (w'.heap[gb150]? = some (.cells #[.int .u8 a0_0, .int .u64 a0_1, .string a0_2, (.slice A0_3 l0_3.length c0_3)] 31 (0, 0))) ∧ Aside0 (Below w.heap.size w w'))
      case atStart => exact ⟨(0), (by first | rfl | (simp; done) | (simp [*]; done)), H', ⟨Nat.le_refl _⟩, ⟨by (with_reducible repeat (first | refine blk_drewN ?_ _ | refine blk_drew ?_ | refine blk_alloc ?_ _)); exact BK150.out⟩, ⟨by repeat (first | (with_reducible first | exact HB.out | apply below_alloc | apply pw_below_drewN | apply below_drew1 | refine below_set ?_ GE150.out) | exact HB.out)⟩⟩
      case round =>
       clear H'
       try clear c1
       try clear p1
       try clear q1
       try clear hx1
       try clear p2
       try clear c4
       try clear c4b0
       try clear c4b1
       try clear p6
       try clear c7
       try clear c8
       try clear c8b0
       try clear c9
       try clear c9b0
       try clear p10
       try clear q10
       try clear hx10
       try clear c11
       try clear c11b0
       try clear c11b1
       try clear c13
       try clear c13b0
       try clear c14
       try clear c14b0
       try clear p15
       try clear q15
       try clear hx15
       try clear c16
       try clear c16b0
       try clear c16b1
       try clear p18
       try clear q18
       try clear hx18
       try clear c19
       try clear c19b0
       try clear c19b1
       try clear hcz17_0
       try clear hcz17_1
       try clear hcz17_2
       try clear hcz17_3
       try clear hcz20_0
       try clear hcz20_1
       try clear hcz20_2
       try clear hcz20_3
       try clear hcz21_0
       try clear hcz21_1
       try clear hcz21_2
       try clear hcz21_3
       try clear hcz22_0
       try clear hcz22_1
       try clear hcz22_2
       try clear hcz22_3
       try clear hcz23_0
       try clear hcz23_1
       try clear hcz23_2
       try clear hcz23_3
       try clear hcz5_0
       try clear hcz5_1
       try clear hcz5_2
       try clear hcz5_3
       try clear hcz6_0
       try clear hcz6_1
       try clear hcz6_2
       try clear hcz6_3
       try clear hfz17_0
       try clear hfz17_1
       try clear hfz17_2
       try clear hfz17_3
       try clear hfz20_0
       try clear hfz20_1
       try clear hfz20_2
       try clear hfz20_3
       try clear hfz21_0
       try clear hfz21_1
       try clear hfz21_2
       try clear hfz21_3
       try clear hfz22_0
       try clear hfz22_1
       try clear hfz22_2
       try clear hfz22_3
       try clear hfz23_0
       try clear hfz23_1
       try clear hfz23_2
       try clear hfz23_3
       try clear hfz5_0
       try clear hfz5_1
       try clear hfz5_2
       try clear hfz5_3
       try clear hfz6_0
       try clear hfz6_1
       try clear hfz6_2
       try clear hfz6_3
       try clear p10
       try clear p15
       try clear p18
       try clear p2
       try clear p6
       try clear q10
       try clear q15
       try clear q18
       obtain ⟨x43_3, rfl, HA, HK3, BK150, HB⟩ := hrel
       cases gk with
       | zero => exact absurd HA.out (by simp [laws_sgKeys.l1])
       | succ k3 =>
        have H := HA.out
        clear HA
        simp only [laws_sgKeys.l1] at H
        by_cases c24 : x43_3 < (l0_3.length : Int)
        ·rw [if_pos c24] at H
         have c24b0 : decide (x43_3 < (l0_3.length : Int)) = true := decide_eq_true c24
         clear c24
         by_cases c25 : 0 ≤ x43_3
         ·rw [if_pos c25] at H
          have c25b0 : decide (0 ≤ x43_3) = true := decide_eq_true c25
          clear c25
          by_cases c26 : x43_3 < (l0_3.length : Int)
          ·rw [if_pos c26] at H
           have c26b0 : decide (x43_3 < (l0_3.length : Int)) = true := decide_eq_true c26
           clear c26
           replace H := Option.bind_eq_some_iff.mp H
           obtain ⟨t153, A270, H⟩ := H
           replace H : (if t153 = true then (laws_sgKeys.l1 k3 l0_3 (l0_3.length : Int) (wrap64 (x43_3 + 1))) else (some false)) = some r := H
           have A27 := Aside0.mk A270
           clear A270
           by_cases c28 : t153 = true
           ·subst c28
            have H1 : (laws_sgKeys.l1 k3 l0_3 (l0_3.length : Int) (wrap64 (x43_3 + 1))) = some r := by rw [if_pos rfl] at H; exact H
            clear H
            have H := H1
            clear H1
            have H' := Aside0.mk H
            clear H
            have p151 : 0 ≤ (x43_3 : Int) := of_decide_eq_true (by first | (with_reducible assumption) | assumption)
            have q151 : x43_3 < (l0_3.length : Int) := of_decide_eq_true (by first | (with_reducible assumption) | assumption)
            obtain ⟨ad151, A151_3, c151_3, e151, hx151_0, hx151_1, hx151_2, hx151_3, hl151_3, hi151_3⟩ := at_T31 HR0_3.out x43_3 p151 q151
            cases e151
            replace hx151_0 := (HB.out.cell (World.block_lt_of_cell? w _ hx151_0)).trans hx151_0
            replace hx151_1 := (HB.out.cell (World.block_lt_of_cell? w _ hx151_1)).trans hx151_1
            replace hx151_2 := (HB.out.cell (World.block_lt_of_cell? w _ hx151_2)).trans hx151_2
            replace hx151_3 := (HB.out.cell (World.block_lt_of_cell? w _ hx151_3)).trans hx151_3
            have HR151_3 := Aside0.mk hi151_3
            have HC151_3 := Aside0.mk hl151_3
            clear hi151_3 hl151_3
            replace p151 := eq_true p151
            replace q151 := eq_true q151
            go_wp2_with (first | ((with_reducible refine gate_dst (N := 5) rfl ?_); (try (refine gate_guard (by rfl) ?_; dsimp only)); refine box_event ?hg (N := 5) ?hd (cs := #[.int .u8 0, .int .u64 0, .string (⟨#[]⟩ : ByteArray), .slice none 0 0]) (t := 31) ?hr ?_; (case hd => rfl); (case hg => rfl); (case hr => first | (go_simp; done) | (go_simp; rfl)); intro gb152 hg w29 hbox hb; have n0_ := Aside0.mk (blk_below (g := gb150) (o := .cells #[.int .u8 a0_0, .int .u64 a0_1, .string a0_2, .slice (some ad151) l0_3.length c0_3] 31 (0, 0)) (by (with_reducible repeat (first | refine blk_drewN ?_ _ | refine blk_drew ?_ | refine blk_alloc ?_ _)); exact BK150.out) hb); have n1_ := Aside0.mk (below_step (by repeat (first | (with_reducible first | exact HB.out | apply below_alloc | apply pw_below_drewN | apply below_drew1 | refine below_set ?_ GE150.out) | exact HB.out)) hb); have n2_ := Aside0.mk (hbox); have n3_ := Aside0.mk ((by rw [hg]; exact (below_size (by repeat (first | (with_reducible first | exact HB.out | apply below_alloc | apply pw_below_drewN | apply below_drew1 | refine below_set ?_ GE150.out) | exact HB.out))) : w.heap.size ≤ gb152)); have n4_ := Aside0.mk ((by rw [hg]; exact (below_size (by repeat (first | (with_reducible first | exact HB.out | apply below_alloc | apply pw_below_drewN | apply below_drew1 | refine below_set ?_ GE150.out) | exact HB.out))) : w.heap.size ≤ gb152)); have n5_ := Aside0.mk ((by rw [hg]; exact Nat.ne_of_lt (blk_lt (g := gb150) (o := .cells #[.int .u8 a0_0, .int .u64 a0_1, .string a0_2, .slice (some ad151) l0_3.length c0_3] 31 (0, 0)) (by (with_reducible repeat (first | refine blk_drewN ?_ _ | refine blk_drew ?_ | refine blk_alloc ?_ _)); exact BK150.out)) : gb150 ≠ gb152)); have n6_ := Aside0.mk ((by rw [hg]; exact Nat.ne_of_gt (blk_lt (g := gb150) (o := .cells #[.int .u8 a0_0, .int .u64 a0_1, .string a0_2, .slice (some ad151) l0_3.length c0_3] 31 (0, 0)) (by (with_reducible repeat (first | refine blk_drewN ?_ _ | refine blk_drew ?_ | refine blk_alloc ?_ _)); exact BK150.out)) : gb152 ≠ gb150)); clear BK150; clear HB; have BK150 := n0_; have HB := n1_; have BK152 := n2_; have GW152 := n3_; have GE152 := n4_; have NB150_152 := n5_; have NB152_150 := n6_; clear n0_ n1_ n2_ n3_ n4_ n5_ n6_; clear hb hbox hg; have hnb30 := NB152_150.out; have hnc30 := NB150_152.out; have hcz31_0 : w29.cell? ⟨gb152, 0, none⟩ = some (.int .u8 0) := (blk_cell BK152.out 0).trans rfl; have hcz31_1 : w29.cell? ⟨gb152, 1, none⟩ = some (.int .u64 0) := (blk_cell BK152.out 1).trans rfl; have hcz31_2 : w29.cell? ⟨gb152, 2, none⟩ = some (.string (⟨#[]⟩ : ByteArray)) := (blk_cell BK152.out 2).trans rfl; have hcz31_3 : w29.cell? ⟨gb152, 3, none⟩ = some (.slice none 0 0) := (blk_cell BK152.out 3).trans rfl; have hfz31_0 := blk_frozen BK152.out 0; have hfz31_1 := blk_frozen BK152.out 1; have hfz31_2 := blk_frozen BK152.out 2; have hfz31_3 := blk_frozen BK152.out 3) | ((with_reducible refine gate_callee (f := 13) rfl ?_); refine goesL_ (some 48) rfl rfl Tryd.func13 (by kernel_rfl) rfl #[.agg #[.int .u8 ((rd_T31 l0_3 x43_3).f0), .int .u64 ((rd_T31 l0_3 x43_3).f1), .string ((rd_T31 l0_3 x43_3).f2), .slice A151_3 ((rd_T31 l0_3 x43_3).f3).length c151_3]] rfl (by (try simp only [List.map_toArray, List.map_cons, List.map_nil]); first | done | rfl | (simp only [List.length_drop, List.length_take]; rfl)) ?_; (with_reducible refine (ih k3 (by have := HK1.out; have := HJ2.out; have := HK3.out; omega) ((rd_T31 l0_3 x43_3).f0) ((rd_T31 l0_3 x43_3).f1) ((rd_T31 l0_3 x43_3).f2) _ _ ((rd_T31 l0_3 x43_3).f3) true _ ?side1 ?side2 A27.out).mono ?_); (case side1 => exact Kd.C_below HR151_3.out (by repeat (first | (with_reducible first | exact HB.out | apply below_alloc | apply pw_below_drewN | apply below_drew1 | refine below_set ?_ GE150.out | refine below_set ?_ GE152.out) | exact HB.out))); (case side2 => exact HC151_3.out); rintro e w32 ⟨rfl, hb⟩; refine ⟨_, rfl, ?_⟩; have n0_ := Aside0.mk (blk_below (g := gb150) (o := .cells #[.int .u8 a0_0, .int .u64 a0_1, .string a0_2, .slice (some ad151) l0_3.length c0_3] 31 (0, 0)) (by (with_reducible repeat (first | refine blk_drewN ?_ _ | refine blk_drew ?_ | refine blk_alloc ?_ _)); refine blk_far ?_ NB150_152.out _; (with_reducible repeat (first | refine blk_drewN ?_ _ | refine blk_drew ?_ | refine blk_alloc ?_ _)); refine blk_far ?_ NB150_152.out _; (with_reducible repeat (first | refine blk_drewN ?_ _ | refine blk_drew ?_ | refine blk_alloc ?_ _)); refine blk_far ?_ NB150_152.out _; (with_reducible repeat (first | refine blk_drewN ?_ _ | refine blk_drew ?_ | refine blk_alloc ?_ _)); refine blk_far ?_ NB150_152.out _; (with_reducible repeat (first | refine blk_drewN ?_ _ | refine blk_drew ?_ | refine blk_alloc ?_ _)); exact BK150.out) hb); have n1_ := Aside0.mk (blk_below (g := gb152) (o := .cells #[.int .u8 ((rd_T31 l0_3 x43_3).f0), .int .u64 ((rd_T31 l0_3 x43_3).f1), .string ((rd_T31 l0_3 x43_3).f2), .slice A151_3 ((rd_T31 l0_3 x43_3).f3).length c151_3] 31 (0, 0)) (by (with_reducible repeat (first | refine blk_drewN ?_ _ | refine blk_drew ?_ | refine blk_alloc ?_ _)); refine blk_put (cs := #[.int .u8 ((rd_T31 l0_3 x43_3).f0), .int .u64 ((rd_T31 l0_3 x43_3).f1), .string ((rd_T31 l0_3 x43_3).f2), .slice none 0 0]) ?_ 3 _ rfl; (with_reducible repeat (first | refine blk_drewN ?_ _ | refine blk_drew ?_ | refine blk_alloc ?_ _)); refine blk_put (cs := #[.int .u8 ((rd_T31 l0_3 x43_3).f0), .int .u64 ((rd_T31 l0_3 x43_3).f1), .string (⟨#[]⟩ : ByteArray), .slice none 0 0]) ?_ 2 _ rfl; (with_reducible repeat (first | refine blk_drewN ?_ _ | refine blk_drew ?_ | refine blk_alloc ?_ _)); refine blk_put (cs := #[.int .u8 ((rd_T31 l0_3 x43_3).f0), .int .u64 0, .string (⟨#[]⟩ : ByteArray), .slice none 0 0]) ?_ 1 _ rfl; (with_reducible repeat (first | refine blk_drewN ?_ _ | refine blk_drew ?_ | refine blk_alloc ?_ _)); refine blk_put (cs := #[.int .u8 0, .int .u64 0, .string (⟨#[]⟩ : ByteArray), .slice none 0 0]) ?_ 0 _ rfl; (with_reducible repeat (first | refine blk_drewN ?_ _ | refine blk_drew ?_ | refine blk_alloc ?_ _)); exact BK152.out) hb); have n2_ := Aside0.mk (below_step (by repeat (first | (with_reducible first | exact HB.out | apply below_alloc | apply pw_below_drewN | apply below_drew1 | refine below_set ?_ GE150.out | refine below_set ?_ GE152.out) | exact HB.out)) hb); clear BK150; clear BK152; clear HB; have BK150 := n0_; have BK152 := n1_; have HB := n2_; clear n0_ n1_ n2_; (try clear hb); (try clear hb2); (try clear hk); (try clear hi)))
            go_roundg k3
            case measure => have := HK1.out; have := HJ2.out; have := HK3.out; omega
            case rel => exact ⟨(wrap64 (x43_3 + 1)), (by first | rfl | (simp; done) | (simp [*]; done)), H', ⟨by have := HK1.out; have := HJ2.out; have := HK3.out; omega⟩, ⟨by (with_reducible repeat (first | refine blk_drewN ?_ _ | refine blk_drew ?_ | refine blk_alloc ?_ _)); exact BK150.out⟩, ⟨by repeat (first | (with_reducible first | exact HB.out | apply below_alloc | apply pw_below_drewN | apply below_drew1 | refine below_set ?_ GE150.out | refine below_set ?_ GE152.out) | exact HB.out)⟩⟩
           ·replace c28 := Bool.eq_false_iff.mpr c28
            subst c28
            have H1 : (some false) = some r := by rw [if_neg (show ¬ (false = true) by decide)] at H; exact H
            clear H
            have H := H1
            clear H1
            obtain rfl := Option.some.inj H
            have p151 : 0 ≤ (x43_3 : Int) := of_decide_eq_true (by first | (with_reducible assumption) | assumption)
            have q151 : x43_3 < (l0_3.length : Int) := of_decide_eq_true (by first | (with_reducible assumption) | assumption)
            obtain ⟨ad151, A151_3, c151_3, e151, hx151_0, hx151_1, hx151_2, hx151_3, hl151_3, hi151_3⟩ := at_T31 HR0_3.out x43_3 p151 q151
            cases e151
            replace hx151_0 := (HB.out.cell (World.block_lt_of_cell? w _ hx151_0)).trans hx151_0
            replace hx151_1 := (HB.out.cell (World.block_lt_of_cell? w _ hx151_1)).trans hx151_1
            replace hx151_2 := (HB.out.cell (World.block_lt_of_cell? w _ hx151_2)).trans hx151_2
            replace hx151_3 := (HB.out.cell (World.block_lt_of_cell? w _ hx151_3)).trans hx151_3
            have HR151_3 := Aside0.mk hi151_3
            have HC151_3 := Aside0.mk hl151_3
            clear hi151_3 hl151_3
            replace p151 := eq_true p151
            replace q151 := eq_true q151
            go_wp2_with (first | ((with_reducible refine gate_dst (N := 5) rfl ?_); (try (refine gate_guard (by rfl) ?_; dsimp only)); refine box_event ?hg (N := 5) ?hd (cs := #[.int .u8 0, .int .u64 0, .string (⟨#[]⟩ : ByteArray), .slice none 0 0]) (t := 31) ?hr ?_; (case hd => rfl); (case hg => rfl); (case hr => first | (go_simp; done) | (go_simp; rfl)); intro gb152 hg w33 hbox hb; have n0_ := Aside0.mk (blk_below (g := gb150) (o := .cells #[.int .u8 a0_0, .int .u64 a0_1, .string a0_2, .slice (some ad151) l0_3.length c0_3] 31 (0, 0)) (by (with_reducible repeat (first | refine blk_drewN ?_ _ | refine blk_drew ?_ | refine blk_alloc ?_ _)); exact BK150.out) hb); have n1_ := Aside0.mk (below_step (by repeat (first | (with_reducible first | exact HB.out | apply below_alloc | apply pw_below_drewN | apply below_drew1 | refine below_set ?_ GE150.out) | exact HB.out)) hb); have n2_ := Aside0.mk (hbox); have n3_ := Aside0.mk ((by rw [hg]; exact (below_size (by repeat (first | (with_reducible first | exact HB.out | apply below_alloc | apply pw_below_drewN | apply below_drew1 | refine below_set ?_ GE150.out) | exact HB.out))) : w.heap.size ≤ gb152)); have n4_ := Aside0.mk ((by rw [hg]; exact (below_size (by repeat (first | (with_reducible first | exact HB.out | apply below_alloc | apply pw_below_drewN | apply below_drew1 | refine below_set ?_ GE150.out) | exact HB.out))) : w.heap.size ≤ gb152)); have n5_ := Aside0.mk ((by rw [hg]; exact Nat.ne_of_lt (blk_lt (g := gb150) (o := .cells #[.int .u8 a0_0, .int .u64 a0_1, .string a0_2, .slice (some ad151) l0_3.length c0_3] 31 (0, 0)) (by (with_reducible repeat (first | refine blk_drewN ?_ _ | refine blk_drew ?_ | refine blk_alloc ?_ _)); exact BK150.out)) : gb150 ≠ gb152)); have n6_ := Aside0.mk ((by rw [hg]; exact Nat.ne_of_gt (blk_lt (g := gb150) (o := .cells #[.int .u8 a0_0, .int .u64 a0_1, .string a0_2, .slice (some ad151) l0_3.length c0_3] 31 (0, 0)) (by (with_reducible repeat (first | refine blk_drewN ?_ _ | refine blk_drew ?_ | refine blk_alloc ?_ _)); exact BK150.out)) : gb152 ≠ gb150)); clear BK150; clear HB; have BK150 := n0_; have HB := n1_; have BK152 := n2_; have GW152 := n3_; have GE152 := n4_; have NB150_152 := n5_; have NB152_150 := n6_; clear n0_ n1_ n2_ n3_ n4_ n5_ n6_; clear hb hbox hg; have hnb34 := NB152_150.out; have hnc34 := NB150_152.out; have hcz35_0 : w33.cell? ⟨gb152, 0, none⟩ = some (.int .u8 0) := (blk_cell BK152.out 0).trans rfl; have hcz35_1 : w33.cell? ⟨gb152, 1, none⟩ = some (.int .u64 0) := (blk_cell BK152.out 1).trans rfl; have hcz35_2 : w33.cell? ⟨gb152, 2, none⟩ = some (.string (⟨#[]⟩ : ByteArray)) := (blk_cell BK152.out 2).trans rfl; have hcz35_3 : w33.cell? ⟨gb152, 3, none⟩ = some (.slice none 0 0) := (blk_cell BK152.out 3).trans rfl; have hfz35_0 := blk_frozen BK152.out 0; have hfz35_1 := blk_frozen BK152.out 1; have hfz35_2 := blk_frozen BK152.out 2; have hfz35_3 := blk_frozen BK152.out 3) | ((with_reducible refine gate_callee (f := 13) rfl ?_); refine goesL_ (some 48) rfl rfl Tryd.func13 (by kernel_rfl) rfl #[.agg #[.int .u8 ((rd_T31 l0_3 x43_3).f0), .int .u64 ((rd_T31 l0_3 x43_3).f1), .string ((rd_T31 l0_3 x43_3).f2), .slice A151_3 ((rd_T31 l0_3 x43_3).f3).length c151_3]] rfl (by (try simp only [List.map_toArray, List.map_cons, List.map_nil]); first | done | rfl | (simp only [List.length_drop, List.length_take]; rfl)) ?_; (with_reducible refine (ih k3 (by have := HK1.out; have := HJ2.out; have := HK3.out; omega) ((rd_T31 l0_3 x43_3).f0) ((rd_T31 l0_3 x43_3).f1) ((rd_T31 l0_3 x43_3).f2) _ _ ((rd_T31 l0_3 x43_3).f3) false _ ?side1 ?side2 A27.out).mono ?_); (case side1 => exact Kd.C_below HR151_3.out (by repeat (first | (with_reducible first | exact HB.out | apply below_alloc | apply pw_below_drewN | apply below_drew1 | refine below_set ?_ GE150.out | refine below_set ?_ GE152.out) | exact HB.out))); (case side2 => exact HC151_3.out); rintro e w36 ⟨rfl, hb⟩; refine ⟨_, rfl, ?_⟩; have n0_ := Aside0.mk (blk_below (g := gb150) (o := .cells #[.int .u8 a0_0, .int .u64 a0_1, .string a0_2, .slice (some ad151) l0_3.length c0_3] 31 (0, 0)) (by (with_reducible repeat (first | refine blk_drewN ?_ _ | refine blk_drew ?_ | refine blk_alloc ?_ _)); refine blk_far ?_ NB150_152.out _; (with_reducible repeat (first | refine blk_drewN ?_ _ | refine blk_drew ?_ | refine blk_alloc ?_ _)); refine blk_far ?_ NB150_152.out _; (with_reducible repeat (first | refine blk_drewN ?_ _ | refine blk_drew ?_ | refine blk_alloc ?_ _)); refine blk_far ?_ NB150_152.out _; (with_reducible repeat (first | refine blk_drewN ?_ _ | refine blk_drew ?_ | refine blk_alloc ?_ _)); refine blk_far ?_ NB150_152.out _; (with_reducible repeat (first | refine blk_drewN ?_ _ | refine blk_drew ?_ | refine blk_alloc ?_ _)); exact BK150.out) hb); have n1_ := Aside0.mk (blk_below (g := gb152) (o := .cells #[.int .u8 ((rd_T31 l0_3 x43_3).f0), .int .u64 ((rd_T31 l0_3 x43_3).f1), .string ((rd_T31 l0_3 x43_3).f2), .slice A151_3 ((rd_T31 l0_3 x43_3).f3).length c151_3] 31 (0, 0)) (by (with_reducible repeat (first | refine blk_drewN ?_ _ | refine blk_drew ?_ | refine blk_alloc ?_ _)); refine blk_put (cs := #[.int .u8 ((rd_T31 l0_3 x43_3).f0), .int .u64 ((rd_T31 l0_3 x43_3).f1), .string ((rd_T31 l0_3 x43_3).f2), .slice none 0 0]) ?_ 3 _ rfl; (with_reducible repeat (first | refine blk_drewN ?_ _ | refine blk_drew ?_ | refine blk_alloc ?_ _)); refine blk_put (cs := #[.int .u8 ((rd_T31 l0_3 x43_3).f0), .int .u64 ((rd_T31 l0_3 x43_3).f1), .string (⟨#[]⟩ : ByteArray), .slice none 0 0]) ?_ 2 _ rfl; (with_reducible repeat (first | refine blk_drewN ?_ _ | refine blk_drew ?_ | refine blk_alloc ?_ _)); refine blk_put (cs := #[.int .u8 ((rd_T31 l0_3 x43_3).f0), .int .u64 0, .string (⟨#[]⟩ : ByteArray), .slice none 0 0]) ?_ 1 _ rfl; (with_reducible repeat (first | refine blk_drewN ?_ _ | refine blk_drew ?_ | refine blk_alloc ?_ _)); refine blk_put (cs := #[.int .u8 0, .int .u64 0, .string (⟨#[]⟩ : ByteArray), .slice none 0 0]) ?_ 0 _ rfl; (with_reducible repeat (first | refine blk_drewN ?_ _ | refine blk_drew ?_ | refine blk_alloc ?_ _)); exact BK152.out) hb); have n2_ := Aside0.mk (below_step (by repeat (first | (with_reducible first | exact HB.out | apply below_alloc | apply pw_below_drewN | apply below_drew1 | refine below_set ?_ GE150.out | refine below_set ?_ GE152.out) | exact HB.out)) hb); clear BK150; clear BK152; clear HB; have BK150 := n0_; have BK152 := n1_; have HB := n2_; clear n0_ n1_ n2_; (try clear hb); (try clear hb2); (try clear hk); (try clear hi)))
            go_ret
            exact ⟨by first | rfl | (simp [errW_none, errW_some] <;> rfl) | (simp [*, errW_none, errW_some] <;> rfl) | (simp (disch := omega) only [wrap64_id] <;> rfl), by repeat (first | (with_reducible first | exact HB.out | apply below_alloc | apply pw_below_drewN | apply below_drew1 | refine below_set ?_ GE150.out | refine below_set ?_ GE152.out) | exact HB.out)⟩
          ·rw [if_neg c26] at H
           exact absurd H (by simp)
         ·rw [if_neg c25] at H
          exact absurd H (by simp)
        ·rw [if_neg c24] at H
         have c24b0 : decide (x43_3 < (l0_3.length : Int)) = false := decide_eq_false c24
         clear c24
         obtain rfl := Option.some.inj H
         go_wp2
         go_ret
         exact ⟨by first | rfl | (simp [errW_none, errW_some] <;> rfl) | (simp [*, errW_none, errW_some] <;> rfl) | (simp (disch := omega) only [wrap64_id] <;> rfl), by repeat (first | (with_reducible first | exact HB.out | apply below_alloc | apply pw_below_drewN | apply below_drew1 | refine below_set ?_ GE150.out) | exact HB.out)⟩

/-! ### spec_SigsOf: function 7 -/
def spec_SigsOf.l0 : Nat → ByteArray → List (S31) → Int → Int → Option (ByteArray)
 | 0, _, _, _, _ => none
 | k + 1, x3, x6, x7, x8 => if x8 < x7 then (if 0 ≤ x8 then (if x8 < (x6.length : Int) then ((spec_SigOf.f k ((rd_T31 x6 x8).f0) ((rd_T31 x6 x8).f1) ((rd_T31 x6 x8).f2) ((rd_T31 x6 x8).f3)).bind fun t156 => (if x3.size + t156.size ≤ 9223372036854775807 then (spec_SigsOf.l0 k (x3 ++ t156) x6 x7 (wrap64 (x8 + 1))) else (none))) else (none)) else (none)) else (some x3)
def spec_SigsOf.f (k : Nat) (l0 : List (S31)) : Option (ByteArray) := spec_SigsOf.l0 k (⟨#[]⟩ : ByteArray) l0 (l0.length : Int) 0
set_option maxHeartbeats 8000000 in
set_option maxRecDepth 100000 in
theorem spec_SigsOf.calls (k : Nat) (A0 : Option Addr) (c0 : Nat) (l0 : List (S31)) (r : ByteArray) (w : World) (hr0 : Kd.C k31 w A0 l0.length l0) (hc0 : l0.length ≤ c0) (h : spec_SigsOf.f k l0 = some r) :
  Calls Tryd.prog 7 #[.slice A0 l0.length c0] w fun e w' => e = .returned (.string r) ∧ Below w.heap.size w w' := by
 have hu31 := Tryd.underlying31
 have HR0 := Aside0.mk hr0
 have HC0 := Aside0.mk hc0
 clear hr0 hc0
 have HB := Aside0.mk (Below.refl w.heap.size w)
 have H : (spec_SigsOf.l0 k (⟨#[]⟩ : ByteArray) l0 (l0.length : Int) 0) = some r := h
 clear h
 have H' := Aside0.mk H
 clear H
 go_enter Tryd.func7, Tryd.ntmps7
 go_wp2
 go_loopg [3, 8] k (fun kq v3 v8 w' => ∃ (x3_1 : ByteArray) (x8_1 : Int), v3 = .string x3_1 ∧ v8 = .int .i64 x8_1 ∧ Aside0 (spec_SigsOf.l0 kq x3_1 l0 (l0.length : Int) x8_1 = some r) ∧ Aside0 (kq ≤ k) ∧ Aside0 (Below w.heap.size w w'))
 case atStart => exact ⟨((⟨#[]⟩ : ByteArray)), (0), (by first | rfl | (simp; done) | (simp [*]; done)), (by first | rfl | (simp; done) | (simp [*]; done)), H', ⟨Nat.le_refl _⟩, ⟨by repeat (first | (with_reducible first | exact HB.out | apply below_alloc | apply pw_below_drewN | apply below_drew1) | exact HB.out)⟩⟩
 case round =>
  clear H'
  obtain ⟨x3_1, x8_1, rfl, rfl, HA, HK1, HB⟩ := hrel
  cases gk with
  | zero => exact absurd HA.out (by simp [spec_SigsOf.l0])
  | succ k1 =>
   have H := HA.out
   clear HA
   simp only [spec_SigsOf.l0] at H
   by_cases c2 : x8_1 < (l0.length : Int)
   ·rw [if_pos c2] at H
    have c2b0 : decide (x8_1 < (l0.length : Int)) = true := decide_eq_true c2
    clear c2
    by_cases c3 : 0 ≤ x8_1
    ·rw [if_pos c3] at H
     have c3b0 : decide (0 ≤ x8_1) = true := decide_eq_true c3
     clear c3
     by_cases c4 : x8_1 < (l0.length : Int)
     ·rw [if_pos c4] at H
      have c4b0 : decide (x8_1 < (l0.length : Int)) = true := decide_eq_true c4
      clear c4
      replace H := Option.bind_eq_some_iff.mp H
      obtain ⟨t156, A50, H⟩ := H
      replace H : (if x3_1.size + t156.size ≤ 9223372036854775807 then (spec_SigsOf.l0 k1 (x3_1 ++ t156) l0 (l0.length : Int) (wrap64 (x8_1 + 1))) else (none)) = some r := H
      have A5 := Aside0.mk A50
      clear A50
      by_cases c6 : x3_1.size + t156.size ≤ 9223372036854775807
      ·rw [if_pos c6] at H
       have c6b0 := eq_true c6
       have c6b1 : decide (x3_1.size + t156.size ≤ 9223372036854775807) = true := decide_eq_true c6
       try have c6b2 : (9223372036854775807 < x3_1.size + t156.size) = False := eq_false (Nat.not_lt.2 c6)
       have H' := Aside0.mk H
       clear H
       have p154 : 0 ≤ (x8_1 : Int) := of_decide_eq_true (by first | (with_reducible assumption) | assumption)
       have q154 : x8_1 < (l0.length : Int) := of_decide_eq_true (by first | (with_reducible assumption) | assumption)
       obtain ⟨ad154, A154_3, c154_3, e154, hx154_0, hx154_1, hx154_2, hx154_3, hl154_3, hi154_3⟩ := at_T31 HR0.out x8_1 p154 q154
       cases e154
       replace hx154_0 := (HB.out.cell (World.block_lt_of_cell? w _ hx154_0)).trans hx154_0
       replace hx154_1 := (HB.out.cell (World.block_lt_of_cell? w _ hx154_1)).trans hx154_1
       replace hx154_2 := (HB.out.cell (World.block_lt_of_cell? w _ hx154_2)).trans hx154_2
       replace hx154_3 := (HB.out.cell (World.block_lt_of_cell? w _ hx154_3)).trans hx154_3
       have HR154_3 := Aside0.mk hi154_3
       have HC154_3 := Aside0.mk hl154_3
       clear hi154_3 hl154_3
       replace p154 := eq_true p154
       replace q154 := eq_true q154
       go_wp2_with (first | ((with_reducible refine gate_dst (N := 5) rfl ?_); refine box_event ?hg (N := 5) ?hd (cs := #[.int .u8 0, .int .u64 0, .string (⟨#[]⟩ : ByteArray), .slice none 0 0]) (t := 31) ?hr ?_; (case hd => rfl); (case hg => rfl); (case hr => first | (go_simp; done) | (go_simp; rfl)); intro gb155 hg w7 hbox hb; have n0_ := Aside0.mk (below_step (by repeat (first | (with_reducible first | exact HB.out | apply below_alloc | apply pw_below_drewN | apply below_drew1) | exact HB.out)) hb); have n1_ := Aside0.mk (hbox); have n2_ := Aside0.mk ((by rw [hg]; exact (below_size (by repeat (first | (with_reducible first | exact HB.out | apply below_alloc | apply pw_below_drewN | apply below_drew1) | exact HB.out))) : w.heap.size ≤ gb155)); have n3_ := Aside0.mk ((by rw [hg]; exact (below_size (by repeat (first | (with_reducible first | exact HB.out | apply below_alloc | apply pw_below_drewN | apply below_drew1) | exact HB.out))) : w.heap.size ≤ gb155)); clear HB; have HB := n0_; have BK155 := n1_; have GW155 := n2_; have GE155 := n3_; clear n0_ n1_ n2_ n3_; clear hb hbox hg; have hcz8_0 : w7.cell? ⟨gb155, 0, none⟩ = some (.int .u8 0) := (blk_cell BK155.out 0).trans rfl; have hcz8_1 : w7.cell? ⟨gb155, 1, none⟩ = some (.int .u64 0) := (blk_cell BK155.out 1).trans rfl; have hcz8_2 : w7.cell? ⟨gb155, 2, none⟩ = some (.string (⟨#[]⟩ : ByteArray)) := (blk_cell BK155.out 2).trans rfl; have hcz8_3 : w7.cell? ⟨gb155, 3, none⟩ = some (.slice none 0 0) := (blk_cell BK155.out 3).trans rfl; have hfz8_0 := blk_frozen BK155.out 0; have hfz8_1 := blk_frozen BK155.out 1; have hfz8_2 := blk_frozen BK155.out 2; have hfz8_3 := blk_frozen BK155.out 3) | ((with_reducible refine gate_callee (f := 17) rfl ?_); refine goesL_ (some 14) rfl rfl Tryd.func17 (by kernel_rfl) rfl #[.agg #[.int .u8 ((rd_T31 l0 x8_1).f0), .int .u64 ((rd_T31 l0 x8_1).f1), .string ((rd_T31 l0 x8_1).f2), .slice A154_3 ((rd_T31 l0 x8_1).f3).length c154_3]] rfl (by (try simp only [List.map_toArray, List.map_cons, List.map_nil]); first | done | rfl | (simp only [List.length_drop, List.length_take]; rfl)) ?_; (with_reducible refine (spec_SigOf.calls k1 ((rd_T31 l0 x8_1).f0) ((rd_T31 l0 x8_1).f1) ((rd_T31 l0 x8_1).f2) _ _ ((rd_T31 l0 x8_1).f3) t156 _ ?side1 ?side2 A5.out).mono ?_); (case side1 => exact Kd.C_below HR154_3.out (by repeat (first | (with_reducible first | exact HB.out | apply below_alloc | apply pw_below_drewN | apply below_drew1 | refine below_set ?_ GE155.out) | exact HB.out))); (case side2 => exact HC154_3.out); rintro e w9 ⟨rfl, hb⟩; refine ⟨_, rfl, ?_⟩; have n0_ := Aside0.mk (blk_below (g := gb155) (o := .cells #[.int .u8 ((rd_T31 l0 x8_1).f0), .int .u64 ((rd_T31 l0 x8_1).f1), .string ((rd_T31 l0 x8_1).f2), .slice A154_3 ((rd_T31 l0 x8_1).f3).length c154_3] 31 (0, 0)) (by (with_reducible repeat (first | refine blk_drewN ?_ _ | refine blk_drew ?_ | refine blk_alloc ?_ _)); refine blk_put (cs := #[.int .u8 ((rd_T31 l0 x8_1).f0), .int .u64 ((rd_T31 l0 x8_1).f1), .string ((rd_T31 l0 x8_1).f2), .slice none 0 0]) ?_ 3 _ rfl; (with_reducible repeat (first | refine blk_drewN ?_ _ | refine blk_drew ?_ | refine blk_alloc ?_ _)); refine blk_put (cs := #[.int .u8 ((rd_T31 l0 x8_1).f0), .int .u64 ((rd_T31 l0 x8_1).f1), .string (⟨#[]⟩ : ByteArray), .slice none 0 0]) ?_ 2 _ rfl; (with_reducible repeat (first | refine blk_drewN ?_ _ | refine blk_drew ?_ | refine blk_alloc ?_ _)); refine blk_put (cs := #[.int .u8 ((rd_T31 l0 x8_1).f0), .int .u64 0, .string (⟨#[]⟩ : ByteArray), .slice none 0 0]) ?_ 1 _ rfl; (with_reducible repeat (first | refine blk_drewN ?_ _ | refine blk_drew ?_ | refine blk_alloc ?_ _)); refine blk_put (cs := #[.int .u8 0, .int .u64 0, .string (⟨#[]⟩ : ByteArray), .slice none 0 0]) ?_ 0 _ rfl; (with_reducible repeat (first | refine blk_drewN ?_ _ | refine blk_drew ?_ | refine blk_alloc ?_ _)); exact BK155.out) hb); have n1_ := Aside0.mk (below_step (by repeat (first | (with_reducible first | exact HB.out | apply below_alloc | apply pw_below_drewN | apply below_drew1 | refine below_set ?_ GE155.out) | exact HB.out)) hb); clear BK155; clear HB; have BK155 := n0_; have HB := n1_; clear n0_ n1_; (try clear hb); (try clear hb2); (try clear hk); (try clear hi)))
       go_roundg k1
       case measure => have := HK1.out; omega
       case rel => exact ⟨(x3_1 ++ t156), (wrap64 (x8_1 + 1)), (by first | rfl | (simp; done) | (simp [*]; done)), (by first | rfl | (simp; done) | (simp [*]; done)), H', ⟨by have := HK1.out; omega⟩, ⟨by repeat (first | (with_reducible first | exact HB.out | apply below_alloc | apply pw_below_drewN | apply below_drew1 | refine below_set ?_ GE155.out) | exact HB.out)⟩⟩
      ·rw [if_neg c6] at H
       exact absurd H (by simp)
     ·rw [if_neg c4] at H
      exact absurd H (by simp)
    ·rw [if_neg c3] at H
     exact absurd H (by simp)
   ·rw [if_neg c2] at H
    have c2b0 : decide (x8_1 < (l0.length : Int)) = false := decide_eq_false c2
    clear c2
    obtain rfl := Option.some.inj H
    go_wp2
    go_ret
    exact ⟨by first | rfl | (simp [errW_none, errW_some] <;> rfl) | (simp [*, errW_none, errW_some] <;> rfl) | (simp (disch := omega) only [wrap64_id] <;> rfl), by repeat (first | (with_reducible first | exact HB.out | apply below_alloc | apply pw_below_drewN | apply below_drew1) | exact HB.out)⟩

-- NOT PRINTED: function 14 (spec_TidyAll)

-- NOT PRINTED: function 5 (laws_sgSmall)

/-- A state of type 62 at block g of W; what its slices lead to came in by w0. -/
def IsS62 (w0 W : World) (g : Nat) (f0 : Int) (f1 : Int) (f2 : Int) : Prop := W.heap[g]? = some (.cells #[.int .i64 f0, .int .i64 f1, .int .i64 f2] 62 (0, 0)) ∧ w0.heap.size ≤ g
theorem IsS62.grown {w0 W : World} {g : Nat} {f0 : Int} {f1 : Int} {f2 : Int} {W1 : World} {row : Option Nat} (h : IsS62 w0 W g f0 f1 f2) (hw : W.grownBy W1 row) (hne : some g ≠ row) : IsS62 w0 W1 g f0 f1 f2 := by
 obtain ⟨hb, hg⟩ := h
 exact ⟨blk_grown hb hw hne, hg⟩
theorem IsS62.kept {w0 W : World} {g : Nat} {f0 : Int} {f1 : Int} {f2 : Int} {W1 : World} {S : Nat → Prop} (h : IsS62 w0 W g f0 f1 f2) (hk : Kept W W1 S) (hne : ¬ S g) : IsS62 w0 W1 g f0 f1 f2 := by
 obtain ⟨hb, hg⟩ := h
 exact ⟨blk_kept hb hk hne, hg⟩
theorem IsS62.below {w0 W : World} {g : Nat} {f0 : Int} {f1 : Int} {f2 : Int} {W1 : World} (h : IsS62 w0 W g f0 f1 f2) (hw : Below W.heap.size W W1) : IsS62 w0 W1 g f0 f1 f2 := h.grown (grown_of_below hw none) (by simp)
theorem IsS62.alloc {w0 W : World} {g : Nat} {f0 : Int} {f1 : Int} {f2 : Int} (h : IsS62 w0 W g f0 f1 f2) (o : Obj) : IsS62 w0 (W.alloc o) g f0 f1 f2 := h.below (below_alloc (Below.refl _ _) o)
theorem IsS62.drewN {w0 W : World} {g : Nat} {f0 : Int} {f1 : Int} {f2 : Int} (h : IsS62 w0 W g f0 f1 f2) (m : Nat) : IsS62 w0 (W.drewN m) g f0 f1 f2 := h
theorem IsS62.drew {w0 W : World} {g : Nat} {f0 : Int} {f1 : Int} {f2 : Int} (h : IsS62 w0 W g f0 f1 f2) : IsS62 w0 W.drew g f0 f1 f2 := h
theorem IsS62.own_ne {w0 W : World} {g : Nat} {f0 : Int} {f1 : Int} {f2 : Int} {α : Type} {d : Kd α} {e : Nat} {base : Nat} {ok : Nat → Prop} {v : Value} {xs : List α} (h : IsS62 w0 W g f0 f1 f2) (ho : d.R e W base ok v xs) (ht : e ≠ 62) : some g ≠ v.ownBlock := by
 obtain ⟨hb, hg⟩ := h
 exact Kd.R_ne ho hb ht
theorem IsS62.lt {w0 W : World} {g : Nat} {f0 : Int} {f1 : Int} {f2 : Int} (h : IsS62 w0 W g f0 f1 f2) : g < W.heap.size := by
 obtain ⟨hb, hg⟩ := h
 exact blk_lt hb
theorem IsS62.ge {w0 W : World} {g : Nat} {f0 : Int} {f1 : Int} {f2 : Int} (h : IsS62 w0 W g f0 f1 f2) : w0.heap.size ≤ g := by
 obtain ⟨hb, hg⟩ := h
 exact hg
theorem cellS62_0 {W : World} {g : Nat} {f0 : Int} {f1 : Int} {f2 : Int} (h : W.heap[g]? = some (.cells #[.int .i64 f0, .int .i64 f1, .int .i64 f2] 62 (0, 0))) : W.cell? ⟨g, 0, none⟩ = some (.int .i64 f0) := (blk_cell h 0).trans rfl
theorem IsS62.set_0 {w0 W : World} {g : Nat} {f0 : Int} {f1 : Int} {f2 : Int} (h : IsS62 w0 W g f0 f1 f2) (x : Int) : IsS62 w0 (W.setCell ⟨g, 0, none⟩ (.int .i64 x)) g x f1 f2 := by
 obtain ⟨hb, hg⟩ := h
 exact ⟨by simpa using blk_set hb 0 (.int .i64 x), hg⟩
theorem cellS62_1 {W : World} {g : Nat} {f0 : Int} {f1 : Int} {f2 : Int} (h : W.heap[g]? = some (.cells #[.int .i64 f0, .int .i64 f1, .int .i64 f2] 62 (0, 0))) : W.cell? ⟨g, 1, none⟩ = some (.int .i64 f1) := (blk_cell h 1).trans rfl
theorem IsS62.set_1 {w0 W : World} {g : Nat} {f0 : Int} {f1 : Int} {f2 : Int} (h : IsS62 w0 W g f0 f1 f2) (x : Int) : IsS62 w0 (W.setCell ⟨g, 1, none⟩ (.int .i64 x)) g f0 x f2 := by
 obtain ⟨hb, hg⟩ := h
 exact ⟨by simpa using blk_set hb 1 (.int .i64 x), hg⟩
theorem cellS62_2 {W : World} {g : Nat} {f0 : Int} {f1 : Int} {f2 : Int} (h : W.heap[g]? = some (.cells #[.int .i64 f0, .int .i64 f1, .int .i64 f2] 62 (0, 0))) : W.cell? ⟨g, 2, none⟩ = some (.int .i64 f2) := (blk_cell h 2).trans rfl
theorem IsS62.set_2 {w0 W : World} {g : Nat} {f0 : Int} {f1 : Int} {f2 : Int} (h : IsS62 w0 W g f0 f1 f2) (x : Int) : IsS62 w0 (W.setCell ⟨g, 2, none⟩ (.int .i64 x)) g f0 f1 x := by
 obtain ⟨hb, hg⟩ := h
 exact ⟨by simpa using blk_set hb 2 (.int .i64 x), hg⟩
theorem IsS62.new (w0 W : World) (f0 : Int) (f1 : Int) (f2 : Int) (hB : Below w0.heap.size w0 W) : IsS62 w0 (W.alloc (.cells #[.int .i64 f0, .int .i64 f1, .int .i64 f2] 62)) W.heap.size f0 f1 f2 := ⟨by simpa using heap_alloc_new W _, hB.size⟩

/-! ### dbus_depthCounter_Valid: function 38 -/
def dbus_depthCounter_Valid.f (s0_0 : Int) (s0_1 : Int) (s0_2 : Int) : Option (Bool × Int × Int × Int) := if s0_0 ≤ 32 then (if s0_1 ≤ 32 then (some (decide (s0_2 ≤ 32), s0_0, s0_1, s0_2)) else (some (false, s0_0, s0_1, s0_2))) else (some (false, s0_0, s0_1, s0_2))
set_option maxHeartbeats 8000000 in
set_option maxRecDepth 100000 in
theorem dbus_depthCounter_Valid.calls (g : Nat) (s0_0 : Int) (s0_1 : Int) (s0_2 : Int) (r1 : Bool) (r2 : Int) (r3 : Int) (r4 : Int) (w0 w : World) (hI : IsS62 w0 w g s0_0 s0_1 s0_2) (hB : Below w0.heap.size w0 w) (h : dbus_depthCounter_Valid.f s0_0 s0_1 s0_2 = some (r1, r2, r3, r4)) :
  Calls Tryd.prog 38 #[.pointer (some ⟨g, 0, none⟩)] w fun e w' => e = .returned (.bool r1) ∧ IsS62 w0 w' g r2 r3 r4 ∧ Below w0.heap.size w0 w' ∧ KeepBut w w' g none := by
 have HI0 := Aside0.mk hI
 have HK := Aside0.mk (KeepBut.refl w g none)
 have HL := Aside0.mk hB.size
 clear hI
 have HW0 := Aside0.mk hB.size
 have HB := Aside0.mk hB
 clear hB
 have H : (if s0_0 ≤ 32 then (if s0_1 ≤ 32 then (some (decide (s0_2 ≤ 32), s0_0, s0_1, s0_2)) else (some (false, s0_0, s0_1, s0_2))) else (some (false, s0_0, s0_1, s0_2))) = some (r1, r2, r3, r4) := h
 clear h
 by_cases c2 : s0_0 ≤ 32
 ·rw [if_pos c2] at H
  have c2b0 : decide (s0_0 ≤ 32) = true := decide_eq_true c2
  clear c2
  by_cases c3 : s0_1 ≤ 32
  ·rw [if_pos c3] at H
   have c3b0 : decide (s0_1 ≤ 32) = true := decide_eq_true c3
   clear c3
   simp only [Option.some.injEq, Prod.mk.injEq] at H
   obtain ⟨rfl, rfl, rfl, rfl⟩ := H
   obtain ⟨HGz4, hgz4⟩ := HI0.out
   have hcz4_0 := cellS62_0 HGz4
   have hcz4_1 := cellS62_1 HGz4
   have hcz4_2 := cellS62_2 HGz4
   have hfz4_0 := blk_frozen HGz4 0
   have hfz4_1 := blk_frozen HGz4 1
   have hfz4_2 := blk_frozen HGz4 2
   clear HGz4 hgz4
   go_enter Tryd.func38, Tryd.ntmps38
   go_wp2
   go_ret
   exact ⟨by first | rfl | (simp [errW_none, errW_some] <;> rfl) | (simp [*, errW_none, errW_some] <;> rfl) | (simp (disch := omega) only [wrap64_id] <;> rfl), by repeat (first | (with_reducible first | exact HI0.out | apply IsS62.alloc | apply IsS62.drewN | apply IsS62.drew | apply IsS62.set_0 | apply IsS62.set_1 | apply IsS62.set_2) | exact HI0.out), by repeat (first | (with_reducible first | exact HB.out | apply below_alloc | apply pw_below_drewN | apply below_drew1 | refine below_set ?_ (IsS62.ge HI0.out)) | exact HB.out), by repeat (first | (with_reducible first | exact HK.out | apply KeepBut.set_ | apply keep_drewN | apply keep_drew | apply keep_alloc) | exact HK.out)⟩
  ·rw [if_neg c3] at H
   have c3b0 : decide (s0_1 ≤ 32) = false := decide_eq_false c3
   clear c3
   simp only [Option.some.injEq, Prod.mk.injEq] at H
   obtain ⟨rfl, rfl, rfl, rfl⟩ := H
   obtain ⟨HGz5, hgz5⟩ := HI0.out
   have hcz5_0 := cellS62_0 HGz5
   have hcz5_1 := cellS62_1 HGz5
   have hcz5_2 := cellS62_2 HGz5
   have hfz5_0 := blk_frozen HGz5 0
   have hfz5_1 := blk_frozen HGz5 1
   have hfz5_2 := blk_frozen HGz5 2
   clear HGz5 hgz5
   go_enter Tryd.func38, Tryd.ntmps38
   go_wp2
   go_ret
   exact ⟨by first | rfl | (simp [errW_none, errW_some] <;> rfl) | (simp [*, errW_none, errW_some] <;> rfl) | (simp (disch := omega) only [wrap64_id] <;> rfl), by repeat (first | (with_reducible first | exact HI0.out | apply IsS62.alloc | apply IsS62.drewN | apply IsS62.drew | apply IsS62.set_0 | apply IsS62.set_1 | apply IsS62.set_2) | exact HI0.out), by repeat (first | (with_reducible first | exact HB.out | apply below_alloc | apply pw_below_drewN | apply below_drew1 | refine below_set ?_ (IsS62.ge HI0.out)) | exact HB.out), by repeat (first | (with_reducible first | exact HK.out | apply KeepBut.set_ | apply keep_drewN | apply keep_drew | apply keep_alloc) | exact HK.out)⟩
 ·rw [if_neg c2] at H
  have c2b0 : decide (s0_0 ≤ 32) = false := decide_eq_false c2
  clear c2
  simp only [Option.some.injEq, Prod.mk.injEq] at H
  obtain ⟨rfl, rfl, rfl, rfl⟩ := H
  obtain ⟨HGz6, hgz6⟩ := HI0.out
  have hcz6_0 := cellS62_0 HGz6
  have hcz6_1 := cellS62_1 HGz6
  have hcz6_2 := cellS62_2 HGz6
  have hfz6_0 := blk_frozen HGz6 0
  have hfz6_1 := blk_frozen HGz6 1
  have hfz6_2 := blk_frozen HGz6 2
  clear HGz6 hgz6
  go_enter Tryd.func38, Tryd.ntmps38
  go_wp2
  go_ret
  exact ⟨by first | rfl | (simp [errW_none, errW_some] <;> rfl) | (simp [*, errW_none, errW_some] <;> rfl) | (simp (disch := omega) only [wrap64_id] <;> rfl), by repeat (first | (with_reducible first | exact HI0.out | apply IsS62.alloc | apply IsS62.drewN | apply IsS62.drew | apply IsS62.set_0 | apply IsS62.set_1 | apply IsS62.set_2) | exact HI0.out), by repeat (first | (with_reducible first | exact HB.out | apply below_alloc | apply pw_below_drewN | apply below_drew1 | refine below_set ?_ (IsS62.ge HI0.out)) | exact HB.out), by repeat (first | (with_reducible first | exact HK.out | apply KeepBut.set_ | apply keep_drewN | apply keep_drew | apply keep_alloc) | exact HK.out)⟩

/-! ### dbus_depthCounter_EnterArray: function 40 -/
def dbus_depthCounter_EnterArray.f (a0_0 : Int) (a0_1 : Int) (a0_2 : Int) : Option (Int × Int × Int) := some (wrap64 (a0_0 + 1), a0_1, a0_2)
set_option maxHeartbeats 8000000 in
set_option maxRecDepth 100000 in
theorem dbus_depthCounter_EnterArray.calls (a0_0 : Int) (a0_1 : Int) (a0_2 : Int) (r1 : Int) (r2 : Int) (r3 : Int) (w0 w : World) (hB : Below w0.heap.size w0 w) (h : dbus_depthCounter_EnterArray.f a0_0 a0_1 a0_2 = some (r1, r2, r3)) :
  Calls Tryd.prog 40 #[.agg #[.int .i64 a0_0, .int .i64 a0_1, .int .i64 a0_2]] w fun e w' => ∃ g_ : Nat, e = .returned (.pointer (some ⟨g_, 0, none⟩)) ∧ IsS62 w0 w' g_ r1 r2 r3 ∧ Below w0.heap.size w0 w' ∧ Below w.heap.size w w' := by
 have hu62 := Tryd.underlying62
 have HBW := Aside0.mk (Below.refl w.heap.size w)
 have HW0 := Aside0.mk hB.size
 have HB := Aside0.mk hB
 clear hB
 have H : (some (wrap64 (a0_0 + 1), a0_1, a0_2)) = some (r1, r2, r3) := h
 clear h
 simp only [Option.some.injEq, Prod.mk.injEq] at H
 obtain ⟨rfl, rfl, rfl⟩ := H
 go_enter Tryd.func40, Tryd.ntmps40
 go_wp2_with (first | ((with_reducible refine gate_dst (N := 1) rfl ?_); refine box_event ?hg (N := 1) ?hd (cs := #[.int .i64 a0_0, .int .i64 a0_1, .int .i64 a0_2]) (t := 62) ?hr ?_; (case hd => rfl); (case hg => rfl); (case hr => first | (go_simp; done) | (go_simp; rfl)); intro gb160 hg w2 hbox hb; have n0_ := Aside0.mk (below_step HBW.out hb); have n1_ := Aside0.mk (below_step (by repeat (first | (with_reducible first | exact HB.out | apply below_alloc | apply pw_below_drewN | apply below_drew1) | exact HB.out)) hb); have n2_ := Aside0.mk (hbox); have n3_ := Aside0.mk ((by rw [hg]; exact (below_size (by repeat (first | (with_reducible first | exact HBW.out | apply below_alloc | apply pw_below_drewN | apply below_drew1) | exact HBW.out))) : w.heap.size ≤ gb160)); have n4_ := Aside0.mk ((Nat.le_trans HW0.out (by rw [hg]; exact (below_size (by repeat (first | (with_reducible first | exact HBW.out | apply below_alloc | apply pw_below_drewN | apply below_drew1) | exact HBW.out))) : w.heap.size ≤ gb160) : w0.heap.size ≤ gb160)); clear HBW; clear HB; have HBW := n0_; have HB := n1_; have BK160 := n2_; have GW160 := n3_; have GE160 := n4_; clear n0_ n1_ n2_ n3_ n4_; clear hb hbox hg; have hcz3_0 : w2.cell? ⟨gb160, 0, none⟩ = some (.int .i64 a0_0) := (blk_cell BK160.out 0).trans rfl; have hcz3_1 : w2.cell? ⟨gb160, 1, none⟩ = some (.int .i64 a0_1) := (blk_cell BK160.out 1).trans rfl; have hcz3_2 : w2.cell? ⟨gb160, 2, none⟩ = some (.int .i64 a0_2) := (blk_cell BK160.out 2).trans rfl; have hfz3_0 := blk_frozen BK160.out 0; have hfz3_1 := blk_frozen BK160.out 1; have hfz3_2 := blk_frozen BK160.out 2))
 go_ret
 exact ⟨_, rfl, (show IsS62 w0 _ gb160 (wrap64 (a0_0 + 1)) a0_1 a0_2 from ⟨by (with_reducible repeat (first | refine blk_drewN ?_ _ | refine blk_drew ?_ | refine blk_alloc ?_ _)); refine blk_put (cs := #[.int .i64 a0_0, .int .i64 a0_1, .int .i64 a0_2]) ?_ 0 _ rfl; (with_reducible repeat (first | refine blk_drewN ?_ _ | refine blk_drew ?_ | refine blk_alloc ?_ _)); exact BK160.out, GE160.out⟩), by repeat (first | (with_reducible first | exact HB.out | apply below_alloc | apply pw_below_drewN | apply below_drew1 | refine below_set ?_ GE160.out) | exact HB.out), by repeat (first | (with_reducible first | exact HBW.out | apply below_alloc | apply pw_below_drewN | apply below_drew1 | refine below_set ?_ GW160.out) | exact HBW.out)⟩

/-! ### dbus_depthCounter_EnterDictEntry: function 41 -/
def dbus_depthCounter_EnterDictEntry.f (a0_0 : Int) (a0_1 : Int) (a0_2 : Int) : Option (Int × Int × Int) := some (a0_0, a0_1, wrap64 (a0_2 + 1))
set_option maxHeartbeats 8000000 in
set_option maxRecDepth 100000 in
theorem dbus_depthCounter_EnterDictEntry.calls (a0_0 : Int) (a0_1 : Int) (a0_2 : Int) (r1 : Int) (r2 : Int) (r3 : Int) (w0 w : World) (hB : Below w0.heap.size w0 w) (h : dbus_depthCounter_EnterDictEntry.f a0_0 a0_1 a0_2 = some (r1, r2, r3)) :
  Calls Tryd.prog 41 #[.agg #[.int .i64 a0_0, .int .i64 a0_1, .int .i64 a0_2]] w fun e w' => ∃ g_ : Nat, e = .returned (.pointer (some ⟨g_, 0, none⟩)) ∧ IsS62 w0 w' g_ r1 r2 r3 ∧ Below w0.heap.size w0 w' ∧ Below w.heap.size w w' := by
 have hu62 := Tryd.underlying62
 have HBW := Aside0.mk (Below.refl w.heap.size w)
 have HW0 := Aside0.mk hB.size
 have HB := Aside0.mk hB
 clear hB
 have H : (some (a0_0, a0_1, wrap64 (a0_2 + 1))) = some (r1, r2, r3) := h
 clear h
 simp only [Option.some.injEq, Prod.mk.injEq] at H
 obtain ⟨rfl, rfl, rfl⟩ := H
 go_enter Tryd.func41, Tryd.ntmps41
 go_wp2_with (first | ((with_reducible refine gate_dst (N := 1) rfl ?_); refine box_event ?hg (N := 1) ?hd (cs := #[.int .i64 a0_0, .int .i64 a0_1, .int .i64 a0_2]) (t := 62) ?hr ?_; (case hd => rfl); (case hg => rfl); (case hr => first | (go_simp; done) | (go_simp; rfl)); intro gb161 hg w2 hbox hb; have n0_ := Aside0.mk (below_step HBW.out hb); have n1_ := Aside0.mk (below_step (by repeat (first | (with_reducible first | exact HB.out | apply below_alloc | apply pw_below_drewN | apply below_drew1) | exact HB.out)) hb); have n2_ := Aside0.mk (hbox); have n3_ := Aside0.mk ((by rw [hg]; exact (below_size (by repeat (first | (with_reducible first | exact HBW.out | apply below_alloc | apply pw_below_drewN | apply below_drew1) | exact HBW.out))) : w.heap.size ≤ gb161)); have n4_ := Aside0.mk ((Nat.le_trans HW0.out (by rw [hg]; exact (below_size (by repeat (first | (with_reducible first | exact HBW.out | apply below_alloc | apply pw_below_drewN | apply below_drew1) | exact HBW.out))) : w.heap.size ≤ gb161) : w0.heap.size ≤ gb161)); clear HBW; clear HB; have HBW := n0_; have HB := n1_; have BK161 := n2_; have GW161 := n3_; have GE161 := n4_; clear n0_ n1_ n2_ n3_ n4_; clear hb hbox hg; have hcz3_0 : w2.cell? ⟨gb161, 0, none⟩ = some (.int .i64 a0_0) := (blk_cell BK161.out 0).trans rfl; have hcz3_1 : w2.cell? ⟨gb161, 1, none⟩ = some (.int .i64 a0_1) := (blk_cell BK161.out 1).trans rfl; have hcz3_2 : w2.cell? ⟨gb161, 2, none⟩ = some (.int .i64 a0_2) := (blk_cell BK161.out 2).trans rfl; have hfz3_0 := blk_frozen BK161.out 0; have hfz3_1 := blk_frozen BK161.out 1; have hfz3_2 := blk_frozen BK161.out 2))
 go_ret
 exact ⟨_, rfl, (show IsS62 w0 _ gb161 a0_0 a0_1 (wrap64 (a0_2 + 1)) from ⟨by (with_reducible repeat (first | refine blk_drewN ?_ _ | refine blk_drew ?_ | refine blk_alloc ?_ _)); refine blk_put (cs := #[.int .i64 a0_0, .int .i64 a0_1, .int .i64 a0_2]) ?_ 2 _ rfl; (with_reducible repeat (first | refine blk_drewN ?_ _ | refine blk_drew ?_ | refine blk_alloc ?_ _)); exact BK161.out, GE161.out⟩), by repeat (first | (with_reducible first | exact HB.out | apply below_alloc | apply pw_below_drewN | apply below_drew1 | refine below_set ?_ GE161.out) | exact HB.out), by repeat (first | (with_reducible first | exact HBW.out | apply below_alloc | apply pw_below_drewN | apply below_drew1 | refine below_set ?_ GW161.out) | exact HBW.out)⟩

/-! ### dbus_depthCounter_EnterStruct: function 42 -/
def dbus_depthCounter_EnterStruct.f (a0_0 : Int) (a0_1 : Int) (a0_2 : Int) : Option (Int × Int × Int) := some (a0_0, wrap64 (a0_1 + 1), a0_2)
set_option maxHeartbeats 8000000 in
set_option maxRecDepth 100000 in
theorem dbus_depthCounter_EnterStruct.calls (a0_0 : Int) (a0_1 : Int) (a0_2 : Int) (r1 : Int) (r2 : Int) (r3 : Int) (w0 w : World) (hB : Below w0.heap.size w0 w) (h : dbus_depthCounter_EnterStruct.f a0_0 a0_1 a0_2 = some (r1, r2, r3)) :
  Calls Tryd.prog 42 #[.agg #[.int .i64 a0_0, .int .i64 a0_1, .int .i64 a0_2]] w fun e w' => ∃ g_ : Nat, e = .returned (.pointer (some ⟨g_, 0, none⟩)) ∧ IsS62 w0 w' g_ r1 r2 r3 ∧ Below w0.heap.size w0 w' ∧ Below w.heap.size w w' := by
 have hu62 := Tryd.underlying62
 have HBW := Aside0.mk (Below.refl w.heap.size w)
 have HW0 := Aside0.mk hB.size
 have HB := Aside0.mk hB
 clear hB
 have H : (some (a0_0, wrap64 (a0_1 + 1), a0_2)) = some (r1, r2, r3) := h
 clear h
 simp only [Option.some.injEq, Prod.mk.injEq] at H
 obtain ⟨rfl, rfl, rfl⟩ := H
 go_enter Tryd.func42, Tryd.ntmps42
 go_wp2_with (first | ((with_reducible refine gate_dst (N := 1) rfl ?_); refine box_event ?hg (N := 1) ?hd (cs := #[.int .i64 a0_0, .int .i64 a0_1, .int .i64 a0_2]) (t := 62) ?hr ?_; (case hd => rfl); (case hg => rfl); (case hr => first | (go_simp; done) | (go_simp; rfl)); intro gb162 hg w2 hbox hb; have n0_ := Aside0.mk (below_step HBW.out hb); have n1_ := Aside0.mk (below_step (by repeat (first | (with_reducible first | exact HB.out | apply below_alloc | apply pw_below_drewN | apply below_drew1) | exact HB.out)) hb); have n2_ := Aside0.mk (hbox); have n3_ := Aside0.mk ((by rw [hg]; exact (below_size (by repeat (first | (with_reducible first | exact HBW.out | apply below_alloc | apply pw_below_drewN | apply below_drew1) | exact HBW.out))) : w.heap.size ≤ gb162)); have n4_ := Aside0.mk ((Nat.le_trans HW0.out (by rw [hg]; exact (below_size (by repeat (first | (with_reducible first | exact HBW.out | apply below_alloc | apply pw_below_drewN | apply below_drew1) | exact HBW.out))) : w.heap.size ≤ gb162) : w0.heap.size ≤ gb162)); clear HBW; clear HB; have HBW := n0_; have HB := n1_; have BK162 := n2_; have GW162 := n3_; have GE162 := n4_; clear n0_ n1_ n2_ n3_ n4_; clear hb hbox hg; have hcz3_0 : w2.cell? ⟨gb162, 0, none⟩ = some (.int .i64 a0_0) := (blk_cell BK162.out 0).trans rfl; have hcz3_1 : w2.cell? ⟨gb162, 1, none⟩ = some (.int .i64 a0_1) := (blk_cell BK162.out 1).trans rfl; have hcz3_2 : w2.cell? ⟨gb162, 2, none⟩ = some (.int .i64 a0_2) := (blk_cell BK162.out 2).trans rfl; have hfz3_0 := blk_frozen BK162.out 0; have hfz3_1 := blk_frozen BK162.out 1; have hfz3_2 := blk_frozen BK162.out 2))
 go_ret
 exact ⟨_, rfl, (show IsS62 w0 _ gb162 a0_0 (wrap64 (a0_1 + 1)) a0_2 from ⟨by (with_reducible repeat (first | refine blk_drewN ?_ _ | refine blk_drew ?_ | refine blk_alloc ?_ _)); refine blk_put (cs := #[.int .i64 a0_0, .int .i64 a0_1, .int .i64 a0_2]) ?_ 1 _ rfl; (with_reducible repeat (first | refine blk_drewN ?_ _ | refine blk_drew ?_ | refine blk_alloc ?_ _)); exact BK162.out, GE162.out⟩), by repeat (first | (with_reducible first | exact HB.out | apply below_alloc | apply pw_below_drewN | apply below_drew1 | refine below_set ?_ GE162.out) | exact HB.out), by repeat (first | (with_reducible first | exact HBW.out | apply below_alloc | apply pw_below_drewN | apply below_drew1 | refine below_set ?_ GW162.out) | exact HBW.out)⟩

end Go.Proofs.YtboioihppjhjcaaDoor.MFnSgOf

namespace Go.Proofs.YtboioihppjhjcaaDoor.MFnSgOf
open Go.RowKit Go.Proofs.YtboioihppjhjcaaDoorW.PrintWords Go.Proofs.YtboioihppjhjcaaDoorW.PrintLast Go.Proofs.YtboioihppjhjcaaDoorW.PrintMore
attribute [local go_sem] max2_int min2_int max_two min_two max_three min_three max_four min_four   -- for this text's walks alone
set_option linter.unusedVariables false
set_option linter.unusedSimpArgs false

/-! ### dbus_findMatching: function 39 -/
-- GIVENTEXT
def dbus_findMatching.step (c l r n : Int) : Int := if c = l then wrap64 (n + 1) else if c = r then wrap64 (n - 1) else n
def dbus_findMatching.l0 : Nat → ByteArray → Int → Int → Int → Nat → Option Int
 | 0, _, _, _, _, _ => none
 | k + 1, s, l, r, n, pos => if pos < s.size then
   (if dbus_findMatching.step ((Utf8.decode s pos).1 : Int) l r n = 0 then some (pos : Int) else dbus_findMatching.l0 k s l r (dbus_findMatching.step ((Utf8.decode s pos).1 : Int) l r n) (pos + (Utf8.decode s pos).2))
   else some (-1)
def dbus_findMatching.f (k : Nat) (a0 : ByteArray) (a1 a2 : Int) : Option Int := dbus_findMatching.l0 k a0 a1 a2 0 0
set_option maxHeartbeats 2000000 in
set_option maxRecDepth 100000 in
theorem dbus_findMatching.calls (k : Nat) (a0 : ByteArray) (a1 a2 : Int) (r : Int) (w : World) (h : dbus_findMatching.f k a0 a1 a2 = some r) :
  Calls Tryd.prog 39 #[.string a0, .int .i32 a1, .int .i32 a2] w fun e w' => e = .returned (.int .i64 r) ∧ Below w.heap.size w w' := by
 have H := Aside0.mk h
 clear h
 go_enter Tryd.func39, Tryd.ntmps39
 go_wp2
 go_loopg [7] k (fun kq v7 w' => ∃ (n : Int) (pos : Nat), v7 = .int .i64 n ∧ Aside0 (dbus_findMatching.l0 kq a0 a1 a2 n pos = some r) ∧ Aside0 (w'.heap[w.heap.size]? = some (.stringIter a0 pos)) ∧ Aside0 (Below w.heap.size w w'))
 case atStart => exact ⟨0, 0, rfl, H, ⟨World.iter_heap w a0 0⟩, ⟨(Below.refl _ _).alloc (Nat.le_refl _) _⟩⟩
 case round =>
  clear H
  obtain ⟨n, pos, rfl, HA, HI, HB⟩ := hrel
  cases gk with
  | zero => exact absurd HA.out (by simp [dbus_findMatching.l0])
  | succ k1 =>
   by_cases hp : pos < a0.size
   ·have H := HA.out
    clear HA
    simp only [dbus_findMatching.l0, if_pos hp] at H
    have hnx : ∀ ty, (Instr.next (.pointer (some ⟨w.heap.size, 0, none⟩)) true ty).run Tryd.prog wr = _ := fun ty => Lib.run_next_any_at wr w.heap.size a0 pos ty HI.out hp
    have hit2 := Aside0.mk (Lib.iterAt_heap wr w.heap.size a0 pos (pos + (Utf8.decode a0 pos).2) HI.out)
    have hbw2 := Aside0.mk (Lib.below_iterAt HB.out (k := w.heap.size) (Nat.le_refl _) a0 (pos + (Utf8.decode a0 pos).2))
    obtain ⟨W1, hW1⟩ : ∃ W1, W1 = wr.iterAt w.heap.size a0 (pos + (Utf8.decode a0 pos).2) := ⟨_, rfl⟩
    rw [← hW1] at hnx hit2 hbw2
    clear hW1 HI HB hp
    generalize ((Utf8.decode a0 pos).1 : Int) = c at *
    by_cases h1 : c = a1
    ·have h1b : (c == a1) = true := beq_iff_eq.mpr h1
     have e : dbus_findMatching.step c a1 a2 n = wrap64 (n + 1) := by simp [dbus_findMatching.step, h1]
     rw [e] at H
     clear h1 e
     by_cases h3 : wrap64 (n + 1) = 0
     ·rw [if_pos h3] at H
      obtain rfl := Option.some.inj H
      have h3b : (wrap64 (n + 1) == 0) = true := beq_iff_eq.mpr h3
      clear h3 H
      go_wp2
      go_ret
      exact ⟨rfl, hbw2.out⟩
     ·rw [if_neg h3] at H
      have h3b : (wrap64 (n + 1) == 0) = false := beq_eq_false_iff_ne.mpr h3
      have H' := Aside0.mk H
      clear h3 H
      go_wp2
      go_roundg k1
      case measure => omega
      case rel => exact ⟨_, _, rfl, H', hit2, hbw2⟩
    ·have h1b : (c == a1) = false := beq_eq_false_iff_ne.mpr h1
     by_cases h2 : c = a2
     ·have h2b : (c == a2) = true := beq_iff_eq.mpr h2
      have e : dbus_findMatching.step c a1 a2 n = wrap64 (n - 1) := by simp only [dbus_findMatching.step, if_neg h1, if_pos h2]
      rw [e] at H
      clear h1 h2 e
      by_cases h3 : wrap64 (n - 1) = 0
      ·rw [if_pos h3] at H
       obtain rfl := Option.some.inj H
       have h3b : (wrap64 (n - 1) == 0) = true := beq_iff_eq.mpr h3
       clear h3 H
       go_wp2
       go_ret
       exact ⟨rfl, hbw2.out⟩
      ·rw [if_neg h3] at H
       have h3b : (wrap64 (n - 1) == 0) = false := beq_eq_false_iff_ne.mpr h3
       have H' := Aside0.mk H
       clear h3 H
       go_wp2
       go_roundg k1
       case measure => omega
       case rel => exact ⟨_, _, rfl, H', hit2, hbw2⟩
     ·have h2b : (c == a2) = false := beq_eq_false_iff_ne.mpr h2
      have e : dbus_findMatching.step c a1 a2 n = n := by simp only [dbus_findMatching.step, if_neg h1, if_neg h2]
      rw [e] at H
      clear h1 h2 e
      by_cases h3 : n = 0
      ·rw [if_pos h3] at H
       obtain rfl := Option.some.inj H
       have h3b : (n == 0) = true := beq_iff_eq.mpr h3
       clear h3 H
       go_wp2
       go_ret
       exact ⟨rfl, hbw2.out⟩
      ·rw [if_neg h3] at H
       have h3b : (n == 0) = false := beq_eq_false_iff_ne.mpr h3
       have H' := Aside0.mk H
       clear h3 H
       go_wp2
       go_roundg k1
       case measure => omega
       case rel => exact ⟨_, _, rfl, H', hit2, hbw2⟩
   ·have H := HA.out
    clear HA
    simp only [dbus_findMatching.l0, if_neg hp] at H
    obtain rfl := Option.some.inj H
    clear H
    have hnx : ∀ ty, (Instr.next (.pointer (some ⟨w.heap.size, 0, none⟩)) true ty).run Tryd.prog wr = _ := fun ty => Lib.run_next_end_at wr w.heap.size a0 pos ty HI.out hp
    go_wp2
    go_ret
    exact ⟨rfl, HB.out⟩

end Go.Proofs.YtboioihppjhjcaaDoor.MFnSgOf

namespace Go.Proofs.YtboioihppjhjcaaDoor.MFnSgOf
open Go.RowKit Go.Proofs.YtboioihppjhjcaaDoorW.PrintWords Go.Proofs.YtboioihppjhjcaaDoorW.PrintLast Go.Proofs.YtboioihppjhjcaaDoorW.PrintMore
attribute [local go_sem] max2_int min2_int max_two min_two max_three min_three max_four min_four   -- for this text's walks alone
set_option linter.unusedVariables false
set_option linter.unusedSimpArgs false

/-! ### dbus_validSingle: function 28 -/
-- GIVENTEXT
def dbus_validSingle.er (s r : ByteArray) : Option (TypeId × Value) := some (57, .agg #[.string s, .string r])
def dbus_validSingle.simple (c : Int) : Bool := c == 121 || c == 98 || c == 110 || c == 113 || c == 105 || c == 117 || c == 120 || c == 116 || c == 100 || c == 115 || c == 103 || c == 111 || c == 118 || c == 104
def dbus_validSingle.ok (a s d : Int) : Bool := decide (a ≤ 32) && decide (s ≤ 32) && decide (d ≤ 32)
mutual
def dbus_validSingle.g : Nat → ByteArray → Int → Int → Int → Option (Option (TypeId × Value) × ByteArray)
 | 0, _, _, _, _ => none
 | k + 1, s, a, t, d =>
  if s.size = 0 then some (dbus_validSingle.er s ⟨#[101, 109, 112, 116, 121, 32, 115, 105, 103, 110, 97, 116, 117, 114, 101]⟩, ⟨#[]⟩)
  else if dbus_validSingle.ok a t d = false then some (dbus_validSingle.er s ⟨#[99, 111, 110, 116, 97, 105, 110, 101, 114, 32, 110, 101, 115, 116, 105, 110, 103, 32, 116, 111, 111, 32, 100, 101, 101, 112]⟩, ⟨#[]⟩)
  else if dbus_validSingle.simple (bt s 0) = true then some (none, s.extract 1 s.size)
  else if bt s 0 = 97 then
   (if 1 < s.size then
    (if bt s 1 = 123 then (dbus_findMatching.f k (s.extract 1 s.size) 123 125).bind fun i => dbus_validSingle.dict k s a t d i
    else dbus_validSingle.g k (s.extract 1 s.size) (wrap64 (a + 1)) t d)
   else dbus_validSingle.g k (s.extract 1 s.size) (wrap64 (a + 1)) t d)
  else if bt s 0 = 40 then (dbus_findMatching.f k s 40 41).bind fun i => dbus_validSingle.open k s a t d i
  else some (dbus_validSingle.er s ⟨#[105, 110, 118, 97, 108, 105, 100, 32, 116, 121, 112, 101, 32, 99, 104, 97, 114, 97, 99, 116, 101, 114]⟩, ⟨#[]⟩)
def dbus_validSingle.dict : Nat → ByteArray → Int → Int → Int → Int → Option (Option (TypeId × Value) × ByteArray)
 | 0, _, _, _, _, _ => none
 | k + 1, s, a, t, d, i =>
  if i = -1 then some (dbus_validSingle.er s ⟨#[117, 110, 109, 97, 116, 99, 104, 101, 100, 32, 39, 123, 39]⟩, ⟨#[]⟩)
  else if 1 ≤ i ∧ i + 2 ≤ (s.size : Int) ∧ i ≤ 1000000000 then
   (if (s.extract 2 (i + 1).toNat).size = 0 then some (dbus_validSingle.er (s.extract 2 (i + 1).toNat) ⟨#[101, 109, 112, 116, 121, 32, 100, 105, 99, 116]⟩, ⟨#[]⟩)
   else (dbus_validSingle.g k ((s.extract 2 (i + 1).toNat).extract 0 1) (wrap64 (a + 1)) t (wrap64 (d + 1))).bind fun x =>
    if x.1.isSome = true then some (x.1, ⟨#[]⟩) else
    (dbus_validSingle.g k ((s.extract 2 (i + 1).toNat).extract 1 (s.extract 2 (i + 1).toNat).size) (wrap64 (a + 1)) t (wrap64 (d + 1))).bind fun y =>
    if y.1.isSome = true then some (y.1, ⟨#[]⟩) else
    if y.2.size = 0 then some (none, s.extract (i + 1 + 1).toNat s.size)
    else some (dbus_validSingle.er (s.extract 2 (i + 1).toNat) ⟨#[116, 111, 111, 32, 109, 97, 110, 121, 32, 116, 121, 112, 101, 115, 32, 105, 110, 32, 100, 105, 99, 116]⟩, ⟨#[]⟩))
  else none
def dbus_validSingle.open : Nat → ByteArray → Int → Int → Int → Int → Option (Option (TypeId × Value) × ByteArray)
 | 0, _, _, _, _, _ => none
 | k + 1, s, a, t, d, i =>
  if i = -1 then some (dbus_validSingle.er s ⟨#[117, 110, 109, 97, 116, 99, 104, 101, 100, 32, 39, 41, 39]⟩, ⟨#[]⟩)
  else if 1 ≤ i ∧ i + 1 ≤ (s.size : Int) ∧ i ≤ 1000000000 then dbus_validSingle.l k none (s.extract 1 i.toNat) (s.extract (i + 1).toNat s.size) a t d
  else none
def dbus_validSingle.l : Nat → Option (TypeId × Value) → ByteArray → ByteArray → Int → Int → Int → Option (Option (TypeId × Value) × ByteArray)
 | 0, _, _, _, _, _, _ => none
 | k + 1, e, s, r, a, t, d =>
  if e.isSome = true then some (e, ⟨#[]⟩)
  else if s.size = 0 then some (none, r)
  else (dbus_validSingle.g k s a (wrap64 (t + 1)) d).bind fun x => dbus_validSingle.l k x.1 x.2 r a t d
end
set_option maxHeartbeats 1000000 in
set_option maxRecDepth 100000 in
theorem dbus_validSingle.enterA (a s d : Int) (w : World) : Calls Tryd.prog 40 #[.agg #[.int .i64 a, .int .i64 s, .int .i64 d]] w fun e w' => e = .returned (.pointer (some ⟨w.heap.size, 0, none⟩)) ∧ w.alloc (.cells #[.int .i64 (wrap64 (a + 1)), .int .i64 s, .int .i64 d] 62) = w' := by
 have hu := Tryd.underlying62
 go_enter Tryd.func40, Tryd.ntmps40
 go_wp2
 go_ret
 exact ⟨rfl, rfl⟩
set_option maxHeartbeats 1000000 in
set_option maxRecDepth 100000 in
theorem dbus_validSingle.enterD (a s d : Int) (w : World) : Calls Tryd.prog 41 #[.agg #[.int .i64 a, .int .i64 s, .int .i64 d]] w fun e w' => e = .returned (.pointer (some ⟨w.heap.size, 0, none⟩)) ∧ w.alloc (.cells #[.int .i64 a, .int .i64 s, .int .i64 (wrap64 (d + 1))] 62) = w' := by
 have hu := Tryd.underlying62
 go_enter Tryd.func41, Tryd.ntmps41
 go_wp2
 go_ret
 exact ⟨rfl, rfl⟩
set_option maxHeartbeats 1000000 in
set_option maxRecDepth 100000 in
theorem dbus_validSingle.enterS (a s d : Int) (w : World) : Calls Tryd.prog 42 #[.agg #[.int .i64 a, .int .i64 s, .int .i64 d]] w fun e w' => e = .returned (.pointer (some ⟨w.heap.size, 0, none⟩)) ∧ w.alloc (.cells #[.int .i64 a, .int .i64 (wrap64 (s + 1)), .int .i64 d] 62) = w' := by
 have hu := Tryd.underlying62
 go_enter Tryd.func42, Tryd.ntmps42
 go_wp2
 go_ret
 exact ⟨rfl, rfl⟩
set_option maxHeartbeats 1000000 in
set_option maxRecDepth 100000 in
theorem dbus_validSingle.valid (g : Nat) (a s d : Int) (w : World) (h0 : w.cell? ⟨g, 0, none⟩ = some (.int .i64 a)) (h1 : w.cell? ⟨g, 1, none⟩ = some (.int .i64 s)) (h2 : w.cell? ⟨g, 2, none⟩ = some (.int .i64 d)) :
  Calls Tryd.prog 38 #[.pointer (some ⟨g, 0, none⟩)] w fun e w' => e = .returned (.bool (dbus_validSingle.ok a s d)) ∧ w = w' := by
 by_cases c1 : a ≤ 32
 ·have b1 := decide_eq_true c1
  by_cases c2 : s ≤ 32
  ·have b2 := decide_eq_true c2
   have e : dbus_validSingle.ok a s d = decide (d ≤ 32) := by simp [dbus_validSingle.ok, c1, c2]
   rw [e]
   clear e c1 c2
   go_enter Tryd.func38, Tryd.ntmps38
   go_wp2
   go_ret
   exact ⟨rfl, rfl⟩
  ·have b2 := decide_eq_false c2
   have e : dbus_validSingle.ok a s d = false := by simp [dbus_validSingle.ok, c2]
   rw [e]
   clear e c1 c2
   go_enter Tryd.func38, Tryd.ntmps38
   go_wp2
   go_ret
   exact ⟨rfl, rfl⟩
 ·have b1 := decide_eq_false c1
  have e : dbus_validSingle.ok a s d = false := by simp [dbus_validSingle.ok, c1]
  rw [e]
  clear e c1
  go_enter Tryd.func38, Tryd.ntmps38
  go_wp2
  go_ret
  exact ⟨rfl, rfl⟩
theorem dbus_validSingle.emp {s : ByteArray} (h : s.size = 0) : (s.toList == ([] : List UInt8)) = true := by
 have h2 : s.data.toList.length = 0 := h
 rw [beq_iff_eq, ByteArray.toList_eq]; exact List.eq_nil_of_length_eq_zero h2
theorem dbus_validSingle.nemp {s : ByteArray} (h : ¬ s.size = 0) : (s.toList == ([] : List UInt8)) = false := by
 rw [beq_eq_false_iff_ne, ByteArray.toList_eq]; intro e; exact h (congrArg List.length e)
def dbus_validSingle.Core (k : Nat) : Prop := ∀ (a0 : ByteArray) (g : Nat) (a s d : Int) (r1 : Option (TypeId × Value)) (r2 : ByteArray) (w : World)
  (h0 : w.cell? ⟨g, 0, none⟩ = some (.int .i64 a)) (h1 : w.cell? ⟨g, 1, none⟩ = some (.int .i64 s)) (h2 : w.cell? ⟨g, 2, none⟩ = some (.int .i64 d)) (h : dbus_validSingle.g k a0 a s d = some (r1, r2)),
  Calls Tryd.prog 28 #[.string a0, .pointer (some ⟨g, 0, none⟩)] w fun e w' => e = .returned (.tuple #[errW r1, .string r2]) ∧ Below w.heap.size w w'
set_option maxHeartbeats 1000000 in
set_option maxRecDepth 100000 in
theorem dbus_validSingle.w_empty (a0 : ByteArray) (g : Nat) (w : World) (c1 : a0.size = 0) : Calls Tryd.prog 28 #[.string a0, .pointer (some ⟨g, 0, none⟩)] w fun e w' => e = .returned (.tuple #[errW (dbus_validSingle.er a0 ⟨#[101, 109, 112, 116, 121, 32, 115, 105, 103, 110, 97, 116, 117, 114, 101]⟩), .string ⟨#[]⟩]) ∧ Below w.heap.size w w' := by
 have hu := Tryd.underlying57
 have e1 := dbus_validSingle.emp c1
 clear c1
 go_enter Tryd.func28, Tryd.ntmps28
 go_wp2
 go_ret2
 exact ⟨rfl, Below.refl _ _⟩
set_option maxHeartbeats 1000000 in
set_option maxRecDepth 100000 in
theorem dbus_validSingle.w_deep (a0 : ByteArray) (g : Nat) (a s d : Int) (w : World) (h0 : w.cell? ⟨g, 0, none⟩ = some (.int .i64 a)) (h1 : w.cell? ⟨g, 1, none⟩ = some (.int .i64 s)) (h2 : w.cell? ⟨g, 2, none⟩ = some (.int .i64 d)) (c1 : ¬ a0.size = 0) (c2 : dbus_validSingle.ok a s d = false) : Calls Tryd.prog 28 #[.string a0, .pointer (some ⟨g, 0, none⟩)] w fun e w' => e = .returned (.tuple #[errW (dbus_validSingle.er a0 ⟨#[99, 111, 110, 116, 97, 105, 110, 101, 114, 32, 110, 101, 115, 116, 105, 110, 103, 32, 116, 111, 111, 32, 100, 101, 101, 112]⟩), .string ⟨#[]⟩]) ∧ Below w.heap.size w w' := by
 have hu := Tryd.underlying57
 have e1 := dbus_validSingle.nemp c1
 clear c1
 go_enter Tryd.func28, Tryd.ntmps28
 go_wp2_with (first | (go_at_call 38; refine (dbus_validSingle.valid g a s d _ h0 h1 h2).mono ?_; rintro e w' ⟨rfl, rfl⟩))
 go_ret2
 exact ⟨rfl, Below.refl _ _⟩
set_option maxHeartbeats 4000000 in
set_option maxRecDepth 100000 in
theorem dbus_validSingle.w_simple (a0 : ByteArray) (g : Nat) (a s d : Int) (w : World) (h0 : w.cell? ⟨g, 0, none⟩ = some (.int .i64 a)) (h1 : w.cell? ⟨g, 1, none⟩ = some (.int .i64 s)) (h2 : w.cell? ⟨g, 2, none⟩ = some (.int .i64 d)) (c1 : ¬ a0.size = 0) (c2 : dbus_validSingle.ok a s d = true) (c3 : dbus_validSingle.simple (bt a0 0) = true) : Calls Tryd.prog 28 #[.string a0, .pointer (some ⟨g, 0, none⟩)] w fun e w' => e = .returned (.tuple #[errW none, .string (a0.extract 1 a0.size)]) ∧ Below w.heap.size w w' := by
 have e1 := dbus_validSingle.nemp c1
 have q14 : 0 < a0.size := by omega
 have hx14 : ∀ h : 0 < a0.size, ((a0[0]'h).toNat : Int) = bt a0 0 := bt_at a0 0
 have qi14 : (0 < (a0.size : Int)) = True := eq_true (by omega)
 have s1 : 1 ≤ a0.size := by omega
 have s1i : (1 : Int) ≤ (a0.size : Int) := by omega
 replace q14 := eq_true q14
 clear c1
 simp only [dbus_validSingle.simple, Bool.or_eq_true, beq_iff_eq] at c3
 rcases c3 with ((((((((((((c | c) | c) | c) | c) | c) | c) | c) | c) | c) | c) | c) | c) | c
 all_goals
  go_enter Tryd.func28, Tryd.ntmps28
  go_wp2_with (first | (go_at_call 38; refine (dbus_validSingle.valid g a s d _ h0 h1 h2).mono ?_; rintro e w' ⟨rfl, rfl⟩))
  go_quiet (fail)
  go_wp2
  go_ret2
  exact ⟨rfl, pw_below_drewN (Below.refl _ _) _⟩
set_option maxHeartbeats 4000000 in
set_option maxRecDepth 100000 in
theorem dbus_validSingle.w_array (k : Nat) (ih : dbus_validSingle.Core k) (a0 : ByteArray) (g : Nat) (a s d : Int) (r1 : Option (TypeId × Value)) (r2 : ByteArray) (w : World)
  (h0 : w.cell? ⟨g, 0, none⟩ = some (.int .i64 a)) (h1 : w.cell? ⟨g, 1, none⟩ = some (.int .i64 s)) (h2 : w.cell? ⟨g, 2, none⟩ = some (.int .i64 d))
  (c1 : ¬ a0.size = 0) (c2 : dbus_validSingle.ok a s d = true) (c3 : bt a0 0 = 97) (c4 : 1 < a0.size → ¬ bt a0 1 = 123) (h : dbus_validSingle.g k (a0.extract 1 a0.size) (wrap64 (a + 1)) s d = some (r1, r2)) :
  Calls Tryd.prog 28 #[.string a0, .pointer (some ⟨g, 0, none⟩)] w fun e w' => e = .returned (.tuple #[errW r1, .string r2]) ∧ Below w.heap.size w w' := by
 have IH := Aside0.mk ih
 have HH := Aside0.mk h
 clear ih h
 have HB := Aside0.mk (Below.refl w.heap.size w)
 have hg : g < w.heap.size := World.block_lt_of_cell? w ⟨g, 0, none⟩ h0
 have hu := Tryd.underlying62
 have e1 := dbus_validSingle.nemp c1
 have q14 : 0 < a0.size := by omega
 have hx14 : ∀ h : 0 < a0.size, ((a0[0]'h).toNat : Int) = bt a0 0 := bt_at a0 0
 have qi14 : (0 < (a0.size : Int)) = True := eq_true (by omega)
 have s1 : 1 ≤ a0.size := by omega
 have s1i : (1 : Int) ≤ (a0.size : Int) := by omega
 replace q14 := eq_true q14
 clear c1
 by_cases c5 : 1 < a0.size
 ·have c6 := c4 c5
  have c6b : (bt a0 1 == 123) = false := beq_eq_false_iff_ne.mpr c6
  have b5 := decide_eq_true c5
  have b5i : decide ((1 : Int) < (a0.size : Int)) = true := decide_eq_true (by omega)
  have hx15 : ∀ h : 1 < a0.size, ((a0[1]'h).toNat : Int) = bt a0 1 := bt_at a0 1
  have qi15 : (1 < (a0.size : Int)) = True := eq_true (by omega)
  replace c5 := eq_true c5
  clear c4 c6
  go_enter Tryd.func28, Tryd.ntmps28
  go_wp2_with (first | (go_at_call 38; refine (dbus_validSingle.valid g a s d _ h0 h1 h2).mono ?_; rintro e w' ⟨rfl, rfl⟩))
  go_region_held3 (fun w' => w'.cell? ⟨g, 0, none⟩ = some (.int .i64 a) ∧ w'.cell? ⟨g, 1, none⟩ = some (.int .i64 s) ∧ w'.cell? ⟨g, 2, none⟩ = some (.int .i64 d)) (first | exact kk.out | go_keep)
   (first | (go_at_call 40; refine (dbus_validSingle.enterA a s d _).mono ?_; rintro e w' ⟨rfl, rfl⟩) | (go_at_call 28; refine (IH.out _ w.heap.size (wrap64 (a + 1)) s d r1 r2 _ (by simp) (by simp) (by simp) HH.out).mono ?_; rintro e w' ⟨rfl, hb⟩; have hb2 := Aside0.mk (below_step (by repeat (first | (with_reducible first | exact HB.out | apply below_alloc | apply pw_below_drewN | apply below_drew1) | exact HB.out)) hb); have kk := Aside0.mk (And.intro ((hb2.out.cell (p := ⟨g, 0, none⟩) hg).trans h0) (And.intro ((hb2.out.cell (p := ⟨g, 1, none⟩) hg).trans h1) ((hb2.out.cell (p := ⟨g, 2, none⟩) hg).trans h2))); clear hb))
  go_wp2
  go_ret2
  exact ⟨rfl, by repeat (first | (with_reducible first | exact hb2.out | apply below_alloc | apply pw_below_drewN | apply below_drew1) | exact hb2.out)⟩
 ·have b5 := decide_eq_false c5
  have b5i : decide ((1 : Int) < (a0.size : Int)) = false := decide_eq_false (by omega)
  clear c4 c5
  go_enter Tryd.func28, Tryd.ntmps28
  go_wp2_with (first | (go_at_call 38; refine (dbus_validSingle.valid g a s d _ h0 h1 h2).mono ?_; rintro e w' ⟨rfl, rfl⟩))
  go_region_held3 (fun w' => w'.cell? ⟨g, 0, none⟩ = some (.int .i64 a) ∧ w'.cell? ⟨g, 1, none⟩ = some (.int .i64 s) ∧ w'.cell? ⟨g, 2, none⟩ = some (.int .i64 d)) (first | exact kk.out | go_keep)
   (first | (go_at_call 40; refine (dbus_validSingle.enterA a s d _).mono ?_; rintro e w' ⟨rfl, rfl⟩) | (go_at_call 28; refine (IH.out _ w.heap.size (wrap64 (a + 1)) s d r1 r2 _ (by simp) (by simp) (by simp) HH.out).mono ?_; rintro e w' ⟨rfl, hb⟩; have hb2 := Aside0.mk (below_step (by repeat (first | (with_reducible first | exact HB.out | apply below_alloc | apply pw_below_drewN | apply below_drew1) | exact HB.out)) hb); have kk := Aside0.mk (And.intro ((hb2.out.cell (p := ⟨g, 0, none⟩) hg).trans h0) (And.intro ((hb2.out.cell (p := ⟨g, 1, none⟩) hg).trans h1) ((hb2.out.cell (p := ⟨g, 2, none⟩) hg).trans h2))); clear hb))
  go_wp2
  go_ret2
  exact ⟨rfl, by repeat (first | (with_reducible first | exact hb2.out | apply below_alloc | apply pw_below_drewN | apply below_drew1) | exact hb2.out)⟩
set_option maxHeartbeats 4000000 in
set_option maxRecDepth 100000 in
theorem dbus_validSingle.w_dict (K k kf : Nat) (ih : ∀ m, m < K → dbus_validSingle.Core m) (hk : k < K) (a0 : ByteArray) (g : Nat) (a s d i : Int) (r1 : Option (TypeId × Value)) (r2 : ByteArray) (w : World)
  (h0 : w.cell? ⟨g, 0, none⟩ = some (.int .i64 a)) (h1 : w.cell? ⟨g, 1, none⟩ = some (.int .i64 s)) (h2 : w.cell? ⟨g, 2, none⟩ = some (.int .i64 d))
  (c2 : dbus_validSingle.ok a s d = true) (c3 : bt a0 0 = 97) (c5 : 1 < a0.size) (c6 : bt a0 1 = 123) (hf : dbus_findMatching.f kf (a0.extract 1 a0.size) 123 125 = some i) (h : dbus_validSingle.dict k a0 a s d i = some (r1, r2)) :
  Calls Tryd.prog 28 #[.string a0, .pointer (some ⟨g, 0, none⟩)] w fun e w' => e = .returned (.tuple #[errW r1, .string r2]) ∧ Below w.heap.size w w' := by
 have IH := Aside0.mk ih
 have HK := Aside0.mk hk
 have HF := Aside0.mk hf
 clear ih hf hk
 have HB := Aside0.mk (Below.refl w.heap.size w)
 have hg : g < w.heap.size := World.block_lt_of_cell? w ⟨g, 0, none⟩ h0
 have hu := Tryd.underlying62
 have hu2 := Tryd.underlying57
 have e1 := dbus_validSingle.nemp (s := a0) (by omega)
 have q14 : 0 < a0.size := by omega
 have hx14 : ∀ h : 0 < a0.size, ((a0[0]'h).toNat : Int) = bt a0 0 := bt_at a0 0
 have qi14 : (0 < (a0.size : Int)) = True := eq_true (by omega)
 have s1 : 1 ≤ a0.size := by omega
 have s1i : (1 : Int) ≤ (a0.size : Int) := by omega
 have b5 := decide_eq_true c5
 have b5i : decide ((1 : Int) < (a0.size : Int)) = true := decide_eq_true (by omega)
 have hx15 : ∀ h : 1 < a0.size, ((a0[1]'h).toNat : Int) = bt a0 1 := bt_at a0 1
 have qi15 : (1 < (a0.size : Int)) = True := eq_true (by omega)
 cases k with
 | zero => exact absurd h (by simp [dbus_validSingle.dict])
 | succ k1 =>
 simp only [dbus_validSingle.dict] at h
 by_cases ci : i = -1
 ·rw [if_pos ci] at h
  obtain ⟨rfl, rfl⟩ := Prod.mk.inj (Option.some.inj h)
  have cib : (i == -1) = true := beq_iff_eq.mpr ci
  replace q14 := eq_true q14
  replace c5 := eq_true c5
  clear ci h
  go_enter Tryd.func28, Tryd.ntmps28
  go_wp2_with (first | (go_at_call 38; refine (dbus_validSingle.valid g a s d _ h0 h1 h2).mono ?_; rintro e w' ⟨rfl, rfl⟩) | (go_at_call 39; refine (dbus_findMatching.calls kf _ _ _ i _ HF.out).mono ?_; rintro e w5 ⟨rfl, hb⟩; have n0_ := Aside0.mk (below_step (by repeat (first | (with_reducible first | exact HB.out | apply below_alloc | apply pw_below_drewN | apply below_drew1) | exact HB.out)) hb); clear HB; have HB := n0_; clear n0_ hb; have m0 := (HB.out.cell (p := ⟨g, 0, none⟩) hg).trans h0; have m1 := (HB.out.cell (p := ⟨g, 1, none⟩) hg).trans h1; have m2 := (HB.out.cell (p := ⟨g, 2, none⟩) hg).trans h2))
  go_ret2
  exact ⟨rfl, HB.out⟩
 ·rw [if_neg ci] at h
  have cib : (i == -1) = false := beq_eq_false_iff_ne.mpr ci
  clear ci
  by_cases cg : 1 ≤ i ∧ i + 2 ≤ (a0.size : Int) ∧ i ≤ 1000000000
  ·rw [if_pos cg] at h
   obtain ⟨g1, g2, g3⟩ := cg
   have g4 : (i + 1 ≤ (a0.size : Int)) = True := eq_true (by omega)
   have g5 : ((2 : Int) ≤ i + 1) = True := eq_true (by omega)
   have g6 : (0 ≤ i + 1) = True := eq_true (by omega)
   have g7 : (0 ≤ i + 2) = True := eq_true (by omega)
   have g8 : (i + 2 ≤ (a0.size : Int)) = True := eq_true g2
   have g9 : (1 ≤ i) = True := eq_true g1
   by_cases ct : (a0.extract 2 (i + 1).toNat).size = 0
   ·rw [if_pos ct] at h
    obtain ⟨rfl, rfl⟩ := Prod.mk.inj (Option.some.inj h)
    replace q14 := eq_true q14
    replace c5 := eq_true c5
    clear h
    go_enter Tryd.func28, Tryd.ntmps28
    go_wp2_with (first | (go_at_call 38; refine (dbus_validSingle.valid g a s d _ h0 h1 h2).mono ?_; rintro e w' ⟨rfl, rfl⟩) | (go_at_call 39; refine (dbus_findMatching.calls kf _ _ _ i _ HF.out).mono ?_; rintro e w5 ⟨rfl, hb⟩; have n0_ := Aside0.mk (below_step (by repeat (first | (with_reducible first | exact HB.out | apply below_alloc | apply pw_below_drewN | apply below_drew1) | exact HB.out)) hb); clear HB; have HB := n0_; clear n0_ hb; have m0 := (HB.out.cell (p := ⟨g, 0, none⟩) hg).trans h0; have m1 := (HB.out.cell (p := ⟨g, 1, none⟩) hg).trans h1; have m2 := (HB.out.cell (p := ⟨g, 2, none⟩) hg).trans h2))
    go_ret2
    exact ⟨rfl, HB.out⟩
   ·rw [if_neg ct] at h
    have h' := Option.bind_eq_some_iff.mp h
    clear h
    obtain ⟨⟨x1, x2⟩, hx, h⟩ := h'
    have HX := Aside0.mk hx
    have HH := Aside0.mk h
    have ct0 : (a0.extract 2 (i + 1).toNat).size = (i + 1).toNat - 2 := by rw [ByteArray.size_extract]; omega
    have ct1 : 1 ≤ (i + 1).toNat - 2 := by omega
    have ctb : ((((i + 1).toNat - 2 : Nat) : Int) == 0) = false := by rw [beq_eq_false_iff_ne]; omega
    have ct2 : (1 ≤ (i + 1).toNat - 2) = True := eq_true ct1
    have ct3 : ((1 : Int) ≤ (((i + 1).toNat - 2 : Nat) : Int)) = True := eq_true (by omega)
    have CT := Aside0.mk ct0
    clear ct0 ct
    replace q14 := eq_true q14
    replace c5 := eq_true c5
    clear h hx
    go_enter Tryd.func28, Tryd.ntmps28
    go_wp2_with (first | (go_at_call 38; refine (dbus_validSingle.valid g a s d _ h0 h1 h2).mono ?_; rintro e w' ⟨rfl, rfl⟩) | (go_at_call 39; refine (dbus_findMatching.calls kf _ _ _ i _ HF.out).mono ?_; rintro e w5 ⟨rfl, hb⟩; have n0_ := Aside0.mk (below_step (by repeat (first | (with_reducible first | exact HB.out | apply below_alloc | apply pw_below_drewN | apply below_drew1) | exact HB.out)) hb); clear HB; have HB := n0_; clear n0_ hb; have m0 := (HB.out.cell (p := ⟨g, 0, none⟩) hg).trans h0; have m1 := (HB.out.cell (p := ⟨g, 1, none⟩) hg).trans h1; have m2 := (HB.out.cell (p := ⟨g, 2, none⟩) hg).trans h2))

    go_region_with (first | (go_at_call 40; refine (dbus_validSingle.enterA _ _ _ _).mono ?_; rintro e w' ⟨rfl, rfl⟩) | (go_at_call 41; refine (dbus_validSingle.enterD _ _ _ _).mono ?_; rintro e w' ⟨rfl, rfl⟩) | (go_at_call 28; refine (IH.out k1 (by have := HK.out; omega) _ (w5.heap.size + 1) (wrap64 (a + 1)) s (wrap64 (d + 1)) x1 x2 _ (by simp) (by simp) (by simp) HX.out).mono ?_; rintro e w6 ⟨rfl, hb⟩; have hb2 := Aside0.mk (below_step (by repeat (first | (with_reducible first | exact HB.out | apply below_alloc | apply pw_below_drewN | apply below_drew1) | exact HB.out)) hb); have kk := Aside0.mk (And.intro ((hb2.out.cell (p := ⟨g, 0, none⟩) hg).trans h0) (And.intro ((hb2.out.cell (p := ⟨g, 1, none⟩) hg).trans h1) ((hb2.out.cell (p := ⟨g, 2, none⟩) hg).trans h2))); clear hb HB; have HB := hb2; clear hb2))
    cases x1 with
    | some ev =>
     have h := HH.out
     clear HH
     simp only [Option.isSome_some, if_true] at h
     obtain ⟨rfl, rfl⟩ := Prod.mk.inj (Option.some.inj h)
     clear h
     simp only [errW_some]
     go_wp2
     go_ret2
     exact ⟨rfl, by repeat (first | (with_reducible first | exact HB.out | apply below_alloc | apply pw_below_drewN | apply below_drew1) | exact HB.out)⟩
    | none =>
     have h := HH.out
     clear HH
     simp only [Option.isSome_none, Bool.false_eq_true, if_false] at h
     have h' := Option.bind_eq_some_iff.mp h
     clear h
     obtain ⟨⟨y1, y2⟩, hy, h⟩ := h'
     rw [CT.out] at hy
     have HY := Aside0.mk hy
     have HH := Aside0.mk h
     clear h hy HX
     simp only [errW_none]
     obtain ⟨k0, k1_, k2_⟩ := kk.out
     clear m0 m1 m2
     go_wp2
     go_region_with (first | (go_at_call 40; refine (dbus_validSingle.enterA _ _ _ _).mono ?_; rintro e w' ⟨rfl, rfl⟩) | (go_at_call 41; refine (dbus_validSingle.enterD _ _ _ _).mono ?_; rintro e w' ⟨rfl, rfl⟩) | (go_at_call 28; refine (IH.out k1 (by have := HK.out; omega) _ (w6.heap.size + 1) (wrap64 (a + 1)) s (wrap64 (d + 1)) y1 y2 _ (by simp) (by simp) (by simp) HY.out).mono ?_; rintro e w7 ⟨rfl, hb⟩; have hb2 := Aside0.mk (below_step (by repeat (first | (with_reducible first | exact HB.out | apply below_alloc | apply pw_below_drewN | apply below_drew1) | exact HB.out)) hb); have kk := Aside0.mk (And.intro ((hb2.out.cell (p := ⟨g, 0, none⟩) hg).trans h0) (And.intro ((hb2.out.cell (p := ⟨g, 1, none⟩) hg).trans h1) ((hb2.out.cell (p := ⟨g, 2, none⟩) hg).trans h2))); clear hb HB; have HB := hb2; clear hb2))
     cases y1 with
     | some ev =>
      have h := HH.out
      clear HH
      simp only [Option.isSome_some, if_true] at h
      obtain ⟨rfl, rfl⟩ := Prod.mk.inj (Option.some.inj h)
      clear h
      simp only [errW_some]
      go_wp2
      go_ret2
      exact ⟨rfl, by repeat (first | (with_reducible first | exact HB.out | apply below_alloc | apply pw_below_drewN | apply below_drew1) | exact HB.out)⟩
     | none =>
      have h := HH.out
      clear HH
      simp only [Option.isSome_none, Bool.false_eq_true, if_false] at h
      simp only [errW_none]
      by_cases cy : y2.size = 0
      ·rw [if_pos cy] at h
       obtain ⟨rfl, rfl⟩ := Prod.mk.inj (Option.some.inj h)
       have e2 : (!y2.toList.isEmpty) = false := by rw [beq_iff_eq.mp (dbus_validSingle.emp cy)]; rfl
       clear h cy
       go_wp2
       go_ret2
       exact ⟨rfl, by repeat (first | (with_reducible first | exact HB.out | apply below_alloc | apply pw_below_drewN | apply below_drew1) | exact HB.out)⟩
      ·rw [if_neg cy] at h
       obtain ⟨rfl, rfl⟩ := Prod.mk.inj (Option.some.inj h)
       have e2 : (!y2.toList.isEmpty) = true := by simpa [List.isEmpty_iff] using beq_eq_false_iff_ne.mp (dbus_validSingle.nemp cy)
       clear h cy
       go_wp2
       go_ret2
       exact ⟨rfl, by repeat (first | (with_reducible first | exact HB.out | apply below_alloc | apply pw_below_drewN | apply below_drew1) | exact HB.out)⟩
  ·rw [if_neg cg] at h
   exact absurd h (by simp)
set_option maxHeartbeats 4000000 in
set_option maxRecDepth 100000 in
theorem dbus_validSingle.w_open (K k kf : Nat) (ih : ∀ m, m < K → dbus_validSingle.Core m) (hk : k < K) (a0 : ByteArray) (g : Nat) (a s d i : Int) (r1 : Option (TypeId × Value)) (r2 : ByteArray) (w : World)
  (h0 : w.cell? ⟨g, 0, none⟩ = some (.int .i64 a)) (h1 : w.cell? ⟨g, 1, none⟩ = some (.int .i64 s)) (h2 : w.cell? ⟨g, 2, none⟩ = some (.int .i64 d))
  (c0 : ¬ a0.size = 0) (c2 : dbus_validSingle.ok a s d = true) (c3 : bt a0 0 = 40) (hf : dbus_findMatching.f kf a0 40 41 = some i) (h : dbus_validSingle.open k a0 a s d i = some (r1, r2)) :
  Calls Tryd.prog 28 #[.string a0, .pointer (some ⟨g, 0, none⟩)] w fun e w' => e = .returned (.tuple #[errW r1, .string r2]) ∧ Below w.heap.size w w' := by
 have IH := Aside0.mk ih
 have HK := Aside0.mk hk
 have HF := Aside0.mk hf
 clear ih hf hk
 have HB := Aside0.mk (Below.refl w.heap.size w)
 have hg : g < w.heap.size := World.block_lt_of_cell? w ⟨g, 0, none⟩ h0
 have hu := Tryd.underlying62
 have hu2 := Tryd.underlying57
 have e1 := dbus_validSingle.nemp c0
 have q14 : 0 < a0.size := by omega
 have hx14 : ∀ h : 0 < a0.size, ((a0[0]'h).toNat : Int) = bt a0 0 := bt_at a0 0
 have qi14 : (0 < (a0.size : Int)) = True := eq_true (by omega)
 replace q14 := eq_true q14
 clear c0
 cases k with
 | zero => exact absurd h (by simp [dbus_validSingle.open])
 | succ k1 =>
 simp only [dbus_validSingle.open] at h
 by_cases ci : i = -1
 ·rw [if_pos ci] at h
  obtain ⟨rfl, rfl⟩ := Prod.mk.inj (Option.some.inj h)
  have cib : (i == -1) = true := beq_iff_eq.mpr ci
  clear ci h
  go_enter Tryd.func28, Tryd.ntmps28
  go_wp2_with (first | (go_at_call 38; refine (dbus_validSingle.valid g a s d _ h0 h1 h2).mono ?_; rintro e w' ⟨rfl, rfl⟩) | (go_at_call 39; refine (dbus_findMatching.calls kf _ _ _ i _ HF.out).mono ?_; rintro e w5 ⟨rfl, hb⟩; have n0_ := Aside0.mk (below_step (by repeat (first | (with_reducible first | exact HB.out | apply below_alloc | apply pw_below_drewN | apply below_drew1) | exact HB.out)) hb); clear HB; have HB := n0_; clear n0_ hb; have m0 := (HB.out.cell (p := ⟨g, 0, none⟩) hg).trans h0; have m1 := (HB.out.cell (p := ⟨g, 1, none⟩) hg).trans h1; have m2 := (HB.out.cell (p := ⟨g, 2, none⟩) hg).trans h2))
  go_ret2
  exact ⟨rfl, HB.out⟩
 ·rw [if_neg ci] at h
  have cib : (i == -1) = false := beq_eq_false_iff_ne.mpr ci
  clear ci
  by_cases cg : 1 ≤ i ∧ i + 1 ≤ (a0.size : Int) ∧ i ≤ 1000000000
  ·rw [if_pos cg] at h
   have HH := Aside0.mk h
   clear h
   obtain ⟨g1, g2, g3⟩ := cg
   have g4 : (i + 1 ≤ (a0.size : Int)) = True := eq_true (by omega)
   have g5 : (i ≤ (a0.size : Int)) = True := eq_true (by omega)
   have g6 : (0 ≤ i + 1) = True := eq_true (by omega)
   have g7 : (0 ≤ i) = True := eq_true (by omega)
   have g9 : (1 ≤ i) = True := eq_true g1
   go_enter Tryd.func28, Tryd.ntmps28
   go_wp2_with (first | (go_at_call 38; refine (dbus_validSingle.valid g a s d _ h0 h1 h2).mono ?_; rintro e w' ⟨rfl, rfl⟩) | (go_at_call 39; refine (dbus_findMatching.calls kf _ _ _ i _ HF.out).mono ?_; rintro e w5 ⟨rfl, hb⟩; have n0_ := Aside0.mk (below_step (by repeat (first | (with_reducible first | exact HB.out | apply below_alloc | apply pw_below_drewN | apply below_drew1) | exact HB.out)) hb); clear HB; have HB := n0_; clear n0_ hb; have m0 := (HB.out.cell (p := ⟨g, 0, none⟩) hg).trans h0; have m1 := (HB.out.cell (p := ⟨g, 1, none⟩) hg).trans h1; have m2 := (HB.out.cell (p := ⟨g, 2, none⟩) hg).trans h2))
   go_loopg [0, 4] k1 (fun kq v0 v4 w' => ∃ (t : ByteArray) (e : Option (TypeId × Value)), v0 = .string t ∧ v4 = errW e ∧ Aside0 (dbus_validSingle.l kq e t (a0.extract (i + 1).toNat a0.size) a s d = some (r1, r2)) ∧ Aside0 (kq ≤ k1) ∧ Aside0 (Below w.heap.size w w'))
   case atStart => exact ⟨_, none, rfl, rfl, HH, ⟨Nat.le_refl _⟩, HB⟩
   case round =>
    clear HH HB m0 m1 m2 HF
    obtain ⟨t, e, rfl, rfl, HL, HQ, HB⟩ := hrel
    cases gk with
    | zero => exact absurd HL.out (by simp [dbus_validSingle.l])
    | succ k2 =>
    have m0 := (HB.out.cell (p := ⟨g, 0, none⟩) hg).trans h0
    have m1 := (HB.out.cell (p := ⟨g, 1, none⟩) hg).trans h1
    have m2 := (HB.out.cell (p := ⟨g, 2, none⟩) hg).trans h2
    have h := HL.out
    clear HL
    simp only [dbus_validSingle.l] at h
    cases e with
    | some ev =>
     simp only [Option.isSome_some, if_true] at h
     obtain ⟨rfl, rfl⟩ := Prod.mk.inj (Option.some.inj h)
     clear h
     simp only [errW_some]
     go_wp2
     go_ret2
     exact ⟨rfl, by repeat (first | (with_reducible first | exact HB.out | apply below_alloc | apply pw_below_drewN | apply below_drew1) | exact HB.out)⟩
    | none =>
     simp only [Option.isSome_none, Bool.false_eq_true, if_false] at h
     simp only [errW_none]
     by_cases cy : t.size = 0
     ·rw [if_pos cy] at h
      obtain ⟨rfl, rfl⟩ := Prod.mk.inj (Option.some.inj h)
      have e2 : (!t.toList.isEmpty) = false := by rw [beq_iff_eq.mp (dbus_validSingle.emp cy)]; rfl
      clear h cy
      go_wp2
      go_ret2
      exact ⟨rfl, by repeat (first | (with_reducible first | exact HB.out | apply below_alloc | apply pw_below_drewN | apply below_drew1) | exact HB.out)⟩
     ·rw [if_neg cy] at h
      have e2 : (!t.toList.isEmpty) = true := by simpa [List.isEmpty_iff] using beq_eq_false_iff_ne.mp (dbus_validSingle.nemp cy)
      have h' := Option.bind_eq_some_iff.mp h
      clear h cy
      obtain ⟨⟨x1, x2⟩, hx, h⟩ := h'
      have HX := Aside0.mk hx
      have HH := Aside0.mk h
      clear h hx
      go_wp2_with (first | (go_at_call 42; refine (dbus_validSingle.enterS _ _ _ _).mono ?_; rintro e w' ⟨rfl, rfl⟩) | (go_at_call 28; refine (IH.out k2 (by have := HK.out; have := HQ.out; omega) _ (wr.heap.size) a (wrap64 (s + 1)) d x1 x2 _ (by simp) (by simp) (by simp) HX.out).mono ?_; rintro e w6 ⟨rfl, hb⟩; have hb2 := Aside0.mk (below_step (by repeat (first | (with_reducible first | exact HB.out | apply below_alloc | apply pw_below_drewN | apply below_drew1) | exact HB.out)) hb); have kk := Aside0.mk (And.intro ((hb2.out.cell (p := ⟨g, 0, none⟩) hg).trans h0) (And.intro ((hb2.out.cell (p := ⟨g, 1, none⟩) hg).trans h1) ((hb2.out.cell (p := ⟨g, 2, none⟩) hg).trans h2))); clear hb HB; have HB := hb2; clear hb2))
      go_roundg k2
      case measure => omega
      case rel => exact ⟨x2, x1, rfl, rfl, HH, ⟨by have := HQ.out; omega⟩, HB⟩
  ·rw [if_neg cg] at h
   exact absurd h (by simp)
set_option maxHeartbeats 4000000 in
set_option maxRecDepth 100000 in
theorem dbus_validSingle.w_bad (a0 : ByteArray) (g : Nat) (a s d : Int) (w : World)
  (h0 : w.cell? ⟨g, 0, none⟩ = some (.int .i64 a)) (h1 : w.cell? ⟨g, 1, none⟩ = some (.int .i64 s)) (h2 : w.cell? ⟨g, 2, none⟩ = some (.int .i64 d))
  (c1 : ¬ a0.size = 0) (c2 : dbus_validSingle.ok a s d = true) (c3 : dbus_validSingle.simple (bt a0 0) = false) (c4 : ¬ bt a0 0 = 97) (c5 : ¬ bt a0 0 = 40) :
  Calls Tryd.prog 28 #[.string a0, .pointer (some ⟨g, 0, none⟩)] w fun e w' => e = .returned (.tuple #[errW (dbus_validSingle.er a0 ⟨#[105, 110, 118, 97, 108, 105, 100, 32, 116, 121, 112, 101, 32, 99, 104, 97, 114, 97, 99, 116, 101, 114]⟩), .string ⟨#[]⟩]) ∧ Below w.heap.size w w' := by
 have hu2 := Tryd.underlying57
 have e1 := dbus_validSingle.nemp c1
 have q14 : 0 < a0.size := by omega
 have hx14 : ∀ h : 0 < a0.size, ((a0[0]'h).toNat : Int) = bt a0 0 := bt_at a0 0
 have qi14 : (0 < (a0.size : Int)) = True := eq_true (by omega)
 replace q14 := eq_true q14
 have b97 : (bt a0 0 == 97) = false := beq_eq_false_iff_ne.mpr c4
 have b40 : (bt a0 0 == 40) = false := beq_eq_false_iff_ne.mpr c5
 simp only [dbus_validSingle.simple, Bool.or_eq_false_iff] at c3
 obtain ⟨⟨⟨⟨⟨⟨⟨⟨⟨⟨⟨⟨⟨b121, b98⟩, b110⟩, b113⟩, b105⟩, b117⟩, b120⟩, b116⟩, b100⟩, b115⟩, b103⟩, b111⟩, b118⟩, b104⟩ := c3
 clear c1 c4 c5
 go_enter Tryd.func28, Tryd.ntmps28
 go_wp2_with (first | (go_at_call 38; refine (dbus_validSingle.valid g a s d _ h0 h1 h2).mono ?_; rintro e w' ⟨rfl, rfl⟩))
 go_ret2
 exact ⟨rfl, Below.refl _ _⟩

theorem dbus_validSingle.core (k : Nat) : dbus_validSingle.Core k := by
 induction k using Nat.strongRecOn with
 | _ k ih =>
 intro a0 g a s d r1 r2 w h0 h1 h2 h
 cases k with
 | zero => exact absurd h (by simp [dbus_validSingle.g])
 | succ k =>
 simp only [dbus_validSingle.g] at h
 by_cases c1 : a0.size = 0
 ·rw [if_pos c1] at h
  obtain ⟨rfl, rfl⟩ := Prod.mk.inj (Option.some.inj h)
  exact dbus_validSingle.w_empty a0 g w c1
 rw [if_neg c1] at h
 cases c2 : dbus_validSingle.ok a s d with
 | false =>
  rw [c2, if_pos rfl] at h
  obtain ⟨rfl, rfl⟩ := Prod.mk.inj (Option.some.inj h)
  exact dbus_validSingle.w_deep a0 g a s d w h0 h1 h2 c1 c2
 | true =>
 rw [c2, if_neg (by decide)] at h
 cases c3 : dbus_validSingle.simple (bt a0 0) with
 | true =>
  rw [c3, if_pos rfl] at h
  obtain ⟨rfl, rfl⟩ := Prod.mk.inj (Option.some.inj h)
  exact dbus_validSingle.w_simple a0 g a s d w h0 h1 h2 c1 c2 c3
 | false =>
 rw [c3, if_neg (by decide)] at h
 by_cases c4 : bt a0 0 = 97
 ·rw [if_pos c4] at h
  by_cases c5 : 1 < a0.size
  ·rw [if_pos c5] at h
   by_cases c6 : bt a0 1 = 123
   ·rw [if_pos c6] at h
    obtain ⟨i, hi, h⟩ := Option.bind_eq_some_iff.mp h
    exact dbus_validSingle.w_dict (k + 1) k k ih (Nat.lt_succ_self k) a0 g a s d i r1 r2 w h0 h1 h2 c2 c4 c5 c6 hi h
   ·rw [if_neg c6] at h
    exact dbus_validSingle.w_array k (ih k (Nat.lt_succ_self k)) a0 g a s d r1 r2 w h0 h1 h2 c1 c2 c4 (fun _ => c6) h
  ·rw [if_neg c5] at h
   exact dbus_validSingle.w_array k (ih k (Nat.lt_succ_self k)) a0 g a s d r1 r2 w h0 h1 h2 c1 c2 c4 (fun h5 => absurd h5 c5) h
 ·rw [if_neg c4] at h
  by_cases c5 : bt a0 0 = 40
  ·rw [if_pos c5] at h
   obtain ⟨i, hi, h⟩ := Option.bind_eq_some_iff.mp h
   exact dbus_validSingle.w_open (k + 1) k k ih (Nat.lt_succ_self k) a0 g a s d i r1 r2 w h0 h1 h2 c1 c2 c5 hi h
  ·rw [if_neg c5] at h
   obtain ⟨rfl, rfl⟩ := Prod.mk.inj (Option.some.inj h)
   exact dbus_validSingle.w_bad a0 g a s d w h0 h1 h2 c1 c2 c3 c4 c5
def dbus_validSingle.f (k : Nat) (a0 : ByteArray) (s1_0 s1_1 s1_2 : Int) : Option (Option (TypeId × Value) × ByteArray × Int × Int × Int) := (dbus_validSingle.g k a0 s1_0 s1_1 s1_2).bind fun x => some (x.1, x.2, s1_0, s1_1, s1_2)
theorem dbus_validSingle.calls (k : Nat) (a0 : ByteArray) (g : Nat) (s1_0 s1_1 s1_2 : Int) (r1 : Option (TypeId × Value)) (r2 : ByteArray) (r3 r4 r5 : Int) (w0 w : World) (hI : IsS62 w0 w g s1_0 s1_1 s1_2) (hB : Below w0.heap.size w0 w) (h : dbus_validSingle.f k a0 s1_0 s1_1 s1_2 = some (r1, r2, r3, r4, r5)) :
  Calls Tryd.prog 28 #[.string a0, .pointer (some ⟨g, 0, none⟩)] w fun e w' => e = .returned (.tuple #[errW r1, .string r2]) ∧ IsS62 w0 w' g r3 r4 r5 ∧ Below w0.heap.size w0 w' ∧ KeepBut w w' g none := by
 obtain ⟨⟨x1, x2⟩, hx, h⟩ := Option.bind_eq_some_iff.mp h
 simp only [Option.some.injEq, Prod.mk.injEq] at h
 obtain ⟨rfl, rfl, rfl, rfl, rfl⟩ := h
 refine (dbus_validSingle.core k a0 g s1_0 s1_1 s1_2 x1 x2 w (cellS62_0 hI.1) (cellS62_1 hI.1) (cellS62_2 hI.1) hx).mono ?_
 rintro e w' ⟨he, hb⟩
 exact ⟨he, hI.below hb, below_then hB hB.size hb, ⟨hb.size, fun i hi _ _ => hb.block i hi⟩⟩

end Go.Proofs.YtboioihppjhjcaaDoor.MFnSgOf

namespace Go.Proofs.YtboioihppjhjcaaDoor.MFnSgOf
open Go.RowKit Go.Proofs.YtboioihppjhjcaaDoorW.PrintWords Go.Proofs.YtboioihppjhjcaaDoorW.PrintLast Go.Proofs.YtboioihppjhjcaaDoorW.PrintMore
attribute [local go_sem] max2_int min2_int max_two min_two max_three min_three max_four min_four
set_option linter.unusedVariables false
set_option linter.unusedSimpArgs false

theorem up_heap2 {W w2 : World} (hb : Below W.heap.size W w2) {g : Nat} {o : Obj} (h : W.heap[g]? = some o) : w2.heap[g]? = some o := (hb.block g (Array.getElem?_eq_some_iff.1 h).1).trans h
theorem below_weaken {b b' : Nat} {w W : World} (h : Below b w W) (hb : b' ≤ b) : Below b' w W := ⟨h.os, h.tape, h.output, h.size, fun k hk => h.block k (Nat.lt_of_lt_of_le hk hb)⟩
/-- The deferred check of a signature's length finds nothing. -/
theorem f46_idle (p : Addr) (r : ByteArray) (w : World) (hc : w.cell? p = some (.string r)) (hr : r.size ≤ 255) : CallsD Tryd.prog 46 #[.pointer (some p)] .returning w fun e u' w' => u' = .returning ∧ (e = .returned (.tuple #[]) ∧ w' = w) := by
  have hd : decide ((255 : Int) < (r.size : Int)) = false := by simp; omega
  refine callsD_of_wp Tryd.func46 rfl ?_
  simp only [Tryd.ntmps46]
  go_wp2
  all_goals simp [bodyPost, results, Tryd.results46, go_sem]
/-- A counter of depths in memory. -/
def DC (w : World) (g : Nat) (a s d : Int) : Prop := w.cell? ⟨g, 0, none⟩ = some (.int .i64 a) ∧ w.cell? ⟨g, 1, none⟩ = some (.int .i64 s) ∧ w.cell? ⟨g, 2, none⟩ = some (.int .i64 d)
theorem DC.c0 {w : World} {g : Nat} {a s d : Int} (h : DC w g a s d) : w.cell? ⟨g, 0, none⟩ = some (.int .i64 a) := h.1
theorem DC.c1 {w : World} {g : Nat} {a s d : Int} (h : DC w g a s d) : w.cell? ⟨g, 1, none⟩ = some (.int .i64 s) := h.2.1
theorem DC.c2 {w : World} {g : Nat} {a s d : Int} (h : DC w g a s d) : w.cell? ⟨g, 2, none⟩ = some (.int .i64 d) := h.2.2
theorem DC.up {w w' : World} {g : Nat} {a s d : Int} (h : DC w g a s d) (hb : Below w.heap.size w w') : DC w' g a s d := ⟨pw_cell_below hb h.1, pw_cell_below hb h.2.1, pw_cell_below hb h.2.2⟩
theorem DC.lt {w : World} {g : Nat} {a s d : Int} (h : DC w g a s d) : g < w.heap.size := World.block_lt_of_cell? w ⟨g, 0, none⟩ h.1
/-- The counter is valid. -/
theorem dv {w : World} {g : Nat} {a s d : Int} (h : DC w g a s d) (ha : a ≤ 32) (hs : s ≤ 32) (hd : d ≤ 32) : Calls Tryd.prog 38 #[.pointer (some ⟨g, 0, none⟩)] w fun e w' => e = .returned (.bool true) ∧ w' = w := by
  refine (dbus_validSingle.valid g a s d w h.c0 h.c1 h.c2).mono ?_
  rintro e w' ⟨rfl, rfl⟩
  exact ⟨by rw [show dbus_validSingle.ok a s d = true by simp [dbus_validSingle.ok, ha, hs, hd]], rfl⟩
/-- How getSignature ends: its result stands in a cell of its own, and the deferred check finds nothing. -/
theorem gs_end {w w4 : World} {u r : ByteArray} (hc : w4.cell? ⟨w.heap.size, 0, none⟩ = some (.string u)) (hB : Below w.heap.size w w4) (hr : r.size ≤ 255) (tmps : Array Value) (h4 : tmps[4]? = some (.pointer (some ⟨w.heap.size, 0, none⟩))) :
    Leaves Tryd.prog Tryd.f35 tmps (fun e w' => e = .returned (.string r) ∧ Below w.heap.size w w') [{ target := .fn (.func 46) #[.pointer (some ⟨w.heap.size, 0, none⟩)], args := #[] }] .returning (w4.setCell ⟨w.heap.size, 0, none⟩ (.string r)) := by
  have hc2 := World.cell?_setCell_same w4 ⟨w.heap.size, 0, none⟩ (.string r) hc
  refine leaves_cons (f := 46) (args := #[.pointer (some ⟨w.heap.size, 0, none⟩)]) (by simp) (by simp [go_sem]) ?_
  refine (f46_idle _ r _ hc2 hr).mono ?_
  rintro e u' w'' ⟨rfl, rfl, hw⟩
  simp only [Leaves, settle]
  subst hw
  refine ⟨.string r, ?_, rfl, hB.setCell (Nat.le_refl _) _⟩
  simp [results, Tryd.results35, go_sem, h4, hc2]
set_option maxRecDepth 100000 in
set_option maxHeartbeats 4000000 in
theorem gs_121 (g : Nat) (a s d : Int) (w : World) (h : DC w g a s d) (ha : a ≤ 32) (hs : s ≤ 32) (hd : d ≤ 32) :
    Calls Tryd.prog 35 #[.string ⟨#[121]⟩, .pointer (some ⟨g, 0, none⟩)] w fun e w' => e = .returned (.string ⟨#[121]⟩) ∧ Below w.heap.size w w' := by
  have hmf : ∀ (fn : Fn) (first cap : Array Value) (w : World), (Instr.makeFunc fn first cap).run Tryd.prog w = .ok (.func fn first cap) w := fun _ _ _ _ => rfl
  have HV := Aside0.mk (dv (h.up (below_alloc (Below.refl _ _) (.cells #[.string ⟨#[]⟩] 9))) ha hs hd)
  have k0 := heap_alloc_new w (.cells #[.string ⟨#[]⟩] 9)
  have hB := below_alloc (Below.refl w.heap.size w) (.cells #[.string ⟨#[]⟩] 9)
  clear h ha hs hd
  go_enter_defers Tryd.func35, Tryd.ntmps35
  go_wp2_with fail
  generalize w.alloc (.cells #[.string ⟨#[]⟩] 9) = W at *
  refine HV.out.mono ?_
  rintro e1 w2 ⟨rfl, hw⟩
  obtain rfl := hw.symm
  clear hw HV
  go_wp2_with fail
  refine (dbus_zzType_Kind.calls 9 ⟨#[121]⟩ 7 _ (by kernel_rfl)).mono ?_
  rintro e1 w3 ⟨rfl, k1, rfl⟩
  have c0 : (W.drewN k1).cell? ⟨w.heap.size, 0, none⟩ = some (.string ⟨#[]⟩) := (cell_of_row W w.heap.size 0 _ 9 (0, 0) k0).trans rfl
  have z0 : (W.drewN k1).frozen? ⟨w.heap.size, 0, none⟩ = false := frozen_of_row W w.heap.size 0 _ 9 k0
  have hB2 := pw_below_drewN hB k1
  clear k0 hB
  go_wp2_with fail
  exact gs_end c0 hB2 (by decide) _ rfl
set_option maxRecDepth 100000 in
set_option maxHeartbeats 4000000 in
theorem gs_98 (g : Nat) (a s d : Int) (w : World) (h : DC w g a s d) (ha : a ≤ 32) (hs : s ≤ 32) (hd : d ≤ 32) :
    Calls Tryd.prog 35 #[.string ⟨#[98]⟩, .pointer (some ⟨g, 0, none⟩)] w fun e w' => e = .returned (.string ⟨#[98]⟩) ∧ Below w.heap.size w w' := by
  have hmf : ∀ (fn : Fn) (first cap : Array Value) (w : World), (Instr.makeFunc fn first cap).run Tryd.prog w = .ok (.func fn first cap) w := fun _ _ _ _ => rfl
  have HV := Aside0.mk (dv (h.up (below_alloc (Below.refl _ _) (.cells #[.string ⟨#[]⟩] 9))) ha hs hd)
  have k0 := heap_alloc_new w (.cells #[.string ⟨#[]⟩] 9)
  have hB := below_alloc (Below.refl w.heap.size w) (.cells #[.string ⟨#[]⟩] 9)
  clear h ha hs hd
  go_enter_defers Tryd.func35, Tryd.ntmps35
  go_wp2_with fail
  generalize w.alloc (.cells #[.string ⟨#[]⟩] 9) = W at *
  refine HV.out.mono ?_
  rintro e1 w2 ⟨rfl, hw⟩
  obtain rfl := hw.symm
  clear hw HV
  go_wp2_with fail
  refine (dbus_zzType_Kind.calls 9 ⟨#[98]⟩ 1 _ (by kernel_rfl)).mono ?_
  rintro e1 w3 ⟨rfl, k1, rfl⟩
  have c0 : (W.drewN k1).cell? ⟨w.heap.size, 0, none⟩ = some (.string ⟨#[]⟩) := (cell_of_row W w.heap.size 0 _ 9 (0, 0) k0).trans rfl
  have z0 : (W.drewN k1).frozen? ⟨w.heap.size, 0, none⟩ = false := frozen_of_row W w.heap.size 0 _ 9 k0
  have hB2 := pw_below_drewN hB k1
  clear k0 hB
  go_wp2_with fail
  exact gs_end c0 hB2 (by decide) _ rfl
set_option maxRecDepth 100000 in
set_option maxHeartbeats 4000000 in
theorem gs_110 (g : Nat) (a s d : Int) (w : World) (h : DC w g a s d) (ha : a ≤ 32) (hs : s ≤ 32) (hd : d ≤ 32) :
    Calls Tryd.prog 35 #[.string ⟨#[110]⟩, .pointer (some ⟨g, 0, none⟩)] w fun e w' => e = .returned (.string ⟨#[110]⟩) ∧ Below w.heap.size w w' := by
  have hmf : ∀ (fn : Fn) (first cap : Array Value) (w : World), (Instr.makeFunc fn first cap).run Tryd.prog w = .ok (.func fn first cap) w := fun _ _ _ _ => rfl
  have HV := Aside0.mk (dv (h.up (below_alloc (Below.refl _ _) (.cells #[.string ⟨#[]⟩] 9))) ha hs hd)
  have k0 := heap_alloc_new w (.cells #[.string ⟨#[]⟩] 9)
  have hB := below_alloc (Below.refl w.heap.size w) (.cells #[.string ⟨#[]⟩] 9)
  clear h ha hs hd
  go_enter_defers Tryd.func35, Tryd.ntmps35
  go_wp2_with fail
  generalize w.alloc (.cells #[.string ⟨#[]⟩] 9) = W at *
  refine HV.out.mono ?_
  rintro e1 w2 ⟨rfl, hw⟩
  obtain rfl := hw.symm
  clear hw HV
  go_wp2_with fail
  refine (dbus_zzType_Kind.calls 9 ⟨#[110]⟩ 3 _ (by kernel_rfl)).mono ?_
  rintro e1 w3 ⟨rfl, k1, rfl⟩
  have c0 : (W.drewN k1).cell? ⟨w.heap.size, 0, none⟩ = some (.string ⟨#[]⟩) := (cell_of_row W w.heap.size 0 _ 9 (0, 0) k0).trans rfl
  have z0 : (W.drewN k1).frozen? ⟨w.heap.size, 0, none⟩ = false := frozen_of_row W w.heap.size 0 _ 9 k0
  have hB2 := pw_below_drewN hB k1
  clear k0 hB
  go_wp2_with fail
  exact gs_end c0 hB2 (by decide) _ rfl
set_option maxRecDepth 100000 in
set_option maxHeartbeats 4000000 in
theorem gs_113 (g : Nat) (a s d : Int) (w : World) (h : DC w g a s d) (ha : a ≤ 32) (hs : s ≤ 32) (hd : d ≤ 32) :
    Calls Tryd.prog 35 #[.string ⟨#[113]⟩, .pointer (some ⟨g, 0, none⟩)] w fun e w' => e = .returned (.string ⟨#[113]⟩) ∧ Below w.heap.size w w' := by
  have hmf : ∀ (fn : Fn) (first cap : Array Value) (w : World), (Instr.makeFunc fn first cap).run Tryd.prog w = .ok (.func fn first cap) w := fun _ _ _ _ => rfl
  have HV := Aside0.mk (dv (h.up (below_alloc (Below.refl _ _) (.cells #[.string ⟨#[]⟩] 9))) ha hs hd)
  have k0 := heap_alloc_new w (.cells #[.string ⟨#[]⟩] 9)
  have hB := below_alloc (Below.refl w.heap.size w) (.cells #[.string ⟨#[]⟩] 9)
  clear h ha hs hd
  go_enter_defers Tryd.func35, Tryd.ntmps35
  go_wp2_with fail
  generalize w.alloc (.cells #[.string ⟨#[]⟩] 9) = W at *
  refine HV.out.mono ?_
  rintro e1 w2 ⟨rfl, hw⟩
  obtain rfl := hw.symm
  clear hw HV
  go_wp2_with fail
  refine (dbus_zzType_Kind.calls 9 ⟨#[113]⟩ 8 _ (by kernel_rfl)).mono ?_
  rintro e1 w3 ⟨rfl, k1, rfl⟩
  have c0 : (W.drewN k1).cell? ⟨w.heap.size, 0, none⟩ = some (.string ⟨#[]⟩) := (cell_of_row W w.heap.size 0 _ 9 (0, 0) k0).trans rfl
  have z0 : (W.drewN k1).frozen? ⟨w.heap.size, 0, none⟩ = false := frozen_of_row W w.heap.size 0 _ 9 k0
  have hB2 := pw_below_drewN hB k1
  clear k0 hB
  go_wp2_with fail
  exact gs_end c0 hB2 (by decide) _ rfl
set_option maxRecDepth 100000 in
set_option maxHeartbeats 4000000 in
theorem gs_105 (g : Nat) (a s d : Int) (w : World) (h : DC w g a s d) (ha : a ≤ 32) (hs : s ≤ 32) (hd : d ≤ 32) :
    Calls Tryd.prog 35 #[.string ⟨#[105]⟩, .pointer (some ⟨g, 0, none⟩)] w fun e w' => e = .returned (.string ⟨#[105]⟩) ∧ Below w.heap.size w w' := by
  have hmf : ∀ (fn : Fn) (first cap : Array Value) (w : World), (Instr.makeFunc fn first cap).run Tryd.prog w = .ok (.func fn first cap) w := fun _ _ _ _ => rfl
  have HV := Aside0.mk (dv (h.up (below_alloc (Below.refl _ _) (.cells #[.string ⟨#[]⟩] 9))) ha hs hd)
  have k0 := heap_alloc_new w (.cells #[.string ⟨#[]⟩] 9)
  have hB := below_alloc (Below.refl w.heap.size w) (.cells #[.string ⟨#[]⟩] 9)
  clear h ha hs hd
  go_enter_defers Tryd.func35, Tryd.ntmps35
  go_wp2_with fail
  generalize w.alloc (.cells #[.string ⟨#[]⟩] 9) = W at *
  refine HV.out.mono ?_
  rintro e1 w2 ⟨rfl, hw⟩
  obtain rfl := hw.symm
  clear hw HV
  go_wp2_with fail
  refine (dbus_zzType_Kind.calls 9 ⟨#[105]⟩ 4 _ (by kernel_rfl)).mono ?_
  rintro e1 w3 ⟨rfl, k1, rfl⟩
  have c0 : (W.drewN k1).cell? ⟨w.heap.size, 0, none⟩ = some (.string ⟨#[]⟩) := (cell_of_row W w.heap.size 0 _ 9 (0, 0) k0).trans rfl
  have z0 : (W.drewN k1).frozen? ⟨w.heap.size, 0, none⟩ = false := frozen_of_row W w.heap.size 0 _ 9 k0
  have hB2 := pw_below_drewN hB k1
  clear k0 hB
  go_wp2_with fail
  exact gs_end c0 hB2 (by decide) _ rfl
set_option maxRecDepth 100000 in
set_option maxHeartbeats 4000000 in
theorem gs_117 (g : Nat) (a s d : Int) (w : World) (h : DC w g a s d) (ha : a ≤ 32) (hs : s ≤ 32) (hd : d ≤ 32) :
    Calls Tryd.prog 35 #[.string ⟨#[117]⟩, .pointer (some ⟨g, 0, none⟩)] w fun e w' => e = .returned (.string ⟨#[117]⟩) ∧ Below w.heap.size w w' := by
  have hmf : ∀ (fn : Fn) (first cap : Array Value) (w : World), (Instr.makeFunc fn first cap).run Tryd.prog w = .ok (.func fn first cap) w := fun _ _ _ _ => rfl
  have HV := Aside0.mk (dv (h.up (below_alloc (Below.refl _ _) (.cells #[.string ⟨#[]⟩] 9))) ha hs hd)
  have k0 := heap_alloc_new w (.cells #[.string ⟨#[]⟩] 9)
  have hB := below_alloc (Below.refl w.heap.size w) (.cells #[.string ⟨#[]⟩] 9)
  clear h ha hs hd
  go_enter_defers Tryd.func35, Tryd.ntmps35
  go_wp2_with fail
  generalize w.alloc (.cells #[.string ⟨#[]⟩] 9) = W at *
  refine HV.out.mono ?_
  rintro e1 w2 ⟨rfl, hw⟩
  obtain rfl := hw.symm
  clear hw HV
  go_wp2_with fail
  refine (dbus_zzType_Kind.calls 9 ⟨#[117]⟩ 9 _ (by kernel_rfl)).mono ?_
  rintro e1 w3 ⟨rfl, k1, rfl⟩
  have c0 : (W.drewN k1).cell? ⟨w.heap.size, 0, none⟩ = some (.string ⟨#[]⟩) := (cell_of_row W w.heap.size 0 _ 9 (0, 0) k0).trans rfl
  have z0 : (W.drewN k1).frozen? ⟨w.heap.size, 0, none⟩ = false := frozen_of_row W w.heap.size 0 _ 9 k0
  have hB2 := pw_below_drewN hB k1
  clear k0 hB
  go_wp2_with fail
  exact gs_end c0 hB2 (by decide) _ rfl
set_option maxRecDepth 100000 in
set_option maxHeartbeats 4000000 in
theorem gs_120 (g : Nat) (a s d : Int) (w : World) (h : DC w g a s d) (ha : a ≤ 32) (hs : s ≤ 32) (hd : d ≤ 32) :
    Calls Tryd.prog 35 #[.string ⟨#[120]⟩, .pointer (some ⟨g, 0, none⟩)] w fun e w' => e = .returned (.string ⟨#[120]⟩) ∧ Below w.heap.size w w' := by
  have hmf : ∀ (fn : Fn) (first cap : Array Value) (w : World), (Instr.makeFunc fn first cap).run Tryd.prog w = .ok (.func fn first cap) w := fun _ _ _ _ => rfl
  have HV := Aside0.mk (dv (h.up (below_alloc (Below.refl _ _) (.cells #[.string ⟨#[]⟩] 9))) ha hs hd)
  have k0 := heap_alloc_new w (.cells #[.string ⟨#[]⟩] 9)
  have hB := below_alloc (Below.refl w.heap.size w) (.cells #[.string ⟨#[]⟩] 9)
  clear h ha hs hd
  go_enter_defers Tryd.func35, Tryd.ntmps35
  go_wp2_with fail
  generalize w.alloc (.cells #[.string ⟨#[]⟩] 9) = W at *
  refine HV.out.mono ?_
  rintro e1 w2 ⟨rfl, hw⟩
  obtain rfl := hw.symm
  clear hw HV
  go_wp2_with fail
  refine (dbus_zzType_Kind.calls 9 ⟨#[120]⟩ 5 _ (by kernel_rfl)).mono ?_
  rintro e1 w3 ⟨rfl, k1, rfl⟩
  have c0 : (W.drewN k1).cell? ⟨w.heap.size, 0, none⟩ = some (.string ⟨#[]⟩) := (cell_of_row W w.heap.size 0 _ 9 (0, 0) k0).trans rfl
  have z0 : (W.drewN k1).frozen? ⟨w.heap.size, 0, none⟩ = false := frozen_of_row W w.heap.size 0 _ 9 k0
  have hB2 := pw_below_drewN hB k1
  clear k0 hB
  go_wp2_with fail
  exact gs_end c0 hB2 (by decide) _ rfl
set_option maxRecDepth 100000 in
set_option maxHeartbeats 4000000 in
theorem gs_116 (g : Nat) (a s d : Int) (w : World) (h : DC w g a s d) (ha : a ≤ 32) (hs : s ≤ 32) (hd : d ≤ 32) :
    Calls Tryd.prog 35 #[.string ⟨#[116]⟩, .pointer (some ⟨g, 0, none⟩)] w fun e w' => e = .returned (.string ⟨#[116]⟩) ∧ Below w.heap.size w w' := by
  have hmf : ∀ (fn : Fn) (first cap : Array Value) (w : World), (Instr.makeFunc fn first cap).run Tryd.prog w = .ok (.func fn first cap) w := fun _ _ _ _ => rfl
  have HV := Aside0.mk (dv (h.up (below_alloc (Below.refl _ _) (.cells #[.string ⟨#[]⟩] 9))) ha hs hd)
  have k0 := heap_alloc_new w (.cells #[.string ⟨#[]⟩] 9)
  have hB := below_alloc (Below.refl w.heap.size w) (.cells #[.string ⟨#[]⟩] 9)
  clear h ha hs hd
  go_enter_defers Tryd.func35, Tryd.ntmps35
  go_wp2_with fail
  generalize w.alloc (.cells #[.string ⟨#[]⟩] 9) = W at *
  refine HV.out.mono ?_
  rintro e1 w2 ⟨rfl, hw⟩
  obtain rfl := hw.symm
  clear hw HV
  go_wp2_with fail
  refine (dbus_zzType_Kind.calls 9 ⟨#[116]⟩ 10 _ (by kernel_rfl)).mono ?_
  rintro e1 w3 ⟨rfl, k1, rfl⟩
  have c0 : (W.drewN k1).cell? ⟨w.heap.size, 0, none⟩ = some (.string ⟨#[]⟩) := (cell_of_row W w.heap.size 0 _ 9 (0, 0) k0).trans rfl
  have z0 : (W.drewN k1).frozen? ⟨w.heap.size, 0, none⟩ = false := frozen_of_row W w.heap.size 0 _ 9 k0
  have hB2 := pw_below_drewN hB k1
  clear k0 hB
  go_wp2_with fail
  exact gs_end c0 hB2 (by decide) _ rfl
set_option maxRecDepth 100000 in
set_option maxHeartbeats 4000000 in
theorem gs_100 (g : Nat) (a s d : Int) (w : World) (h : DC w g a s d) (ha : a ≤ 32) (hs : s ≤ 32) (hd : d ≤ 32) :
    Calls Tryd.prog 35 #[.string ⟨#[100]⟩, .pointer (some ⟨g, 0, none⟩)] w fun e w' => e = .returned (.string ⟨#[100]⟩) ∧ Below w.heap.size w w' := by
  have hmf : ∀ (fn : Fn) (first cap : Array Value) (w : World), (Instr.makeFunc fn first cap).run Tryd.prog w = .ok (.func fn first cap) w := fun _ _ _ _ => rfl
  have HV := Aside0.mk (dv (h.up (below_alloc (Below.refl _ _) (.cells #[.string ⟨#[]⟩] 9))) ha hs hd)
  have k0 := heap_alloc_new w (.cells #[.string ⟨#[]⟩] 9)
  have hB := below_alloc (Below.refl w.heap.size w) (.cells #[.string ⟨#[]⟩] 9)
  clear h ha hs hd
  go_enter_defers Tryd.func35, Tryd.ntmps35
  go_wp2_with fail
  generalize w.alloc (.cells #[.string ⟨#[]⟩] 9) = W at *
  refine HV.out.mono ?_
  rintro e1 w2 ⟨rfl, hw⟩
  obtain rfl := hw.symm
  clear hw HV
  go_wp2_with fail
  refine (dbus_zzType_Kind.calls 9 ⟨#[100]⟩ 11 _ (by kernel_rfl)).mono ?_
  rintro e1 w3 ⟨rfl, k1, rfl⟩
  have c0 : (W.drewN k1).cell? ⟨w.heap.size, 0, none⟩ = some (.string ⟨#[]⟩) := (cell_of_row W w.heap.size 0 _ 9 (0, 0) k0).trans rfl
  have z0 : (W.drewN k1).frozen? ⟨w.heap.size, 0, none⟩ = false := frozen_of_row W w.heap.size 0 _ 9 k0
  have hB2 := pw_below_drewN hB k1
  clear k0 hB
  go_wp2_with fail
  exact gs_end c0 hB2 (by decide) _ rfl
set_option maxRecDepth 100000 in
set_option maxHeartbeats 4000000 in
theorem gs_115 (g : Nat) (a s d : Int) (w : World) (h : DC w g a s d) (ha : a ≤ 32) (hs : s ≤ 32) (hd : d ≤ 32) :
    Calls Tryd.prog 35 #[.string ⟨#[115]⟩, .pointer (some ⟨g, 0, none⟩)] w fun e w' => e = .returned (.string ⟨#[115]⟩) ∧ Below w.heap.size w w' := by
  have hmf : ∀ (fn : Fn) (first cap : Array Value) (w : World), (Instr.makeFunc fn first cap).run Tryd.prog w = .ok (.func fn first cap) w := fun _ _ _ _ => rfl
  have HV := Aside0.mk (dv (h.up (below_alloc (Below.refl _ _) (.cells #[.string ⟨#[]⟩] 9))) ha hs hd)
  have k0 := heap_alloc_new w (.cells #[.string ⟨#[]⟩] 9)
  have hB := below_alloc (Below.refl w.heap.size w) (.cells #[.string ⟨#[]⟩] 9)
  clear h ha hs hd
  go_enter_defers Tryd.func35, Tryd.ntmps35
  go_wp2_with fail
  generalize w.alloc (.cells #[.string ⟨#[]⟩] 9) = W at *
  refine HV.out.mono ?_
  rintro e1 w2 ⟨rfl, hw⟩
  obtain rfl := hw.symm
  clear hw HV
  go_wp2_with fail
  refine (dbus_zzType_Kind.calls 9 ⟨#[115]⟩ 17 _ (by kernel_rfl)).mono ?_
  rintro e1 w3 ⟨rfl, k1, rfl⟩
  have c0 : (W.drewN k1).cell? ⟨w.heap.size, 0, none⟩ = some (.string ⟨#[]⟩) := (cell_of_row W w.heap.size 0 _ 9 (0, 0) k0).trans rfl
  have z0 : (W.drewN k1).frozen? ⟨w.heap.size, 0, none⟩ = false := frozen_of_row W w.heap.size 0 _ 9 k0
  have hB2 := pw_below_drewN hB k1
  clear k0 hB
  go_wp2_with fail
  exact gs_end c0 hB2 (by decide) _ rfl
set_option maxRecDepth 100000 in
set_option maxHeartbeats 4000000 in
theorem gs_111 (g : Nat) (a s d : Int) (w : World) (h : DC w g a s d) (ha : a ≤ 32) (hs : s ≤ 32) (hd : d ≤ 32) :
    Calls Tryd.prog 35 #[.string ⟨#[111]⟩, .pointer (some ⟨g, 0, none⟩)] w fun e w' => e = .returned (.string ⟨#[111]⟩) ∧ Below w.heap.size w w' := by
  have hmf : ∀ (fn : Fn) (first cap : Array Value) (w : World), (Instr.makeFunc fn first cap).run Tryd.prog w = .ok (.func fn first cap) w := fun _ _ _ _ => rfl
  have HV := Aside0.mk (dv (h.up (below_alloc (Below.refl _ _) (.cells #[.string ⟨#[]⟩] 9))) ha hs hd)
  have k0 := heap_alloc_new w (.cells #[.string ⟨#[]⟩] 9)
  have hB := below_alloc (Below.refl w.heap.size w) (.cells #[.string ⟨#[]⟩] 9)
  clear h ha hs hd
  go_enter_defers Tryd.func35, Tryd.ntmps35
  go_wp2_with fail
  generalize w.alloc (.cells #[.string ⟨#[]⟩] 9) = W at *
  refine HV.out.mono ?_
  rintro e1 w2 ⟨rfl, hw⟩
  obtain rfl := hw.symm
  clear hw HV
  go_wp2_with fail
  refine (dbus_zzType_Kind.calls 9 ⟨#[111]⟩ 17 _ (by kernel_rfl)).mono ?_
  rintro e1 w3 ⟨rfl, k1, rfl⟩
  have c0 : (W.drewN k1).cell? ⟨w.heap.size, 0, none⟩ = some (.string ⟨#[]⟩) := (cell_of_row W w.heap.size 0 _ 9 (0, 0) k0).trans rfl
  have z0 : (W.drewN k1).frozen? ⟨w.heap.size, 0, none⟩ = false := frozen_of_row W w.heap.size 0 _ 9 k0
  have hB2 := pw_below_drewN hB k1
  clear k0 hB
  go_wp2_with fail
  exact gs_end c0 hB2 (by decide) _ rfl
set_option maxRecDepth 100000 in
set_option maxHeartbeats 4000000 in
theorem gs_103 (g : Nat) (a s d : Int) (w : World) (h : DC w g a s d) (ha : a ≤ 32) (hs : s ≤ 32) (hd : d ≤ 32) :
    Calls Tryd.prog 35 #[.string ⟨#[103]⟩, .pointer (some ⟨g, 0, none⟩)] w fun e w' => e = .returned (.string ⟨#[103]⟩) ∧ Below w.heap.size w w' := by
  have hmf : ∀ (fn : Fn) (first cap : Array Value) (w : World), (Instr.makeFunc fn first cap).run Tryd.prog w = .ok (.func fn first cap) w := fun _ _ _ _ => rfl
  have HV := Aside0.mk (dv (h.up (below_alloc (Below.refl _ _) (.cells #[.string ⟨#[]⟩] 9))) ha hs hd)
  have k0 := heap_alloc_new w (.cells #[.string ⟨#[]⟩] 9)
  have hB := below_alloc (Below.refl w.heap.size w) (.cells #[.string ⟨#[]⟩] 9)
  clear h ha hs hd
  go_enter_defers Tryd.func35, Tryd.ntmps35
  go_wp2_with fail
  generalize w.alloc (.cells #[.string ⟨#[]⟩] 9) = W at *
  refine HV.out.mono ?_
  rintro e1 w2 ⟨rfl, hw⟩
  obtain rfl := hw.symm
  clear hw HV
  go_wp2_with fail
  refine (dbus_zzType_Kind.calls 9 ⟨#[103]⟩ 18 _ (by kernel_rfl)).mono ?_
  rintro e1 w3 ⟨rfl, k1, rfl⟩
  have c0 : (W.drewN k1).cell? ⟨w.heap.size, 0, none⟩ = some (.string ⟨#[]⟩) := (cell_of_row W w.heap.size 0 _ 9 (0, 0) k0).trans rfl
  have z0 : (W.drewN k1).frozen? ⟨w.heap.size, 0, none⟩ = false := frozen_of_row W w.heap.size 0 _ 9 k0
  have hB2 := pw_below_drewN hB k1
  clear k0 hB
  go_wp2_with fail
  exact gs_end c0 hB2 (by decide) _ rfl
set_option maxRecDepth 100000 in
set_option maxHeartbeats 4000000 in
theorem gs_104 (g : Nat) (a s d : Int) (w : World) (h : DC w g a s d) (ha : a ≤ 32) (hs : s ≤ 32) (hd : d ≤ 32) :
    Calls Tryd.prog 35 #[.string ⟨#[104]⟩, .pointer (some ⟨g, 0, none⟩)] w fun e w' => e = .returned (.string ⟨#[104]⟩) ∧ Below w.heap.size w w' := by
  have hmf : ∀ (fn : Fn) (first cap : Array Value) (w : World), (Instr.makeFunc fn first cap).run Tryd.prog w = .ok (.func fn first cap) w := fun _ _ _ _ => rfl
  have HV := Aside0.mk (dv (h.up (below_alloc (Below.refl _ _) (.cells #[.string ⟨#[]⟩] 9))) ha hs hd)
  have k0 := heap_alloc_new w (.cells #[.string ⟨#[]⟩] 9)
  have hB := below_alloc (Below.refl w.heap.size w) (.cells #[.string ⟨#[]⟩] 9)
  clear h ha hs hd
  go_enter_defers Tryd.func35, Tryd.ntmps35
  go_wp2_with fail
  generalize w.alloc (.cells #[.string ⟨#[]⟩] 9) = W at *
  refine HV.out.mono ?_
  rintro e1 w2 ⟨rfl, hw⟩
  obtain rfl := hw.symm
  clear hw HV
  go_wp2_with fail
  refine (dbus_zzType_Kind.calls 9 ⟨#[104]⟩ 9 _ (by kernel_rfl)).mono ?_
  rintro e1 w3 ⟨rfl, k1, rfl⟩
  have c0 : (W.drewN k1).cell? ⟨w.heap.size, 0, none⟩ = some (.string ⟨#[]⟩) := (cell_of_row W w.heap.size 0 _ 9 (0, 0) k0).trans rfl
  have z0 : (W.drewN k1).frozen? ⟨w.heap.size, 0, none⟩ = false := frozen_of_row W w.heap.size 0 _ 9 k0
  have hB2 := pw_below_drewN hB k1
  clear k0 hB
  go_wp2_with fail
  exact gs_end c0 hB2 (by decide) _ rfl
set_option maxRecDepth 100000 in
set_option maxHeartbeats 4000000 in
theorem gs_118 (g : Nat) (a s d : Int) (w : World) (h : DC w g a s d) (ha : a ≤ 32) (hs : s ≤ 32) (hd : d ≤ 32) :
    Calls Tryd.prog 35 #[.string ⟨#[118]⟩, .pointer (some ⟨g, 0, none⟩)] w fun e w' => e = .returned (.string ⟨#[118]⟩) ∧ Below w.heap.size w w' := by
  have hmf : ∀ (fn : Fn) (first cap : Array Value) (w : World), (Instr.makeFunc fn first cap).run Tryd.prog w = .ok (.func fn first cap) w := fun _ _ _ _ => rfl
  have HV := Aside0.mk (dv (h.up (below_alloc (Below.refl _ _) (.cells #[.string ⟨#[]⟩] 9))) ha hs hd)
  have k0 := heap_alloc_new w (.cells #[.string ⟨#[]⟩] 9)
  have hB := below_alloc (Below.refl w.heap.size w) (.cells #[.string ⟨#[]⟩] 9)
  clear h ha hs hd
  go_enter_defers Tryd.func35, Tryd.ntmps35
  go_wp2_with fail
  generalize w.alloc (.cells #[.string ⟨#[]⟩] 9) = W at *
  refine HV.out.mono ?_
  rintro e1 w2 ⟨rfl, hw⟩
  obtain rfl := hw.symm
  clear hw HV
  go_wp2_with fail
  refine (dbus_zzType_Kind.calls 9 ⟨#[118]⟩ 18 _ (by kernel_rfl)).mono ?_
  rintro e1 w3 ⟨rfl, k1, rfl⟩
  have c0 : (W.drewN k1).cell? ⟨w.heap.size, 0, none⟩ = some (.string ⟨#[]⟩) := (cell_of_row W w.heap.size 0 _ 9 (0, 0) k0).trans rfl
  have z0 : (W.drewN k1).frozen? ⟨w.heap.size, 0, none⟩ = false := frozen_of_row W w.heap.size 0 _ 9 k0
  have hB2 := pw_below_drewN hB k1
  clear k0 hB
  go_wp2_with fail
  exact gs_end c0 hB2 (by decide) _ rfl


end Go.Proofs.YtboioihppjhjcaaDoor.MFnSgOf

/- Small lemmas on bytes, texts and rounds, used by the plain proofs of this seat. -/
namespace Go.Proofs.YtboioihppjhjcaaDoor.Hlp
open Go Go.RowKit Go.Proofs.YtboioihppjhjcaaDoorW.PrintWords Go.Proofs.YtboioihppjhjcaaDoorW.PrintLast
set_option linter.unusedVariables false

/-- A text's bytes. -/
def bl (s : ByteArray) : List UInt8 := s.data.toList
theorem bl_len (s : ByteArray) : (bl s).length = s.size := rfl
theorem bl_ext {s t : ByteArray} (h : bl s = bl t) : s = t := by
  cases s; cases t; simp only [bl] at h; congr 1; exact Array.toList_inj.mp h
theorem w64 {x : Int} (h1 : -9223372036854775808 ≤ x) (h2 : x ≤ 9223372036854775807) : wrap64 x = x := by unfold wrap64; omega
theorem toList_bl (s : ByteArray) : s.toList = bl s := ByteArray.toList_eq s
theorem bl_extract (s : ByteArray) (a b : Nat) : bl (s.extract a b) = ((bl s).drop a).take (b - a) := Lib.extract_data s a b
theorem bl_append (s t : ByteArray) : bl (s ++ t) = bl s ++ bl t := by simp [bl, ByteArray.data_append]
/-- A byte by its number in the list. -/
theorem bt_nat (s : ByteArray) (i : Nat) (h : i < (bl s).length) : bt s (i : Int) = (((bl s)[i]'h).toNat : Int) := by
  have hi : ((i : Int).toNat) < s.size := h
  have h2 : i < s.size := h
  unfold bt
  rw [dif_pos hi]
  simp only [Int.toNat_natCast]
  rfl
theorem bt_out (s : ByteArray) (i : Nat) (h : ¬ i < (bl s).length) : bt s (i : Int) = 0 := by
  have hi : ¬ ((i : Int).toNat) < s.size := h
  unfold bt
  rw [dif_neg hi]
theorem bt_getD (s : ByteArray) (i : Nat) : bt s (i : Int) = (((bl s).getD i 0).toNat : Int) := by
  by_cases h : i < (bl s).length
  · rw [bt_nat s i h]; simp [List.getD_eq_getElem?_getD, List.getElem?_eq_getElem h]
  · rw [bt_out s i h]; simp [List.getD_eq_getElem?_getD, List.getElem?_eq_none (Nat.not_lt.mp h)]
theorem bt_eq (s : ByteArray) (i : Nat) (h : i < s.size) : bt s (i : Int) = ((s[i]'h).toNat : Int) := (bt_at s (i : Int) h).symm
/-- A character of a text at a byte of ASCII is the byte; at another it is beyond ASCII. -/
theorem dec_lo (s : ByteArray) (i : Nat) (h : i < s.size) (hb : bt s (i : Int) < 128) : (((Utf8.decode s i).1 : Nat) : Int) = bt s (i : Int) ∧ (Utf8.decode s i).2 = 1 := by
  rw [bt_eq s i h] at hb ⊢
  rw [Go.decode_ascii s i h (by omega)]
  exact ⟨rfl, rfl⟩
theorem dec_hi (s : ByteArray) (i : Nat) (h : i < s.size) (hb : 128 ≤ bt s (i : Int)) : 128 ≤ (((Utf8.decode s i).1 : Nat) : Int) ∧ 1 ≤ (Utf8.decode s i).2 := by
  rw [bt_eq s i h] at hb
  have := Go.decode_high s i h (by omega)
  exact ⟨by omega, this.2⟩
theorem emp_iff (s : ByteArray) : s.toList = ([] : List UInt8) ↔ s.size = 0 := by
  rw [toList_bl, ← bl_len]; exact List.length_eq_zero_iff.symm
theorem ev_ite_pos {α : Type} {g f h : Nat → Option α} {c : Prop} [Decidable c] {r : α} (hc : c) (hg : ∀ k, g k = if c then f k else h k) (hf : Ev f r) : Ev g r :=
  Ev.congr (fun k => by rw [hg, if_pos hc]) hf
theorem ev_ite_neg {α : Type} {g f h : Nat → Option α} {c : Prop} [Decidable c] {r : α} (hc : ¬ c) (hg : ∀ k, g k = if c then f k else h k) (hf : Ev h r) : Ev g r :=
  Ev.congr (fun k => by rw [hg, if_neg hc]) hf
end Go.Proofs.YtboioihppjhjcaaDoor.Hlp

/- Complete types of signatures as lists of bytes, in plain Lean: what a complete type is, with how many arrays, brackets and dict entries may still stand in it. -/
namespace Go.Proofs.YtboioihppjhjcaaDoor.SgT
open Go
set_option linter.unusedVariables false

/-- The letters of the basic types. -/
def basicC (c : UInt8) : Bool := c == 121 || c == 98 || c == 110 || c == 113 || c == 105 || c == 117 || c == 120 || c == 116 || c == 100 || c == 115 || c == 111 || c == 103 || c == 104
/-- A type of one letter. -/
def oneC (c : UInt8) : Bool := basicC c || c == 118

/-- One complete type, in at most n steps. -/
def TF : Nat → Int → Int → Int → List UInt8 → Prop
  | 0, _, _, _, _ => False
  | n + 1, A, B, E, l => 0 ≤ A ∧ 0 ≤ B ∧ 0 ≤ E ∧
    ((∃ c, oneC c = true ∧ l = [c]) ∨ (∃ x, TF n (A - 1) B E x ∧ l = 97 :: x) ∨
     (∃ c x, basicC c = true ∧ TF n (A - 1) B (E - 1) x ∧ l = 97 :: 123 :: c :: (x ++ [125])) ∨
     (∃ xs : List (List UInt8), xs ≠ [] ∧ (∀ x ∈ xs, TF n A (B - 1) E x) ∧ l = 40 :: (xs.flatten ++ [41])))
def T (A B E : Int) (l : List UInt8) : Prop := ∃ n, TF n A B E l

theorem TF.succ {n : Nat} : ∀ {A B E : Int} {l : List UInt8}, TF n A B E l → TF (n + 1) A B E l := by
  induction n with
  | zero => intro A B E l h; exact h.elim
  | succ n ih =>
    intro A B E l h
    obtain ⟨h1, h2, h3, h⟩ := h
    refine ⟨h1, h2, h3, ?_⟩
    rcases h with h | ⟨x, hx, e⟩ | ⟨c, x, hc, hx, e⟩ | ⟨xs, hn, hx, e⟩
    · exact .inl h
    · exact .inr (.inl ⟨x, ih hx, e⟩)
    · exact .inr (.inr (.inl ⟨c, x, hc, ih hx, e⟩))
    · exact .inr (.inr (.inr ⟨xs, hn, fun x h => ih (hx x h), e⟩))
theorem TF.le {n m : Nat} (h : n ≤ m) {A B E : Int} {l : List UInt8} (t : TF n A B E l) : TF m A B E l := by
  induction h with
  | refl => exact t
  | step _ ih => exact ih.succ
theorem T.pos {A B E : Int} {l : List UInt8} (t : T A B E l) : 0 ≤ A ∧ 0 ≤ B ∧ 0 ≤ E := by
  obtain ⟨n, t⟩ := t
  cases n with
  | zero => exact t.elim
  | succ n => exact ⟨t.1, t.2.1, t.2.2.1⟩
theorem T.one {A B E : Int} (hA : 0 ≤ A) (hB : 0 ≤ B) (hE : 0 ≤ E) {c : UInt8} (h : oneC c = true) : T A B E [c] := ⟨1, hA, hB, hE, .inl ⟨c, h, rfl⟩⟩
theorem T.arr {A B E : Int} (hA : 0 ≤ A) (hB : 0 ≤ B) (hE : 0 ≤ E) {x : List UInt8} (t : T (A - 1) B E x) : T A B E (97 :: x) := by
  obtain ⟨n, t⟩ := t
  exact ⟨n + 1, hA, hB, hE, .inr (.inl ⟨x, t, rfl⟩)⟩
theorem T.dict {A B E : Int} (hA : 0 ≤ A) (hB : 0 ≤ B) (hE : 0 ≤ E) {c : UInt8} (h : basicC c = true) {x : List UInt8} (t : T (A - 1) B (E - 1) x) : T A B E (97 :: 123 :: c :: (x ++ [125])) := by
  obtain ⟨n, t⟩ := t
  exact ⟨n + 1, hA, hB, hE, .inr (.inr (.inl ⟨c, x, h, t, rfl⟩))⟩
/-- Steps that serve for all of a list. -/
theorem T.all {A B E : Int} : ∀ {xs : List (List UInt8)}, (∀ x ∈ xs, T A B E x) → ∃ n, ∀ x ∈ xs, TF n A B E x
  | [], _ => ⟨0, fun _ h => by cases h⟩
  | x :: xs, h => by
    obtain ⟨n, hn⟩ := T.all (fun y hy => h y (List.mem_cons_of_mem _ hy))
    obtain ⟨m, hm⟩ := h x List.mem_cons_self
    refine ⟨max n m, fun y hy => ?_⟩
    rcases List.mem_cons.mp hy with rfl | hy
    · exact hm.le (Nat.le_max_right _ _)
    · exact (hn y hy).le (Nat.le_max_left _ _)
theorem T.str {A B E : Int} (hA : 0 ≤ A) (hB : 0 ≤ B) (hE : 0 ≤ E) {xs : List (List UInt8)} (hn : xs ≠ []) (h : ∀ x ∈ xs, T A (B - 1) E x) : T A B E (40 :: (xs.flatten ++ [41])) := by
  obtain ⟨n, t⟩ := T.all h
  exact ⟨n + 1, hA, hB, hE, .inr (.inr (.inr ⟨xs, hn, t, rfl⟩))⟩
/-- One of the four. -/
theorem T.cases {A B E : Int} {l : List UInt8} (t : T A B E l) : 0 ≤ A ∧ 0 ≤ B ∧ 0 ≤ E ∧
    ((∃ c, oneC c = true ∧ l = [c]) ∨ (∃ x, T (A - 1) B E x ∧ l = 97 :: x) ∨
     (∃ c x, basicC c = true ∧ T (A - 1) B (E - 1) x ∧ l = 97 :: 123 :: c :: (x ++ [125])) ∨
     (∃ xs : List (List UInt8), xs ≠ [] ∧ (∀ x ∈ xs, T A (B - 1) E x) ∧ l = 40 :: (xs.flatten ++ [41]))) := by
  obtain ⟨n, t⟩ := t
  cases n with
  | zero => exact t.elim
  | succ n =>
    obtain ⟨h1, h2, h3, h⟩ := t
    refine ⟨h1, h2, h3, ?_⟩
    rcases h with h | ⟨x, hx, e⟩ | ⟨c, x, hc, hx, e⟩ | ⟨xs, hn, hx, e⟩
    · exact .inl h
    · exact .inr (.inl ⟨x, ⟨n, hx⟩, e⟩)
    · exact .inr (.inr (.inl ⟨c, x, hc, ⟨n, hx⟩, e⟩))
    · exact .inr (.inr (.inr ⟨xs, hn, fun x h => ⟨n, hx x h⟩, e⟩))
/-- Induction over complete types. -/
theorem T.ind {P : Int → Int → Int → List UInt8 → Prop}
    (one : ∀ A B E c, 0 ≤ A → 0 ≤ B → 0 ≤ E → oneC c = true → P A B E [c])
    (arr : ∀ A B E x, 0 ≤ A → 0 ≤ B → 0 ≤ E → T (A - 1) B E x → P (A - 1) B E x → P A B E (97 :: x))
    (dict : ∀ A B E c x, 0 ≤ A → 0 ≤ B → 0 ≤ E → basicC c = true → T (A - 1) B (E - 1) x → P (A - 1) B (E - 1) x → P A B E (97 :: 123 :: c :: (x ++ [125])))
    (str : ∀ A B E (xs : List (List UInt8)), 0 ≤ A → 0 ≤ B → 0 ≤ E → xs ≠ [] → (∀ x ∈ xs, T A (B - 1) E x) → (∀ x ∈ xs, P A (B - 1) E x) → P A B E (40 :: (xs.flatten ++ [41])))
    {A B E : Int} {l : List UInt8} (t : T A B E l) : P A B E l := by
  obtain ⟨n, t⟩ := t
  induction n generalizing A B E l with
  | zero => exact t.elim
  | succ n ih =>
    obtain ⟨h1, h2, h3, h⟩ := t
    rcases h with ⟨c, hc, rfl⟩ | ⟨x, hx, rfl⟩ | ⟨c, x, hc, hx, rfl⟩ | ⟨xs, hn, hx, rfl⟩
    · exact one A B E c h1 h2 h3 hc
    · exact arr A B E x h1 h2 h3 ⟨n, hx⟩ (ih hx)
    · exact dict A B E c x h1 h2 h3 hc ⟨n, hx⟩ (ih hx)
    · exact str A B E xs h1 h2 h3 hn (fun x h => ⟨n, hx x h⟩) (fun x h => ih (hx x h))
theorem one_ascii : ∀ c : UInt8, oneC c = true → c.toNat < 128 ∧ c ≠ 97 ∧ c ≠ 40 ∧ c ≠ 41 ∧ c ≠ 123 ∧ c ≠ 125 := by
  intro c h
  simp only [oneC, basicC, Bool.or_eq_true, beq_iff_eq] at h
  rcases h with (((((((((((((h | h) | h) | h) | h) | h) | h) | h) | h) | h) | h) | h) | h) | h) <;> subst h <;> decide
/-- A type begins with a letter, 'a' or a bracket. -/
theorem T.head {A B E : Int} {l : List UInt8} (t : T A B E l) : ∃ c r, l = c :: r ∧ c ≠ 123 ∧ c ≠ 41 ∧ c ≠ 125 := by
  obtain ⟨_, _, _, h⟩ := t.cases
  rcases h with ⟨c, hc, rfl⟩ | ⟨x, hx, rfl⟩ | ⟨c, x, hc, hx, rfl⟩ | ⟨xs, hn, hx, rfl⟩
  · obtain ⟨_, _, _, h41, h123, h125⟩ := one_ascii c hc
    exact ⟨c, [], rfl, h123, h41, h125⟩
  · exact ⟨97, x, rfl, by decide, by decide, by decide⟩
  · exact ⟨97, _, rfl, by decide, by decide, by decide⟩
  · exact ⟨40, _, rfl, by decide, by decide, by decide⟩
theorem T.len {A B E : Int} {l : List UInt8} (t : T A B E l) : 0 < l.length := by
  obtain ⟨c, r, rfl, _⟩ := t.head
  simp
/-- More room does no harm. -/
theorem T.more {A B E : Int} {l : List UInt8} (t : T A B E l) : ∀ {A' B' E' : Int}, A ≤ A' → B ≤ B' → E ≤ E' → T A' B' E' l := by
  refine T.ind (P := fun A B E l => ∀ {A' B' E' : Int}, A ≤ A' → B ≤ B' → E ≤ E' → T A' B' E' l) ?_ ?_ ?_ ?_ t
  · intro A B E c h1 h2 h3 hc A' B' E' a b e; exact T.one (by omega) (by omega) (by omega) hc
  · intro A B E x h1 h2 h3 _ ih A' B' E' a b e; exact T.arr (by omega) (by omega) (by omega) (ih (by omega) (by omega) (by omega))
  · intro A B E c x h1 h2 h3 hc _ ih A' B' E' a b e; exact T.dict (by omega) (by omega) (by omega) hc (ih (by omega) (by omega) (by omega))
  · intro A B E xs h1 h2 h3 hn _ ih A' B' E' a b e; exact T.str (by omega) (by omega) (by omega) hn (fun x hx => ih x hx (by omega) (by omega) (by omega))
/-- Dict entries stand in arrays: their number needs no bound of its own. -/
theorem T.entries {A B E : Int} {l : List UInt8} (t : T A B E l) : ∀ {E' : Int}, A ≤ E' → T A B E' l := by
  refine T.ind (P := fun A B E l => ∀ {E' : Int}, A ≤ E' → T A B E' l) ?_ ?_ ?_ ?_ t
  · intro A B E c h1 h2 h3 hc E' e; exact T.one h1 h2 (by omega) hc
  · intro A B E x h1 h2 h3 _ ih E' e; exact T.arr h1 h2 (by omega) (ih (by omega))
  · intro A B E c x h1 h2 h3 hc _ ih E' e; exact T.dict h1 h2 (by omega) hc (ih (by omega))
  · intro A B E xs h1 h2 h3 hn _ ih E' e; exact T.str h1 h2 (by omega) hn (fun x hx => ih x hx e)
end Go.Proofs.YtboioihppjhjcaaDoor.SgT

/- The texts of types that the program computes with (arrays '[', dicts '{' key value, structs in brackets), beside the signatures that they stand for. -/
namespace Go.Proofs.YtboioihppjhjcaaDoor.SgZ
open Go Go.Proofs.YtboioihppjhjcaaDoor.SgT Go.Proofs.YtboioihppjhjcaaDoor.Hlp
set_option linter.unusedVariables false

/-- The letters of the types that keys of dicts may have here. -/
def keyC (c : UInt8) : Bool := basicC c && !(c == 98) && !(c == 103)
/-- A signature of one complete type, and the type's text, in at most n steps. -/
def ZF : Nat → Int → Int → Int → List UInt8 → List UInt8 → Prop
  | 0, _, _, _, _, _ => False
  | n + 1, A, B, E, l, t => 0 ≤ A ∧ 0 ≤ B ∧ 0 ≤ E ∧
    ((∃ c, oneC c = true ∧ l = [c] ∧ t = [c]) ∨ (∃ x y, ZF n (A - 1) B E x y ∧ l = 97 :: x ∧ t = 91 :: y) ∨
     (∃ c x y, keyC c = true ∧ ZF n (A - 1) B (E - 1) x y ∧ l = 97 :: 123 :: c :: (x ++ [125]) ∧ t = 123 :: c :: y) ∨
     (∃ zs : List (List UInt8 × List UInt8), zs ≠ [] ∧ (∀ z ∈ zs, ZF n A (B - 1) E z.1 z.2) ∧ l = 40 :: ((zs.map Prod.fst).flatten ++ [41]) ∧ t = 40 :: ((zs.map Prod.snd).flatten ++ [41])))
def Z (A B E : Int) (l t : List UInt8) : Prop := ∃ n, ZF n A B E l t
theorem ZF.succ {n : Nat} : ∀ {A B E : Int} {l t : List UInt8}, ZF n A B E l t → ZF (n + 1) A B E l t := by
  induction n with
  | zero => intro A B E l t h; exact h.elim
  | succ n ih =>
    intro A B E l t h
    obtain ⟨h1, h2, h3, h⟩ := h
    refine ⟨h1, h2, h3, ?_⟩
    rcases h with h | ⟨x, y, hx, e⟩ | ⟨c, x, y, hc, hx, e⟩ | ⟨zs, hn, hx, e⟩
    · exact .inl h
    · exact .inr (.inl ⟨x, y, ih hx, e⟩)
    · exact .inr (.inr (.inl ⟨c, x, y, hc, ih hx, e⟩))
    · exact .inr (.inr (.inr ⟨zs, hn, fun z h => ih (hx z h), e⟩))
theorem ZF.le {n m : Nat} (h : n ≤ m) {A B E : Int} {l t : List UInt8} (z : ZF n A B E l t) : ZF m A B E l t := by
  induction h with
  | refl => exact z
  | step _ ih => exact ih.succ
theorem Z.pos {A B E : Int} {l t : List UInt8} (z : Z A B E l t) : 0 ≤ A ∧ 0 ≤ B ∧ 0 ≤ E := by
  obtain ⟨n, z⟩ := z
  cases n with
  | zero => exact z.elim
  | succ n => exact ⟨z.1, z.2.1, z.2.2.1⟩
/-- Induction over them. -/
theorem Z.ind {P : Int → Int → Int → List UInt8 → List UInt8 → Prop}
    (one : ∀ A B E c, 0 ≤ A → 0 ≤ B → 0 ≤ E → oneC c = true → P A B E [c] [c])
    (arr : ∀ A B E x y, 0 ≤ A → 0 ≤ B → 0 ≤ E → Z (A - 1) B E x y → P (A - 1) B E x y → P A B E (97 :: x) (91 :: y))
    (dict : ∀ A B E c x y, 0 ≤ A → 0 ≤ B → 0 ≤ E → keyC c = true → Z (A - 1) B (E - 1) x y → P (A - 1) B (E - 1) x y → P A B E (97 :: 123 :: c :: (x ++ [125])) (123 :: c :: y))
    (str : ∀ A B E (zs : List (List UInt8 × List UInt8)), 0 ≤ A → 0 ≤ B → 0 ≤ E → zs ≠ [] → (∀ z ∈ zs, Z A (B - 1) E z.1 z.2) → (∀ z ∈ zs, P A (B - 1) E z.1 z.2) → P A B E (40 :: ((zs.map Prod.fst).flatten ++ [41])) (40 :: ((zs.map Prod.snd).flatten ++ [41])))
    {A B E : Int} {l t : List UInt8} (z : Z A B E l t) : P A B E l t := by
  obtain ⟨n, z⟩ := z
  induction n generalizing A B E l t with
  | zero => exact z.elim
  | succ n ih =>
    obtain ⟨h1, h2, h3, h⟩ := z
    rcases h with ⟨c, hc, rfl, rfl⟩ | ⟨x, y, hx, rfl, rfl⟩ | ⟨c, x, y, hc, hx, rfl, rfl⟩ | ⟨zs, hn, hx, rfl, rfl⟩
    · exact one A B E c h1 h2 h3 hc
    · exact arr A B E x y h1 h2 h3 ⟨n, hx⟩ (ih hx)
    · exact dict A B E c x y h1 h2 h3 hc ⟨n, hx⟩ (ih hx)
    · exact str A B E zs h1 h2 h3 hn (fun x h => ⟨n, hx x h⟩) (fun x h => ih (hx x h))
/-- No dict's key is a boolean or a signature. -/
def NK (l : List UInt8) : Prop := ∀ p q, l ≠ p ++ 123 :: 98 :: q ∧ l ≠ p ++ 123 :: 103 :: q
theorem NK.mid {a b c : List UInt8} (h : NK (a ++ b ++ c)) : NK b := by
  intro p q
  refine ⟨fun e => (h (a ++ p) (q ++ c)).1 ?_, fun e => (h (a ++ p) (q ++ c)).2 ?_⟩ <;> simp [e]
theorem NK.tail {c : UInt8} {b : List UInt8} (h : NK (c :: b)) : NK b := NK.mid (a := [c]) (b := b) (c := []) (by simpa using h)
theorem NK.pre {b c : List UInt8} (h : NK (b ++ c)) : NK b := NK.mid (a := []) (b := b) (c := c) (by simpa using h)
theorem NK.suf {a b : List UInt8} (h : NK (a ++ b)) : NK b := NK.mid (a := a) (b := b) (c := []) (by simpa using h)
/-- Every complete type without such keys has a text. -/
theorem Z.of {A B E : Int} {l : List UInt8} (tt : T A B E l) : NK l → ∃ t, Z A B E l t := by
  refine T.ind (P := fun A B E l => NK l → ∃ t, Z A B E l t) ?_ ?_ ?_ ?_ tt
  · intro A B E c h1 h2 h3 hc _
    exact ⟨[c], 1, h1, h2, h3, .inl ⟨c, hc, rfl, rfl⟩⟩
  · intro A B E x h1 h2 h3 _ ih hn
    obtain ⟨t, n, z⟩ := ih hn.tail
    exact ⟨91 :: t, n + 1, h1, h2, h3, .inr (.inl ⟨x, t, z, rfl, rfl⟩)⟩
  · intro A B E c x h1 h2 h3 hc _ ih hn
    obtain ⟨t, n, z⟩ := ih (NK.mid (a := [97, 123, c]) (b := x) (c := [125]) (by simpa using hn))
    have hk : keyC c = true := by
      simp only [keyC, hc, Bool.true_and, Bool.and_eq_true, Bool.not_eq_true', beq_eq_false_iff_ne]
      exact ⟨fun e => (hn [97] (x ++ [125])).1 (by rw [e]; rfl), fun e => (hn [97] (x ++ [125])).2 (by rw [e]; rfl)⟩
    exact ⟨123 :: c :: t, n + 1, h1, h2, h3, .inr (.inr (.inl ⟨c, x, t, hk, z, rfl, rfl⟩))⟩
  · intro A B E xs h1 h2 h3 hn _ ih hnk
    have hfl : NK xs.flatten := NK.mid (a := [40]) (b := xs.flatten) (c := [41]) (by simpa using hnk)
    have key : ∀ ys : List (List UInt8), (∀ x ∈ ys, x ∈ xs) → NK ys.flatten → ∃ zs : List (List UInt8 × List UInt8), zs.map Prod.fst = ys ∧ ∃ n, ∀ z ∈ zs, ZF n A (B - 1) E z.1 z.2 := by
      intro ys
      induction ys with
      | nil => exact fun _ _ => ⟨[], rfl, 0, fun z h => by cases h⟩
      | cons y ys ihy =>
        intro hm hf
        rw [List.flatten_cons] at hf
        obtain ⟨zs, e, n, hz⟩ := ihy (fun x h => hm x (List.mem_cons_of_mem _ h)) hf.suf
        obtain ⟨t, m, z⟩ := ih y (hm y List.mem_cons_self) hf.pre
        refine ⟨(y, t) :: zs, by rw [List.map_cons, e], max n m, fun q hq => ?_⟩
        rcases List.mem_cons.mp hq with rfl | hq
        · exact z.le (Nat.le_max_right _ _)
        · exact (hz q hq).le (Nat.le_max_left _ _)
    obtain ⟨zs, e, n, hz⟩ := key xs (fun _ h => h) hfl
    refine ⟨_, n + 1, h1, h2, h3, .inr (.inr (.inr ⟨zs, ?_, hz, by rw [e], rfl⟩))⟩
    rintro rfl
    exact hn e.symm
/-- The signature of a type is one. -/
theorem Z.t {A B E : Int} {l t : List UInt8} (z : Z A B E l t) : T A B E l := by
  refine Z.ind (P := fun A B E l t => T A B E l) ?_ ?_ ?_ ?_ z
  · intro A B E c h1 h2 h3 hc; exact T.one h1 h2 h3 hc
  · intro A B E x y h1 h2 h3 _ ih; exact T.arr h1 h2 h3 ih
  · intro A B E c x y h1 h2 h3 hc _ ih
    refine T.dict h1 h2 h3 ?_ ih
    simp only [keyC, Bool.and_eq_true] at hc
    exact hc.1.1
  · intro A B E zs h1 h2 h3 hn _ ih
    refine T.str h1 h2 h3 (by simpa using hn) ?_
    intro x hx
    obtain ⟨z, hz, rfl⟩ := List.mem_map.1 hx
    exact ih z hz
/-- The first letter of a type's text. -/
theorem Z.head {A B E : Int} {l t : List UInt8} (z : Z A B E l t) : ∃ c r, t = c :: r ∧ c ≠ 41 := by
  obtain ⟨n, z⟩ := z
  cases n with
  | zero => exact z.elim
  | succ n =>
    rcases z.2.2.2 with ⟨c, hc, _, rfl⟩ | ⟨x, y, hx, _, rfl⟩ | ⟨c, x, y, hc, hx, _, rfl⟩ | ⟨zs, hn, hx, _, rfl⟩
    · exact ⟨c, [], rfl, (one_ascii c hc).2.2.2.1⟩
    · exact ⟨91, y, rfl, by decide⟩
    · exact ⟨123, _, rfl, by decide⟩
    · exact ⟨40, _, rfl, by decide⟩
/-- A type's text is no longer than its signature. -/
theorem Z.len {A B E : Int} {l t : List UInt8} (z : Z A B E l t) : t.length ≤ l.length ∧ 0 < t.length := by
  refine Z.ind (P := fun A B E l t => t.length ≤ l.length ∧ 0 < t.length) ?_ ?_ ?_ ?_ z
  · intro A B E c h1 h2 h3 hc; simp
  · intro A B E x y h1 h2 h3 _ ih; simp; omega
  · intro A B E c x y h1 h2 h3 hc _ ih; simp; omega
  · intro A B E zs h1 h2 h3 hn _ ih
    have h : ∀ ws : List (List UInt8 × List UInt8), (∀ z ∈ ws, z.2.length ≤ z.1.length) → (ws.map Prod.snd).flatten.length ≤ (ws.map Prod.fst).flatten.length := by
      intro ws
      induction ws with
      | nil => simp
      | cons w ws ihw =>
        intro hw
        have h1 := hw w List.mem_cons_self
        have h2 := ihw (fun z h => hw z (List.mem_cons_of_mem _ h))
        simp only [List.map_cons, List.flatten_cons, List.length_append]
        omega
    have := h zs (fun z hz => (ih z hz).1)
    simp only [List.length_cons, List.length_append, List.length_nil]
    omega
end Go.Proofs.YtboioihppjhjcaaDoor.SgZ

namespace Go.Proofs.YtboioihppjhjcaaDoor.MFnSgOf
open Go.RowKit Go.Proofs.YtboioihppjhjcaaDoorW.PrintWords Go.Proofs.YtboioihppjhjcaaDoorW.PrintLast Go.Proofs.YtboioihppjhjcaaDoorW.PrintMore
attribute [local go_sem] max2_int min2_int max_two min_two max_three min_three max_four min_four
set_option linter.unusedVariables false
set_option linter.unusedSimpArgs false

open Go.Proofs.YtboioihppjhjcaaDoor.Hlp Go.Proofs.YtboioihppjhjcaaDoor.SgT Go.Proofs.YtboioihppjhjcaaDoor.SgZ
/-- A text by its bytes. -/
def Bs (l : List UInt8) : ByteArray := ⟨l.toArray⟩
theorem bl_Bs (l : List UInt8) : bl (Bs l) = l := by simp [bl, Bs]
theorem Bs_size (l : List UInt8) : (Bs l).size = l.length := by simp [Bs, ByteArray.size]
theorem Bs_app (x y : List UInt8) : Bs x ++ Bs y = Bs (x ++ y) := bl_ext (by rw [bl_append, bl_Bs, bl_Bs, bl_Bs])
theorem Bs_cut (l : List UInt8) (i j : Nat) : (Bs l).extract i j = Bs ((l.drop i).take (j - i)) := bl_ext (by rw [bl_extract, bl_Bs, bl_Bs])
theorem Bs_drop (l : List UInt8) (i : Nat) : (Bs l).extract i (Bs l).size = Bs (l.drop i) := by
  rw [Bs_cut, Bs_size, List.take_of_length_le (by rw [List.length_drop]; omega)]
theorem Bs_bt (l : List UInt8) (i : Nat) : bt (Bs l) (i : Int) = ((l.getD i 0).toNat : Int) := by rw [bt_getD, bl_Bs]
theorem Bs_bt0 (c : UInt8) (r : List UInt8) : bt (Bs (c :: r)) 0 = (c.toNat : Int) := by
  have h := Bs_bt (c :: r) 0
  simpa using h
theorem kind_c (c : UInt8) (r : List UInt8) (k : Int) (h : dbus_zzType_Kind.f 9 (Bs [c]) = some k) : dbus_zzType_Kind.f 9 (Bs (c :: r)) = some k := by
  have n1 : ∀ r : List UInt8, ¬ (Bs (c :: r)).toList = ([] : List UInt8) := fun r e => by have := (emp_iff _).1 e; rw [Bs_size] at this; simp at this
  have p1 : ∀ r : List UInt8, (0 : Int) < ((Bs (c :: r)).size : Int) := fun r => by rw [Bs_size]; simp only [List.length_cons]; omega
  unfold dbus_zzType_Kind.f at h ⊢
  rw [if_neg (n1 _), if_pos (p1 _)] at h ⊢
  rw [Bs_bt0] at h ⊢
  exact h
theorem elem_arr (y : List UInt8) : dbus_zzType_Elem.f 9 (Bs (91 :: y)) = some (Bs y) := by
  unfold dbus_zzType_Elem.f
  rw [kind_c 91 y 16 (by kernel_rfl)]
  simp only [Option.bind_some]
  rw [if_neg (by decide), if_pos (by rw [Bs_size]; simp only [List.length_cons]; omega), Bs_drop]
  rfl
theorem elem_dict (c : UInt8) (y : List UInt8) : dbus_zzType_Elem.f 9 (Bs (123 :: c :: y)) = some (Bs y) := by
  unfold dbus_zzType_Elem.f
  rw [kind_c 123 (c :: y) 14 (by kernel_rfl)]
  simp only [Option.bind_some]
  rw [if_pos (by decide), if_pos (by rw [Bs_size]; simp only [List.length_cons]; omega), Bs_drop]
  rfl
theorem key_dict (c : UInt8) (y : List UInt8) : dbus_zzType_Key.f (Bs (123 :: c :: y)) = some (Bs [c]) := by
  unfold dbus_zzType_Key.f
  rw [if_pos (by decide), if_pos (by rw [Bs_size]; simp only [List.length_cons]; omega), Bs_cut]
  rfl
theorem enA {a s d : Int} (ha : 0 ≤ a) (ha2 : a ≤ 40) (W : World) : Calls Tryd.prog 40 #[.agg #[.int .i64 a, .int .i64 s, .int .i64 d]] W fun e w' => e = .returned (.pointer (some ⟨W.heap.size, 0, none⟩)) ∧ W.alloc (.cells #[.int .i64 (a + 1), .int .i64 s, .int .i64 d] 62) = w' := by
  have h := dbus_validSingle.enterA a s d W
  rwa [show wrap64 (a + 1) = a + 1 from w64 (by omega) (by omega)] at h
theorem enD {a s d : Int} (ha : 0 ≤ d) (ha2 : d ≤ 40) (W : World) : Calls Tryd.prog 41 #[.agg #[.int .i64 a, .int .i64 s, .int .i64 d]] W fun e w' => e = .returned (.pointer (some ⟨W.heap.size, 0, none⟩)) ∧ W.alloc (.cells #[.int .i64 a, .int .i64 s, .int .i64 (d + 1)] 62) = w' := by
  have h := dbus_validSingle.enterD a s d W
  rwa [show wrap64 (d + 1) = d + 1 from w64 (by omega) (by omega)] at h
theorem enS {a s d : Int} (ha : 0 ≤ s) (ha2 : s ≤ 40) (W : World) : Calls Tryd.prog 42 #[.agg #[.int .i64 a, .int .i64 s, .int .i64 d]] W fun e w' => e = .returned (.pointer (some ⟨W.heap.size, 0, none⟩)) ∧ W.alloc (.cells #[.int .i64 a, .int .i64 (s + 1), .int .i64 d] 62) = w' := by
  have h := dbus_validSingle.enterS a s d W
  rwa [show wrap64 (s + 1) = s + 1 from w64 (by omega) (by omega)] at h
theorem newc (V : World) (a s d : Int) (k : Nat) : ((V.drewN k).alloc (.cells #[.int .i64 a, .int .i64 s, .int .i64 d] 62)).cell? ⟨V.heap.size, 0, none⟩ = some (.int .i64 a) ∧ ((V.drewN k).alloc (.cells #[.int .i64 a, .int .i64 s, .int .i64 d] 62)).cell? ⟨V.heap.size, 1, none⟩ = some (.int .i64 s) ∧ ((V.drewN k).alloc (.cells #[.int .i64 a, .int .i64 s, .int .i64 d] 62)).cell? ⟨V.heap.size, 2, none⟩ = some (.int .i64 d) := by
  have h : ((V.drewN k).alloc (.cells #[.int .i64 a, .int .i64 s, .int .i64 d] 62)).heap[V.heap.size]? = some (.cells #[.int .i64 a, .int .i64 s, .int .i64 d] 62 (0, 0)) := heap_alloc_new (V.drewN k) _
  exact ⟨(cell_of_row _ _ 0 _ 62 (0, 0) h).trans rfl, (cell_of_row _ _ 1 _ 62 (0, 0) h).trans rfl, (cell_of_row _ _ 2 _ 62 (0, 0) h).trans rfl⟩
theorem dc_new2 (V : World) (o : Obj) (a s d : Int) (k : Nat) : DC (((V.drewN k).alloc o).alloc (.cells #[.int .i64 a, .int .i64 s, .int .i64 d] 62)) (V.heap.size + 1) a s d := by
  have h := heap_alloc_new ((V.drewN k).alloc o) (.cells #[.int .i64 a, .int .i64 s, .int .i64 d] 62)
  rw [World.size_alloc] at h
  exact ⟨(cell_of_row _ _ 0 _ 62 (0, 0) h).trans rfl, (cell_of_row _ _ 1 _ 62 (0, 0) h).trans rfl, (cell_of_row _ _ 2 _ 62 (0, 0) h).trans rfl⟩
/-- What getSignature gives of a type's text within so many arrays, structs and dict entries. -/
def GS (l t : List UInt8) (a s d : Int) : Prop := ∀ g w, DC w g a s d → Calls Tryd.prog 35 #[.string (Bs t), .pointer (some ⟨g, 0, none⟩)] w fun e w' => e = .returned (.string (Bs l)) ∧ Below w.heap.size w w'
set_option maxRecDepth 100000 in
set_option maxHeartbeats 4000000 in
theorem gs_arr (x y : List UInt8) (a s d : Int) (ha0 : 0 ≤ a) (hs0 : 0 ≤ s) (hd0 : 0 ≤ d) (ha : a ≤ 32) (hs : s ≤ 32) (hd : d ≤ 32) (hl : x.length + 1 ≤ 255) (ih : GS x y (a + 1) s d) : GS (97 :: x) (91 :: y) a s d := by
  intro g w h
  have hmf : ∀ (fn : Fn) (first cap : Array Value) (w : World), (Instr.makeFunc fn first cap).run Tryd.prog w = .ok (.func fn first cap) w := fun _ _ _ _ => rfl
  have hcat : (⟨#[97]⟩ : ByteArray) ++ Bs x = Bs (97 :: x) := Bs_app [97] x
  have hszx : (9223372036854775807 < 1 + (Bs x).size) = False := eq_false (by rw [Bs_size]; omega)
  have hu := Tryd.underlying62
  have IH := Aside0.mk ih
  have HV := Aside0.mk (dv (h.up (below_alloc (Below.refl _ _) (.cells #[.string ⟨#[]⟩] 9))) ha hs hd)
  have hg := h.lt
  have HD := Aside0.mk (h.up (below_alloc (Below.refl _ _) (.cells #[.string ⟨#[]⟩] 9)))
  have k0 := heap_alloc_new w (.cells #[.string ⟨#[]⟩] 9)
  have hB := below_alloc (Below.refl w.heap.size w) (.cells #[.string ⟨#[]⟩] 9)
  clear h hs ih
  go_enter_defers Tryd.func35, Tryd.ntmps35
  go_wp2_with fail
  generalize w.alloc (.cells #[.string ⟨#[]⟩] 9) = W at *
  refine HV.out.mono ?_
  rintro e1 w2 ⟨rfl, hw⟩
  obtain rfl := hw.symm
  clear hw HV
  go_wp2_with fail
  refine (dbus_zzType_Kind.calls 9 _ 16 _ (kind_c 91 y 16 (by kernel_rfl))).mono ?_
  rintro e1 w3 ⟨rfl, k1, rfl⟩
  have c0 : (W.drewN k1).cell? ⟨w.heap.size, 0, none⟩ = some (.string ⟨#[]⟩) := (cell_of_row W w.heap.size 0 _ 9 (0, 0) k0).trans rfl
  have z0 : (W.drewN k1).frozen? ⟨w.heap.size, 0, none⟩ = false := frozen_of_row W w.heap.size 0 _ 9 k0
  have hB2 := pw_below_drewN hB k1
  have HD2 : Aside0 (DC (W.drewN k1) g a s d) := ⟨HD.out⟩
  have K0 : Aside0 ((W.drewN k1).heap[w.heap.size]? = some (.cells #[.string ⟨#[]⟩] 9 (0, 0))) := ⟨k0⟩
  have HB2 := Aside0.mk hB2
  generalize W.drewN k1 = V at *
  clear k0 hB HD hB2
  go_wp2_with fail
  have c0d := fun k => (show (V.drewN k).cell? ⟨w.heap.size, 0, none⟩ = some (.string ⟨#[]⟩) from c0)
  go_region_held3 (fun w' => w'.cell? ⟨g, 0, none⟩ = some (.int .i64 a) ∧ w'.cell? ⟨g, 1, none⟩ = some (.int .i64 s) ∧ w'.cell? ⟨g, 2, none⟩ = some (.int .i64 d)) (first | exact kk.out | exact ⟨HD2.out.c0, HD2.out.c1, HD2.out.c2⟩ | go_keep | exact ⟨(World.cell?_setCell_other _ _ _ _ (by intro e; injection e with e; omega)).trans kk.out.1, (World.cell?_setCell_other _ _ _ _ (by intro e; injection e with e; omega)).trans kk.out.2.1, (World.cell?_setCell_other _ _ _ _ (by intro e; injection e with e; omega)).trans kk.out.2.2⟩)
    (first
      | (go_at_call 48; refine (dbus_zzType_Elem.calls 9 _ (Bs y) _ (elem_arr y)).mono ?_; rintro e w2 ⟨rfl, k2, rfl⟩)
      | (go_at_call 40; refine (enA ha0 (by omega) _).mono ?_; rintro e w' ⟨rfl, rfl⟩)
      | (go_at_call 35; refine (IH.out _ _ (by refine ⟨?_, ?_, ?_⟩ <;> simp [newc])).mono ?_; rintro e w' ⟨rfl, hb⟩;
          have hbV := below_step (w := V) (by repeat (first | exact Below.refl _ _ | apply below_alloc | apply pw_below_drewN)) hb;
          have kd := HD2.out.up hbV; have kk := Aside0.mk (And.intro kd.c0 (And.intro kd.c1 kd.c2)); have k4 := up_heap2 hbV K0.out;
          have c4 := (cell_of_row w' w.heap.size 0 _ 9 (0, 0) k4).trans rfl; have z4 := frozen_of_row w' w.heap.size 0 _ 9 k4; have HB4 := Aside0.mk (below_step HB2.out hbV); clear hb hbV kd k4))
  go_wp2_with fail
  exact gs_end c4 HB4.out (by rw [Bs_size]; simpa using hl) _ rfl

end Go.Proofs.YtboioihppjhjcaaDoor.MFnSgOf

namespace Go.Proofs.YtboioihppjhjcaaDoor.MFnSgOf
open Go.RowKit Go.Proofs.YtboioihppjhjcaaDoorW.PrintWords Go.Proofs.YtboioihppjhjcaaDoorW.PrintLast Go.Proofs.YtboioihppjhjcaaDoorW.PrintMore
attribute [local go_sem] max2_int min2_int max_two min_two max_three min_three max_four min_four
set_option linter.unusedVariables false
set_option linter.unusedSimpArgs false

open Go.Proofs.YtboioihppjhjcaaDoor.Hlp Go.Proofs.YtboioihppjhjcaaDoor.SgT Go.Proofs.YtboioihppjhjcaaDoor.SgZ
theorem key_fin : ∀ n : Fin 256, keyC (UInt8.ofNat n.val) = true → dbus_isKeyType.f 9 (Bs [UInt8.ofNat n.val]) = some true := by decide +kernel
theorem key_ok (c : UInt8) (h : keyC c = true) : dbus_isKeyType.f 9 (Bs [c]) = some true := by
  have := key_fin ⟨c.toNat, c.toNat_lt⟩
  simp only [UInt8.ofNat_toNat] at this
  exact this h
set_option maxRecDepth 100000 in
set_option maxHeartbeats 4000000 in
theorem gs_dict (c : UInt8) (hc : keyC c = true) (x y : List UInt8) (a s d : Int) (ha0 : 0 ≤ a) (hs0 : 0 ≤ s) (hd0 : 0 ≤ d) (ha : a ≤ 32) (hs : s ≤ 32) (hd : d ≤ 32) (hl : x.length + 4 ≤ 255) (ihk : GS [c] [c] (a + 1) s (d + 1)) (ih : GS x y (a + 1) s (d + 1)) : GS (97 :: 123 :: c :: (x ++ [125])) (123 :: c :: y) a s d := by
  intro g w h
  have hmf : ∀ (fn : Fn) (first cap : Array Value) (w : World), (Instr.makeFunc fn first cap).run Tryd.prog w = .ok (.func fn first cap) w := fun _ _ _ _ => rfl
  have hcat : (⟨#[97, 123]⟩ : ByteArray) ++ Bs [c] = Bs [97, 123, c] := Bs_app [97, 123] [c]
  have hcat2 : Bs [97, 123, c] ++ Bs x = Bs (97 :: 123 :: c :: x) := Bs_app [97, 123, c] x
  have hcat3 : Bs (97 :: 123 :: c :: x) ++ (⟨#[125]⟩ : ByteArray) = Bs (97 :: 123 :: c :: (x ++ [125])) := Bs_app (97 :: 123 :: c :: x) [125]
  have hsz1 : (9223372036854775807 < 2 + (Bs [c]).size) = False := eq_false (by rw [Bs_size]; simp)
  have hsz2 : (9223372036854775807 < (Bs [97, 123, c]).size + (Bs x).size) = False := eq_false (by rw [Bs_size, Bs_size]; simp only [List.length_cons, List.length_nil]; omega)
  have hsz3 : (9223372036854775807 < (Bs (97 :: 123 :: c :: x)).size + 1) = False := eq_false (by rw [Bs_size]; simp only [List.length_cons]; omega)
  have hu := Tryd.underlying62
  have HKT := Aside0.mk (key_ok c hc)
  have IH := Aside0.mk ih
  have IHK := Aside0.mk ihk
  have HV := Aside0.mk (dv (h.up (below_alloc (Below.refl _ _) (.cells #[.string ⟨#[]⟩] 9))) ha hs hd)
  have hg := h.lt
  have HD := Aside0.mk (h.up (below_alloc (Below.refl _ _) (.cells #[.string ⟨#[]⟩] 9)))
  have k0 := heap_alloc_new w (.cells #[.string ⟨#[]⟩] 9)
  have hB := below_alloc (Below.refl w.heap.size w) (.cells #[.string ⟨#[]⟩] 9)
  clear h hs ih ihk hc
  go_enter_defers Tryd.func35, Tryd.ntmps35
  go_wp2_with fail
  generalize w.alloc (.cells #[.string ⟨#[]⟩] 9) = W at *
  refine HV.out.mono ?_
  rintro e1 w2 ⟨rfl, hw⟩
  obtain rfl := hw.symm
  clear hw HV
  go_wp2_with fail
  refine (dbus_zzType_Kind.calls 9 _ 14 _ (kind_c 123 (c :: y) 14 (by kernel_rfl))).mono ?_
  rintro e1 w3 ⟨rfl, k1, rfl⟩
  replace HD : Aside0 (DC (W.drewN k1) g a s d) := ⟨HD.out⟩
  replace k0 : (W.drewN k1).heap[w.heap.size]? = some (.cells #[.string ⟨#[]⟩] 9 (0, 0)) := k0
  replace hB := pw_below_drewN hB k1
  generalize W.drewN k1 = W1 at *
  go_wp2_with fail
  refine (dbus_zzType_Key.calls _ _ _ (key_dict c y)).mono ?_
  rintro e1 w3 ⟨rfl, k2, rfl⟩
  replace HD : Aside0 (DC (W1.drewN k2) g a s d) := ⟨HD.out⟩
  replace k0 : (W1.drewN k2).heap[w.heap.size]? = some (.cells #[.string ⟨#[]⟩] 9 (0, 0)) := k0
  replace hB := pw_below_drewN hB k2
  generalize W1.drewN k2 = W2 at *
  go_wp2_with fail
  refine (dbus_isKeyType.calls 9 _ true _ HKT.out).mono ?_
  rintro e1 w3 ⟨rfl, k3, rfl⟩
  replace HD : Aside0 (DC (W2.drewN k3) g a s d) := ⟨HD.out⟩
  replace k0 : (W2.drewN k3).heap[w.heap.size]? = some (.cells #[.string ⟨#[]⟩] 9 (0, 0)) := k0
  have hB2 := pw_below_drewN hB k3
  generalize W2.drewN k3 = V at *
  have HD2 := HD
  have K0 := Aside0.mk k0
  have HB2 := Aside0.mk hB2
  clear k0 hB HD hB2
  have q0 := HD2.out.c0
  have q1 := HD2.out.c1
  have q2 := HD2.out.c2
  have hgV := HD2.out.lt
  have n0 := fun k => (newc V (a + 1) s d k).1
  have n1 := fun k => (newc V (a + 1) s d k).2.1
  have n2 := fun k => (newc V (a + 1) s d k).2.2
  go_wp2_with fail
  refine wp_region_noPanic ?_
  refine wp_region_held_drew (S := (fun w' => w'.cell? ⟨g, 0, none⟩ = some (.int .i64 a) ∧ w'.cell? ⟨g, 1, none⟩ = some (.int .i64 s) ∧ w'.cell? ⟨g, 2, none⟩ = some (.int .i64 d))) (by kernel_rfl) ?_ (fun hHeld => ?_)
  · exact ⟨q0, q1, q2⟩
  refine wpAnyH_take (i := 0) (oi := ({ dst := some 114, op := Go.Op.move (Go.Operand.tmp 0), type := 71, pos := "sig.go:129", after := #[], guard := none } : Go.Oper)) (v := ?_) rfl (by kernel_rfl) (by kernel_rfl) (by kernel_rfl) (fun _ _ _ h => h) (Or.inl ⟨by rfl, ?_⟩) (by assumption) ?_
  rotate_left
  · intro w hSw
    try dsimp only at hSw
    go_simp <;> with_reducible rfl
  try simp only [Act.put, List.setIfInBounds_toArray, List.set_cons_zero, List.set_cons_succ]
  refine wpAnyH_take (i := 2) (oi := ({ dst := some 116, op := Go.Op.move (Go.Operand.tmp 1), type := 60, pos := "sig.go:129", after := #[], guard := none } : Go.Oper)) (v := ?_) rfl (by kernel_rfl) (by kernel_rfl) (by kernel_rfl) (fun _ _ _ h => h) (Or.inl ⟨by rfl, ?_⟩) (by assumption) ?_
  rotate_left
  · intro w hSw
    try dsimp only at hSw
    go_simp <;> with_reducible rfl
  try simp only [Act.put, List.setIfInBounds_toArray, List.set_cons_zero, List.set_cons_succ]
  refine wpAnyH_take (i := 3) (oi := ({ dst := some 117, op := Go.Op.nilCheck (Go.Operand.tmp 116), type := 0, pos := "sig.go:129", after := #[{ on := 2, ground := Go.Ground.data }], guard := none } : Go.Oper)) (v := ?_) rfl (by kernel_rfl) (by kernel_rfl) (by kernel_rfl) (fun _ _ _ h => h) (Or.inl ⟨by rfl, ?_⟩) (by assumption) ?_
  rotate_left
  · intro w hSw
    try dsimp only at hSw
    go_simp <;> with_reducible rfl
  try simp only [Act.put, List.setIfInBounds_toArray, List.set_cons_zero, List.set_cons_succ]
  refine wpAnyH_take (i := 4) (oi := ({ dst := some 118, op := Go.Op.load 62 (Go.Operand.tmp 117), type := 62, pos := "sig.go:129", after := #[{ on := 3, ground := Go.Ground.data }], guard := none } : Go.Oper)) (v := ?_) rfl (by kernel_rfl) (by kernel_rfl) (by kernel_rfl) (fun _ _ _ h => h) (Or.inl ⟨by rfl, ?_⟩) (by assumption) ?_
  rotate_left
  · intro w hSw
    try dsimp only at hSw
    go_simp <;> with_reducible rfl
  try simp only [Act.put, List.setIfInBounds_toArray, List.set_cons_zero, List.set_cons_succ]
  refine wpAnyH_take (i := 11) (oi := ({ dst := some 125, op := Go.Op.move (Go.Operand.tmp 0), type := 71, pos := "sig.go:129", after := #[], guard := none } : Go.Oper)) (v := ?_) rfl (by kernel_rfl) (by kernel_rfl) (by kernel_rfl) (fun _ _ _ h => h) (Or.inl ⟨by rfl, ?_⟩) (by assumption) ?_
  rotate_left
  · intro w hSw
    try dsimp only at hSw
    go_simp <;> with_reducible rfl
  try simp only [Act.put, List.setIfInBounds_toArray, List.set_cons_zero, List.set_cons_succ]
  refine wpAnyH_take (i := 13) (oi := ({ dst := some 127, op := Go.Op.move (Go.Operand.tmp 1), type := 60, pos := "sig.go:129", after := #[], guard := none } : Go.Oper)) (v := ?_) rfl (by kernel_rfl) (by kernel_rfl) (by kernel_rfl) (fun _ _ _ h => h) (Or.inl ⟨by rfl, ?_⟩) (by assumption) ?_
  rotate_left
  · intro w hSw
    try dsimp only at hSw
    go_simp <;> with_reducible rfl
  try simp only [Act.put, List.setIfInBounds_toArray, List.set_cons_zero, List.set_cons_succ]
  refine wpAnyH_take (i := 14) (oi := ({ dst := some 128, op := Go.Op.nilCheck (Go.Operand.tmp 127), type := 0, pos := "sig.go:129", after := #[{ on := 13, ground := Go.Ground.data }], guard := none } : Go.Oper)) (v := ?_) rfl (by kernel_rfl) (by kernel_rfl) (by kernel_rfl) (fun _ _ _ h => h) (Or.inl ⟨by rfl, ?_⟩) (by assumption) ?_
  rotate_left
  · intro w hSw
    try dsimp only at hSw
    go_simp <;> with_reducible rfl
  try simp only [Act.put, List.setIfInBounds_toArray, List.set_cons_zero, List.set_cons_succ]
  refine wpAnyH_take (i := 15) (oi := ({ dst := some 129, op := Go.Op.load 62 (Go.Operand.tmp 128), type := 62, pos := "sig.go:129", after := #[{ on := 14, ground := Go.Ground.data }], guard := none } : Go.Oper)) (v := ?_) rfl (by kernel_rfl) (by kernel_rfl) (by kernel_rfl) (fun _ _ _ h => h) (Or.inl ⟨by rfl, ?_⟩) (by assumption) ?_
  rotate_left
  · intro w hSw
    try dsimp only at hSw
    go_simp <;> with_reducible rfl
  try simp only [Act.put, List.setIfInBounds_toArray, List.set_cons_zero, List.set_cons_succ]
  refine wpAnyH_ready (rs := [1]) (by kernel_rfl) (by simp) ?_
  refine AllReadyH.cons (o := ({ dst := some 115, op := Go.Op.call { callee := Go.Callee.value (Go.Operand.func 53), args := #[Go.Operand.tmp 114], argTypes := #[71] }, type := 71, pos := "sig.go:129", after := #[{ on := 0, ground := Go.Ground.data }], guard := none } : Go.Oper)) rfl (fun K hK => ?_) AllReadyH.nil
  go_simp
  refine (dbus_zzType_Key.calls _ _ _ (key_dict c y)).mono ?_
  rintro e w2 ⟨rfl, k4, rfl⟩
  try go_wp2_with fail
  refine hK.out _ _ ?_ (fun hHeld => ?_)
  · first | exact kk6.out | exact kk5.out | exact ⟨q0, q1, q2⟩ | go_keep | exact ⟨(World.cell?_setCell_other _ _ _ _ (by intro e; injection e with e; omega)).trans kk6.out.1, (World.cell?_setCell_other _ _ _ _ (by intro e; injection e with e; omega)).trans kk6.out.2.1, (World.cell?_setCell_other _ _ _ _ (by intro e; injection e with e; omega)).trans kk6.out.2.2⟩
  clear hK K
  try simp only [Act.put, List.setIfInBounds_toArray, List.set_cons_zero, List.set_cons_succ]
  refine wpAnyH_ready (rs := [5]) (by kernel_rfl) (by simp) ?_
  refine AllReadyH.cons (o := ({ dst := some 119, op := Go.Op.call { callee := Go.Callee.value (Go.Operand.func 40), args := #[Go.Operand.tmp 118], argTypes := #[60] }, type := 60, pos := "sig.go:129", after := #[{ on := 4, ground := Go.Ground.data }, { on := 1, ground := Go.Ground.chain }], guard := none } : Go.Oper)) rfl (fun K hK => ?_) AllReadyH.nil
  go_simp
  refine (enA ha0 (by omega) _).mono ?_
  rintro e w2 ⟨rfl, rfl⟩
  try go_wp2_with fail
  refine hK.out _ _ ?_ (fun hHeld => ?_)
  · first | exact kk6.out | exact kk5.out | exact ⟨q0, q1, q2⟩ | go_keep | exact ⟨(World.cell?_setCell_other _ _ _ _ (by intro e; injection e with e; omega)).trans kk6.out.1, (World.cell?_setCell_other _ _ _ _ (by intro e; injection e with e; omega)).trans kk6.out.2.1, (World.cell?_setCell_other _ _ _ _ (by intro e; injection e with e; omega)).trans kk6.out.2.2⟩
  clear hK K
  try simp only [Act.put, List.setIfInBounds_toArray, List.set_cons_zero, List.set_cons_succ]
  refine wpAnyH_take (i := 6) (oi := ({ dst := some 120, op := Go.Op.nilCheck (Go.Operand.tmp 119), type := 0, pos := "sig.go:129", after := #[{ on := 5, ground := Go.Ground.data }], guard := none } : Go.Oper)) (v := ?_) rfl (by kernel_rfl) (by kernel_rfl) (by kernel_rfl) (fun _ _ _ h => h) (Or.inl ⟨by rfl, ?_⟩) (by assumption) ?_
  rotate_left
  · intro w hSw
    try dsimp only at hSw
    go_simp <;> with_reducible rfl
  try simp only [Act.put, List.setIfInBounds_toArray, List.set_cons_zero, List.set_cons_succ]
  refine wpAnyH_ready (rs := [7]) (by kernel_rfl) (by simp) ?_
  refine AllReadyH.cons (o := ({ dst := some 121, op := Go.Op.load 62 (Go.Operand.tmp 120), type := 62, pos := "sig.go:129", after := #[{ on := 6, ground := Go.Ground.data }], guard := none } : Go.Oper)) rfl (fun K hK => ?_) AllReadyH.nil
  go_simp
  refine hK.out _ _ ?_ (fun hHeld => ?_)
  · first | exact kk6.out | exact kk5.out | exact ⟨q0, q1, q2⟩ | go_keep | exact ⟨(World.cell?_setCell_other _ _ _ _ (by intro e; injection e with e; omega)).trans kk6.out.1, (World.cell?_setCell_other _ _ _ _ (by intro e; injection e with e; omega)).trans kk6.out.2.1, (World.cell?_setCell_other _ _ _ _ (by intro e; injection e with e; omega)).trans kk6.out.2.2⟩
  clear hK K
  try simp only [Act.put, List.setIfInBounds_toArray, List.set_cons_zero, List.set_cons_succ]
  refine wpAnyH_ready (rs := [8]) (by kernel_rfl) (by simp) ?_
  refine AllReadyH.cons (o := ({ dst := some 122, op := Go.Op.call { callee := Go.Callee.value (Go.Operand.func 41), args := #[Go.Operand.tmp 121], argTypes := #[60] }, type := 60, pos := "sig.go:129", after := #[{ on := 7, ground := Go.Ground.data }, { on := 5, ground := Go.Ground.chain }], guard := none } : Go.Oper)) rfl (fun K hK => ?_) AllReadyH.nil
  go_simp
  refine (enD hd0 (by omega) _).mono ?_
  rintro e w2 ⟨rfl, rfl⟩
  try go_wp2_with fail
  refine hK.out _ _ ?_ (fun hHeld => ?_)
  · first | exact kk6.out | exact kk5.out | exact ⟨q0, q1, q2⟩ | go_keep | exact ⟨(World.cell?_setCell_other _ _ _ _ (by intro e; injection e with e; omega)).trans kk6.out.1, (World.cell?_setCell_other _ _ _ _ (by intro e; injection e with e; omega)).trans kk6.out.2.1, (World.cell?_setCell_other _ _ _ _ (by intro e; injection e with e; omega)).trans kk6.out.2.2⟩
  clear hK K
  try simp only [Act.put, List.setIfInBounds_toArray, List.set_cons_zero, List.set_cons_succ]
  refine wpAnyH_ready (rs := [9]) (by kernel_rfl) (by simp) ?_
  refine AllReadyH.cons (o := ({ dst := some 123, op := Go.Op.call { callee := Go.Callee.value (Go.Operand.func 35), args := #[Go.Operand.tmp 115, Go.Operand.tmp 122], argTypes := #[71, 60] }, type := 9, pos := "sig.go:129", after := #[{ on := 1, ground := Go.Ground.data }, { on := 8, ground := Go.Ground.data }, { on := 8, ground := Go.Ground.chain }], guard := none } : Go.Oper)) rfl (fun K hK => ?_) AllReadyH.nil
  go_simp
  refine (IHK.out _ _ (dc_new2 _ _ _ _ _ _)).mono ?_
  rintro e w5 ⟨rfl, hb⟩
  have hbV := below_step (w := V) (by repeat (first | exact Below.refl _ _ | apply below_alloc | apply pw_below_drewN | apply below_drew1)) hb
  have HBV5 := Aside0.mk hbV
  have kd := HD2.out.up hbV
  have kk5 := Aside0.mk (And.intro kd.c0 (And.intro kd.c1 kd.c2))
  have hg5 := kd.lt
  have p0 := fun k => (newc w5 (a + 1) s d k).1
  have p1 := fun k => (newc w5 (a + 1) s d k).2.1
  have p2 := fun k => (newc w5 (a + 1) s d k).2.2
  clear hb hbV kd
  try go_wp2_with fail
  refine hK.out _ _ ?_ (fun hHeld => ?_)
  · first | exact kk6.out | exact kk5.out | exact ⟨q0, q1, q2⟩ | go_keep | exact ⟨(World.cell?_setCell_other _ _ _ _ (by intro e; injection e with e; omega)).trans kk6.out.1, (World.cell?_setCell_other _ _ _ _ (by intro e; injection e with e; omega)).trans kk6.out.2.1, (World.cell?_setCell_other _ _ _ _ (by intro e; injection e with e; omega)).trans kk6.out.2.2⟩
  clear hK K
  try simp only [Act.put, List.setIfInBounds_toArray, List.set_cons_zero, List.set_cons_succ]
  refine wpAnyH_take (i := 10) (oi := ({ dst := some 124, op := Go.Op.binOp Go.BinOp.add 9 (Go.Operand.const (Go.Value.string { data := #[97, 123] })) (Go.Operand.tmp 123) 9, type := 9, pos := "sig.go:129", after := #[{ on := 9, ground := Go.Ground.data }], guard := none } : Go.Oper)) (v := ?_) rfl (by kernel_rfl) (by kernel_rfl) (by kernel_rfl) (fun _ _ _ h => h) (Or.inl ⟨by rfl, ?_⟩) (by assumption) ?_
  rotate_left
  · intro w hSw
    try dsimp only at hSw
    go_simp <;> with_reducible rfl
  try simp only [Act.put, List.setIfInBounds_toArray, List.set_cons_zero, List.set_cons_succ]
  refine wpAnyH_ready (rs := [12]) (by kernel_rfl) (by simp) ?_
  refine AllReadyH.cons (o := ({ dst := some 126, op := Go.Op.call { callee := Go.Callee.value (Go.Operand.func 48), args := #[Go.Operand.tmp 125], argTypes := #[71] }, type := 71, pos := "sig.go:129", after := #[{ on := 11, ground := Go.Ground.data }, { on := 9, ground := Go.Ground.chain }], guard := none } : Go.Oper)) rfl (fun K hK => ?_) AllReadyH.nil
  go_simp
  refine (dbus_zzType_Elem.calls 9 _ (Bs y) _ (elem_dict c y)).mono ?_
  rintro e w2 ⟨rfl, k5, rfl⟩
  try go_wp2_with fail
  refine hK.out _ _ ?_ (fun hHeld => ?_)
  · first | exact kk6.out | exact kk5.out | exact ⟨q0, q1, q2⟩ | go_keep | exact ⟨(World.cell?_setCell_other _ _ _ _ (by intro e; injection e with e; omega)).trans kk6.out.1, (World.cell?_setCell_other _ _ _ _ (by intro e; injection e with e; omega)).trans kk6.out.2.1, (World.cell?_setCell_other _ _ _ _ (by intro e; injection e with e; omega)).trans kk6.out.2.2⟩
  clear hK K
  try simp only [Act.put, List.setIfInBounds_toArray, List.set_cons_zero, List.set_cons_succ]
  refine wpAnyH_ready (rs := [16]) (by kernel_rfl) (by simp) ?_
  refine AllReadyH.cons (o := ({ dst := some 130, op := Go.Op.call { callee := Go.Callee.value (Go.Operand.func 40), args := #[Go.Operand.tmp 129], argTypes := #[60] }, type := 60, pos := "sig.go:129", after := #[{ on := 15, ground := Go.Ground.data }, { on := 12, ground := Go.Ground.chain }], guard := none } : Go.Oper)) rfl (fun K hK => ?_) AllReadyH.nil
  go_simp
  refine (enA ha0 (by omega) _).mono ?_
  rintro e w2 ⟨rfl, rfl⟩
  try go_wp2_with fail
  refine hK.out _ _ ?_ (fun hHeld => ?_)
  · first | exact kk6.out | exact kk5.out | exact ⟨q0, q1, q2⟩ | go_keep | exact ⟨(World.cell?_setCell_other _ _ _ _ (by intro e; injection e with e; omega)).trans kk6.out.1, (World.cell?_setCell_other _ _ _ _ (by intro e; injection e with e; omega)).trans kk6.out.2.1, (World.cell?_setCell_other _ _ _ _ (by intro e; injection e with e; omega)).trans kk6.out.2.2⟩
  clear hK K
  try simp only [Act.put, List.setIfInBounds_toArray, List.set_cons_zero, List.set_cons_succ]
  refine wpAnyH_take (i := 17) (oi := ({ dst := some 131, op := Go.Op.nilCheck (Go.Operand.tmp 130), type := 0, pos := "sig.go:129", after := #[{ on := 16, ground := Go.Ground.data }], guard := none } : Go.Oper)) (v := ?_) rfl (by kernel_rfl) (by kernel_rfl) (by kernel_rfl) (fun _ _ _ h => h) (Or.inl ⟨by rfl, ?_⟩) (by assumption) ?_
  rotate_left
  · intro w hSw
    try dsimp only at hSw
    go_simp <;> with_reducible rfl
  try simp only [Act.put, List.setIfInBounds_toArray, List.set_cons_zero, List.set_cons_succ]
  refine wpAnyH_ready (rs := [18]) (by kernel_rfl) (by simp) ?_
  refine AllReadyH.cons (o := ({ dst := some 132, op := Go.Op.load 62 (Go.Operand.tmp 131), type := 62, pos := "sig.go:129", after := #[{ on := 17, ground := Go.Ground.data }], guard := none } : Go.Oper)) rfl (fun K hK => ?_) AllReadyH.nil
  go_simp
  refine hK.out _ _ ?_ (fun hHeld => ?_)
  · first | exact kk6.out | exact kk5.out | exact ⟨q0, q1, q2⟩ | go_keep | exact ⟨(World.cell?_setCell_other _ _ _ _ (by intro e; injection e with e; omega)).trans kk6.out.1, (World.cell?_setCell_other _ _ _ _ (by intro e; injection e with e; omega)).trans kk6.out.2.1, (World.cell?_setCell_other _ _ _ _ (by intro e; injection e with e; omega)).trans kk6.out.2.2⟩
  clear hK K
  try simp only [Act.put, List.setIfInBounds_toArray, List.set_cons_zero, List.set_cons_succ]
  refine wpAnyH_ready (rs := [19]) (by kernel_rfl) (by simp) ?_
  refine AllReadyH.cons (o := ({ dst := some 133, op := Go.Op.call { callee := Go.Callee.value (Go.Operand.func 41), args := #[Go.Operand.tmp 132], argTypes := #[60] }, type := 60, pos := "sig.go:129", after := #[{ on := 18, ground := Go.Ground.data }, { on := 16, ground := Go.Ground.chain }], guard := none } : Go.Oper)) rfl (fun K hK => ?_) AllReadyH.nil
  go_simp
  refine (enD hd0 (by omega) _).mono ?_
  rintro e w2 ⟨rfl, rfl⟩
  try go_wp2_with fail
  refine hK.out _ _ ?_ (fun hHeld => ?_)
  · first | exact kk6.out | exact kk5.out | exact ⟨q0, q1, q2⟩ | go_keep | exact ⟨(World.cell?_setCell_other _ _ _ _ (by intro e; injection e with e; omega)).trans kk6.out.1, (World.cell?_setCell_other _ _ _ _ (by intro e; injection e with e; omega)).trans kk6.out.2.1, (World.cell?_setCell_other _ _ _ _ (by intro e; injection e with e; omega)).trans kk6.out.2.2⟩
  clear hK K
  try simp only [Act.put, List.setIfInBounds_toArray, List.set_cons_zero, List.set_cons_succ]
  refine wpAnyH_ready (rs := [20]) (by kernel_rfl) (by simp) ?_
  refine AllReadyH.cons (o := ({ dst := some 134, op := Go.Op.call { callee := Go.Callee.value (Go.Operand.func 35), args := #[Go.Operand.tmp 126, Go.Operand.tmp 133], argTypes := #[71, 60] }, type := 9, pos := "sig.go:129", after := #[{ on := 12, ground := Go.Ground.data }, { on := 19, ground := Go.Ground.data }, { on := 19, ground := Go.Ground.chain }], guard := none } : Go.Oper)) rfl (fun K hK => ?_) AllReadyH.nil
  go_simp
  refine (IH.out _ _ (dc_new2 _ _ _ _ _ _)).mono ?_
  rintro e w6 ⟨rfl, hb⟩
  have hbV := below_step (w := V) (by repeat (first | exact HBV5.out | apply below_alloc | apply pw_below_drewN | apply below_drew1)) hb
  have kd := HD2.out.up hbV
  have kk6 := Aside0.mk (And.intro kd.c0 (And.intro kd.c1 kd.c2))
  have k4 := up_heap2 hbV K0.out
  have c4 := (cell_of_row w6 w.heap.size 0 _ 9 (0, 0) k4).trans rfl
  have z4 := frozen_of_row w6 w.heap.size 0 _ 9 k4
  have HB4 := Aside0.mk (below_step HB2.out hbV)
  clear hb hbV k4
  try go_wp2_with fail
  refine hK.out _ _ ?_ (fun hHeld => ?_)
  · first | exact kk6.out | exact kk5.out | exact ⟨q0, q1, q2⟩ | go_keep | exact ⟨(World.cell?_setCell_other _ _ _ _ (by intro e; injection e with e; omega)).trans kk6.out.1, (World.cell?_setCell_other _ _ _ _ (by intro e; injection e with e; omega)).trans kk6.out.2.1, (World.cell?_setCell_other _ _ _ _ (by intro e; injection e with e; omega)).trans kk6.out.2.2⟩
  clear hK K
  try simp only [Act.put, List.setIfInBounds_toArray, List.set_cons_zero, List.set_cons_succ]
  refine wpAnyH_take (i := 21) (oi := ({ dst := some 135, op := Go.Op.binOp Go.BinOp.add 9 (Go.Operand.tmp 124) (Go.Operand.tmp 134) 9, type := 9, pos := "sig.go:129", after := #[{ on := 10, ground := Go.Ground.data }, { on := 20, ground := Go.Ground.data }], guard := none } : Go.Oper)) (v := ?_) rfl (by kernel_rfl) (by kernel_rfl) (by kernel_rfl) (fun _ _ _ h => h) (Or.inl ⟨by rfl, ?_⟩) (by assumption) ?_
  rotate_left
  · intro w hSw
    try dsimp only at hSw
    go_simp <;> with_reducible rfl
  try simp only [Act.put, List.setIfInBounds_toArray, List.set_cons_zero, List.set_cons_succ]
  refine wpAnyH_take (i := 22) (oi := ({ dst := some 136, op := Go.Op.binOp Go.BinOp.add 9 (Go.Operand.tmp 135) (Go.Operand.const (Go.Value.string { data := #[125] })) 9, type := 9, pos := "sig.go:129", after := #[{ on := 21, ground := Go.Ground.data }], guard := none } : Go.Oper)) (v := ?_) rfl (by kernel_rfl) (by kernel_rfl) (by kernel_rfl) (fun _ _ _ h => h) (Or.inl ⟨by rfl, ?_⟩) (by assumption) ?_
  rotate_left
  · intro w hSw
    try dsimp only at hSw
    go_simp <;> with_reducible rfl
  try simp only [Act.put, List.setIfInBounds_toArray, List.set_cons_zero, List.set_cons_succ]
  refine wpAnyH_ready (rs := [23]) (by kernel_rfl) (by simp) ?_
  refine AllReadyH.cons (o := ({ dst := none, op := Go.Op.store 9 (Go.Operand.tmp 4) (Go.Operand.tmp 136), type := 0, pos := "sig.go:129", after := #[{ on := 22, ground := Go.Ground.data }, { on := 20, ground := Go.Ground.chain }, { on := 0, ground := Go.Ground.phase }, { on := 1, ground := Go.Ground.phase }, { on := 2, ground := Go.Ground.phase }, { on := 3, ground := Go.Ground.phase }, { on := 4, ground := Go.Ground.phase }, { on := 5, ground := Go.Ground.phase }, { on := 6, ground := Go.Ground.phase }, { on := 7, ground := Go.Ground.phase }, { on := 8, ground := Go.Ground.phase }, { on := 9, ground := Go.Ground.phase }, { on := 10, ground := Go.Ground.phase }, { on := 11, ground := Go.Ground.phase }, { on := 12, ground := Go.Ground.phase }, { on := 13, ground := Go.Ground.phase }, { on := 14, ground := Go.Ground.phase }, { on := 15, ground := Go.Ground.phase }, { on := 16, ground := Go.Ground.phase }, { on := 17, ground := Go.Ground.phase }, { on := 18, ground := Go.Ground.phase }, { on := 19, ground := Go.Ground.phase }, { on := 20, ground := Go.Ground.phase }, { on := 21, ground := Go.Ground.phase }, { on := 22, ground := Go.Ground.phase }], guard := none } : Go.Oper)) rfl (fun K hK => ?_) AllReadyH.nil
  go_simp
  refine hK.out _ _ ?_ (fun hHeld => ?_)
  · first | exact kk6.out | exact kk5.out | exact ⟨q0, q1, q2⟩ | go_keep | exact ⟨(World.cell?_setCell_other _ _ _ _ (by intro e; injection e with e; omega)).trans kk6.out.1, (World.cell?_setCell_other _ _ _ _ (by intro e; injection e with e; omega)).trans kk6.out.2.1, (World.cell?_setCell_other _ _ _ _ (by intro e; injection e with e; omega)).trans kk6.out.2.2⟩
  clear hK K
  try simp only [Act.put, List.setIfInBounds_toArray, List.set_cons_zero, List.set_cons_succ]
  refine wpAnyH_done (by kernel_rfl) ?_ _
  refine NoPanic.normal ?_
  go_wp2_with fail
  exact gs_end (r := Bs (97 :: 123 :: c :: (x ++ [125]))) c4 HB4.out (by rw [Bs_size]; simp only [List.length_cons, List.length_append, List.length_nil]; omega) _ rfl


end Go.Proofs.YtboioihppjhjcaaDoor.MFnSgOf

namespace Go.Proofs.YtboioihppjhjcaaDoor.MFnSgOf
open Go.RowKit Go.Proofs.YtboioihppjhjcaaDoorW.PrintWords Go.Proofs.YtboioihppjhjcaaDoorW.PrintLast Go.Proofs.YtboioihppjhjcaaDoorW.PrintMore
attribute [local go_sem] max2_int min2_int max_two min_two max_three min_three max_four min_four
set_option linter.unusedVariables false
set_option linter.unusedSimpArgs false

open Go.Proofs.YtboioihppjhjcaaDoor.Hlp Go.Proofs.YtboioihppjhjcaaDoor.SgT Go.Proofs.YtboioihppjhjcaaDoor.SgZ
theorem flat_snoc (zs : List (List UInt8 × List UInt8)) (i : Nat) (z : List UInt8 × List UInt8) (h : zs[i]? = some z) : (List.take (i + 1) (zs.map Prod.fst)).flatten = (List.take i (zs.map Prod.fst)).flatten ++ z.1 := by
  rw [List.take_add_one, List.getElem?_map, h]
  simp
theorem flat_le (zs : List (List UInt8 × List UInt8)) (i : Nat) : (List.take i (zs.map Prod.fst)).flatten.length ≤ (zs.map Prod.fst).flatten.length := by
  conv => rhs; rw [← List.take_append_drop i (zs.map Prod.fst)]
  rw [List.flatten_append, List.length_append]
  omega
theorem fld84 (a b c : ByteArray) (w : World) : (Instr.field 84 (.agg #[.string a, .string b, .string c]) 0).run Tryd.prog w = .ok (.string a) w := by kernel_rfl
attribute [local go_sem] fld84
theorem dc_new1 (V : World) (a s d : Int) (k : Nat) : DC ((V.drewN k).alloc (.cells #[.int .i64 a, .int .i64 s, .int .i64 d] 62)) V.heap.size a s d := newc V a s d k
set_option maxRecDepth 100000 in
set_option maxHeartbeats 4000000 in
theorem gs_str (zs : List (List UInt8 × List UInt8)) (hne : 0 < (zs.map Prod.fst).flatten.length) (t : List UInt8) (hF : ∃ kf, dbus_zzType_fields.f kf (Bs (40 :: t)) = some (zs.map fun z => Bs z.2)) (a s d : Int) (ha0 : 0 ≤ a) (hs0 : 0 ≤ s) (hd0 : 0 ≤ d) (ha : a ≤ 32) (hs : s ≤ 32) (hd : d ≤ 32) (hl : (zs.map Prod.fst).flatten.length + 2 ≤ 255) (hzn : zs.length ≤ 255) (ih : ∀ z ∈ zs, GS z.1 z.2 a (s + 1) d) : GS (40 :: ((zs.map Prod.fst).flatten ++ [41])) (40 :: t) a s d := by
  intro g w h
  obtain ⟨kf, hf⟩ := hF
  have hmf : ∀ (fn : Fn) (first cap : Array Value) (w : World), (Instr.makeFunc fn first cap).run Tryd.prog w = .ok (.func fn first cap) w := fun _ _ _ _ => rfl
  have hu := Tryd.underlying62
  have hu84 := Tryd.underlying84
  have hq1 : ((Bs (40 :: t)).toList == ([118] : List UInt8)) = false := by rw [toList_bl, bl_Bs]; exact beq_eq_false_iff_ne.mpr (by simp)
  have hq2 : ((Bs (40 :: t)).toList == ([103] : List UInt8)) = false := by rw [toList_bl, bl_Bs]; exact beq_eq_false_iff_ne.mpr (by simp)
  have HNF : Aside0 (dbus_zzType_NumField.f kf (Bs (40 :: t)) = some (zs.length : Int)) := ⟨by unfold dbus_zzType_NumField.f; rw [hf]; simp⟩
  have HFD : Aside0 (∀ (i : Nat) z, zs[i]? = some z → dbus_zzType_Field.f kf (Bs (40 :: t)) (i : Int) = some (Bs z.2, ⟨#[]⟩, ⟨#[]⟩)) := ⟨fun i z hz => by
    have hi := (List.getElem?_eq_some_iff.1 hz).1
    unfold dbus_zzType_Field.f
    rw [hf]
    simp only [Option.bind_some]
    rw [if_pos (by omega), if_pos (by rw [List.length_map]; omega)]
    unfold rdOf
    rw [Int.toNat_natCast, List.getD_eq_getElem?_getD, List.getElem?_map, hz]
    rfl⟩
  have IH := Aside0.mk ih
  have HV := Aside0.mk (dv (h.up (below_alloc (Below.refl _ _) (.cells #[.string ⟨#[]⟩] 9))) ha hs hd)
  have hg := h.lt
  have HD := Aside0.mk (h.up (below_alloc (Below.refl _ _) (.cells #[.string ⟨#[]⟩] 9)))
  have k0 := heap_alloc_new w (.cells #[.string ⟨#[]⟩] 9)
  have hB := below_alloc (Below.refl w.heap.size w) (.cells #[.string ⟨#[]⟩] 9)
  clear h ih hf
  go_enter_defers Tryd.func35, Tryd.ntmps35
  go_wp2_with fail
  generalize w.alloc (.cells #[.string ⟨#[]⟩] 9) = W at *
  refine HV.out.mono ?_
  rintro e1 w2 ⟨rfl, hw⟩
  obtain rfl := hw.symm
  clear hw HV
  go_wp2_with fail
  refine (dbus_zzType_Kind.calls 9 _ 18 _ (kind_c 40 t 18 (by kernel_rfl))).mono ?_
  rintro e1 w3 ⟨rfl, k1, rfl⟩
  have hB2 := pw_below_drewN hB k1
  have HD2 : Aside0 (DC (W.drewN k1) g a s d) := ⟨HD.out⟩
  have K0 : Aside0 ((W.drewN k1).heap[w.heap.size]? = some (.cells #[.string ⟨#[]⟩] 9 (0, 0))) := ⟨k0⟩
  have HB2 := Aside0.mk hB2
  generalize W.drewN k1 = V at *
  clear k0 hB HD hB2
  go_wp2_with fail
  go_loopg [5, 6] zs.length (fun kq v5 v6 wr => ∃ (i : Nat), v5 = .string (Bs (List.take i (zs.map Prod.fst)).flatten) ∧ v6 = .int .i64 (i : Int) ∧ i ≤ zs.length ∧ Aside0 (kq = zs.length - i ∧ Below V.heap.size V wr))
  case atStart => exact ⟨0, by first | rfl | simp, rfl, by omega, ⟨rfl, Below.refl _ _⟩⟩
  case round =>
    obtain ⟨i, rfl, rfl, hi, HI⟩ := hrel
    have HI0 := Aside0.mk HI.out.1
    go_wp2_with fail
    refine (dbus_zzType_NumField.calls kf _ _ _ HNF.out).mono ?_
    rintro e1 w4 ⟨rfl, hb4⟩
    have HI4 := Aside0.mk (below_step HI.out.2 hb4)
    clear hb4
    by_cases hlt : i < zs.length
    · have hdd : decide ((i : Int) < (zs.length : Int)) = true := by simpa using hlt
      have hwi : IntKind.i64.wrap ((i : Int) + 1) = ((i + 1 : Nat) : Int) := by rw [IntKind.wrap_i64]; omega
      obtain ⟨z, hz⟩ : ∃ z, zs[i]? = some z := ⟨zs[i], List.getElem?_eq_getElem hlt⟩
      have HZ := Aside0.mk hz
      have HFi := Aside0.mk (HFD.out i z hz)
      have HIz := Aside0.mk (IH.out z (List.mem_of_getElem? hz))
      have hcat : Bs (List.take i (zs.map Prod.fst)).flatten ++ Bs z.1 = Bs (List.take (i + 1) (zs.map Prod.fst)).flatten := by rw [Bs_app, flat_snoc zs i z hz]
      have hsz : (9223372036854775807 < (Bs (List.take i (zs.map Prod.fst)).flatten).size + (Bs z.1).size) = False := eq_false (by
        have h1 := flat_le zs (i + 1)
        rw [flat_snoc zs i z hz, List.length_append] at h1
        rw [Bs_size, Bs_size]; omega)
      clear hz
      go_wp2_with fail
      refine (dbus_zzType_Field.calls kf _ _ _ _ _ _ HFi.out).mono ?_
      rintro e1 w5 ⟨rfl, hb5⟩
      have HI5 := Aside0.mk (below_step HI4.out hb5)
      clear hb5
      go_wp2_with fail
      refine (dbus_zzTag_Get.calls _ _ ⟨#[]⟩ _ rfl).mono ?_
      rintro e1 w6 ⟨rfl, k6, rfl⟩
      have HI6 : Aside0 (Below V.heap.size V ((w5.alloc (.cells #[.string (Bs z.2), .string ⟨#[]⟩, .string ⟨#[]⟩] 84)).drewN k6)) := ⟨pw_below_drewN (below_alloc HI5.out _) _⟩
      generalize (w5.alloc (.cells #[.string (Bs z.2), .string ⟨#[]⟩, .string ⟨#[]⟩] 84)).drewN k6 = V6 at *
      clear HI5 HI4 HI
      have q := HD2.out.up HI6.out
      have q0 := q.c0
      have q1 := q.c1
      have q2 := q.c2
      clear q
      go_wp2_with fail
      go_region_held3 (fun w' => w'.cell? ⟨g, 0, none⟩ = some (.int .i64 a) ∧ w'.cell? ⟨g, 1, none⟩ = some (.int .i64 s) ∧ w'.cell? ⟨g, 2, none⟩ = some (.int .i64 d)) (first | exact kk8.out | exact kk7.out | exact ⟨q0, q1, q2⟩ | go_keep)
        (first
          | (go_at_call 50; refine (dbus_zzType_Field.calls kf _ _ _ _ _ _ HFi.out).mono ?_; rintro e w7 ⟨rfl, hb⟩;
              have hbV := below_step HI6.out (by first | exact hb | exact (below_drew1 (Below.refl _ _)).trans hb); have HI7 := Aside0.mk hbV; have kd := HD2.out.up hbV; have kk7 := Aside0.mk (And.intro kd.c0 (And.intro kd.c1 kd.c2)); clear hb hbV kd)
          | (go_at_call 42; refine (enS hs0 (by omega) _).mono ?_; rintro e w' ⟨rfl, rfl⟩)
          | (go_at_call 35; refine (HIz.out _ _ (by first | exact dc_new1 _ _ _ _ _ | exact dc_new1 _ _ _ _ 0)).mono ?_; rintro e w8 ⟨rfl, hb⟩;
              have hbV := below_step (w := V) (by repeat (first | exact HI7.out | exact HI6.out | apply below_alloc | apply pw_below_drewN | apply below_drew1)) hb;
              have kd := HD2.out.up hbV; have kk8 := Aside0.mk (And.intro kd.c0 (And.intro kd.c1 kd.c2)); have HI8 := Aside0.mk hbV; clear hb hbV kd))
      go_wp2_with fail
      go_roundg (zs.length - (i + 1))
      case measure => have := HI0.out; omega
      case rel => exact ⟨i + 1, by first | rfl | simp, by first | rfl | simp, by omega, ⟨rfl, by first | exact HI8.out | exact pw_below_drewN HI8.out _⟩⟩
    · have hdd : decide ((i : Int) < (zs.length : Int)) = false := by simpa using hlt
      have hie : List.take i (zs.map Prod.fst) = zs.map Prod.fst := List.take_of_length_le (by rw [List.length_map]; omega)
      rw [hie]
      obtain ⟨fl, hfl⟩ : ∃ fl, (zs.map Prod.fst).flatten = fl := ⟨_, rfl⟩
      rw [hfl] at hne hl ⊢
      have HFL := Aside0.mk hfl
      have hszp : (((Bs fl).size : Int) == 0) = false := beq_eq_false_iff_ne.mpr (by rw [Bs_size]; omega)
      have hszq : decide (((Bs fl).size : Int) = 0) = false := decide_eq_false (by rw [Bs_size]; omega)
      have hcat1 : (⟨#[40]⟩ : ByteArray) ++ Bs fl = Bs (40 :: fl) := Bs_app [40] fl
      have hcat2 : Bs (40 :: fl) ++ (⟨#[41]⟩ : ByteArray) = Bs (40 :: (fl ++ [41])) := Bs_app (40 :: fl) [41]
      have hsz1 : (9223372036854775807 < 1 + (Bs fl).size) = False := eq_false (by rw [Bs_size]; omega)
      have hsz2 : (9223372036854775807 < (Bs (40 :: fl)).size + 1) = False := eq_false (by rw [Bs_size, List.length_cons]; omega)
      have k4 := up_heap2 HI4.out K0.out
      have c4 : w4.cell? ⟨w.heap.size, 0, none⟩ = some (.string ⟨#[]⟩) := (cell_of_row w4 w.heap.size 0 _ 9 (0, 0) k4).trans rfl
      have z4 := frozen_of_row w4 w.heap.size 0 _ 9 k4
      have HB4 := Aside0.mk (below_step HB2.out HI4.out)
      clear k4 hie hfl
      go_wp2_with fail
      rw [HFL.out]
      exact gs_end (r := Bs (40 :: (fl ++ [41]))) c4 HB4.out (by rw [Bs_size]; simp only [List.length_cons, List.length_append, List.length_nil]; omega) _ rfl

end Go.Proofs.YtboioihppjhjcaaDoor.MFnSgOf

namespace Go.Proofs.YtboioihppjhjcaaDoor.MFnSgOf
open Go.RowKit Go.Proofs.YtboioihppjhjcaaDoorW.PrintWords Go.Proofs.YtboioihppjhjcaaDoorW.PrintLast Go.Proofs.YtboioihppjhjcaaDoorW.PrintMore
attribute [local go_sem] max2_int min2_int max_two min_two max_three min_three max_four min_four
set_option linter.unusedVariables false
set_option linter.unusedSimpArgs false

open Go.Proofs.YtboioihppjhjcaaDoor.Hlp Go.Proofs.YtboioihppjhjcaaDoor.SgT Go.Proofs.YtboioihppjhjcaaDoor.SgZ
theorem one_91 : ∀ c : UInt8, oneC c = true → c ≠ 91 ∧ c ≠ 123 ∧ c ≠ 40 ∧ c ≠ 41 := by
  intro c h
  have h2 := one_ascii c h
  refine ⟨?_, h2.2.2.2.2.1, h2.2.2.1, h2.2.2.2.1⟩
  rintro rfl
  exact absurd h (by decide)
theorem num_ne {c d : UInt8} (h : c ≠ d) : ¬ (c.toNat : Int) = (d.toNat : Int) := fun e => h (UInt8.toNat_inj.mp (by exact_mod_cast e))
theorem Bs_ne (c : UInt8) (r : List UInt8) : ¬ (Bs (c :: r)).toList = ([] : List UInt8) := fun e => by have := (emp_iff _).1 e; rw [Bs_size] at this; simp at this
theorem Bs_pos (c : UInt8) (r : List UInt8) : (0 : Int) < ((Bs (c :: r)).size : Int) := by rw [Bs_size]; simp only [List.length_cons]; omega
theorem end_step (k : Nat) (c : UInt8) (r : List UInt8) : dbus_zzEnd.f (k + 1) (Bs (c :: r)) = if (c.toNat : Int) = 91 then (if 1 ≤ ((Bs (c :: r)).size : Int) then ((dbus_zzEnd.f k (Bs r)).bind fun t164 => (some (wrap64 (1 + t164)))) else (none)) else (if (c.toNat : Int) = 123 then (if 2 ≤ ((Bs (c :: r)).size : Int) then ((dbus_zzEnd.f k (Bs (r.drop 1))).bind fun t165 => (some (wrap64 (2 + t165)))) else (none)) else (if (c.toNat : Int) = 40 then (dbus_zzEnd.l0 k (Bs (c :: r)) 1) else (some 1))) := by
  have e1 : (Bs (c :: r)).extract 1 (Bs (c :: r)).size = Bs r := by rw [Bs_drop]; rfl
  have e2 : (Bs (c :: r)).extract 2 (Bs (c :: r)).size = Bs (r.drop 1) := by rw [Bs_drop]; rfl
  conv => lhs; unfold dbus_zzEnd.f
  rw [if_neg (Bs_ne c r), if_pos (Bs_pos c r), Bs_bt0, e1, e2]
theorem bt_mid (p : List UInt8) (c : UInt8) (r : List UInt8) : bt (Bs (p ++ c :: r)) ((p.length : Nat) : Int) = (c.toNat : Int) := by
  rw [Bs_bt]; simp [List.getD_eq_getElem?_getD]
theorem cut_mid (p r : List UInt8) : (Bs (p ++ r)).extract p.length (Bs (p ++ r)).size = Bs r := by
  rw [Bs_drop, List.drop_left]
theorem cut_piece (p x r : List UInt8) : (Bs (p ++ (x ++ r))).extract p.length (p.length + x.length) = Bs x := by
  rw [Bs_cut, List.drop_left]; simp
/-- Where a type's text ends. -/
theorem zend {A B E : Int} {l t : List UInt8} (z : Z A B E l t) : ∀ rest : List UInt8, (t ++ rest).length ≤ 1000000 → Ev (fun k => dbus_zzEnd.f k (Bs (t ++ rest))) (t.length : Int) := by
  refine Z.ind (P := fun A B E l t => ∀ rest : List UInt8, (t ++ rest).length ≤ 1000000 → Ev (fun k => dbus_zzEnd.f k (Bs (t ++ rest))) (t.length : Int)) ?_ ?_ ?_ ?_ z
  · intro A B E c _ _ _ hc rest hr
    obtain ⟨h1, h2, h3, _⟩ := one_91 c hc
    refine Ev.step (fun k => end_step k c rest) ?_
    exact ev_ite_neg (num_ne h1) (fun _ => rfl) (ev_ite_neg (num_ne h2) (fun _ => rfl) (ev_ite_neg (num_ne h3) (fun _ => rfl) (Ev.now _)))
  · intro A B E x y _ _ _ hz ih rest hr
    have hr2 : (y ++ rest).length ≤ 1000000 := by simp only [List.cons_append, List.length_cons] at hr; omega
    refine Ev.step (fun k => end_step k 91 (y ++ rest)) (ev_ite_pos rfl (fun _ => rfl) (ev_ite_pos (by rw [Bs_size]; simp only [List.length_cons]; omega) (fun _ => rfl) (Ev.bind (ih rest hr2) ?_)))
    have hw : wrap64 (1 + (y.length : Int)) = (((91 :: y).length : Nat) : Int) := by rw [w64 (by omega) (by simp only [List.length_append] at hr2; omega), List.length_cons]; omega
    rw [hw]
    exact Ev.now _
  · intro A B E c x y _ _ _ hc hz ih rest hr
    have hr2 : (y ++ rest).length ≤ 1000000 := by simp only [List.cons_append, List.length_cons] at hr; omega
    refine Ev.step (fun k => end_step k 123 (c :: y ++ rest)) (ev_ite_neg (by decide) (fun _ => rfl) (ev_ite_pos rfl (fun _ => rfl) (ev_ite_pos (by rw [Bs_size]; simp only [List.length_cons, List.cons_append]; omega) (fun _ => rfl) (Ev.bind (ih rest hr2) ?_))))
    have hw : wrap64 (2 + (y.length : Int)) = (((123 :: c :: y).length : Nat) : Int) := by rw [w64 (by omega) (by simp only [List.length_append] at hr2; omega), List.length_cons, List.length_cons]; omega
    rw [hw]
    exact Ev.now _
  · intro A B E zs _ _ _ hne hz ih rest hr
    have key : ∀ (ws : List (List UInt8 × List UInt8)), (∀ w ∈ ws, w ∈ zs) → ∀ pre : List UInt8, (40 :: pre ++ ((ws.map Prod.snd).flatten ++ 41 :: rest)).length ≤ 1000000 →
        Ev (fun k => dbus_zzEnd.l0 k (Bs (40 :: pre ++ ((ws.map Prod.snd).flatten ++ 41 :: rest))) (((40 :: pre).length : Nat) : Int)) (((40 :: pre).length + (ws.map Prod.snd).flatten.length + 1 : Nat) : Int) := by
      intro ws
      induction ws with
      | nil =>
        intro _ pre hl
        simp only [List.map_nil, List.flatten_nil, List.nil_append, List.length_nil] at hl ⊢
        have hb := bt_mid (40 :: pre) 41 rest
        have hsz : (((40 :: pre).length : Nat) : Int) < ((Bs (40 :: pre ++ 41 :: rest)).size : Int) := by rw [Bs_size, List.length_append, List.length_cons (a := 41)]; omega
        refine Ev.step (f := fun _ => some (((40 :: pre).length + 0 + 1 : Nat) : Int)) (fun k => ?_) (Ev.now _)
        unfold dbus_zzEnd.l0
        rw [if_pos hsz, if_pos (by omega), if_pos (by rw [hb]; rfl), w64 (by omega) (by rw [List.length_append] at hl; omega)]
        rfl
      | cons w ws ihw =>
        intro hm pre hl
        simp only [List.map_cons, List.flatten_cons, List.append_assoc] at hl ⊢
        obtain ⟨c, r, hc, h41⟩ := (hz w (hm w List.mem_cons_self)).head
        have hwl := (hz w (hm w List.mem_cons_self)).len.2
        have hb : bt (Bs (40 :: pre ++ (w.2 ++ ((ws.map Prod.snd).flatten ++ 41 :: rest)))) (((40 :: pre).length : Nat) : Int) = (c.toNat : Int) := by
          rw [hc, List.cons_append]; exact bt_mid _ _ _
        have hsz : (((40 :: pre).length : Nat) : Int) < ((Bs (40 :: pre ++ (w.2 ++ ((ws.map Prod.snd).flatten ++ 41 :: rest)))).size : Int) := by rw [Bs_size, List.length_append, List.length_append]; omega
        have hl1 : (w.2 ++ ((ws.map Prod.snd).flatten ++ 41 :: rest)).length ≤ 1000000 := by rw [List.length_append] at hl; omega
        have h2 := ihw (fun q hq => hm q (List.mem_cons_of_mem _ hq)) (pre ++ w.2) (by simpa [List.append_assoc] using hl)
        have e2 : 40 :: (pre ++ w.2) ++ ((ws.map Prod.snd).flatten ++ 41 :: rest) = 40 :: pre ++ (w.2 ++ ((ws.map Prod.snd).flatten ++ 41 :: rest)) := by simp
        rw [e2] at h2
        have hw : wrap64 ((((40 :: pre).length : Nat) : Int) + (w.2.length : Int)) = (((40 :: (pre ++ w.2)).length : Nat) : Int) := by
          rw [w64 (by omega) (by rw [List.length_append, List.length_append] at hl; omega), List.length_cons, List.length_cons, List.length_append]; omega
        have st : ∀ k, dbus_zzEnd.l0 (k + 1) (Bs (40 :: pre ++ (w.2 ++ ((ws.map Prod.snd).flatten ++ 41 :: rest)))) (((40 :: pre).length : Nat) : Int) = (dbus_zzEnd.f k (Bs (w.2 ++ ((ws.map Prod.snd).flatten ++ 41 :: rest)))).bind fun t => dbus_zzEnd.l0 k (Bs (40 :: pre ++ (w.2 ++ ((ws.map Prod.snd).flatten ++ 41 :: rest)))) (wrap64 ((((40 :: pre).length : Nat) : Int) + t)) := by
          intro k
          conv => lhs; unfold dbus_zzEnd.l0
          rw [if_pos hsz, if_pos (by omega), if_neg (by rw [hb]; exact num_ne h41), if_pos (by omega), Int.toNat_natCast, cut_mid]
        refine Ev.step st (Ev.bind (ih w (hm w List.mem_cons_self) _ hl1) ?_)
        rw [hw]
        have e3 : (40 :: (pre ++ w.2)).length + (ws.map Prod.snd).flatten.length + 1 = (40 :: pre).length + (w.2.length + (ws.map Prod.snd).flatten.length) + 1 := by simp only [List.length_cons, List.length_append]; omega
        rw [e3] at h2
        rw [List.length_append]
        exact h2
    have h := key zs (fun _ h => h) [] (by simpa [List.append_assoc] using hr)
    have e : 40 :: ((zs.map Prod.snd).flatten ++ [41]) ++ rest = 40 :: [] ++ ((zs.map Prod.snd).flatten ++ 41 :: rest) := by simp
    rw [e]
    refine Ev.step (fun k => end_step k 40 _) (ev_ite_neg (by decide) (fun _ => rfl) (ev_ite_neg (by decide) (fun _ => rfl) (ev_ite_pos rfl (fun _ => rfl) ?_)))
    have e4 : (40 :: ((zs.map Prod.snd).flatten ++ [41])).length = (40 :: ([] : List UInt8)).length + (zs.map Prod.snd).flatten.length + 1 := by simp only [List.length_cons, List.length_append, List.length_nil]; omega
    rw [e4]
    exact h
theorem field_step (X : ByteArray) (acc : List ByteArray) (p n : Nat) (Y : ByteArray) (W : ByteArray) (R : List ByteArray) (hsz : (p : Int) < (X.size : Int)) (hp0 : (0 : Int) ≤ (p : Int)) (hc : ¬ bt X (p : Int) = 41) (hcut : X.extract p X.size = Y) (hend : Ev (fun k => dbus_zzEnd.f k Y) (n : Int)) (hw : wrap64 ((p : Int) + (n : Int)) = ((p + n : Nat) : Int)) (hle : ((p + n : Nat) : Int) ≤ (X.size : Int)) (hpiece : X.extract p (p + n) = W) (hal : acc.length < 8796093022208)
    (h2 : Ev (fun k => dbus_zzType_fields.l0 k X (acc ++ [W]) ((p + n : Nat) : Int)) R) : Ev (fun k => dbus_zzType_fields.l0 k X acc (p : Int)) R := by
  have st : ∀ k, dbus_zzType_fields.l0 (k + 1) X acc (p : Int) = (dbus_zzEnd.f k Y).bind fun t167 => (if (p : Int) ≤ (wrap64 ((p : Int) + t167)) then (if (wrap64 ((p : Int) + t167)) ≤ (X.size : Int) then (if acc.length < 8796093022208 then (dbus_zzType_fields.l0 k X (acc ++ [X.extract p ((wrap64 ((p : Int) + t167)) : Int).toNat]) (wrap64 ((p : Int) + t167))) else (none)) else (none)) else (none)) := by
    intro k
    conv => lhs; unfold dbus_zzType_fields.l0
    rw [if_pos hsz, if_pos hp0, if_neg hc, if_pos (by omega), Int.toNat_natCast, hcut]
  refine Ev.step st (Ev.bind hend ?_)
  rw [hw, Int.toNat_natCast, hpiece]
  exact ev_ite_pos (by omega) (fun _ => rfl) (ev_ite_pos hle (fun _ => rfl) (ev_ite_pos hal (fun _ => rfl) h2))
/-- The fields of a struct's type. -/
theorem zfields {A B E : Int} (zs : List (List UInt8 × List UInt8)) (hz : ∀ z ∈ zs, Z A B E z.1 z.2) (hl : (zs.map Prod.snd).flatten.length ≤ 100000) : Ev (fun k => dbus_zzType_fields.f k (Bs (40 :: ((zs.map Prod.snd).flatten ++ [41])))) (zs.map fun z => Bs z.2) := by
  have key : ∀ (ws : List (List UInt8 × List UInt8)), (∀ w ∈ ws, w ∈ zs) → ∀ (pre : List UInt8) (acc : List ByteArray), (40 :: pre ++ ((ws.map Prod.snd).flatten ++ [41])).length ≤ 200000 → acc.length + ws.length ≤ 200000 →
      Ev (fun k => dbus_zzType_fields.l0 k (Bs (40 :: pre ++ ((ws.map Prod.snd).flatten ++ [41]))) acc (((40 :: pre).length : Nat) : Int)) (acc ++ ws.map fun z => Bs z.2) := by
    intro ws
    induction ws with
    | nil =>
      intro _ pre acc hl _
      simp only [List.map_nil, List.flatten_nil, List.nil_append, List.append_nil] at hl ⊢
      have hb := bt_mid (40 :: pre) 41 []
      have hsz : (((40 :: pre).length : Nat) : Int) < ((Bs (40 :: pre ++ [41])).size : Int) := by rw [Bs_size, List.length_append, List.length_singleton]; omega
      refine Ev.step (f := fun _ => some acc) (fun k => ?_) (Ev.now _)
      unfold dbus_zzType_fields.l0
      rw [if_pos hsz, if_pos (by omega), if_pos (by rw [hb]; rfl)]
    | cons w ws ihw =>
      intro hm pre acc hl hacc
      simp only [List.map_cons, List.flatten_cons, List.append_assoc] at hl ⊢
      obtain ⟨c, r, hc, h41⟩ := (hz w (hm w List.mem_cons_self)).head
      have hwl := (hz w (hm w List.mem_cons_self)).len.2
      have hb : bt (Bs (40 :: pre ++ (w.2 ++ ((ws.map Prod.snd).flatten ++ [41])))) (((40 :: pre).length : Nat) : Int) = (c.toNat : Int) := by
        rw [hc, List.cons_append]; exact bt_mid _ _ _
      have hsz : (((40 :: pre).length : Nat) : Int) < ((Bs (40 :: pre ++ (w.2 ++ ((ws.map Prod.snd).flatten ++ [41])))).size : Int) := by rw [Bs_size, List.length_append, List.length_append]; omega
      have hl1 : (w.2 ++ ((ws.map Prod.snd).flatten ++ [41])).length ≤ 1000000 := by rw [List.length_append] at hl; omega
      simp only [List.length_cons] at hacc
      have h2 := ihw (fun q hq => hm q (List.mem_cons_of_mem _ hq)) (pre ++ w.2) (acc ++ [Bs w.2]) (by simpa [List.append_assoc] using hl) (by simp only [List.length_append, List.length_singleton]; omega)
      have e2 : 40 :: (pre ++ w.2) ++ ((ws.map Prod.snd).flatten ++ [41]) = 40 :: pre ++ (w.2 ++ ((ws.map Prod.snd).flatten ++ [41])) := by simp
      rw [e2] at h2
      have hw : wrap64 ((((40 :: pre).length : Nat) : Int) + (w.2.length : Int)) = (((40 :: pre).length + w.2.length : Nat) : Int) := by
        rw [w64 (by omega) (by rw [List.length_append, List.length_append] at hl; omega)]; omega
      have hw2 : (40 :: (pre ++ w.2)).length = (40 :: pre).length + w.2.length := by simp only [List.length_cons, List.length_append]; omega
      have hcut : (Bs (40 :: pre ++ (w.2 ++ ((ws.map Prod.snd).flatten ++ [41])))).extract (40 :: pre).length (Bs (40 :: pre ++ (w.2 ++ ((ws.map Prod.snd).flatten ++ [41])))).size = Bs (w.2 ++ ((ws.map Prod.snd).flatten ++ [41])) := cut_mid _ _
      have hpiece : (Bs (40 :: pre ++ (w.2 ++ ((ws.map Prod.snd).flatten ++ [41])))).extract (40 :: pre).length ((40 :: pre).length + w.2.length) = Bs w.2 := cut_piece _ _ _
      have hend := zend (hz w (hm w List.mem_cons_self)) _ hl1
      have hle : (((40 :: pre).length + w.2.length : Nat) : Int) ≤ ((Bs (40 :: pre ++ (w.2 ++ ((ws.map Prod.snd).flatten ++ [41])))).size : Int) := by rw [Bs_size, List.length_append, List.length_append]; omega
      rw [hw2, List.append_assoc, List.singleton_append] at h2
      have hal : acc.length < 8796093022208 := by omega
      exact field_step _ acc _ _ _ _ _ hsz (by omega) (by rw [hb]; exact num_ne h41) hcut hend hw hle hpiece hal h2
  have h := key zs (fun _ h => h) [] [] (by simp only [List.length_cons, List.length_append, List.length_nil]; omega) (by
    have hlen : ∀ ws : List (List UInt8 × List UInt8), (∀ w ∈ ws, w ∈ zs) → ws.length ≤ (ws.map Prod.snd).flatten.length := by
      intro ws
      induction ws with
      | nil => simp
      | cons w ws ih =>
        intro hm
        have h1 := ih (fun q hq => hm q (List.mem_cons_of_mem _ hq))
        have h2 := (hz w (hm w List.mem_cons_self)).len.2
        simp only [List.map_cons, List.flatten_cons, List.length_append, List.length_cons]
        omega
    have := hlen zs (fun _ h => h)
    simp only [List.length_nil]
    omega)
  exact h

end Go.Proofs.YtboioihppjhjcaaDoor.MFnSgOf
