-- Written by a program of this session (myprint.py, out of the translation). Not trusted: Lean checks it.
import Derived.Test.YtbemkokigpcmdaaMFnMtRuleDropx0
import Derived.Test.YtbemkokigpcmdaaMFnMtRuleDropx3
import Derived.Test.YtbemkokigpcmdaaMFnMtRuleDropx4
namespace Go.Proofs.Ytbemkokigpcmdaa.MFnMtRuleDrop
open Go.RowKit Go.Proofs.YtbemkokigpcmdaaW.PrintWords Go.Proofs.YtbemkokigpcmdaaW.PrintLast Go.Proofs.YtbemkokigpcmdaaW.PrintMore
attribute [local go_sem] max2_int min2_int max_two min_two max_three min_three max_four min_four   -- for this text's walks alone
set_option linter.unusedVariables false
set_option linter.unusedSimpArgs false

/-! ### dbus_formatMatchOptions: function 14 -/
def dbus_formatMatchOptions.l0 : Nat → List ByteArray → List (S37) → Int → Int → Option (ByteArray)
  | 0, _, _, _, _ => none
  | k + 1, x3, x9, x10, x11 => if x11 < x10 then (if 0 ≤ x11 then (if x11 < (x9.length : Int) then (if ((rd_T37 x9 x11).f0).size + 2 ≤ 9223372036854775807 then (if (((rd_T37 x9 x11).f0) ++ (⟨#[61, 39]⟩ : ByteArray)).size + ((rd_T37 x9 x11).f1).size ≤ 9223372036854775807 then (if ((((rd_T37 x9 x11).f0) ++ (⟨#[61, 39]⟩ : ByteArray)) ++ ((rd_T37 x9 x11).f1)).size + 1 ≤ 9223372036854775807 then (if x3.length < 8796093022208 then (dbus_formatMatchOptions.l0 k (x3 ++ [((((rd_T37 x9 x11).f0) ++ (⟨#[61, 39]⟩ : ByteArray)) ++ ((rd_T37 x9 x11).f1)) ++ (⟨#[39]⟩ : ByteArray)]) x9 x10 (wrap64 (x11 + 1))) else (none)) else (none)) else (none)) else (none)) else (none)) else (none)) else ((strings_Join.f x3 (⟨#[44]⟩ : ByteArray)).bind fun t112 => (some t112))
def dbus_formatMatchOptions.f (k : Nat) (l0 : List (S37)) : Option (ByteArray) := if l0.length < 8796093022208 then dbus_formatMatchOptions.l0 k ([] : List ByteArray) l0 (l0.length : Int) 0 else none
theorem dbus_formatMatchOptions.mono_l : ∀ k, (∀ y0 y1 y2 y3, LeO (dbus_formatMatchOptions.l0 k y0 y1 y2 y3) (dbus_formatMatchOptions.l0 (k + 1) y0 y1 y2 y3))
  | 0 => fun _ _ _ _ r h => by simp [dbus_formatMatchOptions.l0] at h
  | k + 1 => by
    have ih0 := dbus_formatMatchOptions.mono_l k
    · intro y0 y1 y2 y3
      unfold dbus_formatMatchOptions.l0
      repeat' first
      | (with_reducible exact ih0 _ _ _ _)
      | (with_reducible exact LeO.refl _)
      | (with_reducible exact LeO.none _)
      | (with_reducible refine LeO.ite ?_ ?_)
      | (with_reducible refine LeO.bind ?_ (fun _ => ?_))
      | exact ih0 _ _ _ _
      | exact LeO.none _
      | refine LeO.ite ?_ ?_
      | refine LeO.bind ?_ (fun _ => ?_)
theorem dbus_formatMatchOptions.mono : ∀ a0 k, LeO (dbus_formatMatchOptions.f k a0) (dbus_formatMatchOptions.f (k + 1) a0) := by
  intro a0 k
  have ih0 := dbus_formatMatchOptions.mono_l k
  unfold dbus_formatMatchOptions.f
  refine LeO.ite ?_ (LeO.none _)
  repeat' first
      | (with_reducible exact ih0 _ _ _ _)
      | (with_reducible exact LeO.refl _)
      | (with_reducible exact LeO.none _)
      | (with_reducible refine LeO.ite ?_ ?_)
      | (with_reducible refine LeO.bind ?_ (fun _ => ?_))
      | exact ih0 _ _ _ _
      | exact LeO.none _
      | refine LeO.ite ?_ ?_
      | refine LeO.bind ?_ (fun _ => ?_)
set_option maxHeartbeats 8000000 in
set_option maxRecDepth 100000 in
theorem dbus_formatMatchOptions.calls (k : Nat) (A0 : Option Addr) (c0 : Nat) (l0 : List (S37)) (r : ByteArray) (w : World) (hr0 : Kd.C k37 w A0 l0.length l0) (hc0 : l0.length ≤ c0) (h : dbus_formatMatchOptions.f k l0 = some r) :
    Calls Try.prog 14 #[.slice A0 l0.length c0] w fun e w' => e = .returned (.string r) ∧ Below w.heap.size w w' := by
  have hu37 := Try.underlying37
  have HR0 := Aside0.mk hr0
  have HC0 := Aside0.mk hc0
  clear hr0 hc0
  have HB := Aside0.mk (Below.refl w.heap.size w)
  unfold dbus_formatMatchOptions.f at h
  by_cases hlen : l0.length < 8796093022208
  case neg => rw [if_neg hlen] at h; cases h
  rw [if_pos hlen] at h
  have H' := Aside0.mk h
  clear h
  obtain ⟨i0, hi, hz0, hz1, hz2⟩ := info_parts info9
  go_enter Try.func14, Try.ntmps14
  go_wp2_with (at_make; refine wpList_make_own _ rfl _ _ 40 rfl w.heap.size 9 i0 (.string ⟨#[]⟩) 1 Try.underlying40 hi hz0 hz1 .i64 .i64 _ l0.length rfl rfl rfl (by rw [hz2]; omega) (by unfold maxLen; omega) (Nat.le_refl _) ?_; intro w1 ho hg; have HO0 := Aside0.mk ho; have HB1 := Aside0.mk ((Below.refl _ _).grown hg (Nat.le_refl _) (fun _ h => by cases h)); clear ho hg; clear HB; have HB := HB1; clear HB1)
  have HO0 : Aside0 (Kd.R Kd.string 9 w1 w.heap.size (fun _ => True) (.slice (some ⟨w.heap.size, 0, none⟩) 0 l0.length) []) := ⟨fun _ _ => trivial, [], HO0.out, rfl, fun j p h => by cases h⟩
  clear hi hz0 hz1 hz2
  go_loopg [3, 11] k (fun kq v3 v11 w' => ∃ (x3_1 : List ByteArray) (x11_1 : Int), v11 = .int .i64 x11_1 ∧ Aside0 (dbus_formatMatchOptions.l0 kq x3_1 l0 (l0.length : Int) x11_1 = some r) ∧ Aside0 (kq ≤ k) ∧ Aside0 (Kd.R Kd.string 9 w' w.heap.size (fun _ => True) v3 x3_1) ∧ Aside0 (Below w.heap.size w w'))
  case atStart => exact ⟨(([] : List ByteArray)), (0), (by first | rfl | (simp; done) | (simp [*]; done)), H', ⟨Nat.le_refl _⟩, ⟨by first | exact HO0.out | exact Kd.R_nil _ _ _ _ _ | exact Kd.N_nil _ _ _ _ _ | exact Kd.V_nil _ _ _ _ _ | exact Kd.Q_nil _ _ _ _ _ | exact Kd.S_nil _ _ _ _ _⟩, ⟨by repeat (first | (with_reducible first | exact HB.out | apply below_alloc | apply pw_below_drewN | apply below_drew1) | exact HB.out)⟩⟩
  case round =>
    clear H'
    try clear c1
    obtain ⟨x3_1, x11_1, rfl, HA, HK1, HO_3, HB⟩ := hrel
    cases gk with
    | zero => exact absurd HA.out (by simp [dbus_formatMatchOptions.l0])
    | succ k1 =>
      have H := HA.out
      clear HA
      simp only [dbus_formatMatchOptions.l0] at H
      by_cases c2 : x11_1 < (l0.length : Int)
      · rw [if_pos c2] at H
        have c2b0 : decide (x11_1 < (l0.length : Int)) = true := decide_eq_true c2
        clear c2
        by_cases c3 : 0 ≤ x11_1
        · rw [if_pos c3] at H
          have c3b0 : decide (0 ≤ x11_1) = true := decide_eq_true c3
          clear c3
          by_cases c4 : x11_1 < (l0.length : Int)
          · rw [if_pos c4] at H
            have c4b0 : decide (x11_1 < (l0.length : Int)) = true := decide_eq_true c4
            clear c4
            by_cases c5 : ((rd_T37 l0 x11_1).f0).size + 2 ≤ 9223372036854775807
            · rw [if_pos c5] at H
              have c5b0 := eq_true c5
              have c5b1 : decide (((rd_T37 l0 x11_1).f0).size + 2 ≤ 9223372036854775807) = true := decide_eq_true c5
              try have c5b2 : (9223372036854775807 < ((rd_T37 l0 x11_1).f0).size + 2) = False := eq_false (Nat.not_lt.2 c5)
              by_cases c6 : (((rd_T37 l0 x11_1).f0) ++ (⟨#[61, 39]⟩ : ByteArray)).size + ((rd_T37 l0 x11_1).f1).size ≤ 9223372036854775807
              · rw [if_pos c6] at H
                have c6b0 := eq_true c6
                have c6b1 : decide ((((rd_T37 l0 x11_1).f0) ++ (⟨#[61, 39]⟩ : ByteArray)).size + ((rd_T37 l0 x11_1).f1).size ≤ 9223372036854775807) = true := decide_eq_true c6
                try have c6b2 : (9223372036854775807 < (((rd_T37 l0 x11_1).f0) ++ (⟨#[61, 39]⟩ : ByteArray)).size + ((rd_T37 l0 x11_1).f1).size) = False := eq_false (Nat.not_lt.2 c6)
                (try have c6e : ((rd_T37 l0 x11_1).f0).size + 2 + ((rd_T37 l0 x11_1).f1).size ≤ 9223372036854775807 := by (have h_ := c6; simp only [ByteArray.size_append] at h_; exact h_))
                (try have c6e0 := eq_true c6e)
                (try have c6e1 : decide (((rd_T37 l0 x11_1).f0).size + 2 + ((rd_T37 l0 x11_1).f1).size ≤ 9223372036854775807) = true := decide_eq_true c6e)
                (try have c6e2 : (9223372036854775807 < ((rd_T37 l0 x11_1).f0).size + 2 + ((rd_T37 l0 x11_1).f1).size) = False := eq_false (Nat.not_lt.2 c6e))
                by_cases c7 : ((((rd_T37 l0 x11_1).f0) ++ (⟨#[61, 39]⟩ : ByteArray)) ++ ((rd_T37 l0 x11_1).f1)).size + 1 ≤ 9223372036854775807
                · rw [if_pos c7] at H
                  have c7b0 := eq_true c7
                  have c7b1 : decide (((((rd_T37 l0 x11_1).f0) ++ (⟨#[61, 39]⟩ : ByteArray)) ++ ((rd_T37 l0 x11_1).f1)).size + 1 ≤ 9223372036854775807) = true := decide_eq_true c7
                  try have c7b2 : (9223372036854775807 < ((((rd_T37 l0 x11_1).f0) ++ (⟨#[61, 39]⟩ : ByteArray)) ++ ((rd_T37 l0 x11_1).f1)).size + 1) = False := eq_false (Nat.not_lt.2 c7)
                  (try have c7e : ((rd_T37 l0 x11_1).f0).size + 2 + ((rd_T37 l0 x11_1).f1).size + 1 ≤ 9223372036854775807 := by (have h_ := c7; simp only [ByteArray.size_append] at h_; exact h_))
                  (try have c7e0 := eq_true c7e)
                  (try have c7e1 : decide (((rd_T37 l0 x11_1).f0).size + 2 + ((rd_T37 l0 x11_1).f1).size + 1 ≤ 9223372036854775807) = true := decide_eq_true c7e)
                  (try have c7e2 : (9223372036854775807 < ((rd_T37 l0 x11_1).f0).size + 2 + ((rd_T37 l0 x11_1).f1).size + 1) = False := eq_false (Nat.not_lt.2 c7e))
                  by_cases c8 : x3_1.length < 8796093022208
                  · rw [if_pos c8] at H
                    have LMc8 := Aside0.mk c8
                    clear c8
                    obtain ⟨y109, hy109⟩ : ∃ y_ : List ByteArray, y_ = (x3_1 ++ [((((rd_T37 l0 x11_1).f0) ++ (⟨#[61, 39]⟩ : ByteArray)) ++ ((rd_T37 l0 x11_1).f1)) ++ (⟨#[39]⟩ : ByteArray)]) := ⟨_, rfl⟩
                    replace H : (dbus_formatMatchOptions.l0 k1 y109 l0 (l0.length : Int) (wrap64 (x11_1 + 1))) = some r := by first | (rw [hy109]; with_reducible exact H) | (have H2_ := (Option.bind_some _ _).symm.trans H; rw [hy109]; with_reducible exact H2_) | (have H2_ := (Option.bind_some _ _).symm.trans H; with_reducible exact H2_) | with_reducible exact H | (rw [hy109]; exact H) | exact H
                    have Ny109 := Aside0.mk hy109
                    clear hy109
                    have H' := Aside0.mk H
                    clear H
                    have p107 : 0 ≤ (x11_1 : Int) := of_decide_eq_true (by first | (with_reducible assumption) | assumption)
                    have q107 : x11_1 < (l0.length : Int) := of_decide_eq_true (by first | (with_reducible assumption) | assumption)
                    obtain ⟨ad107, e107, hx107_0, hx107_1⟩ := at_T37 HR0.out x11_1 p107 q107
                    cases e107
                    replace hx107_0 := (HB.out.cell (World.block_lt_of_cell? w _ hx107_0)).trans hx107_0
                    replace hx107_1 := (HB.out.cell (World.block_lt_of_cell? w _ hx107_1)).trans hx107_1
                    replace p107 := eq_true p107
                    replace q107 := eq_true q107
                    go_wp2_with (first | ((with_reducible refine gate_dst (N := 5) rfl ?_); refine box_event ?hg (N := 5) ?hd (cs := #[.string (⟨#[]⟩ : ByteArray), .string (⟨#[]⟩ : ByteArray)]) (t := 37) ?hr ?_; (case hd => rfl); (case hg => rfl); (case hr => first | (go_simp; done) | (go_simp; rfl)); intro gb108 hg w9 hbox hb; have n0_ := Aside0.mk (Kd.R_below (by (with_reducible repeat (first | apply Kd.R_alloc | apply Kd.R_drewN | apply Kd.R_drew)); exact HO_3.out) hb); have n1_ := Aside0.mk (below_step (by repeat (first | (with_reducible first | exact HB.out | apply below_alloc | apply pw_below_drewN | apply below_drew1) | exact HB.out)) hb); have n2_ := Aside0.mk (hbox); have n3_ := Aside0.mk ((by rw [hg]; exact (below_size (by repeat (first | (with_reducible first | exact HB.out | apply below_alloc | apply pw_below_drewN | apply below_drew1) | exact HB.out))) : w.heap.size ≤ gb108)); have n4_ := Aside0.mk ((by rw [hg]; exact (below_size (by repeat (first | (with_reducible first | exact HB.out | apply below_alloc | apply pw_below_drewN | apply below_drew1) | exact HB.out))) : w.heap.size ≤ gb108)); clear HO_3; clear HB; have HO_3 := n0_; have HB := n1_; have BK108 := n2_; have GW108 := n3_; have GE108 := n4_; clear n0_ n1_ n2_ n3_ n4_; clear hb hbox hg; have hcz10_0 : w9.cell? ⟨gb108, 0, none⟩ = some (.string (⟨#[]⟩ : ByteArray)) := (blk_cell BK108.out 0).trans rfl; have hcz10_1 : w9.cell? ⟨gb108, 1, none⟩ = some (.string (⟨#[]⟩ : ByteArray)) := (blk_cell BK108.out 1).trans rfl; have hfz10_0 := blk_frozen BK108.out 0; have hfz10_1 := blk_frozen BK108.out 1) | ((with_reducible refine gate_builtin (b := .append) (xs := #[.tmp 15, .tmp 23]) rfl ?_); at_builtin; refine Kd.R_append Kd.string (w0 := w) w.heap.size rfl (.tmp 15) (.tmp 23) 40 9 (.string ⟨#[]⟩) 16 rfl Try.underlying40 info9 rfl (by decide) (by omega) u3 x3_1 (((((rd_T37 l0 x11_1).f0) ++ (⟨#[61, 39]⟩ : ByteArray)) ++ ((rd_T37 l0 x11_1).f1)) ++ (⟨#[39]⟩ : ByteArray)) [.string (((((rd_T37 l0 x11_1).f0) ++ (⟨#[61, 39]⟩ : ByteArray)) ++ ((rd_T37 l0 x11_1).f1)) ++ (⟨#[39]⟩ : ByteArray))] (fun _ => True) (fun _ => False) rfl (by first | (go_simp; done) | (go_simp; rfl)) ?aP (fun _ hk => hk.elim) ?aF ?aO ?aB ?aS ?aL ?_; (case aP => exact rfl); (case aB => exact (by repeat (first | (with_reducible first | exact HB.out | apply below_alloc | apply pw_below_drewN | apply below_drew1 | refine below_set ?_ GE108.out) | exact HB.out))); (case aF => exact (fun _ _ => trivial)); (case aO => exact (by (with_reducible repeat (first | apply Kd.R_alloc | apply Kd.R_drewN | apply Kd.R_drew)); exact Kd.R_mono (Kd.R_far (p := ⟨gb108, 1, none⟩) (Kd.R_far (p := ⟨gb108, 0, none⟩) (Kd.R_types HO_3.out BK108.out (by decide)) (fun _ hk => hk.2) (.string ((rd_T37 l0 x11_1).f0))) (fun _ hk => hk.2) (.string ((rd_T37 l0 x11_1).f1))) (fun _ hk => trivial))); (case aS => exact (below_size (by repeat (first | (with_reducible first | exact HB.out | apply below_alloc | apply pw_below_drewN | apply below_drew1 | refine below_set ?_ GE108.out) | exact HB.out)))); (case aL => have := LMc8.out; omega); intro v110 w11 ho hb hg hat; rw [← Ny109.out] at ho; have n0_ := Aside0.mk (blk_grown (g := gb108) (o := .cells #[.string ((rd_T37 l0 x11_1).f0), .string ((rd_T37 l0 x11_1).f1)] 37 (0, 0)) (by (with_reducible repeat (first | refine blk_drewN ?_ _ | refine blk_drew ?_ | refine blk_alloc ?_ _)); refine blk_put (cs := #[.string ((rd_T37 l0 x11_1).f0), .string (⟨#[]⟩ : ByteArray)]) ?_ 1 _ rfl; (with_reducible repeat (first | refine blk_drewN ?_ _ | refine blk_drew ?_ | refine blk_alloc ?_ _)); refine blk_put (cs := #[.string (⟨#[]⟩ : ByteArray), .string (⟨#[]⟩ : ByteArray)]) ?_ 0 _ rfl; (with_reducible repeat (first | refine blk_drewN ?_ _ | refine blk_drew ?_ | refine blk_alloc ?_ _)); exact BK108.out) hg (Kd.R_ne HO_3.out BK108.out (by decide))); have n1_ := Aside0.mk (hb); have n2_ := Aside0.mk (ho); clear BK108; clear HB; clear HO_3; have BK108 := n0_; have HB := n1_; have HO111 := n2_; clear n0_ n1_ n2_; clear ho hb hg hat))
                    go_roundg k1
                    case measure => have := HK1.out; omega
                    case rel => exact ⟨(y109), (wrap64 (x11_1 + 1)), (by first | rfl | (simp; done) | (simp [*]; done)), H', ⟨by have := HK1.out; omega⟩, ⟨by (with_reducible repeat (first | apply Kd.R_alloc | apply Kd.R_drewN | apply Kd.R_drew)); exact HO111.out⟩, ⟨by repeat (first | (with_reducible first | exact HB.out | apply below_alloc | apply pw_below_drewN | apply below_drew1 | refine below_set ?_ GE108.out) | exact HB.out)⟩⟩
                  · rw [if_neg c8] at H
                    exact absurd H (by simp)
                · rw [if_neg c7] at H
                  exact absurd H (by simp)
              · rw [if_neg c6] at H
                exact absurd H (by simp)
            · rw [if_neg c5] at H
              exact absurd H (by simp)
          · rw [if_neg c4] at H
            exact absurd H (by simp)
        · rw [if_neg c3] at H
          exact absurd H (by simp)
      · rw [if_neg c2] at H
        have c2b0 : decide (x11_1 < (l0.length : Int)) = false := decide_eq_false c2
        clear c2
        replace H := Option.bind_eq_some_iff.mp H
        obtain ⟨t112, A120, H⟩ := H
        replace H : (some t112) = some r := H
        have A12 := Aside0.mk A120
        clear A120
        obtain rfl := Option.some.inj H
        obtain ⟨Ao13, co13, eo13⟩ := Kd.R_slice HO_3.out
        subst eo13
        go_wp2_with (first | ((with_reducible refine gate_callee (f := 15) rfl ?_); refine goesL_ (some 27) rfl rfl Try.func15 (by kernel_rfl) rfl #[.slice Ao13 x3_1.length co13, .string (⟨#[44]⟩ : ByteArray)] rfl (by (try simp only [List.map_toArray, List.map_cons, List.map_nil]); first | done | rfl | (simp only [List.length_drop, List.length_take]; rfl)) ?_; (with_reducible refine (strings_Join.calls _ _ x3_1 (⟨#[44]⟩ : ByteArray) t112 _ ?side1 ?side2 A12.out).mono ?_); (case side1 => repeat (first | exact (Kd.R_reads' HO_3.out).2.2 | (with_reducible refine Kd.C_alloc ?_ _) | (with_reducible refine Kd.C_drewN ?_ _) | (with_reducible refine Kd.C_drew ?_))); (case side2 => exact (Kd.R_reads' HO_3.out).2.1); rintro e w14 ⟨rfl, hb⟩; refine ⟨_, rfl, ?_⟩; have n0_ := Aside0.mk (Kd.R_below (by (with_reducible repeat (first | apply Kd.R_alloc | apply Kd.R_drewN | apply Kd.R_drew)); exact HO_3.out) hb); have n1_ := Aside0.mk (below_step (by repeat (first | (with_reducible first | exact HB.out | apply below_alloc | apply pw_below_drewN | apply below_drew1) | exact HB.out)) hb); clear HO_3; clear HB; have HO_3 := n0_; have HB := n1_; clear n0_ n1_; (try clear hb); (try clear hb2); (try clear hk); (try clear hi)))
        go_ret
        exact ⟨by first | rfl | (simp [errW_none, errW_some] <;> rfl) | (simp [*, errW_none, errW_some] <;> rfl) | (simp (disch := omega) only [wrap64_id] <;> rfl), by repeat (first | (with_reducible first | exact HB.out | apply below_alloc | apply pw_below_drewN | apply below_drew1) | exact HB.out)⟩

/-! ### dbus_DoorRule: function 13 -/
def dbus_DoorRule.f (k : Nat) (l0 : List (S37)) : Option (ByteArray) := (dbus_formatMatchOptions.f k l0).bind fun t113 => (some t113)
theorem dbus_DoorRule.mono : ∀ a0 k, LeO (dbus_DoorRule.f k a0) (dbus_DoorRule.f (k + 1) a0) := by
  intro a0 k
  unfold dbus_DoorRule.f
  repeat' first
      | (with_reducible exact dbus_formatMatchOptions.mono _ _)
      | (with_reducible exact LeO.refl _)
      | (with_reducible exact LeO.none _)
      | (with_reducible refine LeO.ite ?_ ?_)
      | (with_reducible refine LeO.bind ?_ (fun _ => ?_))
      | exact dbus_formatMatchOptions.mono _ _
      | exact LeO.none _
      | refine LeO.ite ?_ ?_
      | refine LeO.bind ?_ (fun _ => ?_)
set_option maxHeartbeats 8000000 in
set_option maxRecDepth 100000 in
theorem dbus_DoorRule.calls (k : Nat) (A0 : Option Addr) (c0 : Nat) (l0 : List (S37)) (r : ByteArray) (w : World) (hr0 : Kd.C k37 w A0 l0.length l0) (hc0 : l0.length ≤ c0) (h : dbus_DoorRule.f k l0 = some r) :
    Calls Try.prog 13 #[.slice A0 l0.length c0] w fun e w' => e = .returned (.string r) ∧ Below w.heap.size w w' := by
  have HR0 := Aside0.mk hr0
  have HC0 := Aside0.mk hc0
  clear hr0 hc0
  have HB := Aside0.mk (Below.refl w.heap.size w)
  have H : ((dbus_formatMatchOptions.f k l0).bind fun t113 => (some t113)) = some r := h
  clear h
  replace H := Option.bind_eq_some_iff.mp H
  obtain ⟨t113, A20, H⟩ := H
  replace H : (some t113) = some r := H
  have A2 := Aside0.mk A20
  clear A20
  obtain rfl := Option.some.inj H
  go_enter Try.func13, Try.ntmps13
  go_wp2_with (first | ((with_reducible refine gate_callee (f := 14) rfl ?_); refine goesL_ (some 4) rfl rfl Try.func14 (by kernel_rfl) rfl #[.slice A0 l0.length c0] rfl (by (try simp only [List.map_toArray, List.map_cons, List.map_nil]); first | done | rfl | (simp only [List.length_drop, List.length_take]; rfl)) ?_; (with_reducible refine (dbus_formatMatchOptions.calls k _ _ l0 t113 _ ?side1 ?side2 A2.out).mono ?_); (case side1 => repeat (first | exact HR0.out | (with_reducible refine Kd.C_alloc ?_ _) | (with_reducible refine Kd.C_drewN ?_ _) | (with_reducible refine Kd.C_drew ?_))); (case side2 => exact HC0.out); rintro e w3 ⟨rfl, hb⟩; refine ⟨_, rfl, ?_⟩; have n0_ := Aside0.mk (below_step (by repeat (first | (with_reducible first | exact HB.out | apply below_alloc | apply pw_below_drewN | apply below_drew1) | exact HB.out)) hb); clear HB; have HB := n0_; clear n0_; (try clear hb); (try clear hb2); (try clear hk); (try clear hi)))
  go_ret
  exact ⟨by first | rfl | (simp [errW_none, errW_some] <;> rfl) | (simp [*, errW_none, errW_some] <;> rfl) | (simp (disch := omega) only [wrap64_id] <;> rfl), by repeat (first | (with_reducible first | exact HB.out | apply below_alloc | apply pw_below_drewN | apply below_drew1) | exact HB.out)⟩

/-! ### impl_MtRule: function 7 -/
def impl_MtRule.l0 : Nat → List (S37) → List (S28) → Int → Int → Option (ByteArray)
  | 0, _, _, _, _ => none
  | k + 1, x3, x6, x7, x8 => if x8 < x7 then (if 0 ≤ x8 then (if x8 < (x6.length : Int) then ((dbus_WithMatchOption.f ((rd_T28 x6 x8).f0) ((rd_T28 x6 x8).f1)).bind fun bt116 => (if x3.length < 4398046511104 then (impl_MtRule.l0 k (x3 ++ [(⟨bt116.1, bt116.2⟩ : S37)]) x6 x7 (wrap64 (x8 + 1))) else (none))) else (none)) else (none)) else ((dbus_DoorRule.f k x3).bind fun t121 => (some t121))
def impl_MtRule.f (k : Nat) (l0 : List (S28)) : Option (ByteArray) := impl_MtRule.l0 k ([] : List (S37)) l0 (l0.length : Int) 0
theorem impl_MtRule.mono_l : ∀ k, (∀ y0 y1 y2 y3, LeO (impl_MtRule.l0 k y0 y1 y2 y3) (impl_MtRule.l0 (k + 1) y0 y1 y2 y3))
  | 0 => fun _ _ _ _ r h => by simp [impl_MtRule.l0] at h
  | k + 1 => by
    have ih0 := impl_MtRule.mono_l k
    · intro y0 y1 y2 y3
      unfold impl_MtRule.l0
      repeat' first
      | (with_reducible exact ih0 _ _ _ _)
      | (with_reducible exact dbus_DoorRule.mono _ _)
      | (with_reducible exact LeO.refl _)
      | (with_reducible exact LeO.none _)
      | (with_reducible refine LeO.ite ?_ ?_)
      | (with_reducible refine LeO.bind ?_ (fun _ => ?_))
      | exact ih0 _ _ _ _
      | exact dbus_DoorRule.mono _ _
      | exact LeO.none _
      | refine LeO.ite ?_ ?_
      | refine LeO.bind ?_ (fun _ => ?_)
theorem impl_MtRule.mono : ∀ a0 k, LeO (impl_MtRule.f k a0) (impl_MtRule.f (k + 1) a0) := by
  intro a0 k
  have ih0 := impl_MtRule.mono_l k
  unfold impl_MtRule.f
  repeat' first
      | (with_reducible exact ih0 _ _ _ _)
      | (with_reducible exact dbus_DoorRule.mono _ _)
      | (with_reducible exact LeO.refl _)
      | (with_reducible exact LeO.none _)
      | (with_reducible refine LeO.ite ?_ ?_)
      | (with_reducible refine LeO.bind ?_ (fun _ => ?_))
      | exact ih0 _ _ _ _
      | exact dbus_DoorRule.mono _ _
      | exact LeO.none _
      | refine LeO.ite ?_ ?_
      | refine LeO.bind ?_ (fun _ => ?_)
set_option maxHeartbeats 8000000 in
set_option maxRecDepth 100000 in
theorem impl_MtRule.calls (k : Nat) (A0 : Option Addr) (c0 : Nat) (l0 : List (S28)) (r : ByteArray) (w : World) (hr0 : Kd.C k28 w A0 l0.length l0) (hc0 : l0.length ≤ c0) (h : impl_MtRule.f k l0 = some r) :
    Calls Try.prog 7 #[.slice A0 l0.length c0] w fun e w' => e = .returned (.string r) ∧ Below w.heap.size w w' := by
  have hu28 := Try.underlying28
  have HR0 := Aside0.mk hr0
  have HC0 := Aside0.mk hc0
  clear hr0 hc0
  have HB := Aside0.mk (Below.refl w.heap.size w)
  have H : (impl_MtRule.l0 k ([] : List (S37)) l0 (l0.length : Int) 0) = some r := h
  clear h
  have H' := Aside0.mk H
  clear H
  go_enter Try.func7, Try.ntmps7
  go_wp2
  go_loopg [3, 8] k (fun kq v3 v8 w' => ∃ (x3_1 : List (S37)) (x8_1 : Int), v8 = .int .i64 x8_1 ∧ Aside0 (impl_MtRule.l0 kq x3_1 l0 (l0.length : Int) x8_1 = some r) ∧ Aside0 (kq ≤ k) ∧ Aside0 (Kd.R k37 37 w' w.heap.size (fun _ => True) v3 x3_1) ∧ Aside0 (Below w.heap.size w w'))
  case atStart => exact ⟨(([] : List (S37))), (0), (by first | rfl | (simp; done) | (simp [*]; done)), H', ⟨Nat.le_refl _⟩, ⟨by first | exact Kd.R_nil _ _ _ _ _ | exact Kd.N_nil _ _ _ _ _ | exact Kd.V_nil _ _ _ _ _ | exact Kd.Q_nil _ _ _ _ _ | exact Kd.S_nil _ _ _ _ _⟩, ⟨by repeat (first | (with_reducible first | exact HB.out | apply below_alloc | apply pw_below_drewN | apply below_drew1) | exact HB.out)⟩⟩
  case round =>
    clear H'
    obtain ⟨x3_1, x8_1, rfl, HA, HK1, HO_3, HB⟩ := hrel
    cases gk with
    | zero => exact absurd HA.out (by simp [impl_MtRule.l0])
    | succ k1 =>
      have H := HA.out
      clear HA
      simp only [impl_MtRule.l0] at H
      by_cases c2 : x8_1 < (l0.length : Int)
      · rw [if_pos c2] at H
        have c2b0 : decide (x8_1 < (l0.length : Int)) = true := decide_eq_true c2
        clear c2
        by_cases c3 : 0 ≤ x8_1
        · rw [if_pos c3] at H
          have c3b0 : decide (0 ≤ x8_1) = true := decide_eq_true c3
          clear c3
          by_cases c4 : x8_1 < (l0.length : Int)
          · rw [if_pos c4] at H
            have c4b0 : decide (x8_1 < (l0.length : Int)) = true := decide_eq_true c4
            clear c4
            replace H := Option.bind_eq_some_iff.mp H
            obtain ⟨⟨t116, t117⟩, A50, H⟩ := H
            replace H : (if x3_1.length < 4398046511104 then (impl_MtRule.l0 k1 (x3_1 ++ [(⟨t116, t117⟩ : S37)]) l0 (l0.length : Int) (wrap64 (x8_1 + 1))) else (none)) = some r := H
            have A5 := Aside0.mk A50
            clear A50
            by_cases c6 : x3_1.length < 4398046511104
            · rw [if_pos c6] at H
              have LMc6 := Aside0.mk c6
              clear c6
              obtain ⟨y118, hy118⟩ : ∃ y_ : List (S37), y_ = (x3_1 ++ [(⟨t116, t117⟩ : S37)]) := ⟨_, rfl⟩
              replace H : (impl_MtRule.l0 k1 y118 l0 (l0.length : Int) (wrap64 (x8_1 + 1))) = some r := by first | (rw [hy118]; with_reducible exact H) | (have H2_ := (Option.bind_some _ _).symm.trans H; rw [hy118]; with_reducible exact H2_) | (have H2_ := (Option.bind_some _ _).symm.trans H; with_reducible exact H2_) | with_reducible exact H | (rw [hy118]; exact H) | exact H
              have Ny118 := Aside0.mk hy118
              clear hy118
              have H' := Aside0.mk H
              clear H
              have p114 : 0 ≤ (x8_1 : Int) := of_decide_eq_true (by first | (with_reducible assumption) | assumption)
              have q114 : x8_1 < (l0.length : Int) := of_decide_eq_true (by first | (with_reducible assumption) | assumption)
              obtain ⟨ad114, e114, hx114_0, hx114_1⟩ := at_T28 HR0.out x8_1 p114 q114
              cases e114
              replace hx114_0 := (HB.out.cell (World.block_lt_of_cell? w _ hx114_0)).trans hx114_0
              replace hx114_1 := (HB.out.cell (World.block_lt_of_cell? w _ hx114_1)).trans hx114_1
              replace p114 := eq_true p114
              replace q114 := eq_true q114
              go_wp2_with (first | ((with_reducible refine gate_dst (N := 5) rfl ?_); refine box_event ?hg (N := 5) ?hd (cs := #[.string (⟨#[]⟩ : ByteArray), .string (⟨#[]⟩ : ByteArray)]) (t := 28) ?hr ?_; (case hd => rfl); (case hg => rfl); (case hr => first | (go_simp; done) | (go_simp; rfl)); intro gb115 hg w7 hbox hb; have n0_ := Aside0.mk (Kd.R_below (by (with_reducible repeat (first | apply Kd.R_alloc | apply Kd.R_drewN | apply Kd.R_drew)); exact HO_3.out) hb); have n1_ := Aside0.mk (below_step (by repeat (first | (with_reducible first | exact HB.out | apply below_alloc | apply pw_below_drewN | apply below_drew1) | exact HB.out)) hb); have n2_ := Aside0.mk (hbox); have n3_ := Aside0.mk ((by rw [hg]; exact (below_size (by repeat (first | (with_reducible first | exact HB.out | apply below_alloc | apply pw_below_drewN | apply below_drew1) | exact HB.out))) : w.heap.size ≤ gb115)); have n4_ := Aside0.mk ((by rw [hg]; exact (below_size (by repeat (first | (with_reducible first | exact HB.out | apply below_alloc | apply pw_below_drewN | apply below_drew1) | exact HB.out))) : w.heap.size ≤ gb115)); clear HO_3; clear HB; have HO_3 := n0_; have HB := n1_; have BK115 := n2_; have GW115 := n3_; have GE115 := n4_; clear n0_ n1_ n2_ n3_ n4_; clear hb hbox hg; have hcz8_0 : w7.cell? ⟨gb115, 0, none⟩ = some (.string (⟨#[]⟩ : ByteArray)) := (blk_cell BK115.out 0).trans rfl; have hcz8_1 : w7.cell? ⟨gb115, 1, none⟩ = some (.string (⟨#[]⟩ : ByteArray)) := (blk_cell BK115.out 1).trans rfl; have hfz8_0 := blk_frozen BK115.out 0; have hfz8_1 := blk_frozen BK115.out 1) | ((with_reducible refine gate_callee (f := 12) rfl ?_); refine goesL_ (some 17) rfl rfl Try.func12 (by kernel_rfl) rfl #[.string ((rd_T28 l0 x8_1).f0), .string ((rd_T28 l0 x8_1).f1)] rfl (by (try simp only [List.map_toArray, List.map_cons, List.map_nil]); first | done | rfl | (simp only [List.length_drop, List.length_take]; rfl)) ?_; (with_reducible refine (dbus_WithMatchOption.calls ((rd_T28 l0 x8_1).f0) ((rd_T28 l0 x8_1).f1) t116 t117 _ A5.out).mono ?_); rintro e w9 ⟨rfl, hb⟩; refine ⟨_, rfl, ?_⟩; have n0_ := Aside0.mk (Kd.R_below (by (with_reducible repeat (first | apply Kd.R_alloc | apply Kd.R_drewN | apply Kd.R_drew)); exact (Kd.R_mono (Kd.R_far (p := ⟨gb115, 1, none⟩) (Kd.R_far (p := ⟨gb115, 0, none⟩) (Kd.R_types HO_3.out BK115.out (by decide)) (fun _ hk => hk.2) (.string ((rd_T28 l0 x8_1).f0))) (fun _ hk => hk.2) (.string ((rd_T28 l0 x8_1).f1))) (fun _ h_ => h_.1))) hb); have n1_ := Aside0.mk (blk_below (g := gb115) (o := .cells #[.string ((rd_T28 l0 x8_1).f0), .string ((rd_T28 l0 x8_1).f1)] 28 (0, 0)) (by (with_reducible repeat (first | refine blk_drewN ?_ _ | refine blk_drew ?_ | refine blk_alloc ?_ _)); refine blk_put (cs := #[.string ((rd_T28 l0 x8_1).f0), .string (⟨#[]⟩ : ByteArray)]) ?_ 1 _ rfl; (with_reducible repeat (first | refine blk_drewN ?_ _ | refine blk_drew ?_ | refine blk_alloc ?_ _)); refine blk_put (cs := #[.string (⟨#[]⟩ : ByteArray), .string (⟨#[]⟩ : ByteArray)]) ?_ 0 _ rfl; (with_reducible repeat (first | refine blk_drewN ?_ _ | refine blk_drew ?_ | refine blk_alloc ?_ _)); exact BK115.out) hb); have n2_ := Aside0.mk (below_step (by repeat (first | (with_reducible first | exact HB.out | apply below_alloc | apply pw_below_drewN | apply below_drew1 | refine below_set ?_ GE115.out) | exact HB.out)) hb); clear HO_3; clear BK115; clear HB; have HO_3 := n0_; have BK115 := n1_; have HB := n2_; clear n0_ n1_ n2_; (try clear hb); (try clear hb2); (try clear hk); (try clear hi)) | ((with_reducible refine gate_builtin (b := .append) (xs := #[.tmp 12, .tmp 18]) rfl ?_); at_builtin; refine Kd.R_append k37 (w0 := w) w.heap.size rfl (.tmp 12) (.tmp 18) 35 37 (.agg #[(.string ⟨#[]⟩), (.string ⟨#[]⟩)]) 32 rfl Try.underlying35 info37 rfl (by decide) (by omega) u3 x3_1 (⟨t116, t117⟩ : S37) [.string t116, .string t117] (fun _ => True) (fun _ => False) rfl rfl ?aP (fun _ hk => hk.elim) ?aF ?aO ?aB ?aS ?aL ?_; (case aP => exact k37_mkM _ _ _ (⟨t116, t117⟩ : S37)); (case aB => exact (by repeat (first | (with_reducible first | exact HB.out | apply below_alloc | apply pw_below_drewN | apply below_drew1 | refine below_set ?_ GE115.out) | exact HB.out))); (case aF => exact (fun _ _ => trivial)); (case aO => exact (by (with_reducible repeat (first | apply Kd.R_alloc | apply Kd.R_drewN | apply Kd.R_drew)); exact HO_3.out)); (case aS => exact (below_size (by repeat (first | (with_reducible first | exact HB.out | apply below_alloc | apply pw_below_drewN | apply below_drew1 | refine below_set ?_ GE115.out) | exact HB.out)))); (case aL => have := LMc6.out; omega); intro v119 w10 ho hb hg hat; rw [← Ny118.out] at ho; have n0_ := Aside0.mk (blk_grown (g := gb115) (o := .cells #[.string ((rd_T28 l0 x8_1).f0), .string ((rd_T28 l0 x8_1).f1)] 28 (0, 0)) (by (with_reducible repeat (first | refine blk_drewN ?_ _ | refine blk_drew ?_ | refine blk_alloc ?_ _)); exact BK115.out) hg (Kd.R_ne HO_3.out BK115.out (by decide))); have n1_ := Aside0.mk (hb); have n2_ := Aside0.mk (ho); clear BK115; clear HB; clear HO_3; have BK115 := n0_; have HB := n1_; have HO120 := n2_; clear n0_ n1_ n2_; clear ho hb hg hat))
              go_roundg k1
              case measure => have := HK1.out; omega
              case rel => exact ⟨(y118), (wrap64 (x8_1 + 1)), (by first | rfl | (simp; done) | (simp [*]; done)), H', ⟨by have := HK1.out; omega⟩, ⟨by (with_reducible repeat (first | apply Kd.R_alloc | apply Kd.R_drewN | apply Kd.R_drew)); exact HO120.out⟩, ⟨by repeat (first | (with_reducible first | exact HB.out | apply below_alloc | apply pw_below_drewN | apply below_drew1 | refine below_set ?_ GE115.out) | exact HB.out)⟩⟩
            · rw [if_neg c6] at H
              exact absurd H (by simp)
          · rw [if_neg c4] at H
            exact absurd H (by simp)
        · rw [if_neg c3] at H
          exact absurd H (by simp)
      · rw [if_neg c2] at H
        have c2b0 : decide (x8_1 < (l0.length : Int)) = false := decide_eq_false c2
        clear c2
        replace H := Option.bind_eq_some_iff.mp H
        obtain ⟨t121, A110, H⟩ := H
        replace H : (some t121) = some r := H
        have A11 := Aside0.mk A110
        clear A110
        obtain rfl := Option.some.inj H
        obtain ⟨Ao12, co12, eo12⟩ := Kd.R_slice HO_3.out
        subst eo12
        go_wp2_with (first | ((with_reducible refine gate_callee (f := 13) rfl ?_); refine goesL_ (some 22) rfl rfl Try.func13 (by kernel_rfl) rfl #[.slice Ao12 x3_1.length co12] rfl (by (try simp only [List.map_toArray, List.map_cons, List.map_nil]); first | done | rfl | (simp only [List.length_drop, List.length_take]; rfl)) ?_; (with_reducible refine (dbus_DoorRule.calls k1 _ _ x3_1 t121 _ ?side1 ?side2 A11.out).mono ?_); (case side1 => repeat (first | exact (Kd.R_reads' HO_3.out).2.2 | (with_reducible refine Kd.C_alloc ?_ _) | (with_reducible refine Kd.C_drewN ?_ _) | (with_reducible refine Kd.C_drew ?_))); (case side2 => exact (Kd.R_reads' HO_3.out).2.1); rintro e w13 ⟨rfl, hb⟩; refine ⟨_, rfl, ?_⟩; have n0_ := Aside0.mk (Kd.R_below (by (with_reducible repeat (first | apply Kd.R_alloc | apply Kd.R_drewN | apply Kd.R_drew)); exact HO_3.out) hb); have n1_ := Aside0.mk (below_step (by repeat (first | (with_reducible first | exact HB.out | apply below_alloc | apply pw_below_drewN | apply below_drew1) | exact HB.out)) hb); clear HO_3; clear HB; have HO_3 := n0_; have HB := n1_; clear n0_ n1_; (try clear hb); (try clear hb2); (try clear hk); (try clear hi)))
        go_ret
        exact ⟨by first | rfl | (simp [errW_none, errW_some] <;> rfl) | (simp [*, errW_none, errW_some] <;> rfl) | (simp (disch := omega) only [wrap64_id] <;> rfl), by repeat (first | (with_reducible first | exact HB.out | apply below_alloc | apply pw_below_drewN | apply below_drew1) | exact HB.out)⟩

end Go.Proofs.Ytbemkokigpcmdaa.MFnMtRuleDrop
