-- Written by a program of this session (myprint.py, out of the translation). Not trusted: Lean checks it.
import Derived.Test.YtfipimoemhbnlaaMFnSgEntryx0
import Derived.Test.YtfipimoemhbnlaaMFnSgEntryx1
import Derived.Test.YtfipimoemhbnlaaMFnSgEntryx2
import Derived.Test.YtfipimoemhbnlaaMFnSgEntryx4
import Derived.Test.YtfipimoemhbnlaaMFnSgEntryx8
namespace Go.Proofs.Ytfipimoemhbnlaa.MFnSgEntry
open Go.RowKit Go.Proofs.YtfipimoemhbnlaaW.PrintWords Go.Proofs.YtfipimoemhbnlaaW.PrintLast Go.Proofs.YtfipimoemhbnlaaW.PrintMore
attribute [local go_sem] max2_int min2_int max_two min_two max_three min_three max_four min_four   -- for this text's walks alone
set_option linter.unusedVariables false
set_option linter.unusedSimpArgs false

/-! ### dbus_Signature_String: function 20 -/
def dbus_Signature_String.f (a0_0 : ByteArray) : Option (ByteArray) := some a0_0
set_option maxHeartbeats 8000000 in
set_option maxRecDepth 100000 in
theorem dbus_Signature_String.calls (a0_0 : ByteArray) (r : ByteArray) (w : World) (h : dbus_Signature_String.f a0_0 = some r) :
    Calls Try.prog 20 #[.agg #[.string a0_0]] w fun e w' => e = .returned (.string r) ∧ Below w.heap.size w w' := by
  have hu42 := Try.underlying42
  have HB := Aside0.mk (Below.refl w.heap.size w)
  have H : (some a0_0) = some r := h
  clear h
  obtain rfl := Option.some.inj H
  go_enter Try.func20, Try.ntmps20
  go_wp2_with (first | ((with_reducible refine gate_dst (N := 1) rfl ?_); refine box_event ?hg (N := 1) ?hd (cs := #[.string a0_0]) (t := 42) ?hr ?_; (case hd => rfl); (case hg => rfl); (case hr => first | (go_simp; done) | (go_simp; rfl)); intro gb136 hg w2 hbox hb; have n0_ := Aside0.mk (below_step (by repeat (first | (with_reducible first | exact HB.out | apply below_alloc | apply pw_below_drewN | apply below_drew1) | exact HB.out)) hb); have n1_ := Aside0.mk (hbox); have n2_ := Aside0.mk ((by rw [hg]; exact (below_size (by repeat (first | (with_reducible first | exact HB.out | apply below_alloc | apply pw_below_drewN | apply below_drew1) | exact HB.out))) : w.heap.size ≤ gb136)); have n3_ := Aside0.mk ((by rw [hg]; exact (below_size (by repeat (first | (with_reducible first | exact HB.out | apply below_alloc | apply pw_below_drewN | apply below_drew1) | exact HB.out))) : w.heap.size ≤ gb136)); clear HB; have HB := n0_; have BK136 := n1_; have GW136 := n2_; have GE136 := n3_; clear n0_ n1_ n2_ n3_; clear hb hbox hg; have hcz3_0 : w2.cell? ⟨gb136, 0, none⟩ = some (.string a0_0) := (blk_cell BK136.out 0).trans rfl; have hfz3_0 := blk_frozen BK136.out 0))
  go_ret
  exact ⟨by first | rfl | (simp [errW_none, errW_some] <;> rfl) | (simp [*, errW_none, errW_some] <;> rfl) | (simp (disch := omega) only [wrap64_id] <;> rfl), by repeat (first | (with_reducible first | exact HB.out | apply below_alloc | apply pw_below_drewN | apply below_drew1 | refine below_set ?_ GE136.out) | exact HB.out)⟩

/-! ### impl_SgParse: function 13 -/
def impl_SgParse.f (k : Nat) (a0 : ByteArray) : Option (ByteArray × Bool) := (dbus_ParseSignature.f k a0).bind fun bt137 => ((dbus_Signature_String.f bt137.1).bind fun t140 => (if bt137.2.isNone = true then (some (t140, true)) else (some (t140, false))))
theorem impl_SgParse.mono : ∀ a0 k, LeO (impl_SgParse.f k a0) (impl_SgParse.f (k + 1) a0) := by
  intro a0 k
  unfold impl_SgParse.f
  repeat' first
      | (with_reducible exact dbus_ParseSignature.mono _ _)
      | (with_reducible exact LeO.refl _)
      | (with_reducible exact LeO.none _)
      | (with_reducible refine LeO.ite ?_ ?_)
      | (with_reducible refine LeO.bind ?_ (fun _ => ?_))
      | exact dbus_ParseSignature.mono _ _
      | exact LeO.none _
      | refine LeO.ite ?_ ?_
      | refine LeO.bind ?_ (fun _ => ?_)
set_option maxHeartbeats 8000000 in
set_option maxRecDepth 100000 in
theorem impl_SgParse.calls (k : Nat) (a0 : ByteArray) (r1 : ByteArray) (r2 : Bool) (w : World) (h : impl_SgParse.f k a0 = some (r1, r2)) :
    Calls Try.prog 13 #[.string a0] w fun e w' => e = .returned (.tuple #[.string r1, .bool r2]) ∧ Below w.heap.size w w' := by
  have hu42 := Try.underlying42
  have hu44 := Try.underlying44
  have HB := Aside0.mk (Below.refl w.heap.size w)
  have H : ((dbus_ParseSignature.f k a0).bind fun bt137 => ((dbus_Signature_String.f bt137.1).bind fun t140 => (if bt137.2.isNone = true then (some (t140, true)) else (some (t140, false))))) = some (r1, r2) := h
  clear h
  replace H := Option.bind_eq_some_iff.mp H
  obtain ⟨⟨t137, t138⟩, A20, H⟩ := H
  replace H : ((dbus_Signature_String.f t137).bind fun t140 => (if t138.isNone = true then (some (t140, true)) else (some (t140, false)))) = some (r1, r2) := H
  have A2 := Aside0.mk A20
  clear A20
  replace H := Option.bind_eq_some_iff.mp H
  obtain ⟨t140, A30, H⟩ := H
  replace H : (if t138.isNone = true then (some (t140, true)) else (some (t140, false))) = some (r1, r2) := H
  have A3 := Aside0.mk A30
  clear A30
  rcases t138 with _ | q141
  · have H1 : (some (t140, true)) = some (r1, r2) := by rw [if_pos (show (none : Option (TypeId × Value)).isNone = true by rfl)] at H; exact H
    clear H
    have H := H1
    clear H1
    try simp only [errW_none, errW_some]
    simp only [Option.some.injEq, Prod.mk.injEq] at H
    obtain ⟨rfl, rfl⟩ := H
    go_enter Try.func13, Try.ntmps13
    try go_wp2_with (first | ((with_reducible refine gate_callee (f := 19) rfl ?_); refine goesL_ (some 8) rfl rfl Try.func19 (by kernel_rfl) rfl #[.string a0] rfl (by (try simp only [List.map_toArray, List.map_cons, List.map_nil]); first | done | rfl | (simp only [List.length_drop, List.length_take]; rfl)) ?_; (with_reducible refine (dbus_ParseSignature.calls k a0 t137 none _ A2.out).mono ?_); rintro e w4 ⟨rfl, hb⟩; refine ⟨_, rfl, ?_⟩; have n0_ := Aside0.mk (below_step (by repeat (first | (with_reducible first | exact HB.out | apply below_alloc | apply pw_below_drewN | apply below_drew1) | exact HB.out)) hb); clear HB; have HB := n0_; clear n0_; (try clear hb); (try clear hb2); (try clear hk); (try clear hi); (try simp only [errW_none, errW_some])) | ((with_reducible refine gate_dst (N := 4) rfl ?_); refine box_event ?hg (N := 4) ?hd (cs := #[.string (⟨#[]⟩ : ByteArray)]) (t := 42) ?hr ?_; (case hd => rfl); (case hg => rfl); (case hr => first | (go_simp; done) | (go_simp; rfl)); intro gb139 hg w5 hbox hb; have n0_ := Aside0.mk (below_step (by repeat (first | (with_reducible first | exact HB.out | apply below_alloc | apply pw_below_drewN | apply below_drew1) | exact HB.out)) hb); have n1_ := Aside0.mk (hbox); have n2_ := Aside0.mk ((by rw [hg]; exact (below_size (by repeat (first | (with_reducible first | exact HB.out | apply below_alloc | apply pw_below_drewN | apply below_drew1) | exact HB.out))) : w.heap.size ≤ gb139)); have n3_ := Aside0.mk ((by rw [hg]; exact (below_size (by repeat (first | (with_reducible first | exact HB.out | apply below_alloc | apply pw_below_drewN | apply below_drew1) | exact HB.out))) : w.heap.size ≤ gb139)); clear HB; have HB := n0_; have BK139 := n1_; have GW139 := n2_; have GE139 := n3_; clear n0_ n1_ n2_ n3_; clear hb hbox hg; have hcz6_0 : w5.cell? ⟨gb139, 0, none⟩ = some (.string (⟨#[]⟩ : ByteArray)) := (blk_cell BK139.out 0).trans rfl; have hfz6_0 := blk_frozen BK139.out 0))
    have n0_ : Aside0 ((w5.setCell ⟨gb139, 0, none⟩ (.string t137)).heap[gb139]? = some (.cells #[.string t137] 42 (0, 0))) := ⟨by (with_reducible repeat (first | refine blk_drewN ?_ _ | refine blk_drew ?_ | refine blk_alloc ?_ _)); refine blk_put (cs := #[.string (⟨#[]⟩ : ByteArray)]) ?_ 0 _ rfl; (with_reducible repeat (first | refine blk_drewN ?_ _ | refine blk_drew ?_ | refine blk_alloc ?_ _)); exact BK139.out⟩
    have n1_ : Aside0 (Below w.heap.size w (w5.setCell ⟨gb139, 0, none⟩ (.string t137))) := ⟨by repeat (first | (with_reducible first | exact HB.out | apply below_alloc | apply pw_below_drewN | apply below_drew1 | refine below_set ?_ GE139.out) | exact HB.out)⟩
    (try clear BK139)
    (try clear HB)
    generalize (w5.setCell ⟨gb139, 0, none⟩ (.string t137)) = w7 at n0_ n1_ ⊢
    have BK139 := n0_
    have HB := n1_
    clear n0_ n1_
    have n0_ := Aside0.mk (blk_drew BK139.out)
    have n1_ := Aside0.mk (below_drew1 HB.out)
    clear BK139
    clear HB
    have BK139 := n0_
    have HB := n1_
    clear n0_ n1_
    refine start_ (n := 6) (S := fun w' => w'.cell? ⟨gb139, 0, none⟩ = some (.string t137)) (ds := []) #[false, false, false, false, false, false] (by kernel_rfl) rfl rfl ((blk_cell BK139.out 0).trans rfl) (fun hHeld => ?_)
    generalize w7.drew = w8 at BK139 HB hHeld ⊢
    refine pure_ (i := 2) (N := some 13) (v := ?_) (a' := ?_) #[false, false, true, false, false, false] rfl rfl (by kernel_rfl) (fun _ _ _ h => h) (Or.inl ⟨by rfl, ?_⟩) ?_ ?_
    rotate_left
    · intro w'
      go_simp
      with_reducible rfl
    rotate_left
    · simp only [Act.put, List.setIfInBounds_toArray, List.set_cons_zero, List.set_cons_succ, i64_w, i32_w]
      rfl
    refine pure_ (i := 3) (N := some 14) (v := ?_) (a' := ?_) #[false, false, true, true, false, false] rfl rfl (by kernel_rfl) (fun _ _ _ h => h) (Or.inl ⟨by rfl, ?_⟩) ?_ ?_
    rotate_left
    · intro w'
      go_simp
      with_reducible rfl
    rotate_left
    · simp only [Act.put, List.setIfInBounds_toArray, List.set_cons_zero, List.set_cons_succ, i64_w, i32_w]
      rfl
    refine take_ (i := 0) (N := some 11) (v := ?_) (a' := ?_) #[true, false, true, true, false, false] rfl rfl (by kernel_rfl) (fun _ _ _ h => h) (Or.inl ⟨by rfl, ?_⟩) hHeld ?_ ?_
    rotate_left
    · intro w' s0
      go_simp
      with_reducible rfl
    rotate_left
    · simp only [Act.put, List.setIfInBounds_toArray, List.set_cons_zero, List.set_cons_succ, i64_w, i32_w]
      rfl
    refine one_ (i := 1) (N := some 12) #[true, true, true, true, false, false] rfl rfl (by kernel_rfl) (by decide) (fun K hK => ?_)
    refine goes_ Try.func20 (by kernel_rfl) rfl #[.agg #[.string t137]] (by rfl) rfl rfl (by (try simp only [List.map_toArray, List.map_cons, List.map_nil]); first | done | rfl | (simp only [List.length_drop, List.length_take]; rfl)) ?_
    with_reducible refine (dbus_Signature_String.calls t137 t140 _ A3.out).mono ?_
    rintro e w9 ⟨rfl, hb⟩
    refine ⟨_, rfl, ?_⟩
    have n0_ := Aside0.mk (blk_below (g := gb139) (o := .cells #[.string t137] 42 (0, 0)) (by (with_reducible repeat (first | refine blk_drewN ?_ _ | refine blk_drew ?_ | refine blk_alloc ?_ _)); exact BK139.out) hb)
    have n1_ := Aside0.mk (below_step (by repeat (first | (with_reducible first | exact HB.out | apply below_alloc | apply pw_below_drewN | apply below_drew1 | refine below_set ?_ GE139.out) | exact HB.out)) hb)
    clear BK139
    clear HB
    have BK139 := n0_
    have HB := n1_
    clear n0_ n1_
    (try clear hb)
    (try clear hb2)
    (try clear hk)
    (try clear hi)
    refine hK.out _ _ ((blk_cell BK139.out 0).trans rfl) (fun hHeld => ?_)
    clear hK K
    refine norm_ (a' := ?_) ?_ ?_
    rotate_left
    · show Act.put _ (some 12) _ = _
      simp only [Act.put, List.setIfInBounds_toArray, List.set_cons_zero, List.set_cons_succ, i64_w, i32_w]
      rfl
    refine pure_ (i := 4) (N := some 2) (v := ?_) (a' := ?_) #[true, true, true, true, true, false] rfl rfl (by kernel_rfl) (fun _ _ _ h => h) (Or.inl ⟨by rfl, ?_⟩) ?_ ?_
    rotate_left
    · intro w'
      go_simp
      with_reducible rfl
    rotate_left
    · simp only [Act.put, List.setIfInBounds_toArray, List.set_cons_zero, List.set_cons_succ, i64_w, i32_w]
      rfl
    refine pure_ (i := 5) (N := some 3) (v := ?_) (a' := ?_) #[true, true, true, true, true, true] rfl rfl (by kernel_rfl) (fun _ _ _ h => h) (Or.inl ⟨by rfl, ?_⟩) ?_ ?_
    rotate_left
    · intro w'
      go_simp
      with_reducible rfl
    rotate_left
    · simp only [Act.put, List.setIfInBounds_toArray, List.set_cons_zero, List.set_cons_succ, i64_w, i32_w]
      rfl
    refine done_ (by kernel_rfl) ?_
    try go_wp2
    go_ret2
    exact ⟨by first | rfl | (simp [errW_none, errW_some] <;> rfl) | (simp [*, errW_none, errW_some] <;> rfl) | (simp (disch := omega) only [wrap64_id] <;> rfl), by repeat (first | (with_reducible first | exact HB.out | apply below_alloc | apply pw_below_drewN | apply below_drew1 | refine below_set ?_ GE139.out) | exact HB.out)⟩
  · have H1 : (some (t140, false)) = some (r1, r2) := by rw [if_neg (show ¬ (some q141).isNone = true by simp)] at H; exact H
    clear H
    have H := H1
    clear H1
    try simp only [errW_none, errW_some]
    simp only [Option.some.injEq, Prod.mk.injEq] at H
    obtain ⟨rfl, rfl⟩ := H
    go_enter Try.func13, Try.ntmps13
    try go_wp2_with (first | ((with_reducible refine gate_callee (f := 19) rfl ?_); refine goesL_ (some 8) rfl rfl Try.func19 (by kernel_rfl) rfl #[.string a0] rfl (by (try simp only [List.map_toArray, List.map_cons, List.map_nil]); first | done | rfl | (simp only [List.length_drop, List.length_take]; rfl)) ?_; (with_reducible refine (dbus_ParseSignature.calls k a0 t137 (some q141) _ A2.out).mono ?_); rintro e w10 ⟨rfl, hb⟩; refine ⟨_, rfl, ?_⟩; have n0_ := Aside0.mk (below_step (by repeat (first | (with_reducible first | exact HB.out | apply below_alloc | apply pw_below_drewN | apply below_drew1) | exact HB.out)) hb); clear HB; have HB := n0_; clear n0_; (try clear hb); (try clear hb2); (try clear hk); (try clear hi); (try simp only [errW_none, errW_some])) | ((with_reducible refine gate_dst (N := 4) rfl ?_); refine box_event ?hg (N := 4) ?hd (cs := #[.string (⟨#[]⟩ : ByteArray)]) (t := 42) ?hr ?_; (case hd => rfl); (case hg => rfl); (case hr => first | (go_simp; done) | (go_simp; rfl)); intro gb139 hg w11 hbox hb; have n0_ := Aside0.mk (below_step (by repeat (first | (with_reducible first | exact HB.out | apply below_alloc | apply pw_below_drewN | apply below_drew1) | exact HB.out)) hb); have n1_ := Aside0.mk (hbox); have n2_ := Aside0.mk ((by rw [hg]; exact (below_size (by repeat (first | (with_reducible first | exact HB.out | apply below_alloc | apply pw_below_drewN | apply below_drew1) | exact HB.out))) : w.heap.size ≤ gb139)); have n3_ := Aside0.mk ((by rw [hg]; exact (below_size (by repeat (first | (with_reducible first | exact HB.out | apply below_alloc | apply pw_below_drewN | apply below_drew1) | exact HB.out))) : w.heap.size ≤ gb139)); clear HB; have HB := n0_; have BK139 := n1_; have GW139 := n2_; have GE139 := n3_; clear n0_ n1_ n2_ n3_; clear hb hbox hg; have hcz12_0 : w11.cell? ⟨gb139, 0, none⟩ = some (.string (⟨#[]⟩ : ByteArray)) := (blk_cell BK139.out 0).trans rfl; have hfz12_0 := blk_frozen BK139.out 0))
    have n0_ : Aside0 ((w11.setCell ⟨gb139, 0, none⟩ (.string t137)).heap[gb139]? = some (.cells #[.string t137] 42 (0, 0))) := ⟨by (with_reducible repeat (first | refine blk_drewN ?_ _ | refine blk_drew ?_ | refine blk_alloc ?_ _)); refine blk_put (cs := #[.string (⟨#[]⟩ : ByteArray)]) ?_ 0 _ rfl; (with_reducible repeat (first | refine blk_drewN ?_ _ | refine blk_drew ?_ | refine blk_alloc ?_ _)); exact BK139.out⟩
    have n1_ : Aside0 (Below w.heap.size w (w11.setCell ⟨gb139, 0, none⟩ (.string t137))) := ⟨by repeat (first | (with_reducible first | exact HB.out | apply below_alloc | apply pw_below_drewN | apply below_drew1 | refine below_set ?_ GE139.out) | exact HB.out)⟩
    (try clear BK139)
    (try clear HB)
    generalize (w11.setCell ⟨gb139, 0, none⟩ (.string t137)) = w13 at n0_ n1_ ⊢
    have BK139 := n0_
    have HB := n1_
    clear n0_ n1_
    have n0_ := Aside0.mk (blk_drew BK139.out)
    have n1_ := Aside0.mk (below_drew1 HB.out)
    clear BK139
    clear HB
    have BK139 := n0_
    have HB := n1_
    clear n0_ n1_
    refine start_ (n := 6) (S := fun w' => w'.cell? ⟨gb139, 0, none⟩ = some (.string t137)) (ds := []) #[false, false, false, false, false, false] (by kernel_rfl) rfl rfl ((blk_cell BK139.out 0).trans rfl) (fun hHeld => ?_)
    generalize w13.drew = w14 at BK139 HB hHeld ⊢
    refine pure_ (i := 2) (N := some 13) (v := ?_) (a' := ?_) #[false, false, true, false, false, false] rfl rfl (by kernel_rfl) (fun _ _ _ h => h) (Or.inl ⟨by rfl, ?_⟩) ?_ ?_
    rotate_left
    · intro w'
      go_simp
      with_reducible rfl
    rotate_left
    · simp only [Act.put, List.setIfInBounds_toArray, List.set_cons_zero, List.set_cons_succ, i64_w, i32_w]
      rfl
    refine pure_ (i := 3) (N := some 14) (v := ?_) (a' := ?_) #[false, false, true, true, false, false] rfl rfl (by kernel_rfl) (fun _ _ _ h => h) (Or.inl ⟨by rfl, ?_⟩) ?_ ?_
    rotate_left
    · intro w'
      go_simp
      with_reducible rfl
    rotate_left
    · simp only [Act.put, List.setIfInBounds_toArray, List.set_cons_zero, List.set_cons_succ, i64_w, i32_w]
      rfl
    refine take_ (i := 0) (N := some 11) (v := ?_) (a' := ?_) #[true, false, true, true, false, false] rfl rfl (by kernel_rfl) (fun _ _ _ h => h) (Or.inl ⟨by rfl, ?_⟩) hHeld ?_ ?_
    rotate_left
    · intro w' s0
      go_simp
      with_reducible rfl
    rotate_left
    · simp only [Act.put, List.setIfInBounds_toArray, List.set_cons_zero, List.set_cons_succ, i64_w, i32_w]
      rfl
    refine one_ (i := 1) (N := some 12) #[true, true, true, true, false, false] rfl rfl (by kernel_rfl) (by decide) (fun K hK => ?_)
    refine goes_ Try.func20 (by kernel_rfl) rfl #[.agg #[.string t137]] (by rfl) rfl rfl (by (try simp only [List.map_toArray, List.map_cons, List.map_nil]); first | done | rfl | (simp only [List.length_drop, List.length_take]; rfl)) ?_
    with_reducible refine (dbus_Signature_String.calls t137 t140 _ A3.out).mono ?_
    rintro e w15 ⟨rfl, hb⟩
    refine ⟨_, rfl, ?_⟩
    have n0_ := Aside0.mk (blk_below (g := gb139) (o := .cells #[.string t137] 42 (0, 0)) (by (with_reducible repeat (first | refine blk_drewN ?_ _ | refine blk_drew ?_ | refine blk_alloc ?_ _)); exact BK139.out) hb)
    have n1_ := Aside0.mk (below_step (by repeat (first | (with_reducible first | exact HB.out | apply below_alloc | apply pw_below_drewN | apply below_drew1 | refine below_set ?_ GE139.out) | exact HB.out)) hb)
    clear BK139
    clear HB
    have BK139 := n0_
    have HB := n1_
    clear n0_ n1_
    (try clear hb)
    (try clear hb2)
    (try clear hk)
    (try clear hi)
    refine hK.out _ _ ((blk_cell BK139.out 0).trans rfl) (fun hHeld => ?_)
    clear hK K
    refine norm_ (a' := ?_) ?_ ?_
    rotate_left
    · show Act.put _ (some 12) _ = _
      simp only [Act.put, List.setIfInBounds_toArray, List.set_cons_zero, List.set_cons_succ, i64_w, i32_w]
      rfl
    refine pure_ (i := 4) (N := some 2) (v := ?_) (a' := ?_) #[true, true, true, true, true, false] rfl rfl (by kernel_rfl) (fun _ _ _ h => h) (Or.inl ⟨by rfl, ?_⟩) ?_ ?_
    rotate_left
    · intro w'
      go_simp
      with_reducible rfl
    rotate_left
    · simp only [Act.put, List.setIfInBounds_toArray, List.set_cons_zero, List.set_cons_succ, i64_w, i32_w]
      rfl
    refine pure_ (i := 5) (N := some 3) (v := ?_) (a' := ?_) #[true, true, true, true, true, true] rfl rfl (by kernel_rfl) (fun _ _ _ h => h) (Or.inl ⟨by rfl, ?_⟩) ?_ ?_
    rotate_left
    · intro w'
      go_simp
      with_reducible rfl
    rotate_left
    · simp only [Act.put, List.setIfInBounds_toArray, List.set_cons_zero, List.set_cons_succ, i64_w, i32_w]
      rfl
    refine done_ (by kernel_rfl) ?_
    try go_wp2
    go_ret2
    exact ⟨by first | rfl | (simp [errW_none, errW_some] <;> rfl) | (simp [*, errW_none, errW_some] <;> rfl) | (simp (disch := omega) only [wrap64_id] <;> rfl), by repeat (first | (with_reducible first | exact HB.out | apply below_alloc | apply pw_below_drewN | apply below_drew1 | refine below_set ?_ GE139.out) | exact HB.out)⟩

/-! ### laws_FnSgEntry: function 3 -/
def laws_FnSgEntry.j0 : Nat → Int → ByteArray → ByteArray → Bool → Option (Bool)
  | 0, _, _, _, _ => none
  | k + 1, x0, x1, x5, x48 => if x48 = true then (some true) else ((spec_Basic.f x0).bind fun t147 => (if t147 = true then ((spec_Single.f k x1).bind fun t148 => (if t148 = true then (if 1 + x1.size ≤ 9223372036854775807 then ((spec_Valid.f k ((⟨#[97]⟩ : ByteArray) ++ x1)).bind fun t149 => ((impl_SgParse.f k x5).bind fun bt150 => ((impl_SgParse.f k (⟨#[97, 123, 121, 121, 125]⟩ : ByteArray)).bind fun bt152 => (if (bt150.2 == t149) = true then (some bt152.2) else (some false))))) else (none)) else ((impl_SgParse.f k x5).bind fun bt154 => ((impl_SgParse.f k (⟨#[97, 123, 121, 121, 125]⟩ : ByteArray)).bind fun bt156 => (if (bt154.2 == false) = true then (some bt156.2) else (some false)))))) else ((impl_SgParse.f k x5).bind fun bt158 => ((impl_SgParse.f k (⟨#[97, 123, 121, 121, 125]⟩ : ByteArray)).bind fun bt160 => (if (bt158.2 == false) = true then (some bt160.2) else (some false))))))
def laws_FnSgEntry.f (k : Nat) (a0 : Int) (a1 : ByteArray) : Option (Bool) := if (a1.size : Int) > 2147483647 then (some true) else ((some (([a0] : List Int) : List Int)).bind fun y142 => (if 2 + (strOfNums y142).size ≤ 9223372036854775807 then (if ((⟨#[97, 123]⟩ : ByteArray) ++ (strOfNums y142)).size + a1.size ≤ 9223372036854775807 then (if (((⟨#[97, 123]⟩ : ByteArray) ++ (strOfNums y142)) ++ a1).size + 1 ≤ 9223372036854775807 then (if (a1.size : Int) > 250 then (laws_FnSgEntry.j0 k a0 a1 ((((⟨#[97, 123]⟩ : ByteArray) ++ (strOfNums y142)) ++ a1) ++ (⟨#[125]⟩ : ByteArray)) true) else ((laws_sgLeft.f k ((((⟨#[97, 123]⟩ : ByteArray) ++ (strOfNums y142)) ++ a1) ++ (⟨#[125]⟩ : ByteArray))).bind fun t145 => (if t145 = true then (laws_FnSgEntry.j0 k a0 a1 ((((⟨#[97, 123]⟩ : ByteArray) ++ (strOfNums y142)) ++ a1) ++ (⟨#[125]⟩ : ByteArray)) true) else ((laws_sgClosed.f k a1).bind fun t146 => (if t146 = true then (if a0 = 40 then (laws_FnSgEntry.j0 k a0 a1 ((((⟨#[97, 123]⟩ : ByteArray) ++ (strOfNums y142)) ++ a1) ++ (⟨#[125]⟩ : ByteArray)) true) else (if a0 = 41 then (laws_FnSgEntry.j0 k a0 a1 ((((⟨#[97, 123]⟩ : ByteArray) ++ (strOfNums y142)) ++ a1) ++ (⟨#[125]⟩ : ByteArray)) true) else (if a0 = 123 then (laws_FnSgEntry.j0 k a0 a1 ((((⟨#[97, 123]⟩ : ByteArray) ++ (strOfNums y142)) ++ a1) ++ (⟨#[125]⟩ : ByteArray)) true) else (laws_FnSgEntry.j0 k a0 a1 ((((⟨#[97, 123]⟩ : ByteArray) ++ (strOfNums y142)) ++ a1) ++ (⟨#[125]⟩ : ByteArray)) (a0 == 125))))) else (laws_FnSgEntry.j0 k a0 a1 ((((⟨#[97, 123]⟩ : ByteArray) ++ (strOfNums y142)) ++ a1) ++ (⟨#[125]⟩ : ByteArray)) true)))))) else (none)) else (none)) else (none)))
theorem laws_FnSgEntry.mono_l : ∀ k, (∀ y0 y1 y2 y3, LeO (laws_FnSgEntry.j0 k y0 y1 y2 y3) (laws_FnSgEntry.j0 (k + 1) y0 y1 y2 y3))
  | 0 => fun _ _ _ _ r h => by simp [laws_FnSgEntry.j0] at h
  | k + 1 => by
    have ih0 := laws_FnSgEntry.mono_l k
    · intro y0 y1 y2 y3
      unfold laws_FnSgEntry.j0
      repeat' first
      | (with_reducible exact ih0 _ _ _ _)
      | (with_reducible exact impl_SgParse.mono _ _)
      | (with_reducible exact laws_sgClosed.mono _ _)
      | (with_reducible exact laws_sgLeft.mono _ _)
      | (with_reducible exact spec_Single.mono _ _)
      | (with_reducible exact spec_Valid.mono _ _)
      | (with_reducible exact LeO.refl _)
      | (with_reducible exact LeO.none _)
      | (with_reducible refine LeO.ite ?_ ?_)
      | (with_reducible refine LeO.bind ?_ (fun _ => ?_))
      | exact ih0 _ _ _ _
      | exact impl_SgParse.mono _ _
      | exact laws_sgClosed.mono _ _
      | exact laws_sgLeft.mono _ _
      | exact spec_Single.mono _ _
      | exact spec_Valid.mono _ _
      | exact LeO.none _
      | refine LeO.ite ?_ ?_
      | refine LeO.bind ?_ (fun _ => ?_)
theorem laws_FnSgEntry.mono : ∀ a0 a1 k, LeO (laws_FnSgEntry.f k a0 a1) (laws_FnSgEntry.f (k + 1) a0 a1) := by
  intro a0 a1 k
  have ih0 := laws_FnSgEntry.mono_l k
  unfold laws_FnSgEntry.f
  repeat' first
      | (with_reducible exact ih0 _ _ _ _)
      | (with_reducible exact impl_SgParse.mono _ _)
      | (with_reducible exact laws_sgClosed.mono _ _)
      | (with_reducible exact laws_sgLeft.mono _ _)
      | (with_reducible exact spec_Single.mono _ _)
      | (with_reducible exact spec_Valid.mono _ _)
      | (with_reducible exact LeO.refl _)
      | (with_reducible exact LeO.none _)
      | (with_reducible refine LeO.ite ?_ ?_)
      | (with_reducible refine LeO.bind ?_ (fun _ => ?_))
      | exact ih0 _ _ _ _
      | exact impl_SgParse.mono _ _
      | exact laws_sgClosed.mono _ _
      | exact laws_sgLeft.mono _ _
      | exact spec_Single.mono _ _
      | exact spec_Valid.mono _ _
      | exact LeO.none _
      | refine LeO.ite ?_ ?_
      | refine LeO.bind ?_ (fun _ => ?_)
set_option maxHeartbeats 8000000 in
set_option maxRecDepth 100000 in
theorem laws_FnSgEntry.calls (k : Nat) (a0 : Int) (a1 : ByteArray) (r : Bool) (w : World) (h : laws_FnSgEntry.f k a0 a1 = some r) :
    Calls Try.prog 3 #[.int .u8 a0, .string a1] w fun e w' => e = .returned (.bool r) ∧ Below w.heap.size w w' := by
  have HB := Aside0.mk (Below.refl w.heap.size w)
  have H : (if (a1.size : Int) > 2147483647 then (some true) else ((some (([a0] : List Int) : List Int)).bind fun y142 => (if 2 + (strOfNums y142).size ≤ 9223372036854775807 then (if ((⟨#[97, 123]⟩ : ByteArray) ++ (strOfNums y142)).size + a1.size ≤ 9223372036854775807 then (if (((⟨#[97, 123]⟩ : ByteArray) ++ (strOfNums y142)) ++ a1).size + 1 ≤ 9223372036854775807 then (if (a1.size : Int) > 250 then (laws_FnSgEntry.j0 k a0 a1 ((((⟨#[97, 123]⟩ : ByteArray) ++ (strOfNums y142)) ++ a1) ++ (⟨#[125]⟩ : ByteArray)) true) else ((laws_sgLeft.f k ((((⟨#[97, 123]⟩ : ByteArray) ++ (strOfNums y142)) ++ a1) ++ (⟨#[125]⟩ : ByteArray))).bind fun t145 => (if t145 = true then (laws_FnSgEntry.j0 k a0 a1 ((((⟨#[97, 123]⟩ : ByteArray) ++ (strOfNums y142)) ++ a1) ++ (⟨#[125]⟩ : ByteArray)) true) else ((laws_sgClosed.f k a1).bind fun t146 => (if t146 = true then (if a0 = 40 then (laws_FnSgEntry.j0 k a0 a1 ((((⟨#[97, 123]⟩ : ByteArray) ++ (strOfNums y142)) ++ a1) ++ (⟨#[125]⟩ : ByteArray)) true) else (if a0 = 41 then (laws_FnSgEntry.j0 k a0 a1 ((((⟨#[97, 123]⟩ : ByteArray) ++ (strOfNums y142)) ++ a1) ++ (⟨#[125]⟩ : ByteArray)) true) else (if a0 = 123 then (laws_FnSgEntry.j0 k a0 a1 ((((⟨#[97, 123]⟩ : ByteArray) ++ (strOfNums y142)) ++ a1) ++ (⟨#[125]⟩ : ByteArray)) true) else (laws_FnSgEntry.j0 k a0 a1 ((((⟨#[97, 123]⟩ : ByteArray) ++ (strOfNums y142)) ++ a1) ++ (⟨#[125]⟩ : ByteArray)) (a0 == 125))))) else (laws_FnSgEntry.j0 k a0 a1 ((((⟨#[97, 123]⟩ : ByteArray) ++ (strOfNums y142)) ++ a1) ++ (⟨#[125]⟩ : ByteArray)) true)))))) else (none)) else (none)) else (none)))) = some r := h
  clear h
  by_cases c3 : (a1.size : Int) > 2147483647
  · rw [if_pos c3] at H
    have c3b0 : decide (2147483647 < (a1.size : Int)) = true := decide_eq_true c3
    have c3b1 : decide (2147483647 < a1.size) = true := decide_eq_true (by omega)
    clear c3
    obtain rfl := Option.some.inj H
    go_enter Try.func3, Try.ntmps3
    go_wp2
    go_ret
    exact ⟨by first | rfl | (simp [errW_none, errW_some] <;> rfl) | (simp [*, errW_none, errW_some] <;> rfl) | (simp (disch := omega) only [wrap64_id] <;> rfl), by repeat (first | (with_reducible first | exact HB.out | apply below_alloc | apply pw_below_drewN | apply below_drew1) | exact HB.out)⟩
  · rw [if_neg c3] at H
    have c3b0 : decide (2147483647 < (a1.size : Int)) = false := decide_eq_false c3
    have c3b1 : decide (2147483647 < a1.size) = false := decide_eq_false (by omega)
    clear c3
    obtain ⟨y142, hy142⟩ : ∃ y_ : List Int, y_ = (([a0] : List Int)) := ⟨_, rfl⟩
    replace H : (if 2 + (strOfNums y142).size ≤ 9223372036854775807 then (if ((⟨#[97, 123]⟩ : ByteArray) ++ (strOfNums y142)).size + a1.size ≤ 9223372036854775807 then (if (((⟨#[97, 123]⟩ : ByteArray) ++ (strOfNums y142)) ++ a1).size + 1 ≤ 9223372036854775807 then (if (a1.size : Int) > 250 then (laws_FnSgEntry.j0 k a0 a1 ((((⟨#[97, 123]⟩ : ByteArray) ++ (strOfNums y142)) ++ a1) ++ (⟨#[125]⟩ : ByteArray)) true) else ((laws_sgLeft.f k ((((⟨#[97, 123]⟩ : ByteArray) ++ (strOfNums y142)) ++ a1) ++ (⟨#[125]⟩ : ByteArray))).bind fun t145 => (if t145 = true then (laws_FnSgEntry.j0 k a0 a1 ((((⟨#[97, 123]⟩ : ByteArray) ++ (strOfNums y142)) ++ a1) ++ (⟨#[125]⟩ : ByteArray)) true) else ((laws_sgClosed.f k a1).bind fun t146 => (if t146 = true then (if a0 = 40 then (laws_FnSgEntry.j0 k a0 a1 ((((⟨#[97, 123]⟩ : ByteArray) ++ (strOfNums y142)) ++ a1) ++ (⟨#[125]⟩ : ByteArray)) true) else (if a0 = 41 then (laws_FnSgEntry.j0 k a0 a1 ((((⟨#[97, 123]⟩ : ByteArray) ++ (strOfNums y142)) ++ a1) ++ (⟨#[125]⟩ : ByteArray)) true) else (if a0 = 123 then (laws_FnSgEntry.j0 k a0 a1 ((((⟨#[97, 123]⟩ : ByteArray) ++ (strOfNums y142)) ++ a1) ++ (⟨#[125]⟩ : ByteArray)) true) else (laws_FnSgEntry.j0 k a0 a1 ((((⟨#[97, 123]⟩ : ByteArray) ++ (strOfNums y142)) ++ a1) ++ (⟨#[125]⟩ : ByteArray)) (a0 == 125))))) else (laws_FnSgEntry.j0 k a0 a1 ((((⟨#[97, 123]⟩ : ByteArray) ++ (strOfNums y142)) ++ a1) ++ (⟨#[125]⟩ : ByteArray)) true)))))) else (none)) else (none)) else (none)) = some r := by first | (rw [hy142]; with_reducible exact H) | (have H2_ := (Option.bind_some _ _).symm.trans H; rw [hy142]; with_reducible exact H2_) | (have H2_ := (Option.bind_some _ _).symm.trans H; with_reducible exact H2_) | with_reducible exact H | (rw [hy142]; exact H) | exact H
    have Ny142 := Aside0.mk hy142
    clear hy142
    by_cases c4 : 2 + (strOfNums y142).size ≤ 9223372036854775807
    · rw [if_pos c4] at H
      have c4b0 := eq_true c4
      have c4b1 : decide (2 + (strOfNums y142).size ≤ 9223372036854775807) = true := decide_eq_true c4
      try have c4b2 : (9223372036854775807 < 2 + (strOfNums y142).size) = False := eq_false (Nat.not_lt.2 c4)
      by_cases c5 : ((⟨#[97, 123]⟩ : ByteArray) ++ (strOfNums y142)).size + a1.size ≤ 9223372036854775807
      · rw [if_pos c5] at H
        have c5b0 := eq_true c5
        have c5b1 : decide (((⟨#[97, 123]⟩ : ByteArray) ++ (strOfNums y142)).size + a1.size ≤ 9223372036854775807) = true := decide_eq_true c5
        try have c5b2 : (9223372036854775807 < ((⟨#[97, 123]⟩ : ByteArray) ++ (strOfNums y142)).size + a1.size) = False := eq_false (Nat.not_lt.2 c5)
        (try have c5e : 2 + (strOfNums y142).size + a1.size ≤ 9223372036854775807 := by (have h_ := c5; simp only [ByteArray.size_append] at h_; exact h_))
        (try have c5e0 := eq_true c5e)
        (try have c5e1 : decide (2 + (strOfNums y142).size + a1.size ≤ 9223372036854775807) = true := decide_eq_true c5e)
        (try have c5e2 : (9223372036854775807 < 2 + (strOfNums y142).size + a1.size) = False := eq_false (Nat.not_lt.2 c5e))
        by_cases c6 : (((⟨#[97, 123]⟩ : ByteArray) ++ (strOfNums y142)) ++ a1).size + 1 ≤ 9223372036854775807
        · rw [if_pos c6] at H
          have c6b0 := eq_true c6
          have c6b1 : decide ((((⟨#[97, 123]⟩ : ByteArray) ++ (strOfNums y142)) ++ a1).size + 1 ≤ 9223372036854775807) = true := decide_eq_true c6
          try have c6b2 : (9223372036854775807 < (((⟨#[97, 123]⟩ : ByteArray) ++ (strOfNums y142)) ++ a1).size + 1) = False := eq_false (Nat.not_lt.2 c6)
          (try have c6e : 2 + (strOfNums y142).size + a1.size + 1 ≤ 9223372036854775807 := by (have h_ := c6; simp only [ByteArray.size_append] at h_; exact h_))
          (try have c6e0 := eq_true c6e)
          (try have c6e1 : decide (2 + (strOfNums y142).size + a1.size + 1 ≤ 9223372036854775807) = true := decide_eq_true c6e)
          (try have c6e2 : (9223372036854775807 < 2 + (strOfNums y142).size + a1.size + 1) = False := eq_false (Nat.not_lt.2 c6e))
          have HC7 := Aside0.mk H
          clear H
          go_enter Try.func3, Try.ntmps3
          go_upto_region 4 with (first | ((with_reducible refine gate_dst (N := 15) rfl ?_); refine Kd.R_lit (Kd.int .u8) _ 5 ?hg (N := 15) ?hd (xs := ([a0] : List Int)) (inner := [.int .u8 a0]) (ok := fun _ => True) (okp := fun _ => True) ?hr ?hp (fun _ hk => hk) trivial (Below.refl _ _) (Nat.le_refl _) (by simp) ?_; (case hd => rfl); (case hg => rfl); (case hr => first | (go_simp; done) | (go_simp; rfl)); (case hp => exact (Reps.one (show Kd.M (Kd.int .u8) _ _ _ a0 [.int .u8 a0] from rfl) (Reps.none _ _))); intro v143 w8 ho9 hb hg_ hnew_; clear hg_ hnew_; (first | rw [← Ny142.out] at ho9 | (simp only [Int.reduceToNat] at ho9; rw [← Ny142.out] at ho9)); have n0_ := Aside0.mk (Kd.R_lower ho9 (below_size (by repeat (first | (with_reducible first | exact HB.out | apply below_alloc | apply pw_below_drewN | apply below_drew1) | exact HB.out)))); have n1_ := Aside0.mk (below_step (by repeat (first | (with_reducible first | exact HB.out | apply below_alloc | apply pw_below_drewN | apply below_drew1) | exact HB.out)) hb); clear HB; have HO144 := n0_; have HB := n1_; clear n0_ n1_; clear hb ho9; have hcv10 := own_string (P := Try.prog) Try.underlying22 Try.underlying5 Try.underlying9 (Kd.own_of_R HO144.out)))
          (try simp only [Act.put, List.setIfInBounds_toArray, List.set_cons_zero, List.set_cons_succ])
          go_cut [48] (fun v48 wc => ∃ (kq : Nat) (x48_6 : Bool), v48 = .bool x48_6 ∧ Aside0 (laws_FnSgEntry.j0 kq a0 a1 ((((⟨#[97, 123]⟩ : ByteArray) ++ (strOfNums y142)) ++ a1) ++ (⟨#[125]⟩ : ByteArray)) x48_6 = some r) ∧ Aside0 (kq ≤ k) ∧ Aside0 (Below w.heap.size w wc))
          case first =>
            have H := HC7.out
            clear HC7
            by_cases c11 : (a1.size : Int) > 250
            · rw [if_pos c11] at H
              have c11b0 : decide (250 < (a1.size : Int)) = true := decide_eq_true c11
              have c11b1 : decide (250 < a1.size) = true := decide_eq_true (by omega)
              clear c11
              (first | rw [c11b0] | (simp only [i64_w, i32_w]; rw [c11b0]) | skip)
              have H' := Aside0.mk H
              clear H
              go_wp2
              go_meet
              case rel => exact ⟨_, (true), (by first | rfl | (simp; done) | (simp [*]; done)), H', ⟨by first | omega | exact Nat.le_refl _⟩, ⟨by repeat (first | (with_reducible first | exact HB.out | apply below_alloc | apply pw_below_drewN | apply below_drew1) | exact HB.out)⟩⟩
            · rw [if_neg c11] at H
              have c11b0 : decide (250 < (a1.size : Int)) = false := decide_eq_false c11
              have c11b1 : decide (250 < a1.size) = false := decide_eq_false (by omega)
              clear c11
              (first | rw [c11b0] | (simp only [i64_w, i32_w]; rw [c11b0]) | skip)
              replace H := Option.bind_eq_some_iff.mp H
              obtain ⟨t145, A120, H⟩ := H
              replace H : (if t145 = true then (laws_FnSgEntry.j0 k a0 a1 ((((⟨#[97, 123]⟩ : ByteArray) ++ (strOfNums y142)) ++ a1) ++ (⟨#[125]⟩ : ByteArray)) true) else ((laws_sgClosed.f k a1).bind fun t146 => (if t146 = true then (if a0 = 40 then (laws_FnSgEntry.j0 k a0 a1 ((((⟨#[97, 123]⟩ : ByteArray) ++ (strOfNums y142)) ++ a1) ++ (⟨#[125]⟩ : ByteArray)) true) else (if a0 = 41 then (laws_FnSgEntry.j0 k a0 a1 ((((⟨#[97, 123]⟩ : ByteArray) ++ (strOfNums y142)) ++ a1) ++ (⟨#[125]⟩ : ByteArray)) true) else (if a0 = 123 then (laws_FnSgEntry.j0 k a0 a1 ((((⟨#[97, 123]⟩ : ByteArray) ++ (strOfNums y142)) ++ a1) ++ (⟨#[125]⟩ : ByteArray)) true) else (laws_FnSgEntry.j0 k a0 a1 ((((⟨#[97, 123]⟩ : ByteArray) ++ (strOfNums y142)) ++ a1) ++ (⟨#[125]⟩ : ByteArray)) (a0 == 125))))) else (laws_FnSgEntry.j0 k a0 a1 ((((⟨#[97, 123]⟩ : ByteArray) ++ (strOfNums y142)) ++ a1) ++ (⟨#[125]⟩ : ByteArray)) true)))) = some r := H
              have A12 := Aside0.mk A120
              clear A120
              by_cases c13 : t145 = true
              · subst c13
                have H1 : (laws_FnSgEntry.j0 k a0 a1 ((((⟨#[97, 123]⟩ : ByteArray) ++ (strOfNums y142)) ++ a1) ++ (⟨#[125]⟩ : ByteArray)) true) = some r := by rw [if_pos rfl] at H; exact H
                clear H
                have H := H1
                clear H1
                have H' := Aside0.mk H
                clear H
                go_wp2_with (first | (go_at_call 8; (with_reducible refine (laws_sgLeft.calls k ((((⟨#[97, 123]⟩ : ByteArray) ++ (strOfNums y142)) ++ a1) ++ (⟨#[125]⟩ : ByteArray)) true _ A12.out).mono ?_); rintro e w14 ⟨rfl, hb⟩; have n0_ := Aside0.mk (Kd.R_below (by (with_reducible repeat (first | apply Kd.R_alloc | apply Kd.R_drewN | apply Kd.R_drew)); exact HO144.out) hb); have n1_ := Aside0.mk (below_step (by repeat (first | (with_reducible first | exact HB.out | apply below_alloc | apply pw_below_drewN | apply below_drew1) | exact HB.out)) hb); clear HO144; clear HB; have HO144 := n0_; have HB := n1_; clear n0_ n1_; (try clear hb); (try clear hb2); (try clear hk); (try clear hi)))
                go_meet
                case rel => exact ⟨_, (true), (by first | rfl | (simp; done) | (simp [*]; done)), H', ⟨by first | omega | exact Nat.le_refl _⟩, ⟨by repeat (first | (with_reducible first | exact HB.out | apply below_alloc | apply pw_below_drewN | apply below_drew1) | exact HB.out)⟩⟩
              · replace c13 := Bool.eq_false_iff.mpr c13
                subst c13
                have H1 : ((laws_sgClosed.f k a1).bind fun t146 => (if t146 = true then (if a0 = 40 then (laws_FnSgEntry.j0 k a0 a1 ((((⟨#[97, 123]⟩ : ByteArray) ++ (strOfNums y142)) ++ a1) ++ (⟨#[125]⟩ : ByteArray)) true) else (if a0 = 41 then (laws_FnSgEntry.j0 k a0 a1 ((((⟨#[97, 123]⟩ : ByteArray) ++ (strOfNums y142)) ++ a1) ++ (⟨#[125]⟩ : ByteArray)) true) else (if a0 = 123 then (laws_FnSgEntry.j0 k a0 a1 ((((⟨#[97, 123]⟩ : ByteArray) ++ (strOfNums y142)) ++ a1) ++ (⟨#[125]⟩ : ByteArray)) true) else (laws_FnSgEntry.j0 k a0 a1 ((((⟨#[97, 123]⟩ : ByteArray) ++ (strOfNums y142)) ++ a1) ++ (⟨#[125]⟩ : ByteArray)) (a0 == 125))))) else (laws_FnSgEntry.j0 k a0 a1 ((((⟨#[97, 123]⟩ : ByteArray) ++ (strOfNums y142)) ++ a1) ++ (⟨#[125]⟩ : ByteArray)) true))) = some r := by rw [if_neg (show ¬ (false = true) by decide)] at H; exact H
                clear H
                have H := H1
                clear H1
                replace H := Option.bind_eq_some_iff.mp H
                obtain ⟨t146, A150, H⟩ := H
                replace H : (if t146 = true then (if a0 = 40 then (laws_FnSgEntry.j0 k a0 a1 ((((⟨#[97, 123]⟩ : ByteArray) ++ (strOfNums y142)) ++ a1) ++ (⟨#[125]⟩ : ByteArray)) true) else (if a0 = 41 then (laws_FnSgEntry.j0 k a0 a1 ((((⟨#[97, 123]⟩ : ByteArray) ++ (strOfNums y142)) ++ a1) ++ (⟨#[125]⟩ : ByteArray)) true) else (if a0 = 123 then (laws_FnSgEntry.j0 k a0 a1 ((((⟨#[97, 123]⟩ : ByteArray) ++ (strOfNums y142)) ++ a1) ++ (⟨#[125]⟩ : ByteArray)) true) else (laws_FnSgEntry.j0 k a0 a1 ((((⟨#[97, 123]⟩ : ByteArray) ++ (strOfNums y142)) ++ a1) ++ (⟨#[125]⟩ : ByteArray)) (a0 == 125))))) else (laws_FnSgEntry.j0 k a0 a1 ((((⟨#[97, 123]⟩ : ByteArray) ++ (strOfNums y142)) ++ a1) ++ (⟨#[125]⟩ : ByteArray)) true)) = some r := H
                have A15 := Aside0.mk A150
                clear A150
                by_cases c16 : t146 = true
                · subst c16
                  have H1 : (if a0 = 40 then (laws_FnSgEntry.j0 k a0 a1 ((((⟨#[97, 123]⟩ : ByteArray) ++ (strOfNums y142)) ++ a1) ++ (⟨#[125]⟩ : ByteArray)) true) else (if a0 = 41 then (laws_FnSgEntry.j0 k a0 a1 ((((⟨#[97, 123]⟩ : ByteArray) ++ (strOfNums y142)) ++ a1) ++ (⟨#[125]⟩ : ByteArray)) true) else (if a0 = 123 then (laws_FnSgEntry.j0 k a0 a1 ((((⟨#[97, 123]⟩ : ByteArray) ++ (strOfNums y142)) ++ a1) ++ (⟨#[125]⟩ : ByteArray)) true) else (laws_FnSgEntry.j0 k a0 a1 ((((⟨#[97, 123]⟩ : ByteArray) ++ (strOfNums y142)) ++ a1) ++ (⟨#[125]⟩ : ByteArray)) (a0 == 125))))) = some r := by rw [if_pos rfl] at H; exact H
                  clear H
                  have H := H1
                  clear H1
                  by_cases c17 : a0 = 40
                  · rw [if_pos c17] at H
                    have c17b0 : (a0 == 40) = true := beq_iff_eq.mpr c17
                    have c17b1 : (a0 != 40) = false := bne_eq_false_iff_eq.mpr c17
                    clear c17
                    have H' := Aside0.mk H
                    clear H
                    go_wp2_with (first | (go_at_call 8; (with_reducible refine (laws_sgLeft.calls k ((((⟨#[97, 123]⟩ : ByteArray) ++ (strOfNums y142)) ++ a1) ++ (⟨#[125]⟩ : ByteArray)) false _ A12.out).mono ?_); rintro e w18 ⟨rfl, hb⟩; have n0_ := Aside0.mk (Kd.R_below (by (with_reducible repeat (first | apply Kd.R_alloc | apply Kd.R_drewN | apply Kd.R_drew)); exact HO144.out) hb); have n1_ := Aside0.mk (below_step (by repeat (first | (with_reducible first | exact HB.out | apply below_alloc | apply pw_below_drewN | apply below_drew1) | exact HB.out)) hb); clear HO144; clear HB; have HO144 := n0_; have HB := n1_; clear n0_ n1_; (try clear hb); (try clear hb2); (try clear hk); (try clear hi)) | (go_at_call 9; (with_reducible refine (laws_sgClosed.calls k a1 true _ A15.out).mono ?_); rintro e w19 ⟨rfl, hb⟩; have n0_ := Aside0.mk (Kd.R_below (by (with_reducible repeat (first | apply Kd.R_alloc | apply Kd.R_drewN | apply Kd.R_drew)); exact HO144.out) hb); have n1_ := Aside0.mk (below_step (by repeat (first | (with_reducible first | exact HB.out | apply below_alloc | apply pw_below_drewN | apply below_drew1) | exact HB.out)) hb); clear HO144; clear HB; have HO144 := n0_; have HB := n1_; clear n0_ n1_; (try clear hb); (try clear hb2); (try clear hk); (try clear hi)))
                    go_meet
                    case rel => exact ⟨_, (true), (by first | rfl | (simp; done) | (simp [*]; done)), H', ⟨by first | omega | exact Nat.le_refl _⟩, ⟨by repeat (first | (with_reducible first | exact HB.out | apply below_alloc | apply pw_below_drewN | apply below_drew1) | exact HB.out)⟩⟩
                  · rw [if_neg c17] at H
                    have c17b0 : (a0 == 40) = false := beq_eq_false_iff_ne.mpr c17
                    have c17b1 : (a0 != 40) = true := bne_iff_ne.mpr c17
                    by_cases c20 : a0 = 41
                    · rw [if_pos c20] at H
                      have c20b0 : (a0 == 41) = true := beq_iff_eq.mpr c20
                      have c20b1 : (a0 != 41) = false := bne_eq_false_iff_eq.mpr c20
                      clear c20
                      have H' := Aside0.mk H
                      clear H
                      go_wp2_with (first | (go_at_call 8; (with_reducible refine (laws_sgLeft.calls k ((((⟨#[97, 123]⟩ : ByteArray) ++ (strOfNums y142)) ++ a1) ++ (⟨#[125]⟩ : ByteArray)) false _ A12.out).mono ?_); rintro e w21 ⟨rfl, hb⟩; have n0_ := Aside0.mk (Kd.R_below (by (with_reducible repeat (first | apply Kd.R_alloc | apply Kd.R_drewN | apply Kd.R_drew)); exact HO144.out) hb); have n1_ := Aside0.mk (below_step (by repeat (first | (with_reducible first | exact HB.out | apply below_alloc | apply pw_below_drewN | apply below_drew1) | exact HB.out)) hb); clear HO144; clear HB; have HO144 := n0_; have HB := n1_; clear n0_ n1_; (try clear hb); (try clear hb2); (try clear hk); (try clear hi)) | (go_at_call 9; (with_reducible refine (laws_sgClosed.calls k a1 true _ A15.out).mono ?_); rintro e w22 ⟨rfl, hb⟩; have n0_ := Aside0.mk (Kd.R_below (by (with_reducible repeat (first | apply Kd.R_alloc | apply Kd.R_drewN | apply Kd.R_drew)); exact HO144.out) hb); have n1_ := Aside0.mk (below_step (by repeat (first | (with_reducible first | exact HB.out | apply below_alloc | apply pw_below_drewN | apply below_drew1) | exact HB.out)) hb); clear HO144; clear HB; have HO144 := n0_; have HB := n1_; clear n0_ n1_; (try clear hb); (try clear hb2); (try clear hk); (try clear hi)))
                      go_meet
                      case rel => exact ⟨_, (true), (by first | rfl | (simp; done) | (simp [*]; done)), H', ⟨by first | omega | exact Nat.le_refl _⟩, ⟨by repeat (first | (with_reducible first | exact HB.out | apply below_alloc | apply pw_below_drewN | apply below_drew1) | exact HB.out)⟩⟩
                    · rw [if_neg c20] at H
                      have c20b0 : (a0 == 41) = false := beq_eq_false_iff_ne.mpr c20
                      have c20b1 : (a0 != 41) = true := bne_iff_ne.mpr c20
                      by_cases c23 : a0 = 123
                      · rw [if_pos c23] at H
                        have c23b0 : (a0 == 123) = true := beq_iff_eq.mpr c23
                        have c23b1 : (a0 != 123) = false := bne_eq_false_iff_eq.mpr c23
                        clear c23
                        have H' := Aside0.mk H
                        clear H
                        go_wp2_with (first | (go_at_call 8; (with_reducible refine (laws_sgLeft.calls k ((((⟨#[97, 123]⟩ : ByteArray) ++ (strOfNums y142)) ++ a1) ++ (⟨#[125]⟩ : ByteArray)) false _ A12.out).mono ?_); rintro e w24 ⟨rfl, hb⟩; have n0_ := Aside0.mk (Kd.R_below (by (with_reducible repeat (first | apply Kd.R_alloc | apply Kd.R_drewN | apply Kd.R_drew)); exact HO144.out) hb); have n1_ := Aside0.mk (below_step (by repeat (first | (with_reducible first | exact HB.out | apply below_alloc | apply pw_below_drewN | apply below_drew1) | exact HB.out)) hb); clear HO144; clear HB; have HO144 := n0_; have HB := n1_; clear n0_ n1_; (try clear hb); (try clear hb2); (try clear hk); (try clear hi)) | (go_at_call 9; (with_reducible refine (laws_sgClosed.calls k a1 true _ A15.out).mono ?_); rintro e w25 ⟨rfl, hb⟩; have n0_ := Aside0.mk (Kd.R_below (by (with_reducible repeat (first | apply Kd.R_alloc | apply Kd.R_drewN | apply Kd.R_drew)); exact HO144.out) hb); have n1_ := Aside0.mk (below_step (by repeat (first | (with_reducible first | exact HB.out | apply below_alloc | apply pw_below_drewN | apply below_drew1) | exact HB.out)) hb); clear HO144; clear HB; have HO144 := n0_; have HB := n1_; clear n0_ n1_; (try clear hb); (try clear hb2); (try clear hk); (try clear hi)))
                        go_meet
                        case rel => exact ⟨_, (true), (by first | rfl | (simp; done) | (simp [*]; done)), H', ⟨by first | omega | exact Nat.le_refl _⟩, ⟨by repeat (first | (with_reducible first | exact HB.out | apply below_alloc | apply pw_below_drewN | apply below_drew1) | exact HB.out)⟩⟩
                      · rw [if_neg c23] at H
                        have c23b0 : (a0 == 123) = false := beq_eq_false_iff_ne.mpr c23
                        have c23b1 : (a0 != 123) = true := bne_iff_ne.mpr c23
                        have H' := Aside0.mk H
                        clear H
                        go_wp2_with (first | (go_at_call 8; (with_reducible refine (laws_sgLeft.calls k ((((⟨#[97, 123]⟩ : ByteArray) ++ (strOfNums y142)) ++ a1) ++ (⟨#[125]⟩ : ByteArray)) false _ A12.out).mono ?_); rintro e w26 ⟨rfl, hb⟩; have n0_ := Aside0.mk (Kd.R_below (by (with_reducible repeat (first | apply Kd.R_alloc | apply Kd.R_drewN | apply Kd.R_drew)); exact HO144.out) hb); have n1_ := Aside0.mk (below_step (by repeat (first | (with_reducible first | exact HB.out | apply below_alloc | apply pw_below_drewN | apply below_drew1) | exact HB.out)) hb); clear HO144; clear HB; have HO144 := n0_; have HB := n1_; clear n0_ n1_; (try clear hb); (try clear hb2); (try clear hk); (try clear hi)) | (go_at_call 9; (with_reducible refine (laws_sgClosed.calls k a1 true _ A15.out).mono ?_); rintro e w27 ⟨rfl, hb⟩; have n0_ := Aside0.mk (Kd.R_below (by (with_reducible repeat (first | apply Kd.R_alloc | apply Kd.R_drewN | apply Kd.R_drew)); exact HO144.out) hb); have n1_ := Aside0.mk (below_step (by repeat (first | (with_reducible first | exact HB.out | apply below_alloc | apply pw_below_drewN | apply below_drew1) | exact HB.out)) hb); clear HO144; clear HB; have HO144 := n0_; have HB := n1_; clear n0_ n1_; (try clear hb); (try clear hb2); (try clear hk); (try clear hi)))
                        go_meet
                        case rel => exact ⟨_, ((a0 == 125)), (by first | rfl | (simp; done) | (simp [*]; done)), H', ⟨by first | omega | exact Nat.le_refl _⟩, ⟨by repeat (first | (with_reducible first | exact HB.out | apply below_alloc | apply pw_below_drewN | apply below_drew1) | exact HB.out)⟩⟩
                · replace c16 := Bool.eq_false_iff.mpr c16
                  subst c16
                  have H1 : (laws_FnSgEntry.j0 k a0 a1 ((((⟨#[97, 123]⟩ : ByteArray) ++ (strOfNums y142)) ++ a1) ++ (⟨#[125]⟩ : ByteArray)) true) = some r := by rw [if_neg (show ¬ (false = true) by decide)] at H; exact H
                  clear H
                  have H := H1
                  clear H1
                  have H' := Aside0.mk H
                  clear H
                  go_wp2_with (first | (go_at_call 8; (with_reducible refine (laws_sgLeft.calls k ((((⟨#[97, 123]⟩ : ByteArray) ++ (strOfNums y142)) ++ a1) ++ (⟨#[125]⟩ : ByteArray)) false _ A12.out).mono ?_); rintro e w28 ⟨rfl, hb⟩; have n0_ := Aside0.mk (Kd.R_below (by (with_reducible repeat (first | apply Kd.R_alloc | apply Kd.R_drewN | apply Kd.R_drew)); exact HO144.out) hb); have n1_ := Aside0.mk (below_step (by repeat (first | (with_reducible first | exact HB.out | apply below_alloc | apply pw_below_drewN | apply below_drew1) | exact HB.out)) hb); clear HO144; clear HB; have HO144 := n0_; have HB := n1_; clear n0_ n1_; (try clear hb); (try clear hb2); (try clear hk); (try clear hi)) | (go_at_call 9; (with_reducible refine (laws_sgClosed.calls k a1 false _ A15.out).mono ?_); rintro e w29 ⟨rfl, hb⟩; have n0_ := Aside0.mk (Kd.R_below (by (with_reducible repeat (first | apply Kd.R_alloc | apply Kd.R_drewN | apply Kd.R_drew)); exact HO144.out) hb); have n1_ := Aside0.mk (below_step (by repeat (first | (with_reducible first | exact HB.out | apply below_alloc | apply pw_below_drewN | apply below_drew1) | exact HB.out)) hb); clear HO144; clear HB; have HO144 := n0_; have HB := n1_; clear n0_ n1_; (try clear hb); (try clear hb2); (try clear hk); (try clear hi)))
                  go_meet
                  case rel => exact ⟨_, (true), (by first | rfl | (simp; done) | (simp [*]; done)), H', ⟨by first | omega | exact Nat.le_refl _⟩, ⟨by repeat (first | (with_reducible first | exact HB.out | apply below_alloc | apply pw_below_drewN | apply below_drew1) | exact HB.out)⟩⟩
          case rest =>
            clear HC7
            try clear c1
            try clear hcv1
            try clear c2
            try clear p2
            try clear c3
            try clear c3b0
            try clear c3b1
            try clear c4
            try clear c4b0
            try clear c4b1
            try clear c4b2
            try clear c5
            try clear c5b0
            try clear c5b1
            try clear c5b2
            try clear c6
            try clear c6b0
            try clear c6b1
            try clear c6b2
            try clear p6
            try clear hcv10
            try clear c11
            try clear c11b0
            try clear c11b1
            try clear c13
            try clear c16
            try clear c17
            try clear c17b0
            try clear c17b1
            try clear c20
            try clear c20b0
            try clear c20b1
            try clear c23
            try clear c23b0
            try clear c23b1
            obtain ⟨kq, x48_6, rfl, HA, HJ6, HB⟩ := hcut
            cases kq with
            | zero => exact absurd HA.out (by simp [laws_FnSgEntry.j0])
            | succ kj6 =>
              have H := HA.out
              clear HA
              simp only [laws_FnSgEntry.j0] at H
              by_cases c30 : x48_6 = true
              · subst c30
                have H1 : (some true) = some r := by rw [if_pos rfl] at H; exact H
                clear H
                have H := H1
                clear H1
                obtain rfl := Option.some.inj H
                go_wp2
                go_ret
                exact ⟨by first | rfl | (simp [errW_none, errW_some] <;> rfl) | (simp [*, errW_none, errW_some] <;> rfl) | (simp (disch := omega) only [wrap64_id] <;> rfl), by repeat (first | (with_reducible first | exact HB.out | apply below_alloc | apply pw_below_drewN | apply below_drew1) | exact HB.out)⟩
              · replace c30 := Bool.eq_false_iff.mpr c30
                subst c30
                have H1 : ((spec_Basic.f a0).bind fun t147 => (if t147 = true then ((spec_Single.f kj6 a1).bind fun t148 => (if t148 = true then (if 1 + a1.size ≤ 9223372036854775807 then ((spec_Valid.f kj6 ((⟨#[97]⟩ : ByteArray) ++ a1)).bind fun t149 => ((impl_SgParse.f kj6 ((((⟨#[97, 123]⟩ : ByteArray) ++ (strOfNums y142)) ++ a1) ++ (⟨#[125]⟩ : ByteArray))).bind fun bt150 => ((impl_SgParse.f kj6 (⟨#[97, 123, 121, 121, 125]⟩ : ByteArray)).bind fun bt152 => (if (bt150.2 == t149) = true then (some bt152.2) else (some false))))) else (none)) else ((impl_SgParse.f kj6 ((((⟨#[97, 123]⟩ : ByteArray) ++ (strOfNums y142)) ++ a1) ++ (⟨#[125]⟩ : ByteArray))).bind fun bt154 => ((impl_SgParse.f kj6 (⟨#[97, 123, 121, 121, 125]⟩ : ByteArray)).bind fun bt156 => (if (bt154.2 == false) = true then (some bt156.2) else (some false)))))) else ((impl_SgParse.f kj6 ((((⟨#[97, 123]⟩ : ByteArray) ++ (strOfNums y142)) ++ a1) ++ (⟨#[125]⟩ : ByteArray))).bind fun bt158 => ((impl_SgParse.f kj6 (⟨#[97, 123, 121, 121, 125]⟩ : ByteArray)).bind fun bt160 => (if (bt158.2 == false) = true then (some bt160.2) else (some false)))))) = some r := by rw [if_neg (show ¬ (false = true) by decide)] at H; exact H
                clear H
                have H := H1
                clear H1
                replace H := Option.bind_eq_some_iff.mp H
                obtain ⟨t147, A310, H⟩ := H
                replace H : (if t147 = true then ((spec_Single.f kj6 a1).bind fun t148 => (if t148 = true then (if 1 + a1.size ≤ 9223372036854775807 then ((spec_Valid.f kj6 ((⟨#[97]⟩ : ByteArray) ++ a1)).bind fun t149 => ((impl_SgParse.f kj6 ((((⟨#[97, 123]⟩ : ByteArray) ++ (strOfNums y142)) ++ a1) ++ (⟨#[125]⟩ : ByteArray))).bind fun bt150 => ((impl_SgParse.f kj6 (⟨#[97, 123, 121, 121, 125]⟩ : ByteArray)).bind fun bt152 => (if (bt150.2 == t149) = true then (some bt152.2) else (some false))))) else (none)) else ((impl_SgParse.f kj6 ((((⟨#[97, 123]⟩ : ByteArray) ++ (strOfNums y142)) ++ a1) ++ (⟨#[125]⟩ : ByteArray))).bind fun bt154 => ((impl_SgParse.f kj6 (⟨#[97, 123, 121, 121, 125]⟩ : ByteArray)).bind fun bt156 => (if (bt154.2 == false) = true then (some bt156.2) else (some false)))))) else ((impl_SgParse.f kj6 ((((⟨#[97, 123]⟩ : ByteArray) ++ (strOfNums y142)) ++ a1) ++ (⟨#[125]⟩ : ByteArray))).bind fun bt158 => ((impl_SgParse.f kj6 (⟨#[97, 123, 121, 121, 125]⟩ : ByteArray)).bind fun bt160 => (if (bt158.2 == false) = true then (some bt160.2) else (some false))))) = some r := H
                have A31 := Aside0.mk A310
                clear A310
                by_cases c32 : t147 = true
                · subst c32
                  have H1 : ((spec_Single.f kj6 a1).bind fun t148 => (if t148 = true then (if 1 + a1.size ≤ 9223372036854775807 then ((spec_Valid.f kj6 ((⟨#[97]⟩ : ByteArray) ++ a1)).bind fun t149 => ((impl_SgParse.f kj6 ((((⟨#[97, 123]⟩ : ByteArray) ++ (strOfNums y142)) ++ a1) ++ (⟨#[125]⟩ : ByteArray))).bind fun bt150 => ((impl_SgParse.f kj6 (⟨#[97, 123, 121, 121, 125]⟩ : ByteArray)).bind fun bt152 => (if (bt150.2 == t149) = true then (some bt152.2) else (some false))))) else (none)) else ((impl_SgParse.f kj6 ((((⟨#[97, 123]⟩ : ByteArray) ++ (strOfNums y142)) ++ a1) ++ (⟨#[125]⟩ : ByteArray))).bind fun bt154 => ((impl_SgParse.f kj6 (⟨#[97, 123, 121, 121, 125]⟩ : ByteArray)).bind fun bt156 => (if (bt154.2 == false) = true then (some bt156.2) else (some false)))))) = some r := by rw [if_pos rfl] at H; exact H
                  clear H
                  have H := H1
                  clear H1
                  replace H := Option.bind_eq_some_iff.mp H
                  obtain ⟨t148, A330, H⟩ := H
                  replace H : (if t148 = true then (if 1 + a1.size ≤ 9223372036854775807 then ((spec_Valid.f kj6 ((⟨#[97]⟩ : ByteArray) ++ a1)).bind fun t149 => ((impl_SgParse.f kj6 ((((⟨#[97, 123]⟩ : ByteArray) ++ (strOfNums y142)) ++ a1) ++ (⟨#[125]⟩ : ByteArray))).bind fun bt150 => ((impl_SgParse.f kj6 (⟨#[97, 123, 121, 121, 125]⟩ : ByteArray)).bind fun bt152 => (if (bt150.2 == t149) = true then (some bt152.2) else (some false))))) else (none)) else ((impl_SgParse.f kj6 ((((⟨#[97, 123]⟩ : ByteArray) ++ (strOfNums y142)) ++ a1) ++ (⟨#[125]⟩ : ByteArray))).bind fun bt154 => ((impl_SgParse.f kj6 (⟨#[97, 123, 121, 121, 125]⟩ : ByteArray)).bind fun bt156 => (if (bt154.2 == false) = true then (some bt156.2) else (some false))))) = some r := H
                  have A33 := Aside0.mk A330
                  clear A330
                  by_cases c34 : t148 = true
                  · subst c34
                    have H1 : (if 1 + a1.size ≤ 9223372036854775807 then ((spec_Valid.f kj6 ((⟨#[97]⟩ : ByteArray) ++ a1)).bind fun t149 => ((impl_SgParse.f kj6 ((((⟨#[97, 123]⟩ : ByteArray) ++ (strOfNums y142)) ++ a1) ++ (⟨#[125]⟩ : ByteArray))).bind fun bt150 => ((impl_SgParse.f kj6 (⟨#[97, 123, 121, 121, 125]⟩ : ByteArray)).bind fun bt152 => (if (bt150.2 == t149) = true then (some bt152.2) else (some false))))) else (none)) = some r := by rw [if_pos rfl] at H; exact H
                    clear H
                    have H := H1
                    clear H1
                    by_cases c35 : 1 + a1.size ≤ 9223372036854775807
                    · rw [if_pos c35] at H
                      have c35b0 := eq_true c35
                      have c35b1 : decide (1 + a1.size ≤ 9223372036854775807) = true := decide_eq_true c35
                      try have c35b2 : (9223372036854775807 < 1 + a1.size) = False := eq_false (Nat.not_lt.2 c35)
                      replace H := Option.bind_eq_some_iff.mp H
                      obtain ⟨t149, A360, H⟩ := H
                      replace H : ((impl_SgParse.f kj6 ((((⟨#[97, 123]⟩ : ByteArray) ++ (strOfNums y142)) ++ a1) ++ (⟨#[125]⟩ : ByteArray))).bind fun bt150 => ((impl_SgParse.f kj6 (⟨#[97, 123, 121, 121, 125]⟩ : ByteArray)).bind fun bt152 => (if (bt150.2 == t149) = true then (some bt152.2) else (some false)))) = some r := H
                      have A36 := Aside0.mk A360
                      clear A360
                      replace H := Option.bind_eq_some_iff.mp H
                      obtain ⟨⟨t150, t151⟩, A370, H⟩ := H
                      replace H : ((impl_SgParse.f kj6 (⟨#[97, 123, 121, 121, 125]⟩ : ByteArray)).bind fun bt152 => (if (t151 == t149) = true then (some bt152.2) else (some false))) = some r := H
                      have A37 := Aside0.mk A370
                      clear A370
                      replace H := Option.bind_eq_some_iff.mp H
                      obtain ⟨⟨t152, t153⟩, A380, H⟩ := H
                      replace H : (if (t151 == t149) = true then (some t153) else (some false)) = some r := H
                      have A38 := Aside0.mk A380
                      clear A380
                      by_cases c39 : (t151 == t149) = true
                      · rw [if_pos c39] at H
                        have c39b0 : (t151 == t149) = true := c39
                        (try (have c39b1 : decide (t151 = t149) = true := by simpa using c39))
                        (try (have c39b2 : (t151 == t149) = true := by simpa using c39))
                        clear c39
                        obtain rfl := Option.some.inj H
                        go_wp2_with (first | ((with_reducible refine gate_callee (f := 10) rfl ?_); refine goesL_ (some 50) rfl rfl Try.func10 (by kernel_rfl) rfl #[.int .u8 a0] rfl (by (try simp only [List.map_toArray, List.map_cons, List.map_nil]); first | done | rfl | (simp only [List.length_drop, List.length_take]; rfl)) ?_; (with_reducible refine (spec_Basic.calls a0 true _ A31.out).mono ?_); rintro e w' ⟨rfl, ⟨nd, rfl⟩⟩; refine ⟨_, rfl, ?_⟩) | (go_at_call 11; (with_reducible refine (spec_Single.calls kj6 a1 true _ A33.out).mono ?_); rintro e w40 ⟨rfl, hb⟩; have n0_ := Aside0.mk (below_step (by repeat (first | (with_reducible first | exact HB.out | apply below_alloc | apply pw_below_drewN | apply below_drew1) | exact HB.out)) hb); clear HB; have HB := n0_; clear n0_; (try clear hb); (try clear hb2); (try clear hk); (try clear hi)) | (go_at_call 12; (with_reducible refine (spec_Valid.calls kj6 ((⟨#[97]⟩ : ByteArray) ++ a1) t149 _ A36.out).mono ?_); rintro e w41 ⟨rfl, hb⟩; have n0_ := Aside0.mk (below_step (by repeat (first | (with_reducible first | exact HB.out | apply below_alloc | apply pw_below_drewN | apply below_drew1) | exact HB.out)) hb); clear HB; have HB := n0_; clear n0_; (try clear hb); (try clear hb2); (try clear hk); (try clear hi)) | ((with_reducible refine gate_callee (f := 13) rfl ?_); refine goesL_ (some 62) rfl rfl Try.func13 (by kernel_rfl) rfl #[.string ((((⟨#[97, 123]⟩ : ByteArray) ++ (strOfNums y142)) ++ a1) ++ (⟨#[125]⟩ : ByteArray))] rfl (by (try simp only [List.map_toArray, List.map_cons, List.map_nil]); first | done | rfl | (simp only [List.length_drop, List.length_take]; rfl)) ?_; (with_reducible refine (impl_SgParse.calls kj6 ((((⟨#[97, 123]⟩ : ByteArray) ++ (strOfNums y142)) ++ a1) ++ (⟨#[125]⟩ : ByteArray)) t150 t151 _ A37.out).mono ?_); rintro e w42 ⟨rfl, hb⟩; refine ⟨_, rfl, ?_⟩; have n0_ := Aside0.mk (below_step (by repeat (first | (with_reducible first | exact HB.out | apply below_alloc | apply pw_below_drewN | apply below_drew1) | exact HB.out)) hb); clear HB; have HB := n0_; clear n0_; (try clear hb); (try clear hb2); (try clear hk); (try clear hi)) | ((with_reducible refine gate_callee (f := 13) rfl ?_); refine goesL_ (some 66) rfl rfl Try.func13 (by kernel_rfl) rfl #[.string (⟨#[97, 123, 121, 121, 125]⟩ : ByteArray)] rfl (by (try simp only [List.map_toArray, List.map_cons, List.map_nil]); first | done | rfl | (simp only [List.length_drop, List.length_take]; rfl)) ?_; (with_reducible refine (impl_SgParse.calls kj6 (⟨#[97, 123, 121, 121, 125]⟩ : ByteArray) t152 t153 _ A38.out).mono ?_); rintro e w43 ⟨rfl, hb⟩; refine ⟨_, rfl, ?_⟩; have n0_ := Aside0.mk (below_step (by repeat (first | (with_reducible first | exact HB.out | apply below_alloc | apply pw_below_drewN | apply below_drew1) | exact HB.out)) hb); clear HB; have HB := n0_; clear n0_; (try clear hb); (try clear hb2); (try clear hk); (try clear hi)))
                        go_ret
                        exact ⟨by first | rfl | (simp [errW_none, errW_some] <;> rfl) | (simp [*, errW_none, errW_some] <;> rfl) | (simp (disch := omega) only [wrap64_id] <;> rfl), by repeat (first | (with_reducible first | exact HB.out | apply below_alloc | apply pw_below_drewN | apply below_drew1) | exact HB.out)⟩
                      · rw [if_neg c39] at H
                        have c39b0 : (t151 == t149) = false := by simpa using c39
                        (try (have c39b1 : decide (t151 = t149) = false := by simpa using c39))
                        (try (have c39b2 : (t151 == t149) = false := by simpa using c39))
                        (try (have c39b3 : ¬ (t151 = t149) := by simpa using c39))
                        clear c39
                        obtain rfl := Option.some.inj H
                        go_wp2_with (first | ((with_reducible refine gate_callee (f := 10) rfl ?_); refine goesL_ (some 50) rfl rfl Try.func10 (by kernel_rfl) rfl #[.int .u8 a0] rfl (by (try simp only [List.map_toArray, List.map_cons, List.map_nil]); first | done | rfl | (simp only [List.length_drop, List.length_take]; rfl)) ?_; (with_reducible refine (spec_Basic.calls a0 true _ A31.out).mono ?_); rintro e w' ⟨rfl, ⟨nd, rfl⟩⟩; refine ⟨_, rfl, ?_⟩) | (go_at_call 11; (with_reducible refine (spec_Single.calls kj6 a1 true _ A33.out).mono ?_); rintro e w44 ⟨rfl, hb⟩; have n0_ := Aside0.mk (below_step (by repeat (first | (with_reducible first | exact HB.out | apply below_alloc | apply pw_below_drewN | apply below_drew1) | exact HB.out)) hb); clear HB; have HB := n0_; clear n0_; (try clear hb); (try clear hb2); (try clear hk); (try clear hi)) | (go_at_call 12; (with_reducible refine (spec_Valid.calls kj6 ((⟨#[97]⟩ : ByteArray) ++ a1) t149 _ A36.out).mono ?_); rintro e w45 ⟨rfl, hb⟩; have n0_ := Aside0.mk (below_step (by repeat (first | (with_reducible first | exact HB.out | apply below_alloc | apply pw_below_drewN | apply below_drew1) | exact HB.out)) hb); clear HB; have HB := n0_; clear n0_; (try clear hb); (try clear hb2); (try clear hk); (try clear hi)) | ((with_reducible refine gate_callee (f := 13) rfl ?_); refine goesL_ (some 62) rfl rfl Try.func13 (by kernel_rfl) rfl #[.string ((((⟨#[97, 123]⟩ : ByteArray) ++ (strOfNums y142)) ++ a1) ++ (⟨#[125]⟩ : ByteArray))] rfl (by (try simp only [List.map_toArray, List.map_cons, List.map_nil]); first | done | rfl | (simp only [List.length_drop, List.length_take]; rfl)) ?_; (with_reducible refine (impl_SgParse.calls kj6 ((((⟨#[97, 123]⟩ : ByteArray) ++ (strOfNums y142)) ++ a1) ++ (⟨#[125]⟩ : ByteArray)) t150 t151 _ A37.out).mono ?_); rintro e w46 ⟨rfl, hb⟩; refine ⟨_, rfl, ?_⟩; have n0_ := Aside0.mk (below_step (by repeat (first | (with_reducible first | exact HB.out | apply below_alloc | apply pw_below_drewN | apply below_drew1) | exact HB.out)) hb); clear HB; have HB := n0_; clear n0_; (try clear hb); (try clear hb2); (try clear hk); (try clear hi)) | ((with_reducible refine gate_callee (f := 13) rfl ?_); refine goesL_ (some 66) rfl rfl Try.func13 (by kernel_rfl) rfl #[.string (⟨#[97, 123, 121, 121, 125]⟩ : ByteArray)] rfl (by (try simp only [List.map_toArray, List.map_cons, List.map_nil]); first | done | rfl | (simp only [List.length_drop, List.length_take]; rfl)) ?_; (with_reducible refine (impl_SgParse.calls kj6 (⟨#[97, 123, 121, 121, 125]⟩ : ByteArray) t152 t153 _ A38.out).mono ?_); rintro e w47 ⟨rfl, hb⟩; refine ⟨_, rfl, ?_⟩; have n0_ := Aside0.mk (below_step (by repeat (first | (with_reducible first | exact HB.out | apply below_alloc | apply pw_below_drewN | apply below_drew1) | exact HB.out)) hb); clear HB; have HB := n0_; clear n0_; (try clear hb); (try clear hb2); (try clear hk); (try clear hi)))
                        go_ret
                        exact ⟨by first | rfl | (simp [errW_none, errW_some] <;> rfl) | (simp [*, errW_none, errW_some] <;> rfl) | (simp (disch := omega) only [wrap64_id] <;> rfl), by repeat (first | (with_reducible first | exact HB.out | apply below_alloc | apply pw_below_drewN | apply below_drew1) | exact HB.out)⟩
                    · rw [if_neg c35] at H
                      exact absurd H (by simp)
                  · replace c34 := Bool.eq_false_iff.mpr c34
                    subst c34
                    have H1 : ((impl_SgParse.f kj6 ((((⟨#[97, 123]⟩ : ByteArray) ++ (strOfNums y142)) ++ a1) ++ (⟨#[125]⟩ : ByteArray))).bind fun bt154 => ((impl_SgParse.f kj6 (⟨#[97, 123, 121, 121, 125]⟩ : ByteArray)).bind fun bt156 => (if (bt154.2 == false) = true then (some bt156.2) else (some false)))) = some r := by rw [if_neg (show ¬ (false = true) by decide)] at H; exact H
                    clear H
                    have H := H1
                    clear H1
                    replace H := Option.bind_eq_some_iff.mp H
                    obtain ⟨⟨t154, t155⟩, A480, H⟩ := H
                    replace H : ((impl_SgParse.f kj6 (⟨#[97, 123, 121, 121, 125]⟩ : ByteArray)).bind fun bt156 => (if (t155 == false) = true then (some bt156.2) else (some false))) = some r := H
                    have A48 := Aside0.mk A480
                    clear A480
                    replace H := Option.bind_eq_some_iff.mp H
                    obtain ⟨⟨t156, t157⟩, A490, H⟩ := H
                    replace H : (if (t155 == false) = true then (some t157) else (some false)) = some r := H
                    have A49 := Aside0.mk A490
                    clear A490
                    by_cases c50 : (t155 == false) = true
                    · rw [if_pos c50] at H
                      have c50b0 : (t155 == false) = true := c50
                      (try (have c50b1 : decide (t155 = false) = true := by simpa using c50))
                      (try (have c50b2 : (t155 == false) = true := by simpa using c50))
                      clear c50
                      obtain rfl := Option.some.inj H
                      go_wp2_with (first | ((with_reducible refine gate_callee (f := 10) rfl ?_); refine goesL_ (some 50) rfl rfl Try.func10 (by kernel_rfl) rfl #[.int .u8 a0] rfl (by (try simp only [List.map_toArray, List.map_cons, List.map_nil]); first | done | rfl | (simp only [List.length_drop, List.length_take]; rfl)) ?_; (with_reducible refine (spec_Basic.calls a0 true _ A31.out).mono ?_); rintro e w' ⟨rfl, ⟨nd, rfl⟩⟩; refine ⟨_, rfl, ?_⟩) | (go_at_call 11; (with_reducible refine (spec_Single.calls kj6 a1 false _ A33.out).mono ?_); rintro e w51 ⟨rfl, hb⟩; have n0_ := Aside0.mk (below_step (by repeat (first | (with_reducible first | exact HB.out | apply below_alloc | apply pw_below_drewN | apply below_drew1) | exact HB.out)) hb); clear HB; have HB := n0_; clear n0_; (try clear hb); (try clear hb2); (try clear hk); (try clear hi)) | ((with_reducible refine gate_callee (f := 13) rfl ?_); refine goesL_ (some 62) rfl rfl Try.func13 (by kernel_rfl) rfl #[.string ((((⟨#[97, 123]⟩ : ByteArray) ++ (strOfNums y142)) ++ a1) ++ (⟨#[125]⟩ : ByteArray))] rfl (by (try simp only [List.map_toArray, List.map_cons, List.map_nil]); first | done | rfl | (simp only [List.length_drop, List.length_take]; rfl)) ?_; (with_reducible refine (impl_SgParse.calls kj6 ((((⟨#[97, 123]⟩ : ByteArray) ++ (strOfNums y142)) ++ a1) ++ (⟨#[125]⟩ : ByteArray)) t154 t155 _ A48.out).mono ?_); rintro e w52 ⟨rfl, hb⟩; refine ⟨_, rfl, ?_⟩; have n0_ := Aside0.mk (below_step (by repeat (first | (with_reducible first | exact HB.out | apply below_alloc | apply pw_below_drewN | apply below_drew1) | exact HB.out)) hb); clear HB; have HB := n0_; clear n0_; (try clear hb); (try clear hb2); (try clear hk); (try clear hi)) | ((with_reducible refine gate_callee (f := 13) rfl ?_); refine goesL_ (some 66) rfl rfl Try.func13 (by kernel_rfl) rfl #[.string (⟨#[97, 123, 121, 121, 125]⟩ : ByteArray)] rfl (by (try simp only [List.map_toArray, List.map_cons, List.map_nil]); first | done | rfl | (simp only [List.length_drop, List.length_take]; rfl)) ?_; (with_reducible refine (impl_SgParse.calls kj6 (⟨#[97, 123, 121, 121, 125]⟩ : ByteArray) t156 t157 _ A49.out).mono ?_); rintro e w53 ⟨rfl, hb⟩; refine ⟨_, rfl, ?_⟩; have n0_ := Aside0.mk (below_step (by repeat (first | (with_reducible first | exact HB.out | apply below_alloc | apply pw_below_drewN | apply below_drew1) | exact HB.out)) hb); clear HB; have HB := n0_; clear n0_; (try clear hb); (try clear hb2); (try clear hk); (try clear hi)))
                      go_ret
                      exact ⟨by first | rfl | (simp [errW_none, errW_some] <;> rfl) | (simp [*, errW_none, errW_some] <;> rfl) | (simp (disch := omega) only [wrap64_id] <;> rfl), by repeat (first | (with_reducible first | exact HB.out | apply below_alloc | apply pw_below_drewN | apply below_drew1) | exact HB.out)⟩
                    · rw [if_neg c50] at H
                      have c50b0 : (t155 == false) = false := by simpa using c50
                      (try (have c50b1 : decide (t155 = false) = false := by simpa using c50))
                      (try (have c50b2 : (t155 == false) = false := by simpa using c50))
                      (try (have c50b3 : ¬ (t155 = false) := by simpa using c50))
                      clear c50
                      obtain rfl := Option.some.inj H
                      go_wp2_with (first | ((with_reducible refine gate_callee (f := 10) rfl ?_); refine goesL_ (some 50) rfl rfl Try.func10 (by kernel_rfl) rfl #[.int .u8 a0] rfl (by (try simp only [List.map_toArray, List.map_cons, List.map_nil]); first | done | rfl | (simp only [List.length_drop, List.length_take]; rfl)) ?_; (with_reducible refine (spec_Basic.calls a0 true _ A31.out).mono ?_); rintro e w' ⟨rfl, ⟨nd, rfl⟩⟩; refine ⟨_, rfl, ?_⟩) | (go_at_call 11; (with_reducible refine (spec_Single.calls kj6 a1 false _ A33.out).mono ?_); rintro e w54 ⟨rfl, hb⟩; have n0_ := Aside0.mk (below_step (by repeat (first | (with_reducible first | exact HB.out | apply below_alloc | apply pw_below_drewN | apply below_drew1) | exact HB.out)) hb); clear HB; have HB := n0_; clear n0_; (try clear hb); (try clear hb2); (try clear hk); (try clear hi)) | ((with_reducible refine gate_callee (f := 13) rfl ?_); refine goesL_ (some 62) rfl rfl Try.func13 (by kernel_rfl) rfl #[.string ((((⟨#[97, 123]⟩ : ByteArray) ++ (strOfNums y142)) ++ a1) ++ (⟨#[125]⟩ : ByteArray))] rfl (by (try simp only [List.map_toArray, List.map_cons, List.map_nil]); first | done | rfl | (simp only [List.length_drop, List.length_take]; rfl)) ?_; (with_reducible refine (impl_SgParse.calls kj6 ((((⟨#[97, 123]⟩ : ByteArray) ++ (strOfNums y142)) ++ a1) ++ (⟨#[125]⟩ : ByteArray)) t154 t155 _ A48.out).mono ?_); rintro e w55 ⟨rfl, hb⟩; refine ⟨_, rfl, ?_⟩; have n0_ := Aside0.mk (below_step (by repeat (first | (with_reducible first | exact HB.out | apply below_alloc | apply pw_below_drewN | apply below_drew1) | exact HB.out)) hb); clear HB; have HB := n0_; clear n0_; (try clear hb); (try clear hb2); (try clear hk); (try clear hi)) | ((with_reducible refine gate_callee (f := 13) rfl ?_); refine goesL_ (some 66) rfl rfl Try.func13 (by kernel_rfl) rfl #[.string (⟨#[97, 123, 121, 121, 125]⟩ : ByteArray)] rfl (by (try simp only [List.map_toArray, List.map_cons, List.map_nil]); first | done | rfl | (simp only [List.length_drop, List.length_take]; rfl)) ?_; (with_reducible refine (impl_SgParse.calls kj6 (⟨#[97, 123, 121, 121, 125]⟩ : ByteArray) t156 t157 _ A49.out).mono ?_); rintro e w56 ⟨rfl, hb⟩; refine ⟨_, rfl, ?_⟩; have n0_ := Aside0.mk (below_step (by repeat (first | (with_reducible first | exact HB.out | apply below_alloc | apply pw_below_drewN | apply below_drew1) | exact HB.out)) hb); clear HB; have HB := n0_; clear n0_; (try clear hb); (try clear hb2); (try clear hk); (try clear hi)))
                      go_ret
                      exact ⟨by first | rfl | (simp [errW_none, errW_some] <;> rfl) | (simp [*, errW_none, errW_some] <;> rfl) | (simp (disch := omega) only [wrap64_id] <;> rfl), by repeat (first | (with_reducible first | exact HB.out | apply below_alloc | apply pw_below_drewN | apply below_drew1) | exact HB.out)⟩
                · replace c32 := Bool.eq_false_iff.mpr c32
                  subst c32
                  have H1 : ((impl_SgParse.f kj6 ((((⟨#[97, 123]⟩ : ByteArray) ++ (strOfNums y142)) ++ a1) ++ (⟨#[125]⟩ : ByteArray))).bind fun bt158 => ((impl_SgParse.f kj6 (⟨#[97, 123, 121, 121, 125]⟩ : ByteArray)).bind fun bt160 => (if (bt158.2 == false) = true then (some bt160.2) else (some false)))) = some r := by rw [if_neg (show ¬ (false = true) by decide)] at H; exact H
                  clear H
                  have H := H1
                  clear H1
                  replace H := Option.bind_eq_some_iff.mp H
                  obtain ⟨⟨t158, t159⟩, A570, H⟩ := H
                  replace H : ((impl_SgParse.f kj6 (⟨#[97, 123, 121, 121, 125]⟩ : ByteArray)).bind fun bt160 => (if (t159 == false) = true then (some bt160.2) else (some false))) = some r := H
                  have A57 := Aside0.mk A570
                  clear A570
                  replace H := Option.bind_eq_some_iff.mp H
                  obtain ⟨⟨t160, t161⟩, A580, H⟩ := H
                  replace H : (if (t159 == false) = true then (some t161) else (some false)) = some r := H
                  have A58 := Aside0.mk A580
                  clear A580
                  by_cases c59 : (t159 == false) = true
                  · rw [if_pos c59] at H
                    have c59b0 : (t159 == false) = true := c59
                    (try (have c59b1 : decide (t159 = false) = true := by simpa using c59))
                    (try (have c59b2 : (t159 == false) = true := by simpa using c59))
                    clear c59
                    obtain rfl := Option.some.inj H
                    go_wp2_with (first | ((with_reducible refine gate_callee (f := 10) rfl ?_); refine goesL_ (some 50) rfl rfl Try.func10 (by kernel_rfl) rfl #[.int .u8 a0] rfl (by (try simp only [List.map_toArray, List.map_cons, List.map_nil]); first | done | rfl | (simp only [List.length_drop, List.length_take]; rfl)) ?_; (with_reducible refine (spec_Basic.calls a0 false _ A31.out).mono ?_); rintro e w' ⟨rfl, ⟨nd, rfl⟩⟩; refine ⟨_, rfl, ?_⟩) | ((with_reducible refine gate_callee (f := 13) rfl ?_); refine goesL_ (some 62) rfl rfl Try.func13 (by kernel_rfl) rfl #[.string ((((⟨#[97, 123]⟩ : ByteArray) ++ (strOfNums y142)) ++ a1) ++ (⟨#[125]⟩ : ByteArray))] rfl (by (try simp only [List.map_toArray, List.map_cons, List.map_nil]); first | done | rfl | (simp only [List.length_drop, List.length_take]; rfl)) ?_; (with_reducible refine (impl_SgParse.calls kj6 ((((⟨#[97, 123]⟩ : ByteArray) ++ (strOfNums y142)) ++ a1) ++ (⟨#[125]⟩ : ByteArray)) t158 t159 _ A57.out).mono ?_); rintro e w60 ⟨rfl, hb⟩; refine ⟨_, rfl, ?_⟩; have n0_ := Aside0.mk (below_step (by repeat (first | (with_reducible first | exact HB.out | apply below_alloc | apply pw_below_drewN | apply below_drew1) | exact HB.out)) hb); clear HB; have HB := n0_; clear n0_; (try clear hb); (try clear hb2); (try clear hk); (try clear hi)) | ((with_reducible refine gate_callee (f := 13) rfl ?_); refine goesL_ (some 66) rfl rfl Try.func13 (by kernel_rfl) rfl #[.string (⟨#[97, 123, 121, 121, 125]⟩ : ByteArray)] rfl (by (try simp only [List.map_toArray, List.map_cons, List.map_nil]); first | done | rfl | (simp only [List.length_drop, List.length_take]; rfl)) ?_; (with_reducible refine (impl_SgParse.calls kj6 (⟨#[97, 123, 121, 121, 125]⟩ : ByteArray) t160 t161 _ A58.out).mono ?_); rintro e w61 ⟨rfl, hb⟩; refine ⟨_, rfl, ?_⟩; have n0_ := Aside0.mk (below_step (by repeat (first | (with_reducible first | exact HB.out | apply below_alloc | apply pw_below_drewN | apply below_drew1) | exact HB.out)) hb); clear HB; have HB := n0_; clear n0_; (try clear hb); (try clear hb2); (try clear hk); (try clear hi)))
                    go_ret
                    exact ⟨by first | rfl | (simp [errW_none, errW_some] <;> rfl) | (simp [*, errW_none, errW_some] <;> rfl) | (simp (disch := omega) only [wrap64_id] <;> rfl), by repeat (first | (with_reducible first | exact HB.out | apply below_alloc | apply pw_below_drewN | apply below_drew1) | exact HB.out)⟩
                  · rw [if_neg c59] at H
                    have c59b0 : (t159 == false) = false := by simpa using c59
                    (try (have c59b1 : decide (t159 = false) = false := by simpa using c59))
                    (try (have c59b2 : (t159 == false) = false := by simpa using c59))
                    (try (have c59b3 : ¬ (t159 = false) := by simpa using c59))
                    clear c59
                    obtain rfl := Option.some.inj H
                    go_wp2_with (first | ((with_reducible refine gate_callee (f := 10) rfl ?_); refine goesL_ (some 50) rfl rfl Try.func10 (by kernel_rfl) rfl #[.int .u8 a0] rfl (by (try simp only [List.map_toArray, List.map_cons, List.map_nil]); first | done | rfl | (simp only [List.length_drop, List.length_take]; rfl)) ?_; (with_reducible refine (spec_Basic.calls a0 false _ A31.out).mono ?_); rintro e w' ⟨rfl, ⟨nd, rfl⟩⟩; refine ⟨_, rfl, ?_⟩) | ((with_reducible refine gate_callee (f := 13) rfl ?_); refine goesL_ (some 62) rfl rfl Try.func13 (by kernel_rfl) rfl #[.string ((((⟨#[97, 123]⟩ : ByteArray) ++ (strOfNums y142)) ++ a1) ++ (⟨#[125]⟩ : ByteArray))] rfl (by (try simp only [List.map_toArray, List.map_cons, List.map_nil]); first | done | rfl | (simp only [List.length_drop, List.length_take]; rfl)) ?_; (with_reducible refine (impl_SgParse.calls kj6 ((((⟨#[97, 123]⟩ : ByteArray) ++ (strOfNums y142)) ++ a1) ++ (⟨#[125]⟩ : ByteArray)) t158 t159 _ A57.out).mono ?_); rintro e w62 ⟨rfl, hb⟩; refine ⟨_, rfl, ?_⟩; have n0_ := Aside0.mk (below_step (by repeat (first | (with_reducible first | exact HB.out | apply below_alloc | apply pw_below_drewN | apply below_drew1) | exact HB.out)) hb); clear HB; have HB := n0_; clear n0_; (try clear hb); (try clear hb2); (try clear hk); (try clear hi)) | ((with_reducible refine gate_callee (f := 13) rfl ?_); refine goesL_ (some 66) rfl rfl Try.func13 (by kernel_rfl) rfl #[.string (⟨#[97, 123, 121, 121, 125]⟩ : ByteArray)] rfl (by (try simp only [List.map_toArray, List.map_cons, List.map_nil]); first | done | rfl | (simp only [List.length_drop, List.length_take]; rfl)) ?_; (with_reducible refine (impl_SgParse.calls kj6 (⟨#[97, 123, 121, 121, 125]⟩ : ByteArray) t160 t161 _ A58.out).mono ?_); rintro e w63 ⟨rfl, hb⟩; refine ⟨_, rfl, ?_⟩; have n0_ := Aside0.mk (below_step (by repeat (first | (with_reducible first | exact HB.out | apply below_alloc | apply pw_below_drewN | apply below_drew1) | exact HB.out)) hb); clear HB; have HB := n0_; clear n0_; (try clear hb); (try clear hb2); (try clear hk); (try clear hi)))
                    go_ret
                    exact ⟨by first | rfl | (simp [errW_none, errW_some] <;> rfl) | (simp [*, errW_none, errW_some] <;> rfl) | (simp (disch := omega) only [wrap64_id] <;> rfl), by repeat (first | (with_reducible first | exact HB.out | apply below_alloc | apply pw_below_drewN | apply below_drew1) | exact HB.out)⟩
        · rw [if_neg c6] at H
          exact absurd H (by simp)
      · rw [if_neg c5] at H
        exact absurd H (by simp)
    · rw [if_neg c4] at H
      exact absurd H (by simp)

/-- THE ONE PURE STATEMENT of laws_FnSgEntry: yours. -/
def laws_FnSgEntry.Pure : Prop := ∀ (a0 : Int) (a1 : ByteArray), (Lit.int .u8 a0).wf = true → a1.size ≤ 140737488351232 → ∃ k, laws_FnSgEntry.f k a0 a1 = some true
theorem laws_FnSgEntry.walk (P : laws_FnSgEntry.Pure) (a0 : Int) (a1 : ByteArray) (w : World) (w0 : (Lit.int .u8 a0).wf = true) (w1 : a1.size ≤ 140737488351232) :
    Calls Try.prog 3 #[.int .u8 a0, .string a1] w fun e w' => e = .returned (.bool true) ∧ Below w.heap.size w w' := by
  obtain ⟨k, h⟩ := P a0 a1 w0 w1
  refine (laws_FnSgEntry.calls k a0 a1 true w h).mono ?_
  rintro e w' ⟨rfl, hd⟩
  exact ⟨rfl, hd⟩

end Go.Proofs.Ytfipimoemhbnlaa.MFnSgEntry
