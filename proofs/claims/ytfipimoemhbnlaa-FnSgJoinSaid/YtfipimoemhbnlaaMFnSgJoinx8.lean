-- Written by a program of this session (myprint.py, out of the translation). Not trusted: Lean checks it.
import Derived.Test.YtfipimoemhbnlaaMFnSgJoinx0
import Derived.Test.YtfipimoemhbnlaaMFnSgJoinx1
import Derived.Test.YtfipimoemhbnlaaMFnSgJoinx3
import Derived.Test.YtfipimoemhbnlaaMFnSgJoinx7
namespace Go.Proofs.Ytfipimoemhbnlaa.MFnSgJoin
open Go.RowKit Go.Proofs.YtfipimoemhbnlaaW.PrintWords Go.Proofs.YtfipimoemhbnlaaW.PrintLast Go.Proofs.YtfipimoemhbnlaaW.PrintMore
attribute [local go_sem] max2_int min2_int max_two min_two max_three min_three max_four min_four   -- for this text's walks alone
set_option linter.unusedVariables false
set_option linter.unusedSimpArgs false

/-! ### dbus_Signature_String: function 20 -/
def dbus_Signature_String.f (a0_0 : ByteArray) : Option (ByteArray) := some a0_0
set_option maxHeartbeats 8000000 in
set_option maxRecDepth 100000 in
theorem dbus_Signature_String.calls (a0_0 : ByteArray) (r : ByteArray) (w : World) (h : dbus_Signature_String.f a0_0 = some r) :
    Calls Try.prog 20 #[.agg #[.string a0_0]] w fun e w' => e = .returned (.string r) ∧ Below w.heap.size w w' := by
  have hu42 := Try.underlying42
  have HB := Aside0.mk (Below.refl w.heap.size w)
  have H : (some a0_0) = some r := h
  clear h
  obtain rfl := Option.some.inj H
  go_enter Try.func20, Try.ntmps20
  go_wp2_with (first | ((with_reducible refine gate_dst (N := 1) rfl ?_); refine box_event ?hg (N := 1) ?hd (cs := #[.string a0_0]) (t := 42) ?hr ?_; (case hd => rfl); (case hg => rfl); (case hr => first | (go_simp; done) | (go_simp; rfl)); intro gb125 hg w2 hbox hb; have n0_ := Aside0.mk (below_step (by repeat (first | (with_reducible first | exact HB.out | apply below_alloc | apply pw_below_drewN | apply below_drew1) | exact HB.out)) hb); have n1_ := Aside0.mk (hbox); have n2_ := Aside0.mk ((by rw [hg]; exact (below_size (by repeat (first | (with_reducible first | exact HB.out | apply below_alloc | apply pw_below_drewN | apply below_drew1) | exact HB.out))) : w.heap.size ≤ gb125)); have n3_ := Aside0.mk ((by rw [hg]; exact (below_size (by repeat (first | (with_reducible first | exact HB.out | apply below_alloc | apply pw_below_drewN | apply below_drew1) | exact HB.out))) : w.heap.size ≤ gb125)); clear HB; have HB := n0_; have BK125 := n1_; have GW125 := n2_; have GE125 := n3_; clear n0_ n1_ n2_ n3_; clear hb hbox hg; have hcz3_0 : w2.cell? ⟨gb125, 0, none⟩ = some (.string a0_0) := (blk_cell BK125.out 0).trans rfl; have hfz3_0 := blk_frozen BK125.out 0))
  go_ret
  exact ⟨by first | rfl | (simp [errW_none, errW_some] <;> rfl) | (simp [*, errW_none, errW_some] <;> rfl) | (simp (disch := omega) only [wrap64_id] <;> rfl), by repeat (first | (with_reducible first | exact HB.out | apply below_alloc | apply pw_below_drewN | apply below_drew1 | refine below_set ?_ GE125.out) | exact HB.out)⟩

/-! ### impl_SgParse: function 13 -/
def impl_SgParse.f (k : Nat) (a0 : ByteArray) : Option (ByteArray × Bool) := (dbus_ParseSignature.f k a0).bind fun bt126 => ((dbus_Signature_String.f bt126.1).bind fun t129 => (if bt126.2.isNone = true then (some (t129, true)) else (some (t129, false))))
theorem impl_SgParse.mono : ∀ a0 k, LeO (impl_SgParse.f k a0) (impl_SgParse.f (k + 1) a0) := by
  intro a0 k
  unfold impl_SgParse.f
  repeat' first
      | (with_reducible exact dbus_ParseSignature.mono _ _)
      | (with_reducible exact LeO.refl _)
      | (with_reducible exact LeO.none _)
      | (with_reducible refine LeO.ite ?_ ?_)
      | (with_reducible refine LeO.bind ?_ (fun _ => ?_))
      | exact dbus_ParseSignature.mono _ _
      | exact LeO.none _
      | refine LeO.ite ?_ ?_
      | refine LeO.bind ?_ (fun _ => ?_)
set_option maxHeartbeats 8000000 in
set_option maxRecDepth 100000 in
theorem impl_SgParse.calls (k : Nat) (a0 : ByteArray) (r1 : ByteArray) (r2 : Bool) (w : World) (h : impl_SgParse.f k a0 = some (r1, r2)) :
    Calls Try.prog 13 #[.string a0] w fun e w' => e = .returned (.tuple #[.string r1, .bool r2]) ∧ Below w.heap.size w w' := by
  have hu42 := Try.underlying42
  have hu44 := Try.underlying44
  have HB := Aside0.mk (Below.refl w.heap.size w)
  have H : ((dbus_ParseSignature.f k a0).bind fun bt126 => ((dbus_Signature_String.f bt126.1).bind fun t129 => (if bt126.2.isNone = true then (some (t129, true)) else (some (t129, false))))) = some (r1, r2) := h
  clear h
  replace H := Option.bind_eq_some_iff.mp H
  obtain ⟨⟨t126, t127⟩, A20, H⟩ := H
  replace H : ((dbus_Signature_String.f t126).bind fun t129 => (if t127.isNone = true then (some (t129, true)) else (some (t129, false)))) = some (r1, r2) := H
  have A2 := Aside0.mk A20
  clear A20
  replace H := Option.bind_eq_some_iff.mp H
  obtain ⟨t129, A30, H⟩ := H
  replace H : (if t127.isNone = true then (some (t129, true)) else (some (t129, false))) = some (r1, r2) := H
  have A3 := Aside0.mk A30
  clear A30
  rcases t127 with _ | q130
  · have H1 : (some (t129, true)) = some (r1, r2) := by rw [if_pos (show (none : Option (TypeId × Value)).isNone = true by rfl)] at H; exact H
    clear H
    have H := H1
    clear H1
    try simp only [errW_none, errW_some]
    simp only [Option.some.injEq, Prod.mk.injEq] at H
    obtain ⟨rfl, rfl⟩ := H
    go_enter Try.func13, Try.ntmps13
    try go_wp2_with (first | ((with_reducible refine gate_callee (f := 19) rfl ?_); refine goesL_ (some 8) rfl rfl Try.func19 (by kernel_rfl) rfl #[.string a0] rfl (by (try simp only [List.map_toArray, List.map_cons, List.map_nil]); first | done | rfl | (simp only [List.length_drop, List.length_take]; rfl)) ?_; (with_reducible refine (dbus_ParseSignature.calls k a0 t126 none _ A2.out).mono ?_); rintro e w4 ⟨rfl, hb⟩; refine ⟨_, rfl, ?_⟩; have n0_ := Aside0.mk (below_step (by repeat (first | (with_reducible first | exact HB.out | apply below_alloc | apply pw_below_drewN | apply below_drew1) | exact HB.out)) hb); clear HB; have HB := n0_; clear n0_; (try clear hb); (try clear hb2); (try clear hk); (try clear hi); (try simp only [errW_none, errW_some])) | ((with_reducible refine gate_dst (N := 4) rfl ?_); refine box_event ?hg (N := 4) ?hd (cs := #[.string (⟨#[]⟩ : ByteArray)]) (t := 42) ?hr ?_; (case hd => rfl); (case hg => rfl); (case hr => first | (go_simp; done) | (go_simp; rfl)); intro gb128 hg w5 hbox hb; have n0_ := Aside0.mk (below_step (by repeat (first | (with_reducible first | exact HB.out | apply below_alloc | apply pw_below_drewN | apply below_drew1) | exact HB.out)) hb); have n1_ := Aside0.mk (hbox); have n2_ := Aside0.mk ((by rw [hg]; exact (below_size (by repeat (first | (with_reducible first | exact HB.out | apply below_alloc | apply pw_below_drewN | apply below_drew1) | exact HB.out))) : w.heap.size ≤ gb128)); have n3_ := Aside0.mk ((by rw [hg]; exact (below_size (by repeat (first | (with_reducible first | exact HB.out | apply below_alloc | apply pw_below_drewN | apply below_drew1) | exact HB.out))) : w.heap.size ≤ gb128)); clear HB; have HB := n0_; have BK128 := n1_; have GW128 := n2_; have GE128 := n3_; clear n0_ n1_ n2_ n3_; clear hb hbox hg; have hcz6_0 : w5.cell? ⟨gb128, 0, none⟩ = some (.string (⟨#[]⟩ : ByteArray)) := (blk_cell BK128.out 0).trans rfl; have hfz6_0 := blk_frozen BK128.out 0))
    have n0_ : Aside0 ((w5.setCell ⟨gb128, 0, none⟩ (.string t126)).heap[gb128]? = some (.cells #[.string t126] 42 (0, 0))) := ⟨by (with_reducible repeat (first | refine blk_drewN ?_ _ | refine blk_drew ?_ | refine blk_alloc ?_ _)); refine blk_put (cs := #[.string (⟨#[]⟩ : ByteArray)]) ?_ 0 _ rfl; (with_reducible repeat (first | refine blk_drewN ?_ _ | refine blk_drew ?_ | refine blk_alloc ?_ _)); exact BK128.out⟩
    have n1_ : Aside0 (Below w.heap.size w (w5.setCell ⟨gb128, 0, none⟩ (.string t126))) := ⟨by repeat (first | (with_reducible first | exact HB.out | apply below_alloc | apply pw_below_drewN | apply below_drew1 | refine below_set ?_ GE128.out) | exact HB.out)⟩
    (try clear BK128)
    (try clear HB)
    generalize (w5.setCell ⟨gb128, 0, none⟩ (.string t126)) = w7 at n0_ n1_ ⊢
    have BK128 := n0_
    have HB := n1_
    clear n0_ n1_
    have n0_ := Aside0.mk (blk_drew BK128.out)
    have n1_ := Aside0.mk (below_drew1 HB.out)
    clear BK128
    clear HB
    have BK128 := n0_
    have HB := n1_
    clear n0_ n1_
    refine start_ (n := 6) (S := fun w' => w'.cell? ⟨gb128, 0, none⟩ = some (.string t126)) (ds := []) #[false, false, false, false, false, false] (by kernel_rfl) rfl rfl ((blk_cell BK128.out 0).trans rfl) (fun hHeld => ?_)
    generalize w7.drew = w8 at BK128 HB hHeld ⊢
    refine pure_ (i := 2) (N := some 13) (v := ?_) (a' := ?_) #[false, false, true, false, false, false] rfl rfl (by kernel_rfl) (fun _ _ _ h => h) (Or.inl ⟨by rfl, ?_⟩) ?_ ?_
    rotate_left
    · intro w'
      go_simp
      with_reducible rfl
    rotate_left
    · simp only [Act.put, List.setIfInBounds_toArray, List.set_cons_zero, List.set_cons_succ, i64_w, i32_w]
      rfl
    refine pure_ (i := 3) (N := some 14) (v := ?_) (a' := ?_) #[false, false, true, true, false, false] rfl rfl (by kernel_rfl) (fun _ _ _ h => h) (Or.inl ⟨by rfl, ?_⟩) ?_ ?_
    rotate_left
    · intro w'
      go_simp
      with_reducible rfl
    rotate_left
    · simp only [Act.put, List.setIfInBounds_toArray, List.set_cons_zero, List.set_cons_succ, i64_w, i32_w]
      rfl
    refine take_ (i := 0) (N := some 11) (v := ?_) (a' := ?_) #[true, false, true, true, false, false] rfl rfl (by kernel_rfl) (fun _ _ _ h => h) (Or.inl ⟨by rfl, ?_⟩) hHeld ?_ ?_
    rotate_left
    · intro w' s0
      go_simp
      with_reducible rfl
    rotate_left
    · simp only [Act.put, List.setIfInBounds_toArray, List.set_cons_zero, List.set_cons_succ, i64_w, i32_w]
      rfl
    refine one_ (i := 1) (N := some 12) #[true, true, true, true, false, false] rfl rfl (by kernel_rfl) (by decide) (fun K hK => ?_)
    refine goes_ Try.func20 (by kernel_rfl) rfl #[.agg #[.string t126]] (by rfl) rfl rfl (by (try simp only [List.map_toArray, List.map_cons, List.map_nil]); first | done | rfl | (simp only [List.length_drop, List.length_take]; rfl)) ?_
    with_reducible refine (dbus_Signature_String.calls t126 t129 _ A3.out).mono ?_
    rintro e w9 ⟨rfl, hb⟩
    refine ⟨_, rfl, ?_⟩
    have n0_ := Aside0.mk (blk_below (g := gb128) (o := .cells #[.string t126] 42 (0, 0)) (by (with_reducible repeat (first | refine blk_drewN ?_ _ | refine blk_drew ?_ | refine blk_alloc ?_ _)); exact BK128.out) hb)
    have n1_ := Aside0.mk (below_step (by repeat (first | (with_reducible first | exact HB.out | apply below_alloc | apply pw_below_drewN | apply below_drew1 | refine below_set ?_ GE128.out) | exact HB.out)) hb)
    clear BK128
    clear HB
    have BK128 := n0_
    have HB := n1_
    clear n0_ n1_
    (try clear hb)
    (try clear hb2)
    (try clear hk)
    (try clear hi)
    refine hK.out _ _ ((blk_cell BK128.out 0).trans rfl) (fun hHeld => ?_)
    clear hK K
    refine norm_ (a' := ?_) ?_ ?_
    rotate_left
    · show Act.put _ (some 12) _ = _
      simp only [Act.put, List.setIfInBounds_toArray, List.set_cons_zero, List.set_cons_succ, i64_w, i32_w]
      rfl
    refine pure_ (i := 4) (N := some 2) (v := ?_) (a' := ?_) #[true, true, true, true, true, false] rfl rfl (by kernel_rfl) (fun _ _ _ h => h) (Or.inl ⟨by rfl, ?_⟩) ?_ ?_
    rotate_left
    · intro w'
      go_simp
      with_reducible rfl
    rotate_left
    · simp only [Act.put, List.setIfInBounds_toArray, List.set_cons_zero, List.set_cons_succ, i64_w, i32_w]
      rfl
    refine pure_ (i := 5) (N := some 3) (v := ?_) (a' := ?_) #[true, true, true, true, true, true] rfl rfl (by kernel_rfl) (fun _ _ _ h => h) (Or.inl ⟨by rfl, ?_⟩) ?_ ?_
    rotate_left
    · intro w'
      go_simp
      with_reducible rfl
    rotate_left
    · simp only [Act.put, List.setIfInBounds_toArray, List.set_cons_zero, List.set_cons_succ, i64_w, i32_w]
      rfl
    refine done_ (by kernel_rfl) ?_
    try go_wp2
    go_ret2
    exact ⟨by first | rfl | (simp [errW_none, errW_some] <;> rfl) | (simp [*, errW_none, errW_some] <;> rfl) | (simp (disch := omega) only [wrap64_id] <;> rfl), by repeat (first | (with_reducible first | exact HB.out | apply below_alloc | apply pw_below_drewN | apply below_drew1 | refine below_set ?_ GE128.out) | exact HB.out)⟩
  · have H1 : (some (t129, false)) = some (r1, r2) := by rw [if_neg (show ¬ (some q130).isNone = true by simp)] at H; exact H
    clear H
    have H := H1
    clear H1
    try simp only [errW_none, errW_some]
    simp only [Option.some.injEq, Prod.mk.injEq] at H
    obtain ⟨rfl, rfl⟩ := H
    go_enter Try.func13, Try.ntmps13
    try go_wp2_with (first | ((with_reducible refine gate_callee (f := 19) rfl ?_); refine goesL_ (some 8) rfl rfl Try.func19 (by kernel_rfl) rfl #[.string a0] rfl (by (try simp only [List.map_toArray, List.map_cons, List.map_nil]); first | done | rfl | (simp only [List.length_drop, List.length_take]; rfl)) ?_; (with_reducible refine (dbus_ParseSignature.calls k a0 t126 (some q130) _ A2.out).mono ?_); rintro e w10 ⟨rfl, hb⟩; refine ⟨_, rfl, ?_⟩; have n0_ := Aside0.mk (below_step (by repeat (first | (with_reducible first | exact HB.out | apply below_alloc | apply pw_below_drewN | apply below_drew1) | exact HB.out)) hb); clear HB; have HB := n0_; clear n0_; (try clear hb); (try clear hb2); (try clear hk); (try clear hi); (try simp only [errW_none, errW_some])) | ((with_reducible refine gate_dst (N := 4) rfl ?_); refine box_event ?hg (N := 4) ?hd (cs := #[.string (⟨#[]⟩ : ByteArray)]) (t := 42) ?hr ?_; (case hd => rfl); (case hg => rfl); (case hr => first | (go_simp; done) | (go_simp; rfl)); intro gb128 hg w11 hbox hb; have n0_ := Aside0.mk (below_step (by repeat (first | (with_reducible first | exact HB.out | apply below_alloc | apply pw_below_drewN | apply below_drew1) | exact HB.out)) hb); have n1_ := Aside0.mk (hbox); have n2_ := Aside0.mk ((by rw [hg]; exact (below_size (by repeat (first | (with_reducible first | exact HB.out | apply below_alloc | apply pw_below_drewN | apply below_drew1) | exact HB.out))) : w.heap.size ≤ gb128)); have n3_ := Aside0.mk ((by rw [hg]; exact (below_size (by repeat (first | (with_reducible first | exact HB.out | apply below_alloc | apply pw_below_drewN | apply below_drew1) | exact HB.out))) : w.heap.size ≤ gb128)); clear HB; have HB := n0_; have BK128 := n1_; have GW128 := n2_; have GE128 := n3_; clear n0_ n1_ n2_ n3_; clear hb hbox hg; have hcz12_0 : w11.cell? ⟨gb128, 0, none⟩ = some (.string (⟨#[]⟩ : ByteArray)) := (blk_cell BK128.out 0).trans rfl; have hfz12_0 := blk_frozen BK128.out 0))
    have n0_ : Aside0 ((w11.setCell ⟨gb128, 0, none⟩ (.string t126)).heap[gb128]? = some (.cells #[.string t126] 42 (0, 0))) := ⟨by (with_reducible repeat (first | refine blk_drewN ?_ _ | refine blk_drew ?_ | refine blk_alloc ?_ _)); refine blk_put (cs := #[.string (⟨#[]⟩ : ByteArray)]) ?_ 0 _ rfl; (with_reducible repeat (first | refine blk_drewN ?_ _ | refine blk_drew ?_ | refine blk_alloc ?_ _)); exact BK128.out⟩
    have n1_ : Aside0 (Below w.heap.size w (w11.setCell ⟨gb128, 0, none⟩ (.string t126))) := ⟨by repeat (first | (with_reducible first | exact HB.out | apply below_alloc | apply pw_below_drewN | apply below_drew1 | refine below_set ?_ GE128.out) | exact HB.out)⟩
    (try clear BK128)
    (try clear HB)
    generalize (w11.setCell ⟨gb128, 0, none⟩ (.string t126)) = w13 at n0_ n1_ ⊢
    have BK128 := n0_
    have HB := n1_
    clear n0_ n1_
    have n0_ := Aside0.mk (blk_drew BK128.out)
    have n1_ := Aside0.mk (below_drew1 HB.out)
    clear BK128
    clear HB
    have BK128 := n0_
    have HB := n1_
    clear n0_ n1_
    refine start_ (n := 6) (S := fun w' => w'.cell? ⟨gb128, 0, none⟩ = some (.string t126)) (ds := []) #[false, false, false, false, false, false] (by kernel_rfl) rfl rfl ((blk_cell BK128.out 0).trans rfl) (fun hHeld => ?_)
    generalize w13.drew = w14 at BK128 HB hHeld ⊢
    refine pure_ (i := 2) (N := some 13) (v := ?_) (a' := ?_) #[false, false, true, false, false, false] rfl rfl (by kernel_rfl) (fun _ _ _ h => h) (Or.inl ⟨by rfl, ?_⟩) ?_ ?_
    rotate_left
    · intro w'
      go_simp
      with_reducible rfl
    rotate_left
    · simp only [Act.put, List.setIfInBounds_toArray, List.set_cons_zero, List.set_cons_succ, i64_w, i32_w]
      rfl
    refine pure_ (i := 3) (N := some 14) (v := ?_) (a' := ?_) #[false, false, true, true, false, false] rfl rfl (by kernel_rfl) (fun _ _ _ h => h) (Or.inl ⟨by rfl, ?_⟩) ?_ ?_
    rotate_left
    · intro w'
      go_simp
      with_reducible rfl
    rotate_left
    · simp only [Act.put, List.setIfInBounds_toArray, List.set_cons_zero, List.set_cons_succ, i64_w, i32_w]
      rfl
    refine take_ (i := 0) (N := some 11) (v := ?_) (a' := ?_) #[true, false, true, true, false, false] rfl rfl (by kernel_rfl) (fun _ _ _ h => h) (Or.inl ⟨by rfl, ?_⟩) hHeld ?_ ?_
    rotate_left
    · intro w' s0
      go_simp
      with_reducible rfl
    rotate_left
    · simp only [Act.put, List.setIfInBounds_toArray, List.set_cons_zero, List.set_cons_succ, i64_w, i32_w]
      rfl
    refine one_ (i := 1) (N := some 12) #[true, true, true, true, false, false] rfl rfl (by kernel_rfl) (by decide) (fun K hK => ?_)
    refine goes_ Try.func20 (by kernel_rfl) rfl #[.agg #[.string t126]] (by rfl) rfl rfl (by (try simp only [List.map_toArray, List.map_cons, List.map_nil]); first | done | rfl | (simp only [List.length_drop, List.length_take]; rfl)) ?_
    with_reducible refine (dbus_Signature_String.calls t126 t129 _ A3.out).mono ?_
    rintro e w15 ⟨rfl, hb⟩
    refine ⟨_, rfl, ?_⟩
    have n0_ := Aside0.mk (blk_below (g := gb128) (o := .cells #[.string t126] 42 (0, 0)) (by (with_reducible repeat (first | refine blk_drewN ?_ _ | refine blk_drew ?_ | refine blk_alloc ?_ _)); exact BK128.out) hb)
    have n1_ := Aside0.mk (below_step (by repeat (first | (with_reducible first | exact HB.out | apply below_alloc | apply pw_below_drewN | apply below_drew1 | refine below_set ?_ GE128.out) | exact HB.out)) hb)
    clear BK128
    clear HB
    have BK128 := n0_
    have HB := n1_
    clear n0_ n1_
    (try clear hb)
    (try clear hb2)
    (try clear hk)
    (try clear hi)
    refine hK.out _ _ ((blk_cell BK128.out 0).trans rfl) (fun hHeld => ?_)
    clear hK K
    refine norm_ (a' := ?_) ?_ ?_
    rotate_left
    · show Act.put _ (some 12) _ = _
      simp only [Act.put, List.setIfInBounds_toArray, List.set_cons_zero, List.set_cons_succ, i64_w, i32_w]
      rfl
    refine pure_ (i := 4) (N := some 2) (v := ?_) (a' := ?_) #[true, true, true, true, true, false] rfl rfl (by kernel_rfl) (fun _ _ _ h => h) (Or.inl ⟨by rfl, ?_⟩) ?_ ?_
    rotate_left
    · intro w'
      go_simp
      with_reducible rfl
    rotate_left
    · simp only [Act.put, List.setIfInBounds_toArray, List.set_cons_zero, List.set_cons_succ, i64_w, i32_w]
      rfl
    refine pure_ (i := 5) (N := some 3) (v := ?_) (a' := ?_) #[true, true, true, true, true, true] rfl rfl (by kernel_rfl) (fun _ _ _ h => h) (Or.inl ⟨by rfl, ?_⟩) ?_ ?_
    rotate_left
    · intro w'
      go_simp
      with_reducible rfl
    rotate_left
    · simp only [Act.put, List.setIfInBounds_toArray, List.set_cons_zero, List.set_cons_succ, i64_w, i32_w]
      rfl
    refine done_ (by kernel_rfl) ?_
    try go_wp2
    go_ret2
    exact ⟨by first | rfl | (simp [errW_none, errW_some] <;> rfl) | (simp [*, errW_none, errW_some] <;> rfl) | (simp (disch := omega) only [wrap64_id] <;> rfl), by repeat (first | (with_reducible first | exact HB.out | apply below_alloc | apply pw_below_drewN | apply below_drew1 | refine below_set ?_ GE128.out) | exact HB.out)⟩

/-! ### laws_FnSgJoin: function 4 -/
mutual
def laws_FnSgJoin.j0 : Nat → ByteArray → ByteArray → Bool → Option (Bool)
  | 0, _, _, _ => none
  | k + 1, x0, x1, x18 => if x18 = true then (some true) else (if (x0.size : Int) > 4096 then (laws_FnSgJoin.j1 k x0 x1 true) else (if (x1.size : Int) > 4096 then (laws_FnSgJoin.j1 k x0 x1 true) else ((spec_Valid.f k x0).bind fun t131 => (if t131 = true then ((laws_sgLeft.f k x1).bind fun t132 => (laws_FnSgJoin.j1 k x0 x1 t132)) else (laws_FnSgJoin.j1 k x0 x1 true)))))
def laws_FnSgJoin.j1 : Nat → ByteArray → ByteArray → Bool → Option (Bool)
  | 0, _, _, _ => none
  | k + 1, x0, x1, x35 => if x35 = true then (some true) else ((impl_SgParse.f k x0).bind fun bt133 => ((impl_SgParse.f k x1).bind fun bt135 => (if x0.size + x1.size ≤ 9223372036854775807 then ((impl_SgParse.f k (x0 ++ x1)).bind fun bt137 => (if bt133.2 = true then (if bt135.2 = true then (some (bt137.2 == (decide ((wrap64 ((x0.size : Int) + (x1.size : Int))) ≤ 255)))) else (some (bt137.2 == false))) else (some false))) else (none))))
end
def laws_FnSgJoin.f (k : Nat) (a0 : ByteArray) (a1 : ByteArray) : Option (Bool) := if (a0.size : Int) > 2147483647 then (laws_FnSgJoin.j0 k a0 a1 true) else (laws_FnSgJoin.j0 k a0 a1 (decide ((a1.size : Int) > 2147483647)))
theorem laws_FnSgJoin.mono_l : ∀ k, (∀ y0 y1 y2, LeO (laws_FnSgJoin.j0 k y0 y1 y2) (laws_FnSgJoin.j0 (k + 1) y0 y1 y2)) ∧ (∀ y0 y1 y2, LeO (laws_FnSgJoin.j1 k y0 y1 y2) (laws_FnSgJoin.j1 (k + 1) y0 y1 y2))
  | 0 => ⟨fun _ _ _ r h => by simp [laws_FnSgJoin.j0] at h, fun _ _ _ r h => by simp [laws_FnSgJoin.j1] at h⟩
  | k + 1 => by
    obtain ⟨ih0, ih1⟩ := laws_FnSgJoin.mono_l k
    refine ⟨?_, ?_⟩
    · intro y0 y1 y2
      unfold laws_FnSgJoin.j0
      repeat' first
      | (with_reducible exact ih0 _ _ _)
      | (with_reducible exact ih1 _ _ _)
      | (with_reducible exact impl_SgParse.mono _ _)
      | (with_reducible exact laws_sgLeft.mono _ _)
      | (with_reducible exact spec_Valid.mono _ _)
      | (with_reducible exact LeO.refl _)
      | (with_reducible exact LeO.none _)
      | (with_reducible refine LeO.ite ?_ ?_)
      | (with_reducible refine LeO.bind ?_ (fun _ => ?_))
      | exact ih0 _ _ _
      | exact ih1 _ _ _
      | exact impl_SgParse.mono _ _
      | exact laws_sgLeft.mono _ _
      | exact spec_Valid.mono _ _
      | exact LeO.none _
      | refine LeO.ite ?_ ?_
      | refine LeO.bind ?_ (fun _ => ?_)
    · intro y0 y1 y2
      unfold laws_FnSgJoin.j1
      repeat' first
      | (with_reducible exact ih0 _ _ _)
      | (with_reducible exact ih1 _ _ _)
      | (with_reducible exact impl_SgParse.mono _ _)
      | (with_reducible exact laws_sgLeft.mono _ _)
      | (with_reducible exact spec_Valid.mono _ _)
      | (with_reducible exact LeO.refl _)
      | (with_reducible exact LeO.none _)
      | (with_reducible refine LeO.ite ?_ ?_)
      | (with_reducible refine LeO.bind ?_ (fun _ => ?_))
      | exact ih0 _ _ _
      | exact ih1 _ _ _
      | exact impl_SgParse.mono _ _
      | exact laws_sgLeft.mono _ _
      | exact spec_Valid.mono _ _
      | exact LeO.none _
      | refine LeO.ite ?_ ?_
      | refine LeO.bind ?_ (fun _ => ?_)
theorem laws_FnSgJoin.mono : ∀ a0 a1 k, LeO (laws_FnSgJoin.f k a0 a1) (laws_FnSgJoin.f (k + 1) a0 a1) := by
  intro a0 a1 k
  obtain ⟨ih0, ih1⟩ := laws_FnSgJoin.mono_l k
  unfold laws_FnSgJoin.f
  repeat' first
      | (with_reducible exact ih0 _ _ _)
      | (with_reducible exact ih1 _ _ _)
      | (with_reducible exact impl_SgParse.mono _ _)
      | (with_reducible exact laws_sgLeft.mono _ _)
      | (with_reducible exact spec_Valid.mono _ _)
      | (with_reducible exact LeO.refl _)
      | (with_reducible exact LeO.none _)
      | (with_reducible refine LeO.ite ?_ ?_)
      | (with_reducible refine LeO.bind ?_ (fun _ => ?_))
      | exact ih0 _ _ _
      | exact ih1 _ _ _
      | exact impl_SgParse.mono _ _
      | exact laws_sgLeft.mono _ _
      | exact spec_Valid.mono _ _
      | exact LeO.none _
      | refine LeO.ite ?_ ?_
      | refine LeO.bind ?_ (fun _ => ?_)
set_option maxHeartbeats 8000000 in
set_option maxRecDepth 100000 in
theorem laws_FnSgJoin.calls (k : Nat) (a0 : ByteArray) (a1 : ByteArray) (r : Bool) (w : World) (h : laws_FnSgJoin.f k a0 a1 = some r) :
    Calls Try.prog 4 #[.string a0, .string a1] w fun e w' => e = .returned (.bool r) ∧ Below w.heap.size w w' := by
  have HB := Aside0.mk (Below.refl w.heap.size w)
  have H : (if (a0.size : Int) > 2147483647 then (laws_FnSgJoin.j0 k a0 a1 true) else (laws_FnSgJoin.j0 k a0 a1 (decide ((a1.size : Int) > 2147483647)))) = some r := h
  clear h
  have HC3 := Aside0.mk H
  clear H
  go_enter Try.func4, Try.ntmps4
  go_upto_region 1 with (fail)
  go_cut [18] (fun v18 wc => ∃ (kq : Nat) (x18_2 : Bool), v18 = .bool x18_2 ∧ Aside0 (laws_FnSgJoin.j0 kq a0 a1 x18_2 = some r) ∧ Aside0 (kq ≤ k) ∧ Aside0 (Below w.heap.size w wc))
  case first =>
    have H := HC3.out
    clear HC3
    by_cases c4 : (a0.size : Int) > 2147483647
    · rw [if_pos c4] at H
      have c4b0 : decide (2147483647 < (a0.size : Int)) = true := decide_eq_true c4
      have c4b1 : decide (2147483647 < a0.size) = true := decide_eq_true (by omega)
      clear c4
      (first | rw [c4b0] | (simp only [i64_w, i32_w]; rw [c4b0]) | skip)
      have H' := Aside0.mk H
      clear H
      go_wp2
      go_meet
      case rel => exact ⟨_, (true), (by first | rfl | (simp; done) | (simp [*]; done)), H', ⟨by first | omega | exact Nat.le_refl _⟩, ⟨by repeat (first | (with_reducible first | exact HB.out | apply below_alloc | apply pw_below_drewN | apply below_drew1) | exact HB.out)⟩⟩
    · rw [if_neg c4] at H
      have c4b0 : decide (2147483647 < (a0.size : Int)) = false := decide_eq_false c4
      have c4b1 : decide (2147483647 < a0.size) = false := decide_eq_false (by omega)
      clear c4
      (first | rw [c4b0] | (simp only [i64_w, i32_w]; rw [c4b0]) | skip)
      have H' := Aside0.mk H
      clear H
      go_wp2
      go_meet
      case rel => exact ⟨_, (decide ((a1.size : Int) > 2147483647)), (by first | rfl | (simp; done) | (simp [*]; done)), H', ⟨by first | omega | exact Nat.le_refl _⟩, ⟨by repeat (first | (with_reducible first | exact HB.out | apply below_alloc | apply pw_below_drewN | apply below_drew1) | exact HB.out)⟩⟩
  case rest =>
    clear HC3
    try clear p2
    try clear c4
    try clear c4b0
    try clear c4b1
    obtain ⟨kq, x18_2, rfl, HA, HJ2, HB⟩ := hcut
    cases kq with
    | zero => exact absurd HA.out (by simp [laws_FnSgJoin.j0])
    | succ kj2 =>
      have H := HA.out
      clear HA
      simp only [laws_FnSgJoin.j0] at H
      by_cases c5 : x18_2 = true
      · subst c5
        have H1 : (some true) = some r := by rw [if_pos rfl] at H; exact H
        clear H
        have H := H1
        clear H1
        obtain rfl := Option.some.inj H
        go_wp2
        go_ret
        exact ⟨by first | rfl | (simp [errW_none, errW_some] <;> rfl) | (simp [*, errW_none, errW_some] <;> rfl) | (simp (disch := omega) only [wrap64_id] <;> rfl), by repeat (first | (with_reducible first | exact HB.out | apply below_alloc | apply pw_below_drewN | apply below_drew1) | exact HB.out)⟩
      · replace c5 := Bool.eq_false_iff.mpr c5
        subst c5
        have H1 : (if (a0.size : Int) > 4096 then (laws_FnSgJoin.j1 kj2 a0 a1 true) else (if (a1.size : Int) > 4096 then (laws_FnSgJoin.j1 kj2 a0 a1 true) else ((spec_Valid.f kj2 a0).bind fun t131 => (if t131 = true then ((laws_sgLeft.f kj2 a1).bind fun t132 => (laws_FnSgJoin.j1 kj2 a0 a1 t132)) else (laws_FnSgJoin.j1 kj2 a0 a1 true))))) = some r := by rw [if_neg (show ¬ (false = true) by decide)] at H; exact H
        clear H
        have H := H1
        clear H1
        have HC6 := Aside0.mk H
        clear H
        go_upto_region 3 with (fail)
        go_cut [35] (fun v35 wc => ∃ (kq : Nat) (x35_5 : Bool), v35 = .bool x35_5 ∧ Aside0 (laws_FnSgJoin.j1 kq a0 a1 x35_5 = some r) ∧ Aside0 (kq ≤ kj2) ∧ Aside0 (Below w.heap.size w wc))
        case first =>
          have H := HC6.out
          clear HC6
          by_cases c7 : (a0.size : Int) > 4096
          · rw [if_pos c7] at H
            have c7b0 : decide (4096 < (a0.size : Int)) = true := decide_eq_true c7
            have c7b1 : decide (4096 < a0.size) = true := decide_eq_true (by omega)
            clear c7
            (first | rw [c7b0] | (simp only [i64_w, i32_w]; rw [c7b0]) | skip)
            have H' := Aside0.mk H
            clear H
            go_wp2
            go_meet
            case rel => exact ⟨_, (true), (by first | rfl | (simp; done) | (simp [*]; done)), H', ⟨by have := HJ2.out; first | omega | exact Nat.le_refl _⟩, ⟨by repeat (first | (with_reducible first | exact HB.out | apply below_alloc | apply pw_below_drewN | apply below_drew1) | exact HB.out)⟩⟩
          · rw [if_neg c7] at H
            have c7b0 : decide (4096 < (a0.size : Int)) = false := decide_eq_false c7
            have c7b1 : decide (4096 < a0.size) = false := decide_eq_false (by omega)
            clear c7
            (first | rw [c7b0] | (simp only [i64_w, i32_w]; rw [c7b0]) | skip)
            by_cases c8 : (a1.size : Int) > 4096
            · rw [if_pos c8] at H
              have c8b0 : decide (4096 < (a1.size : Int)) = true := decide_eq_true c8
              have c8b1 : decide (4096 < a1.size) = true := decide_eq_true (by omega)
              clear c8
              have H' := Aside0.mk H
              clear H
              go_wp2
              go_meet
              case rel => exact ⟨_, (true), (by first | rfl | (simp; done) | (simp [*]; done)), H', ⟨by have := HJ2.out; first | omega | exact Nat.le_refl _⟩, ⟨by repeat (first | (with_reducible first | exact HB.out | apply below_alloc | apply pw_below_drewN | apply below_drew1) | exact HB.out)⟩⟩
            · rw [if_neg c8] at H
              have c8b0 : decide (4096 < (a1.size : Int)) = false := decide_eq_false c8
              have c8b1 : decide (4096 < a1.size) = false := decide_eq_false (by omega)
              clear c8
              replace H := Option.bind_eq_some_iff.mp H
              obtain ⟨t131, A90, H⟩ := H
              replace H : (if t131 = true then ((laws_sgLeft.f kj2 a1).bind fun t132 => (laws_FnSgJoin.j1 kj2 a0 a1 t132)) else (laws_FnSgJoin.j1 kj2 a0 a1 true)) = some r := H
              have A9 := Aside0.mk A90
              clear A90
              by_cases c10 : t131 = true
              · subst c10
                have H1 : ((laws_sgLeft.f kj2 a1).bind fun t132 => (laws_FnSgJoin.j1 kj2 a0 a1 t132)) = some r := by rw [if_pos rfl] at H; exact H
                clear H
                have H := H1
                clear H1
                replace H := Option.bind_eq_some_iff.mp H
                obtain ⟨t132, A110, H⟩ := H
                replace H : (laws_FnSgJoin.j1 kj2 a0 a1 t132) = some r := H
                have A11 := Aside0.mk A110
                clear A110
                have H' := Aside0.mk H
                clear H
                go_wp2_with (first | (go_at_call 12; (with_reducible refine (spec_Valid.calls kj2 a0 true _ A9.out).mono ?_); rintro e w12 ⟨rfl, hb⟩; have n0_ := Aside0.mk (below_step (by repeat (first | (with_reducible first | exact HB.out | apply below_alloc | apply pw_below_drewN | apply below_drew1) | exact HB.out)) hb); clear HB; have HB := n0_; clear n0_; (try clear hb); (try clear hb2); (try clear hk); (try clear hi)) | (go_at_call 8; (with_reducible refine (laws_sgLeft.calls kj2 a1 t132 _ A11.out).mono ?_); rintro e w13 ⟨rfl, hb⟩; have n0_ := Aside0.mk (below_step (by repeat (first | (with_reducible first | exact HB.out | apply below_alloc | apply pw_below_drewN | apply below_drew1) | exact HB.out)) hb); clear HB; have HB := n0_; clear n0_; (try clear hb); (try clear hb2); (try clear hk); (try clear hi)))
                go_meet
                case rel => exact ⟨_, (t132), (by first | rfl | (simp; done) | (simp [*]; done)), H', ⟨by have := HJ2.out; first | omega | exact Nat.le_refl _⟩, ⟨by repeat (first | (with_reducible first | exact HB.out | apply below_alloc | apply pw_below_drewN | apply below_drew1) | exact HB.out)⟩⟩
              · replace c10 := Bool.eq_false_iff.mpr c10
                subst c10
                have H1 : (laws_FnSgJoin.j1 kj2 a0 a1 true) = some r := by rw [if_neg (show ¬ (false = true) by decide)] at H; exact H
                clear H
                have H := H1
                clear H1
                have H' := Aside0.mk H
                clear H
                go_wp2_with (first | (go_at_call 12; (with_reducible refine (spec_Valid.calls kj2 a0 false _ A9.out).mono ?_); rintro e w14 ⟨rfl, hb⟩; have n0_ := Aside0.mk (below_step (by repeat (first | (with_reducible first | exact HB.out | apply below_alloc | apply pw_below_drewN | apply below_drew1) | exact HB.out)) hb); clear HB; have HB := n0_; clear n0_; (try clear hb); (try clear hb2); (try clear hk); (try clear hi)))
                go_meet
                case rel => exact ⟨_, (true), (by first | rfl | (simp; done) | (simp [*]; done)), H', ⟨by have := HJ2.out; first | omega | exact Nat.le_refl _⟩, ⟨by repeat (first | (with_reducible first | exact HB.out | apply below_alloc | apply pw_below_drewN | apply below_drew1) | exact HB.out)⟩⟩
        case rest =>
          clear HC6
          try clear c1
          try clear p2
          try clear c4
          try clear c4b0
          try clear c4b1
          try clear c5
          try clear p6
          try clear c7
          try clear c7b0
          try clear c7b1
          try clear c8
          try clear c8b0
          try clear c8b1
          try clear c10
          try clear p2
          obtain ⟨kq, x35_5, rfl, HA, HJ5, HB⟩ := hcut
          cases kq with
          | zero => exact absurd HA.out (by simp [laws_FnSgJoin.j1])
          | succ kj5 =>
            have H := HA.out
            clear HA
            simp only [laws_FnSgJoin.j1] at H
            by_cases c15 : x35_5 = true
            · subst c15
              have H1 : (some true) = some r := by rw [if_pos rfl] at H; exact H
              clear H
              have H := H1
              clear H1
              obtain rfl := Option.some.inj H
              go_wp2
              go_ret
              exact ⟨by first | rfl | (simp [errW_none, errW_some] <;> rfl) | (simp [*, errW_none, errW_some] <;> rfl) | (simp (disch := omega) only [wrap64_id] <;> rfl), by repeat (first | (with_reducible first | exact HB.out | apply below_alloc | apply pw_below_drewN | apply below_drew1) | exact HB.out)⟩
            · replace c15 := Bool.eq_false_iff.mpr c15
              subst c15
              have H1 : ((impl_SgParse.f kj5 a0).bind fun bt133 => ((impl_SgParse.f kj5 a1).bind fun bt135 => (if a0.size + a1.size ≤ 9223372036854775807 then ((impl_SgParse.f kj5 (a0 ++ a1)).bind fun bt137 => (if bt133.2 = true then (if bt135.2 = true then (some (bt137.2 == (decide ((wrap64 ((a0.size : Int) + (a1.size : Int))) ≤ 255)))) else (some (bt137.2 == false))) else (some false))) else (none)))) = some r := by rw [if_neg (show ¬ (false = true) by decide)] at H; exact H
              clear H
              have H := H1
              clear H1
              replace H := Option.bind_eq_some_iff.mp H
              obtain ⟨⟨t133, t134⟩, A160, H⟩ := H
              replace H : ((impl_SgParse.f kj5 a1).bind fun bt135 => (if a0.size + a1.size ≤ 9223372036854775807 then ((impl_SgParse.f kj5 (a0 ++ a1)).bind fun bt137 => (if t134 = true then (if bt135.2 = true then (some (bt137.2 == (decide ((wrap64 ((a0.size : Int) + (a1.size : Int))) ≤ 255)))) else (some (bt137.2 == false))) else (some false))) else (none))) = some r := H
              have A16 := Aside0.mk A160
              clear A160
              replace H := Option.bind_eq_some_iff.mp H
              obtain ⟨⟨t135, t136⟩, A170, H⟩ := H
              replace H : (if a0.size + a1.size ≤ 9223372036854775807 then ((impl_SgParse.f kj5 (a0 ++ a1)).bind fun bt137 => (if t134 = true then (if t136 = true then (some (bt137.2 == (decide ((wrap64 ((a0.size : Int) + (a1.size : Int))) ≤ 255)))) else (some (bt137.2 == false))) else (some false))) else (none)) = some r := H
              have A17 := Aside0.mk A170
              clear A170
              by_cases c18 : a0.size + a1.size ≤ 9223372036854775807
              · rw [if_pos c18] at H
                have c18b0 := eq_true c18
                have c18b1 : decide (a0.size + a1.size ≤ 9223372036854775807) = true := decide_eq_true c18
                try have c18b2 : (9223372036854775807 < a0.size + a1.size) = False := eq_false (Nat.not_lt.2 c18)
                replace H := Option.bind_eq_some_iff.mp H
                obtain ⟨⟨t137, t138⟩, A190, H⟩ := H
                replace H : (if t134 = true then (if t136 = true then (some (t138 == (decide ((wrap64 ((a0.size : Int) + (a1.size : Int))) ≤ 255)))) else (some (t138 == false))) else (some false)) = some r := H
                have A19 := Aside0.mk A190
                clear A190
                by_cases c20 : t134 = true
                · subst c20
                  have H1 : (if t136 = true then (some (t138 == (decide ((wrap64 ((a0.size : Int) + (a1.size : Int))) ≤ 255)))) else (some (t138 == false))) = some r := by rw [if_pos rfl] at H; exact H
                  clear H
                  have H := H1
                  clear H1
                  by_cases c21 : t136 = true
                  · subst c21
                    have H1 : (some (t138 == (decide ((wrap64 ((a0.size : Int) + (a1.size : Int))) ≤ 255)))) = some r := by rw [if_pos rfl] at H; exact H
                    clear H
                    have H := H1
                    clear H1
                    obtain rfl := Option.some.inj H
                    go_wp2_with (first | ((with_reducible refine gate_callee (f := 13) rfl ?_); refine goesL_ (some 38) rfl rfl Try.func13 (by kernel_rfl) rfl #[.string a0] rfl (by (try simp only [List.map_toArray, List.map_cons, List.map_nil]); first | done | rfl | (simp only [List.length_drop, List.length_take]; rfl)) ?_; (with_reducible refine (impl_SgParse.calls kj5 a0 t133 true _ A16.out).mono ?_); rintro e w22 ⟨rfl, hb⟩; refine ⟨_, rfl, ?_⟩; have n0_ := Aside0.mk (below_step (by repeat (first | (with_reducible first | exact HB.out | apply below_alloc | apply pw_below_drewN | apply below_drew1) | exact HB.out)) hb); clear HB; have HB := n0_; clear n0_; (try clear hb); (try clear hb2); (try clear hk); (try clear hi)) | ((with_reducible refine gate_callee (f := 13) rfl ?_); refine goesL_ (some 43) rfl rfl Try.func13 (by kernel_rfl) rfl #[.string a1] rfl (by (try simp only [List.map_toArray, List.map_cons, List.map_nil]); first | done | rfl | (simp only [List.length_drop, List.length_take]; rfl)) ?_; (with_reducible refine (impl_SgParse.calls kj5 a1 t135 true _ A17.out).mono ?_); rintro e w23 ⟨rfl, hb⟩; refine ⟨_, rfl, ?_⟩; have n0_ := Aside0.mk (below_step (by repeat (first | (with_reducible first | exact HB.out | apply below_alloc | apply pw_below_drewN | apply below_drew1) | exact HB.out)) hb); clear HB; have HB := n0_; clear n0_; (try clear hb); (try clear hb2); (try clear hk); (try clear hi)) | ((with_reducible refine gate_callee (f := 13) rfl ?_); refine goesL_ (some 50) rfl rfl Try.func13 (by kernel_rfl) rfl #[.string (a0 ++ a1)] rfl (by (try simp only [List.map_toArray, List.map_cons, List.map_nil]); first | done | rfl | (simp only [List.length_drop, List.length_take]; rfl)) ?_; (with_reducible refine (impl_SgParse.calls kj5 (a0 ++ a1) t137 t138 _ A19.out).mono ?_); rintro e w24 ⟨rfl, hb⟩; refine ⟨_, rfl, ?_⟩; have n0_ := Aside0.mk (below_step (by repeat (first | (with_reducible first | exact HB.out | apply below_alloc | apply pw_below_drewN | apply below_drew1) | exact HB.out)) hb); clear HB; have HB := n0_; clear n0_; (try clear hb); (try clear hb2); (try clear hk); (try clear hi)))
                    go_ret
                    exact ⟨by first | rfl | (simp [errW_none, errW_some] <;> rfl) | (simp [*, errW_none, errW_some] <;> rfl) | (simp (disch := omega) only [wrap64_id] <;> rfl), by repeat (first | (with_reducible first | exact HB.out | apply below_alloc | apply pw_below_drewN | apply below_drew1) | exact HB.out)⟩
                  · replace c21 := Bool.eq_false_iff.mpr c21
                    subst c21
                    have H1 : (some (t138 == false)) = some r := by rw [if_neg (show ¬ (false = true) by decide)] at H; exact H
                    clear H
                    have H := H1
                    clear H1
                    obtain rfl := Option.some.inj H
                    go_wp2_with (first | ((with_reducible refine gate_callee (f := 13) rfl ?_); refine goesL_ (some 38) rfl rfl Try.func13 (by kernel_rfl) rfl #[.string a0] rfl (by (try simp only [List.map_toArray, List.map_cons, List.map_nil]); first | done | rfl | (simp only [List.length_drop, List.length_take]; rfl)) ?_; (with_reducible refine (impl_SgParse.calls kj5 a0 t133 true _ A16.out).mono ?_); rintro e w25 ⟨rfl, hb⟩; refine ⟨_, rfl, ?_⟩; have n0_ := Aside0.mk (below_step (by repeat (first | (with_reducible first | exact HB.out | apply below_alloc | apply pw_below_drewN | apply below_drew1) | exact HB.out)) hb); clear HB; have HB := n0_; clear n0_; (try clear hb); (try clear hb2); (try clear hk); (try clear hi)) | ((with_reducible refine gate_callee (f := 13) rfl ?_); refine goesL_ (some 43) rfl rfl Try.func13 (by kernel_rfl) rfl #[.string a1] rfl (by (try simp only [List.map_toArray, List.map_cons, List.map_nil]); first | done | rfl | (simp only [List.length_drop, List.length_take]; rfl)) ?_; (with_reducible refine (impl_SgParse.calls kj5 a1 t135 false _ A17.out).mono ?_); rintro e w26 ⟨rfl, hb⟩; refine ⟨_, rfl, ?_⟩; have n0_ := Aside0.mk (below_step (by repeat (first | (with_reducible first | exact HB.out | apply below_alloc | apply pw_below_drewN | apply below_drew1) | exact HB.out)) hb); clear HB; have HB := n0_; clear n0_; (try clear hb); (try clear hb2); (try clear hk); (try clear hi)) | ((with_reducible refine gate_callee (f := 13) rfl ?_); refine goesL_ (some 50) rfl rfl Try.func13 (by kernel_rfl) rfl #[.string (a0 ++ a1)] rfl (by (try simp only [List.map_toArray, List.map_cons, List.map_nil]); first | done | rfl | (simp only [List.length_drop, List.length_take]; rfl)) ?_; (with_reducible refine (impl_SgParse.calls kj5 (a0 ++ a1) t137 t138 _ A19.out).mono ?_); rintro e w27 ⟨rfl, hb⟩; refine ⟨_, rfl, ?_⟩; have n0_ := Aside0.mk (below_step (by repeat (first | (with_reducible first | exact HB.out | apply below_alloc | apply pw_below_drewN | apply below_drew1) | exact HB.out)) hb); clear HB; have HB := n0_; clear n0_; (try clear hb); (try clear hb2); (try clear hk); (try clear hi)))
                    go_ret
                    exact ⟨by first | rfl | (simp [errW_none, errW_some] <;> rfl) | (simp [*, errW_none, errW_some] <;> rfl) | (simp (disch := omega) only [wrap64_id] <;> rfl), by repeat (first | (with_reducible first | exact HB.out | apply below_alloc | apply pw_below_drewN | apply below_drew1) | exact HB.out)⟩
                · replace c20 := Bool.eq_false_iff.mpr c20
                  subst c20
                  have H1 : (some false) = some r := by rw [if_neg (show ¬ (false = true) by decide)] at H; exact H
                  clear H
                  have H := H1
                  clear H1
                  obtain rfl := Option.some.inj H
                  go_wp2_with (first | ((with_reducible refine gate_callee (f := 13) rfl ?_); refine goesL_ (some 38) rfl rfl Try.func13 (by kernel_rfl) rfl #[.string a0] rfl (by (try simp only [List.map_toArray, List.map_cons, List.map_nil]); first | done | rfl | (simp only [List.length_drop, List.length_take]; rfl)) ?_; (with_reducible refine (impl_SgParse.calls kj5 a0 t133 false _ A16.out).mono ?_); rintro e w28 ⟨rfl, hb⟩; refine ⟨_, rfl, ?_⟩; have n0_ := Aside0.mk (below_step (by repeat (first | (with_reducible first | exact HB.out | apply below_alloc | apply pw_below_drewN | apply below_drew1) | exact HB.out)) hb); clear HB; have HB := n0_; clear n0_; (try clear hb); (try clear hb2); (try clear hk); (try clear hi)) | ((with_reducible refine gate_callee (f := 13) rfl ?_); refine goesL_ (some 43) rfl rfl Try.func13 (by kernel_rfl) rfl #[.string a1] rfl (by (try simp only [List.map_toArray, List.map_cons, List.map_nil]); first | done | rfl | (simp only [List.length_drop, List.length_take]; rfl)) ?_; (with_reducible refine (impl_SgParse.calls kj5 a1 t135 t136 _ A17.out).mono ?_); rintro e w29 ⟨rfl, hb⟩; refine ⟨_, rfl, ?_⟩; have n0_ := Aside0.mk (below_step (by repeat (first | (with_reducible first | exact HB.out | apply below_alloc | apply pw_below_drewN | apply below_drew1) | exact HB.out)) hb); clear HB; have HB := n0_; clear n0_; (try clear hb); (try clear hb2); (try clear hk); (try clear hi)) | ((with_reducible refine gate_callee (f := 13) rfl ?_); refine goesL_ (some 50) rfl rfl Try.func13 (by kernel_rfl) rfl #[.string (a0 ++ a1)] rfl (by (try simp only [List.map_toArray, List.map_cons, List.map_nil]); first | done | rfl | (simp only [List.length_drop, List.length_take]; rfl)) ?_; (with_reducible refine (impl_SgParse.calls kj5 (a0 ++ a1) t137 t138 _ A19.out).mono ?_); rintro e w30 ⟨rfl, hb⟩; refine ⟨_, rfl, ?_⟩; have n0_ := Aside0.mk (below_step (by repeat (first | (with_reducible first | exact HB.out | apply below_alloc | apply pw_below_drewN | apply below_drew1) | exact HB.out)) hb); clear HB; have HB := n0_; clear n0_; (try clear hb); (try clear hb2); (try clear hk); (try clear hi)))
                  go_ret
                  exact ⟨by first | rfl | (simp [errW_none, errW_some] <;> rfl) | (simp [*, errW_none, errW_some] <;> rfl) | (simp (disch := omega) only [wrap64_id] <;> rfl), by repeat (first | (with_reducible first | exact HB.out | apply below_alloc | apply pw_below_drewN | apply below_drew1) | exact HB.out)⟩
              · rw [if_neg c18] at H
                exact absurd H (by simp)

/-- THE ONE PURE STATEMENT of laws_FnSgJoin: yours. -/
def laws_FnSgJoin.Pure : Prop := ∀ (a0 : ByteArray) (a1 : ByteArray), a0.size ≤ 140737488351232 → a1.size ≤ 140737488351232 → ∃ k, laws_FnSgJoin.f k a0 a1 = some true
theorem laws_FnSgJoin.walk (P : laws_FnSgJoin.Pure) (a0 : ByteArray) (a1 : ByteArray) (w : World) (w0 : a0.size ≤ 140737488351232) (w1 : a1.size ≤ 140737488351232) :
    Calls Try.prog 4 #[.string a0, .string a1] w fun e w' => e = .returned (.bool true) ∧ Below w.heap.size w w' := by
  obtain ⟨k, h⟩ := P a0 a1 w0 w1
  refine (laws_FnSgJoin.calls k a0 a1 true w h).mono ?_
  rintro e w' ⟨rfl, hd⟩
  exact ⟨rfl, hd⟩

end Go.Proofs.Ytfipimoemhbnlaa.MFnSgJoin
