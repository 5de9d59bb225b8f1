-- Written by a program of this session (myprint.py, out of the translation). Not trusted: Lean checks it.
import Derived.Test.YtfipimoemhbnlaaMFnSgReplacex0
import Derived.Test.YtfipimoemhbnlaaMFnSgReplacex3
import Derived.Test.YtfipimoemhbnlaaMFnSgReplacex7
namespace Go.Proofs.Ytfipimoemhbnlaa.MFnSgReplace
open Go.RowKit Go.Proofs.YtfipimoemhbnlaaW.PrintWords Go.Proofs.YtfipimoemhbnlaaW.PrintLast Go.Proofs.YtfipimoemhbnlaaW.PrintMore
attribute [local go_sem] max2_int min2_int max_two min_two max_three min_three max_four min_four   -- for this text's walks alone
set_option linter.unusedVariables false
set_option linter.unusedSimpArgs false

/-! ### dbus_Signature_String: function 20 -/
def dbus_Signature_String.f (a0_0 : ByteArray) : Option (ByteArray) := some a0_0
set_option maxHeartbeats 8000000 in
set_option maxRecDepth 100000 in
theorem dbus_Signature_String.calls (a0_0 : ByteArray) (r : ByteArray) (w : World) (h : dbus_Signature_String.f a0_0 = some r) :
    Calls Try.prog 20 #[.agg #[.string a0_0]] w fun e w' => e = .returned (.string r) ∧ Below w.heap.size w w' := by
  have hu42 := Try.underlying42
  have HB := Aside0.mk (Below.refl w.heap.size w)
  have H : (some a0_0) = some r := h
  clear h
  obtain rfl := Option.some.inj H
  go_enter Try.func20, Try.ntmps20
  go_wp2_with (first | ((with_reducible refine gate_dst (N := 1) rfl ?_); refine box_event ?hg (N := 1) ?hd (cs := #[.string a0_0]) (t := 42) ?hr ?_; (case hd => rfl); (case hg => rfl); (case hr => first | (go_simp; done) | (go_simp; rfl)); intro gb118 hg w2 hbox hb; have n0_ := Aside0.mk (below_step (by repeat (first | (with_reducible first | exact HB.out | apply below_alloc | apply pw_below_drewN | apply below_drew1) | exact HB.out)) hb); have n1_ := Aside0.mk (hbox); have n2_ := Aside0.mk ((by rw [hg]; exact (below_size (by repeat (first | (with_reducible first | exact HB.out | apply below_alloc | apply pw_below_drewN | apply below_drew1) | exact HB.out))) : w.heap.size ≤ gb118)); have n3_ := Aside0.mk ((by rw [hg]; exact (below_size (by repeat (first | (with_reducible first | exact HB.out | apply below_alloc | apply pw_below_drewN | apply below_drew1) | exact HB.out))) : w.heap.size ≤ gb118)); clear HB; have HB := n0_; have BK118 := n1_; have GW118 := n2_; have GE118 := n3_; clear n0_ n1_ n2_ n3_; clear hb hbox hg; have hcz3_0 : w2.cell? ⟨gb118, 0, none⟩ = some (.string a0_0) := (blk_cell BK118.out 0).trans rfl; have hfz3_0 := blk_frozen BK118.out 0))
  go_ret
  exact ⟨by first | rfl | (simp [errW_none, errW_some] <;> rfl) | (simp [*, errW_none, errW_some] <;> rfl) | (simp (disch := omega) only [wrap64_id] <;> rfl), by repeat (first | (with_reducible first | exact HB.out | apply below_alloc | apply pw_below_drewN | apply below_drew1 | refine below_set ?_ GE118.out) | exact HB.out)⟩

/-! ### impl_SgParse: function 13 -/
def impl_SgParse.f (k : Nat) (a0 : ByteArray) : Option (ByteArray × Bool) := (dbus_ParseSignature.f k a0).bind fun bt119 => ((dbus_Signature_String.f bt119.1).bind fun t122 => (if bt119.2.isNone = true then (some (t122, true)) else (some (t122, false))))
theorem impl_SgParse.mono : ∀ a0 k, LeO (impl_SgParse.f k a0) (impl_SgParse.f (k + 1) a0) := by
  intro a0 k
  unfold impl_SgParse.f
  repeat' first
      | (with_reducible exact dbus_ParseSignature.mono _ _)
      | (with_reducible exact LeO.refl _)
      | (with_reducible exact LeO.none _)
      | (with_reducible refine LeO.ite ?_ ?_)
      | (with_reducible refine LeO.bind ?_ (fun _ => ?_))
      | exact dbus_ParseSignature.mono _ _
      | exact LeO.none _
      | refine LeO.ite ?_ ?_
      | refine LeO.bind ?_ (fun _ => ?_)
set_option maxHeartbeats 8000000 in
set_option maxRecDepth 100000 in
theorem impl_SgParse.calls (k : Nat) (a0 : ByteArray) (r1 : ByteArray) (r2 : Bool) (w : World) (h : impl_SgParse.f k a0 = some (r1, r2)) :
    Calls Try.prog 13 #[.string a0] w fun e w' => e = .returned (.tuple #[.string r1, .bool r2]) ∧ Below w.heap.size w w' := by
  have hu42 := Try.underlying42
  have hu44 := Try.underlying44
  have HB := Aside0.mk (Below.refl w.heap.size w)
  have H : ((dbus_ParseSignature.f k a0).bind fun bt119 => ((dbus_Signature_String.f bt119.1).bind fun t122 => (if bt119.2.isNone = true then (some (t122, true)) else (some (t122, false))))) = some (r1, r2) := h
  clear h
  replace H := Option.bind_eq_some_iff.mp H
  obtain ⟨⟨t119, t120⟩, A20, H⟩ := H
  replace H : ((dbus_Signature_String.f t119).bind fun t122 => (if t120.isNone = true then (some (t122, true)) else (some (t122, false)))) = some (r1, r2) := H
  have A2 := Aside0.mk A20
  clear A20
  replace H := Option.bind_eq_some_iff.mp H
  obtain ⟨t122, A30, H⟩ := H
  replace H : (if t120.isNone = true then (some (t122, true)) else (some (t122, false))) = some (r1, r2) := H
  have A3 := Aside0.mk A30
  clear A30
  rcases t120 with _ | q123
  · have H1 : (some (t122, true)) = some (r1, r2) := by rw [if_pos (show (none : Option (TypeId × Value)).isNone = true by rfl)] at H; exact H
    clear H
    have H := H1
    clear H1
    try simp only [errW_none, errW_some]
    simp only [Option.some.injEq, Prod.mk.injEq] at H
    obtain ⟨rfl, rfl⟩ := H
    go_enter Try.func13, Try.ntmps13
    try go_wp2_with (first | ((with_reducible refine gate_callee (f := 19) rfl ?_); refine goesL_ (some 8) rfl rfl Try.func19 (by kernel_rfl) rfl #[.string a0] rfl (by (try simp only [List.map_toArray, List.map_cons, List.map_nil]); first | done | rfl | (simp only [List.length_drop, List.length_take]; rfl)) ?_; (with_reducible refine (dbus_ParseSignature.calls k a0 t119 none _ A2.out).mono ?_); rintro e w4 ⟨rfl, hb⟩; refine ⟨_, rfl, ?_⟩; have n0_ := Aside0.mk (below_step (by repeat (first | (with_reducible first | exact HB.out | apply below_alloc | apply pw_below_drewN | apply below_drew1) | exact HB.out)) hb); clear HB; have HB := n0_; clear n0_; (try clear hb); (try clear hb2); (try clear hk); (try clear hi); (try simp only [errW_none, errW_some])) | ((with_reducible refine gate_dst (N := 4) rfl ?_); refine box_event ?hg (N := 4) ?hd (cs := #[.string (⟨#[]⟩ : ByteArray)]) (t := 42) ?hr ?_; (case hd => rfl); (case hg => rfl); (case hr => first | (go_simp; done) | (go_simp; rfl)); intro gb121 hg w5 hbox hb; have n0_ := Aside0.mk (below_step (by repeat (first | (with_reducible first | exact HB.out | apply below_alloc | apply pw_below_drewN | apply below_drew1) | exact HB.out)) hb); have n1_ := Aside0.mk (hbox); have n2_ := Aside0.mk ((by rw [hg]; exact (below_size (by repeat (first | (with_reducible first | exact HB.out | apply below_alloc | apply pw_below_drewN | apply below_drew1) | exact HB.out))) : w.heap.size ≤ gb121)); have n3_ := Aside0.mk ((by rw [hg]; exact (below_size (by repeat (first | (with_reducible first | exact HB.out | apply below_alloc | apply pw_below_drewN | apply below_drew1) | exact HB.out))) : w.heap.size ≤ gb121)); clear HB; have HB := n0_; have BK121 := n1_; have GW121 := n2_; have GE121 := n3_; clear n0_ n1_ n2_ n3_; clear hb hbox hg; have hcz6_0 : w5.cell? ⟨gb121, 0, none⟩ = some (.string (⟨#[]⟩ : ByteArray)) := (blk_cell BK121.out 0).trans rfl; have hfz6_0 := blk_frozen BK121.out 0))
    have n0_ : Aside0 ((w5.setCell ⟨gb121, 0, none⟩ (.string t119)).heap[gb121]? = some (.cells #[.string t119] 42 (0, 0))) := ⟨by (with_reducible repeat (first | refine blk_drewN ?_ _ | refine blk_drew ?_ | refine blk_alloc ?_ _)); refine blk_put (cs := #[.string (⟨#[]⟩ : ByteArray)]) ?_ 0 _ rfl; (with_reducible repeat (first | refine blk_drewN ?_ _ | refine blk_drew ?_ | refine blk_alloc ?_ _)); exact BK121.out⟩
    have n1_ : Aside0 (Below w.heap.size w (w5.setCell ⟨gb121, 0, none⟩ (.string t119))) := ⟨by repeat (first | (with_reducible first | exact HB.out | apply below_alloc | apply pw_below_drewN | apply below_drew1 | refine below_set ?_ GE121.out) | exact HB.out)⟩
    (try clear BK121)
    (try clear HB)
    generalize (w5.setCell ⟨gb121, 0, none⟩ (.string t119)) = w7 at n0_ n1_ ⊢
    have BK121 := n0_
    have HB := n1_
    clear n0_ n1_
    have n0_ := Aside0.mk (blk_drew BK121.out)
    have n1_ := Aside0.mk (below_drew1 HB.out)
    clear BK121
    clear HB
    have BK121 := n0_
    have HB := n1_
    clear n0_ n1_
    refine start_ (n := 6) (S := fun w' => w'.cell? ⟨gb121, 0, none⟩ = some (.string t119)) (ds := []) #[false, false, false, false, false, false] (by kernel_rfl) rfl rfl ((blk_cell BK121.out 0).trans rfl) (fun hHeld => ?_)
    generalize w7.drew = w8 at BK121 HB hHeld ⊢
    refine pure_ (i := 2) (N := some 13) (v := ?_) (a' := ?_) #[false, false, true, false, false, false] rfl rfl (by kernel_rfl) (fun _ _ _ h => h) (Or.inl ⟨by rfl, ?_⟩) ?_ ?_
    rotate_left
    · intro w'
      go_simp
      with_reducible rfl
    rotate_left
    · simp only [Act.put, List.setIfInBounds_toArray, List.set_cons_zero, List.set_cons_succ, i64_w, i32_w]
      rfl
    refine pure_ (i := 3) (N := some 14) (v := ?_) (a' := ?_) #[false, false, true, true, false, false] rfl rfl (by kernel_rfl) (fun _ _ _ h => h) (Or.inl ⟨by rfl, ?_⟩) ?_ ?_
    rotate_left
    · intro w'
      go_simp
      with_reducible rfl
    rotate_left
    · simp only [Act.put, List.setIfInBounds_toArray, List.set_cons_zero, List.set_cons_succ, i64_w, i32_w]
      rfl
    refine take_ (i := 0) (N := some 11) (v := ?_) (a' := ?_) #[true, false, true, true, false, false] rfl rfl (by kernel_rfl) (fun _ _ _ h => h) (Or.inl ⟨by rfl, ?_⟩) hHeld ?_ ?_
    rotate_left
    · intro w' s0
      go_simp
      with_reducible rfl
    rotate_left
    · simp only [Act.put, List.setIfInBounds_toArray, List.set_cons_zero, List.set_cons_succ, i64_w, i32_w]
      rfl
    refine one_ (i := 1) (N := some 12) #[true, true, true, true, false, false] rfl rfl (by kernel_rfl) (by decide) (fun K hK => ?_)
    refine goes_ Try.func20 (by kernel_rfl) rfl #[.agg #[.string t119]] (by rfl) rfl rfl (by (try simp only [List.map_toArray, List.map_cons, List.map_nil]); first | done | rfl | (simp only [List.length_drop, List.length_take]; rfl)) ?_
    with_reducible refine (dbus_Signature_String.calls t119 t122 _ A3.out).mono ?_
    rintro e w9 ⟨rfl, hb⟩
    refine ⟨_, rfl, ?_⟩
    have n0_ := Aside0.mk (blk_below (g := gb121) (o := .cells #[.string t119] 42 (0, 0)) (by (with_reducible repeat (first | refine blk_drewN ?_ _ | refine blk_drew ?_ | refine blk_alloc ?_ _)); exact BK121.out) hb)
    have n1_ := Aside0.mk (below_step (by repeat (first | (with_reducible first | exact HB.out | apply below_alloc | apply pw_below_drewN | apply below_drew1 | refine below_set ?_ GE121.out) | exact HB.out)) hb)
    clear BK121
    clear HB
    have BK121 := n0_
    have HB := n1_
    clear n0_ n1_
    (try clear hb)
    (try clear hb2)
    (try clear hk)
    (try clear hi)
    refine hK.out _ _ ((blk_cell BK121.out 0).trans rfl) (fun hHeld => ?_)
    clear hK K
    refine norm_ (a' := ?_) ?_ ?_
    rotate_left
    · show Act.put _ (some 12) _ = _
      simp only [Act.put, List.setIfInBounds_toArray, List.set_cons_zero, List.set_cons_succ, i64_w, i32_w]
      rfl
    refine pure_ (i := 4) (N := some 2) (v := ?_) (a' := ?_) #[true, true, true, true, true, false] rfl rfl (by kernel_rfl) (fun _ _ _ h => h) (Or.inl ⟨by rfl, ?_⟩) ?_ ?_
    rotate_left
    · intro w'
      go_simp
      with_reducible rfl
    rotate_left
    · simp only [Act.put, List.setIfInBounds_toArray, List.set_cons_zero, List.set_cons_succ, i64_w, i32_w]
      rfl
    refine pure_ (i := 5) (N := some 3) (v := ?_) (a' := ?_) #[true, true, true, true, true, true] rfl rfl (by kernel_rfl) (fun _ _ _ h => h) (Or.inl ⟨by rfl, ?_⟩) ?_ ?_
    rotate_left
    · intro w'
      go_simp
      with_reducible rfl
    rotate_left
    · simp only [Act.put, List.setIfInBounds_toArray, List.set_cons_zero, List.set_cons_succ, i64_w, i32_w]
      rfl
    refine done_ (by kernel_rfl) ?_
    try go_wp2
    go_ret2
    exact ⟨by first | rfl | (simp [errW_none, errW_some] <;> rfl) | (simp [*, errW_none, errW_some] <;> rfl) | (simp (disch := omega) only [wrap64_id] <;> rfl), by repeat (first | (with_reducible first | exact HB.out | apply below_alloc | apply pw_below_drewN | apply below_drew1 | refine below_set ?_ GE121.out) | exact HB.out)⟩
  · have H1 : (some (t122, false)) = some (r1, r2) := by rw [if_neg (show ¬ (some q123).isNone = true by simp)] at H; exact H
    clear H
    have H := H1
    clear H1
    try simp only [errW_none, errW_some]
    simp only [Option.some.injEq, Prod.mk.injEq] at H
    obtain ⟨rfl, rfl⟩ := H
    go_enter Try.func13, Try.ntmps13
    try go_wp2_with (first | ((with_reducible refine gate_callee (f := 19) rfl ?_); refine goesL_ (some 8) rfl rfl Try.func19 (by kernel_rfl) rfl #[.string a0] rfl (by (try simp only [List.map_toArray, List.map_cons, List.map_nil]); first | done | rfl | (simp only [List.length_drop, List.length_take]; rfl)) ?_; (with_reducible refine (dbus_ParseSignature.calls k a0 t119 (some q123) _ A2.out).mono ?_); rintro e w10 ⟨rfl, hb⟩; refine ⟨_, rfl, ?_⟩; have n0_ := Aside0.mk (below_step (by repeat (first | (with_reducible first | exact HB.out | apply below_alloc | apply pw_below_drewN | apply below_drew1) | exact HB.out)) hb); clear HB; have HB := n0_; clear n0_; (try clear hb); (try clear hb2); (try clear hk); (try clear hi); (try simp only [errW_none, errW_some])) | ((with_reducible refine gate_dst (N := 4) rfl ?_); refine box_event ?hg (N := 4) ?hd (cs := #[.string (⟨#[]⟩ : ByteArray)]) (t := 42) ?hr ?_; (case hd => rfl); (case hg => rfl); (case hr => first | (go_simp; done) | (go_simp; rfl)); intro gb121 hg w11 hbox hb; have n0_ := Aside0.mk (below_step (by repeat (first | (with_reducible first | exact HB.out | apply below_alloc | apply pw_below_drewN | apply below_drew1) | exact HB.out)) hb); have n1_ := Aside0.mk (hbox); have n2_ := Aside0.mk ((by rw [hg]; exact (below_size (by repeat (first | (with_reducible first | exact HB.out | apply below_alloc | apply pw_below_drewN | apply below_drew1) | exact HB.out))) : w.heap.size ≤ gb121)); have n3_ := Aside0.mk ((by rw [hg]; exact (below_size (by repeat (first | (with_reducible first | exact HB.out | apply below_alloc | apply pw_below_drewN | apply below_drew1) | exact HB.out))) : w.heap.size ≤ gb121)); clear HB; have HB := n0_; have BK121 := n1_; have GW121 := n2_; have GE121 := n3_; clear n0_ n1_ n2_ n3_; clear hb hbox hg; have hcz12_0 : w11.cell? ⟨gb121, 0, none⟩ = some (.string (⟨#[]⟩ : ByteArray)) := (blk_cell BK121.out 0).trans rfl; have hfz12_0 := blk_frozen BK121.out 0))
    have n0_ : Aside0 ((w11.setCell ⟨gb121, 0, none⟩ (.string t119)).heap[gb121]? = some (.cells #[.string t119] 42 (0, 0))) := ⟨by (with_reducible repeat (first | refine blk_drewN ?_ _ | refine blk_drew ?_ | refine blk_alloc ?_ _)); refine blk_put (cs := #[.string (⟨#[]⟩ : ByteArray)]) ?_ 0 _ rfl; (with_reducible repeat (first | refine blk_drewN ?_ _ | refine blk_drew ?_ | refine blk_alloc ?_ _)); exact BK121.out⟩
    have n1_ : Aside0 (Below w.heap.size w (w11.setCell ⟨gb121, 0, none⟩ (.string t119))) := ⟨by repeat (first | (with_reducible first | exact HB.out | apply below_alloc | apply pw_below_drewN | apply below_drew1 | refine below_set ?_ GE121.out) | exact HB.out)⟩
    (try clear BK121)
    (try clear HB)
    generalize (w11.setCell ⟨gb121, 0, none⟩ (.string t119)) = w13 at n0_ n1_ ⊢
    have BK121 := n0_
    have HB := n1_
    clear n0_ n1_
    have n0_ := Aside0.mk (blk_drew BK121.out)
    have n1_ := Aside0.mk (below_drew1 HB.out)
    clear BK121
    clear HB
    have BK121 := n0_
    have HB := n1_
    clear n0_ n1_
    refine start_ (n := 6) (S := fun w' => w'.cell? ⟨gb121, 0, none⟩ = some (.string t119)) (ds := []) #[false, false, false, false, false, false] (by kernel_rfl) rfl rfl ((blk_cell BK121.out 0).trans rfl) (fun hHeld => ?_)
    generalize w13.drew = w14 at BK121 HB hHeld ⊢
    refine pure_ (i := 2) (N := some 13) (v := ?_) (a' := ?_) #[false, false, true, false, false, false] rfl rfl (by kernel_rfl) (fun _ _ _ h => h) (Or.inl ⟨by rfl, ?_⟩) ?_ ?_
    rotate_left
    · intro w'
      go_simp
      with_reducible rfl
    rotate_left
    · simp only [Act.put, List.setIfInBounds_toArray, List.set_cons_zero, List.set_cons_succ, i64_w, i32_w]
      rfl
    refine pure_ (i := 3) (N := some 14) (v := ?_) (a' := ?_) #[false, false, true, true, false, false] rfl rfl (by kernel_rfl) (fun _ _ _ h => h) (Or.inl ⟨by rfl, ?_⟩) ?_ ?_
    rotate_left
    · intro w'
      go_simp
      with_reducible rfl
    rotate_left
    · simp only [Act.put, List.setIfInBounds_toArray, List.set_cons_zero, List.set_cons_succ, i64_w, i32_w]
      rfl
    refine take_ (i := 0) (N := some 11) (v := ?_) (a' := ?_) #[true, false, true, true, false, false] rfl rfl (by kernel_rfl) (fun _ _ _ h => h) (Or.inl ⟨by rfl, ?_⟩) hHeld ?_ ?_
    rotate_left
    · intro w' s0
      go_simp
      with_reducible rfl
    rotate_left
    · simp only [Act.put, List.setIfInBounds_toArray, List.set_cons_zero, List.set_cons_succ, i64_w, i32_w]
      rfl
    refine one_ (i := 1) (N := some 12) #[true, true, true, true, false, false] rfl rfl (by kernel_rfl) (by decide) (fun K hK => ?_)
    refine goes_ Try.func20 (by kernel_rfl) rfl #[.agg #[.string t119]] (by rfl) rfl rfl (by (try simp only [List.map_toArray, List.map_cons, List.map_nil]); first | done | rfl | (simp only [List.length_drop, List.length_take]; rfl)) ?_
    with_reducible refine (dbus_Signature_String.calls t119 t122 _ A3.out).mono ?_
    rintro e w15 ⟨rfl, hb⟩
    refine ⟨_, rfl, ?_⟩
    have n0_ := Aside0.mk (blk_below (g := gb121) (o := .cells #[.string t119] 42 (0, 0)) (by (with_reducible repeat (first | refine blk_drewN ?_ _ | refine blk_drew ?_ | refine blk_alloc ?_ _)); exact BK121.out) hb)
    have n1_ := Aside0.mk (below_step (by repeat (first | (with_reducible first | exact HB.out | apply below_alloc | apply pw_below_drewN | apply below_drew1 | refine below_set ?_ GE121.out) | exact HB.out)) hb)
    clear BK121
    clear HB
    have BK121 := n0_
    have HB := n1_
    clear n0_ n1_
    (try clear hb)
    (try clear hb2)
    (try clear hk)
    (try clear hi)
    refine hK.out _ _ ((blk_cell BK121.out 0).trans rfl) (fun hHeld => ?_)
    clear hK K
    refine norm_ (a' := ?_) ?_ ?_
    rotate_left
    · show Act.put _ (some 12) _ = _
      simp only [Act.put, List.setIfInBounds_toArray, List.set_cons_zero, List.set_cons_succ, i64_w, i32_w]
      rfl
    refine pure_ (i := 4) (N := some 2) (v := ?_) (a' := ?_) #[true, true, true, true, true, false] rfl rfl (by kernel_rfl) (fun _ _ _ h => h) (Or.inl ⟨by rfl, ?_⟩) ?_ ?_
    rotate_left
    · intro w'
      go_simp
      with_reducible rfl
    rotate_left
    · simp only [Act.put, List.setIfInBounds_toArray, List.set_cons_zero, List.set_cons_succ, i64_w, i32_w]
      rfl
    refine pure_ (i := 5) (N := some 3) (v := ?_) (a' := ?_) #[true, true, true, true, true, true] rfl rfl (by kernel_rfl) (fun _ _ _ h => h) (Or.inl ⟨by rfl, ?_⟩) ?_ ?_
    rotate_left
    · intro w'
      go_simp
      with_reducible rfl
    rotate_left
    · simp only [Act.put, List.setIfInBounds_toArray, List.set_cons_zero, List.set_cons_succ, i64_w, i32_w]
      rfl
    refine done_ (by kernel_rfl) ?_
    try go_wp2
    go_ret2
    exact ⟨by first | rfl | (simp [errW_none, errW_some] <;> rfl) | (simp [*, errW_none, errW_some] <;> rfl) | (simp (disch := omega) only [wrap64_id] <;> rfl), by repeat (first | (with_reducible first | exact HB.out | apply below_alloc | apply pw_below_drewN | apply below_drew1 | refine below_set ?_ GE121.out) | exact HB.out)⟩

/-! ### spec_First: function 21 -/
def spec_First.j0 : Nat → ByteArray → Bool → Option (ByteArray × ByteArray × Bool)
  | 0, _, _ => none
  | k + 1, x0, x13 => if x13 = true then (if 1 + x0.size ≤ 9223372036854775807 then ((spec_complete.f k ((⟨#[97]⟩ : ByteArray) ++ x0)).bind fun t124 => (if (wrap64 (t124 - 1)) ≤ 0 then (some ((⟨#[]⟩ : ByteArray), (⟨#[]⟩ : ByteArray), false)) else (if 0 ≤ (wrap64 (t124 - 1)) then (if (wrap64 (t124 - 1)) ≤ (x0.size : Int) then (some (x0.extract 0 ((wrap64 (t124 - 1)) : Int).toNat, x0.extract ((wrap64 (t124 - 1)) : Int).toNat x0.size, true)) else (none)) else (none)))) else (none)) else ((spec_complete.f k x0).bind fun t125 => (if t125 ≤ 0 then (some ((⟨#[]⟩ : ByteArray), (⟨#[]⟩ : ByteArray), false)) else (if 0 ≤ t125 then (if t125 ≤ (x0.size : Int) then (some (x0.extract 0 (t125 : Int).toNat, x0.extract (t125 : Int).toNat x0.size, true)) else (none)) else (none))))
def spec_First.f (k : Nat) (a0 : ByteArray) : Option (ByteArray × ByteArray × Bool) := if (a0.size : Int) > 1 then (if 0 < (a0.size : Int) then (spec_First.j0 k a0 ((bt a0 0) == 123)) else (none)) else (spec_First.j0 k a0 false)
theorem spec_First.mono_l : ∀ k, (∀ y0 y1, LeO (spec_First.j0 k y0 y1) (spec_First.j0 (k + 1) y0 y1))
  | 0 => fun _ _ r h => by simp [spec_First.j0] at h
  | k + 1 => by
    have ih0 := spec_First.mono_l k
    · intro y0 y1
      unfold spec_First.j0
      repeat' first
      | (with_reducible exact ih0 _ _)
      | (with_reducible exact spec_complete.mono _ _)
      | (with_reducible exact LeO.refl _)
      | (with_reducible exact LeO.none _)
      | (with_reducible refine LeO.ite ?_ ?_)
      | (with_reducible refine LeO.bind ?_ (fun _ => ?_))
      | exact ih0 _ _
      | exact spec_complete.mono _ _
      | exact LeO.none _
      | refine LeO.ite ?_ ?_
      | refine LeO.bind ?_ (fun _ => ?_)
theorem spec_First.mono : ∀ a0 k, LeO (spec_First.f k a0) (spec_First.f (k + 1) a0) := by
  intro a0 k
  have ih0 := spec_First.mono_l k
  unfold spec_First.f
  repeat' first
      | (with_reducible exact ih0 _ _)
      | (with_reducible exact spec_complete.mono _ _)
      | (with_reducible exact LeO.refl _)
      | (with_reducible exact LeO.none _)
      | (with_reducible refine LeO.ite ?_ ?_)
      | (with_reducible refine LeO.bind ?_ (fun _ => ?_))
      | exact ih0 _ _
      | exact spec_complete.mono _ _
      | exact LeO.none _
      | refine LeO.ite ?_ ?_
      | refine LeO.bind ?_ (fun _ => ?_)
set_option maxHeartbeats 8000000 in
set_option maxRecDepth 100000 in
theorem spec_First.calls (k : Nat) (a0 : ByteArray) (r1 : ByteArray) (r2 : ByteArray) (r3 : Bool) (w : World) (h : spec_First.f k a0 = some (r1, r2, r3)) :
    Calls Try.prog 21 #[.string a0] w fun e w' => e = .returned (.tuple #[.string r1, .string r2, .bool r3]) ∧ Drawn0 w w' := by
  have H : (if (a0.size : Int) > 1 then (if 0 < (a0.size : Int) then (spec_First.j0 k a0 ((bt a0 0) == 123)) else (none)) else (spec_First.j0 k a0 false)) = some (r1, r2, r3) := h
  clear h
  have HC2 := Aside0.mk H
  clear H
  go_enter Try.func21, Try.ntmps21
  go_upto_region 2 with (fail)
  repeat (go_quiet (fail); go_upto_region 2 with (fail))
  go_cut [13] (fun v13 wc => ∃ (kq : Nat) (x13_1 : Bool), v13 = .bool x13_1 ∧ Aside0 (spec_First.j0 kq a0 x13_1 = some (r1, r2, r3)) ∧ Aside0 (kq ≤ k) ∧ Drawn0 w wc)
  case first =>
    have H := HC2.out
    clear HC2
    by_cases c3 : (a0.size : Int) > 1
    · rw [if_pos c3] at H
      have c3b0 : decide (1 < (a0.size : Int)) = true := decide_eq_true c3
      have c3b1 : decide (1 < a0.size) = true := decide_eq_true (by omega)
      clear c3
      (first | rw [c3b0] | (simp only [i64_w, i32_w]; rw [c3b0]) | skip)
      by_cases c4 : 0 < (a0.size : Int)
      · rw [if_pos c4] at H
        have c4b0 : decide (0 < (a0.size : Int)) = true := decide_eq_true c4
        have c4b1 : decide (0 < a0.size) = true := decide_eq_true (by omega)
        clear c4
        have H' := Aside0.mk H
        clear H
        have p5 : 0 ≤ (0 : Int) := (by omega)
        have q5 : 0 < a0.size := (by have : (0 : Int) < (a0.size : Int) := of_decide_eq_true (by first | (with_reducible assumption) | assumption); omega)
        have hx5 : ∀ h : 0 < a0.size, ((a0[0]'h).toNat : Int) = bt a0 0 := bt_at a0 0
        clear p5
        have qi5 : (0 < (a0.size : Int)) = True := eq_true (of_decide_eq_true (by first | (with_reducible assumption) | assumption))
        replace q5 := eq_true q5
        go_wp2
        repeat (go_quiet (fail); try go_wp2)
        go_meet
        case rel => exact ⟨_, (((bt a0 0) == 123)), (by first | rfl | (simp; done) | (simp [*]; done)), H', ⟨by first | omega | exact Nat.le_refl _⟩, by repeat (first | exact Drawn0.refl _ | apply Drawn0.step)⟩
      · rw [if_neg c4] at H
        exact absurd H (by simp)
    · rw [if_neg c3] at H
      have c3b0 : decide (1 < (a0.size : Int)) = false := decide_eq_false c3
      have c3b1 : decide (1 < a0.size) = false := decide_eq_false (by omega)
      clear c3
      (first | rw [c3b0] | (simp only [i64_w, i32_w]; rw [c3b0]) | skip)
      have H' := Aside0.mk H
      clear H
      go_wp2
      repeat (go_quiet (fail); try go_wp2)
      go_meet
      case rel => exact ⟨_, (false), (by first | rfl | (simp; done) | (simp [*]; done)), H', ⟨by first | omega | exact Nat.le_refl _⟩, by repeat (first | exact Drawn0.refl _ | apply Drawn0.step)⟩
  case rest =>
    clear HC2
    try clear c2
    try clear p2
    try clear c3
    try clear c3b0
    try clear c3b1
    try clear c4
    try clear c4b0
    try clear c4b1
    try clear p5
    try clear q5
    try clear hx5
    try clear qi5
    try clear p5
    try clear q5
    obtain ⟨kq, x13_1, rfl, HA, HJ1, ⟨mc1, rfl⟩⟩ := hcut
    cases kq with
    | zero => exact absurd HA.out (by simp [spec_First.j0])
    | succ kj1 =>
      have H := HA.out
      clear HA
      simp only [spec_First.j0] at H
      by_cases c6 : x13_1 = true
      · subst c6
        have H1 : (if 1 + a0.size ≤ 9223372036854775807 then ((spec_complete.f kj1 ((⟨#[97]⟩ : ByteArray) ++ a0)).bind fun t124 => (if (wrap64 (t124 - 1)) ≤ 0 then (some ((⟨#[]⟩ : ByteArray), (⟨#[]⟩ : ByteArray), false)) else (if 0 ≤ (wrap64 (t124 - 1)) then (if (wrap64 (t124 - 1)) ≤ (a0.size : Int) then (some (a0.extract 0 ((wrap64 (t124 - 1)) : Int).toNat, a0.extract ((wrap64 (t124 - 1)) : Int).toNat a0.size, true)) else (none)) else (none)))) else (none)) = some (r1, r2, r3) := by rw [if_pos rfl] at H; exact H
        clear H
        have H := H1
        clear H1
        by_cases c7 : 1 + a0.size ≤ 9223372036854775807
        · rw [if_pos c7] at H
          have c7b0 := eq_true c7
          have c7b1 : decide (1 + a0.size ≤ 9223372036854775807) = true := decide_eq_true c7
          try have c7b2 : (9223372036854775807 < 1 + a0.size) = False := eq_false (Nat.not_lt.2 c7)
          replace H := Option.bind_eq_some_iff.mp H
          obtain ⟨t124, A80, H⟩ := H
          replace H : (if (wrap64 (t124 - 1)) ≤ 0 then (some ((⟨#[]⟩ : ByteArray), (⟨#[]⟩ : ByteArray), false)) else (if 0 ≤ (wrap64 (t124 - 1)) then (if (wrap64 (t124 - 1)) ≤ (a0.size : Int) then (some (a0.extract 0 ((wrap64 (t124 - 1)) : Int).toNat, a0.extract ((wrap64 (t124 - 1)) : Int).toNat a0.size, true)) else (none)) else (none))) = some (r1, r2, r3) := H
          have A8 := Aside0.mk A80
          clear A80
          by_cases c9 : (wrap64 (t124 - 1)) ≤ 0
          · rw [if_pos c9] at H
            have c9b0 : decide ((wrap64 (t124 - 1)) ≤ 0) = true := decide_eq_true c9
            clear c9
            simp only [Option.some.injEq, Prod.mk.injEq] at H
            obtain ⟨rfl, rfl, rfl⟩ := H
            go_wp2_with (first | (go_at_call 22; (with_reducible refine (spec_complete.calls kj1 ((⟨#[97]⟩ : ByteArray) ++ a0) t124 _ A8.out).mono ?_); rintro e w' ⟨rfl, ⟨nd, rfl⟩⟩; (try first | exact ⟨rfl, _, World.drewN_drewN _ _ _⟩ | exact ⟨rfl, _, Eq.trans (World.drewN_drewN _ _ _) (congrArg (World.drewN _) (Nat.add_assoc _ _ _))⟩)))
            repeat (go_quiet (first | (go_at_call 22; (with_reducible refine (spec_complete.calls kj1 ((⟨#[97]⟩ : ByteArray) ++ a0) t124 _ A8.out).mono ?_); rintro e w' ⟨rfl, ⟨nd, rfl⟩⟩; (try first | exact ⟨rfl, _, World.drewN_drewN _ _ _⟩ | exact ⟨rfl, _, Eq.trans (World.drewN_drewN _ _ _) (congrArg (World.drewN _) (Nat.add_assoc _ _ _))⟩))); try go_wp2_with (first | (go_at_call 22; (with_reducible refine (spec_complete.calls kj1 ((⟨#[97]⟩ : ByteArray) ++ a0) t124 _ A8.out).mono ?_); rintro e w' ⟨rfl, ⟨nd, rfl⟩⟩; (try first | exact ⟨rfl, _, World.drewN_drewN _ _ _⟩ | exact ⟨rfl, _, Eq.trans (World.drewN_drewN _ _ _) (congrArg (World.drewN _) (Nat.add_assoc _ _ _))⟩))))
            go_ret3
            exact ⟨by first | rfl | (simp; done) | (simp [*]; done), by repeat (first | exact Drawn0.refl _ | apply Drawn0.step)⟩
          · rw [if_neg c9] at H
            have c9b0 : decide ((wrap64 (t124 - 1)) ≤ 0) = false := decide_eq_false c9
            clear c9
            obtain ⟨ji10, hji10⟩ : ∃ j_ : Int, (wrap64 (t124 - 1)) = j_ := ⟨_, rfl⟩
            replace H : (if 0 ≤ (ji10) then (if (ji10) ≤ (a0.size : Int) then (some (a0.extract 0 ((ji10) : Int).toNat, a0.extract ((ji10) : Int).toNat a0.size, true)) else (none)) else (none)) = some (r1, r2, r3) := by first | (rw [hji10] at H; exact H) | (simp only [hji10] at H ⊢; exact H)
            (try rw [hji10] at c9b0)
            (try rw [hji10] at A8)
            have hji10w : (IntKind.i64.wrap (t124 - 1)) = ji10 := (i64_w _).trans hji10
            by_cases c11 : 0 ≤ (ji10)
            · rw [if_pos c11] at H
              have c11b0 := eq_true c11
              have c11b1 : decide (0 ≤ (ji10)) = true := decide_eq_true c11
              clear c11
              by_cases c12 : (ji10) ≤ (a0.size : Int)
              · rw [if_pos c12] at H
                have c12b0 := eq_true c12
                have c12b1 : decide ((ji10) ≤ (a0.size : Int)) = true := decide_eq_true c12
                clear c12
                have c13b0 := eq_true (of_decide_eq_true (by first | (with_reducible assumption) | assumption) : 0 ≤ (ji10))
                have c14b0 := eq_true (of_decide_eq_true (by first | (with_reducible assumption) | assumption) : (ji10) ≤ (a0.size : Int))
                simp only [Option.some.injEq, Prod.mk.injEq] at H
                obtain ⟨rfl, rfl, rfl⟩ := H
                go_wp2_with (first | (go_at_call 22; (with_reducible refine (spec_complete.calls kj1 ((⟨#[97]⟩ : ByteArray) ++ a0) t124 _ A8.out).mono ?_); rintro e w' ⟨rfl, ⟨nd, rfl⟩⟩; (try first | exact ⟨rfl, _, World.drewN_drewN _ _ _⟩ | exact ⟨rfl, _, Eq.trans (World.drewN_drewN _ _ _) (congrArg (World.drewN _) (Nat.add_assoc _ _ _))⟩)))
                repeat (go_quiet (first | (go_at_call 22; (with_reducible refine (spec_complete.calls kj1 ((⟨#[97]⟩ : ByteArray) ++ a0) t124 _ A8.out).mono ?_); rintro e w' ⟨rfl, ⟨nd, rfl⟩⟩; (try first | exact ⟨rfl, _, World.drewN_drewN _ _ _⟩ | exact ⟨rfl, _, Eq.trans (World.drewN_drewN _ _ _) (congrArg (World.drewN _) (Nat.add_assoc _ _ _))⟩))); try go_wp2_with (first | (go_at_call 22; (with_reducible refine (spec_complete.calls kj1 ((⟨#[97]⟩ : ByteArray) ++ a0) t124 _ A8.out).mono ?_); rintro e w' ⟨rfl, ⟨nd, rfl⟩⟩; (try first | exact ⟨rfl, _, World.drewN_drewN _ _ _⟩ | exact ⟨rfl, _, Eq.trans (World.drewN_drewN _ _ _) (congrArg (World.drewN _) (Nat.add_assoc _ _ _))⟩))))
                go_ret3
                exact ⟨by first | rfl | (simp; done) | (simp only [← hji10] <;> (first | rfl | simp)) | (simp [*]; done), by repeat (first | exact Drawn0.refl _ | apply Drawn0.step)⟩
              · rw [if_neg c12] at H
                exact absurd H (by simp)
            · rw [if_neg c11] at H
              exact absurd H (by simp)
        · rw [if_neg c7] at H
          exact absurd H (by simp)
      · replace c6 := Bool.eq_false_iff.mpr c6
        subst c6
        have H1 : ((spec_complete.f kj1 a0).bind fun t125 => (if t125 ≤ 0 then (some ((⟨#[]⟩ : ByteArray), (⟨#[]⟩ : ByteArray), false)) else (if 0 ≤ t125 then (if t125 ≤ (a0.size : Int) then (some (a0.extract 0 (t125 : Int).toNat, a0.extract (t125 : Int).toNat a0.size, true)) else (none)) else (none)))) = some (r1, r2, r3) := by rw [if_neg (show ¬ (false = true) by decide)] at H; exact H
        clear H
        have H := H1
        clear H1
        replace H := Option.bind_eq_some_iff.mp H
        obtain ⟨t125, A150, H⟩ := H
        replace H : (if t125 ≤ 0 then (some ((⟨#[]⟩ : ByteArray), (⟨#[]⟩ : ByteArray), false)) else (if 0 ≤ t125 then (if t125 ≤ (a0.size : Int) then (some (a0.extract 0 (t125 : Int).toNat, a0.extract (t125 : Int).toNat a0.size, true)) else (none)) else (none))) = some (r1, r2, r3) := H
        have A15 := Aside0.mk A150
        clear A150
        by_cases c16 : t125 ≤ 0
        · rw [if_pos c16] at H
          have c16b0 : decide (t125 ≤ 0) = true := decide_eq_true c16
          clear c16
          simp only [Option.some.injEq, Prod.mk.injEq] at H
          obtain ⟨rfl, rfl, rfl⟩ := H
          go_wp2_with (first | (go_at_call 22; (with_reducible refine (spec_complete.calls kj1 a0 t125 _ A15.out).mono ?_); rintro e w' ⟨rfl, ⟨nd, rfl⟩⟩; (try first | exact ⟨rfl, _, World.drewN_drewN _ _ _⟩ | exact ⟨rfl, _, Eq.trans (World.drewN_drewN _ _ _) (congrArg (World.drewN _) (Nat.add_assoc _ _ _))⟩)))
          repeat (go_quiet (first | (go_at_call 22; (with_reducible refine (spec_complete.calls kj1 a0 t125 _ A15.out).mono ?_); rintro e w' ⟨rfl, ⟨nd, rfl⟩⟩; (try first | exact ⟨rfl, _, World.drewN_drewN _ _ _⟩ | exact ⟨rfl, _, Eq.trans (World.drewN_drewN _ _ _) (congrArg (World.drewN _) (Nat.add_assoc _ _ _))⟩))); try go_wp2_with (first | (go_at_call 22; (with_reducible refine (spec_complete.calls kj1 a0 t125 _ A15.out).mono ?_); rintro e w' ⟨rfl, ⟨nd, rfl⟩⟩; (try first | exact ⟨rfl, _, World.drewN_drewN _ _ _⟩ | exact ⟨rfl, _, Eq.trans (World.drewN_drewN _ _ _) (congrArg (World.drewN _) (Nat.add_assoc _ _ _))⟩))))
          go_ret3
          exact ⟨by first | rfl | (simp; done) | (simp [*]; done), by repeat (first | exact Drawn0.refl _ | apply Drawn0.step)⟩
        · rw [if_neg c16] at H
          have c16b0 : decide (t125 ≤ 0) = false := decide_eq_false c16
          clear c16
          by_cases c17 : 0 ≤ t125
          · rw [if_pos c17] at H
            have c17b0 := eq_true c17
            have c17b1 : decide (0 ≤ t125) = true := decide_eq_true c17
            clear c17
            by_cases c18 : t125 ≤ (a0.size : Int)
            · rw [if_pos c18] at H
              have c18b0 := eq_true c18
              have c18b1 : decide (t125 ≤ (a0.size : Int)) = true := decide_eq_true c18
              clear c18
              have c19b0 := eq_true (of_decide_eq_true (by first | (with_reducible assumption) | assumption) : 0 ≤ t125)
              have c20b0 := eq_true (of_decide_eq_true (by first | (with_reducible assumption) | assumption) : t125 ≤ (a0.size : Int))
              simp only [Option.some.injEq, Prod.mk.injEq] at H
              obtain ⟨rfl, rfl, rfl⟩ := H
              go_wp2_with (first | (go_at_call 22; (with_reducible refine (spec_complete.calls kj1 a0 t125 _ A15.out).mono ?_); rintro e w' ⟨rfl, ⟨nd, rfl⟩⟩; (try first | exact ⟨rfl, _, World.drewN_drewN _ _ _⟩ | exact ⟨rfl, _, Eq.trans (World.drewN_drewN _ _ _) (congrArg (World.drewN _) (Nat.add_assoc _ _ _))⟩)))
              repeat (go_quiet (first | (go_at_call 22; (with_reducible refine (spec_complete.calls kj1 a0 t125 _ A15.out).mono ?_); rintro e w' ⟨rfl, ⟨nd, rfl⟩⟩; (try first | exact ⟨rfl, _, World.drewN_drewN _ _ _⟩ | exact ⟨rfl, _, Eq.trans (World.drewN_drewN _ _ _) (congrArg (World.drewN _) (Nat.add_assoc _ _ _))⟩))); try go_wp2_with (first | (go_at_call 22; (with_reducible refine (spec_complete.calls kj1 a0 t125 _ A15.out).mono ?_); rintro e w' ⟨rfl, ⟨nd, rfl⟩⟩; (try first | exact ⟨rfl, _, World.drewN_drewN _ _ _⟩ | exact ⟨rfl, _, Eq.trans (World.drewN_drewN _ _ _) (congrArg (World.drewN _) (Nat.add_assoc _ _ _))⟩))))
              go_ret3
              exact ⟨by first | rfl | (simp; done) | (simp [*]; done), by repeat (first | exact Drawn0.refl _ | apply Drawn0.step)⟩
            · rw [if_neg c18] at H
              exact absurd H (by simp)
          · rw [if_neg c17] at H
            exact absurd H (by simp)

/-! ### laws_sgSpans: function 14 -/
mutual
def laws_sgSpans.l0 : Nat → ByteArray → Int → List (S32) → Option ((List (S32)))
  | 0, _, _, _ => none
  | k + 1, x0, x1, x5 => if x0.toList = ([] : List UInt8) then (some x5) else ((spec_First.f k x0).bind fun bt126 => (if bt126.2.2 = true then (if x5.length < 8796093022208 then ((some (x5 ++ [(⟨x1, wrap64 (x1 + (bt126.1.size : Int))⟩ : S32)] : List (S32))).bind fun y129 => (if (bt126.1.size : Int) > 3 then (if 0 ≤ 2 then (if 2 ≤ (bt126.1.size : Int) then (laws_sgSpans.j1 k x1 y129 bt126.1 bt126.2.1 ((bt126.1.extract 0 2).toList == ([97, 123] : List UInt8))) else (none)) else (none)) else (laws_sgSpans.j1 k x1 y129 bt126.1 bt126.2.1 false))) else (none)) else (some x5)))
def laws_sgSpans.j1 : Nat → Int → List (S32) → ByteArray → ByteArray → Bool → Option ((List (S32)))
  | 0, _, _, _, _, _ => none
  | k + 1, x1, x5, x6, x7, x29 => if x29 = true then (if 3 ≤ (wrap64 ((x6.size : Int) - 1)) then (if (wrap64 ((x6.size : Int) - 1)) ≤ (x6.size : Int) then ((laws_sgSpans.f k (x6.extract 3 ((wrap64 ((x6.size : Int) - 1)) : Int).toNat) (wrap64 (x1 + 3))).bind fun t132 => (if x5.length + t132.length < 8796093022208 then (laws_sgSpans.l0 k x7 (wrap64 (x1 + (x6.size : Int))) (x5 ++ t132)) else (none))) else (none)) else (none)) else (if 0 < (x6.size : Int) then (if (bt x6 0) = 97 then (if 1 ≤ (x6.size : Int) then ((laws_sgSpans.f k (x6.extract 1 x6.size) (wrap64 (x1 + 1))).bind fun t138 => (if x5.length + t138.length < 8796093022208 then (laws_sgSpans.l0 k x7 (wrap64 (x1 + (x6.size : Int))) (x5 ++ t138)) else (none))) else (none)) else (if (bt x6 0) = 40 then (if 1 ≤ (wrap64 ((x6.size : Int) - 1)) then (if (wrap64 ((x6.size : Int) - 1)) ≤ (x6.size : Int) then ((laws_sgSpans.f k (x6.extract 1 ((wrap64 ((x6.size : Int) - 1)) : Int).toNat) (wrap64 (x1 + 1))).bind fun t144 => (if x5.length + t144.length < 8796093022208 then (laws_sgSpans.l0 k x7 (wrap64 (x1 + (x6.size : Int))) (x5 ++ t144)) else (none))) else (none)) else (none)) else (laws_sgSpans.l0 k x7 (wrap64 (x1 + (x6.size : Int))) x5))) else (none))
def laws_sgSpans.f : Nat → ByteArray → Int → Option ((List (S32)))
  | 0, _, _ => none
  | k + 1, a0, a1 => laws_sgSpans.l0 k a0 a1 ([] : List (S32))
end
theorem laws_sgSpans.mono_l : ∀ k, (∀ y0 y1, LeO (laws_sgSpans.f k y0 y1) (laws_sgSpans.f (k + 1) y0 y1)) ∧ (∀ y0 y1 y2, LeO (laws_sgSpans.l0 k y0 y1 y2) (laws_sgSpans.l0 (k + 1) y0 y1 y2)) ∧ (∀ y0 y1 y2 y3 y4, LeO (laws_sgSpans.j1 k y0 y1 y2 y3 y4) (laws_sgSpans.j1 (k + 1) y0 y1 y2 y3 y4))
  | 0 => ⟨fun _ _ r h => by simp [laws_sgSpans.f] at h, fun _ _ _ r h => by simp [laws_sgSpans.l0] at h, fun _ _ _ _ _ r h => by simp [laws_sgSpans.j1] at h⟩
  | k + 1 => by
    obtain ⟨ih0, ih1, ih2⟩ := laws_sgSpans.mono_l k
    refine ⟨?_, ?_, ?_⟩
    · intro y0 y1
      unfold laws_sgSpans.f
      repeat' first
      | (with_reducible exact ih0 _ _)
      | (with_reducible exact ih1 _ _ _)
      | (with_reducible exact ih2 _ _ _ _ _)
      | (with_reducible exact spec_First.mono _ _)
      | (with_reducible exact LeO.refl _)
      | (with_reducible exact LeO.none _)
      | (with_reducible refine LeO.ite ?_ ?_)
      | (with_reducible refine LeO.bind ?_ (fun _ => ?_))
      | exact ih0 _ _
      | exact ih1 _ _ _
      | exact ih2 _ _ _ _ _
      | exact spec_First.mono _ _
      | exact LeO.none _
      | refine LeO.ite ?_ ?_
      | refine LeO.bind ?_ (fun _ => ?_)
    · intro y0 y1 y2
      unfold laws_sgSpans.l0
      repeat' first
      | (with_reducible exact ih0 _ _)
      | (with_reducible exact ih1 _ _ _)
      | (with_reducible exact ih2 _ _ _ _ _)
      | (with_reducible exact spec_First.mono _ _)
      | (with_reducible exact LeO.refl _)
      | (with_reducible exact LeO.none _)
      | (with_reducible refine LeO.ite ?_ ?_)
      | (with_reducible refine LeO.bind ?_ (fun _ => ?_))
      | exact ih0 _ _
      | exact ih1 _ _ _
      | exact ih2 _ _ _ _ _
      | exact spec_First.mono _ _
      | exact LeO.none _
      | refine LeO.ite ?_ ?_
      | refine LeO.bind ?_ (fun _ => ?_)
    · intro y0 y1 y2 y3 y4
      unfold laws_sgSpans.j1
      repeat' first
      | (with_reducible exact ih0 _ _)
      | (with_reducible exact ih1 _ _ _)
      | (with_reducible exact ih2 _ _ _ _ _)
      | (with_reducible exact spec_First.mono _ _)
      | (with_reducible exact LeO.refl _)
      | (with_reducible exact LeO.none _)
      | (with_reducible refine LeO.ite ?_ ?_)
      | (with_reducible refine LeO.bind ?_ (fun _ => ?_))
      | exact ih0 _ _
      | exact ih1 _ _ _
      | exact ih2 _ _ _ _ _
      | exact spec_First.mono _ _
      | exact LeO.none _
      | refine LeO.ite ?_ ?_
      | refine LeO.bind ?_ (fun _ => ?_)
theorem laws_sgSpans.mono : ∀ a0 a1 k, LeO (laws_sgSpans.f k a0 a1) (laws_sgSpans.f (k + 1) a0 a1) := by
  intro a0 a1 k
  obtain ⟨ih0, ih1, ih2⟩ := laws_sgSpans.mono_l k
  exact ih0 a0 a1
set_option maxHeartbeats 8000000 in
set_option maxRecDepth 100000 in
theorem laws_sgSpans.calls (k : Nat) : ∀ (a0 : ByteArray) (a1 : Int) (r : List (S32)) (w : World) (h : laws_sgSpans.f k a0 a1 = some r),
    Calls Try.prog 14 #[.string a0, .int .i64 a1] w fun e w' => ∃ v0_ : Value, e = .returned (v0_) ∧ Kd.R k32 32 w' w.heap.size (fun _ => True) v0_ r ∧ Below w.heap.size w w' := by
  induction k using Nat.strongRecOn with
  | _ k ih =>
  intro a0 a1 r w h
  cases k with
  | zero => exact absurd h (by simp [laws_sgSpans.f])
  | succ k =>
  simp only [laws_sgSpans.f] at h
  have hu32 := Try.underlying32
  have HB := Aside0.mk (Below.refl w.heap.size w)
  have H : (laws_sgSpans.l0 k a0 a1 ([] : List (S32))) = some r := h
  clear h
  have H' := Aside0.mk H
  clear H
  go_enter Try.func14, Try.ntmps14
  go_wp2
  go_loopg [0, 1, 5] k (fun kq v0 v1 v5 w' => ∃ (x0_1 : ByteArray) (x1_1 : Int) (x5_1 : List (S32)), v0 = .string x0_1 ∧ v1 = .int .i64 x1_1 ∧ Aside0 (laws_sgSpans.l0 kq x0_1 x1_1 x5_1 = some r) ∧ Aside0 (kq ≤ k) ∧ Aside0 (Kd.R k32 32 w' w.heap.size (fun _ => True) v5 x5_1) ∧ Aside0 (Below w.heap.size w w'))
  case atStart => exact ⟨(a0), (a1), (([] : List (S32))), (by first | rfl | (simp; done) | (simp [*]; done)), (by first | rfl | (simp; done) | (simp [*]; done)), H', ⟨Nat.le_refl _⟩, ⟨by first | exact Kd.R_nil _ _ _ _ _ | exact Kd.N_nil _ _ _ _ _ | exact Kd.V_nil _ _ _ _ _ | exact Kd.Q_nil _ _ _ _ _ | exact Kd.S_nil _ _ _ _ _⟩, ⟨by repeat (first | (with_reducible first | exact HB.out | apply below_alloc | apply pw_below_drewN | apply below_drew1) | exact HB.out)⟩⟩
  case round =>
    clear H'
    try clear c1
    try clear p2
    obtain ⟨x0_1, x1_1, x5_1, rfl, rfl, HA, HK1, HO_5, HB⟩ := hrel
    cases gk with
    | zero => exact absurd HA.out (by simp [laws_sgSpans.l0])
    | succ k1 =>
      have H := HA.out
      clear HA
      simp only [laws_sgSpans.l0] at H
      by_cases c3 : x0_1.toList = ([] : List UInt8)
      · rw [if_pos c3] at H
        have c3b0 : (x0_1.toList == ([] : List UInt8)) = true := beq_iff_eq.mpr c3
        have c3b1 : (x0_1.toList != ([] : List UInt8)) = false := bne_eq_false_iff_eq.mpr c3
        clear c3
        obtain rfl := Option.some.inj H
        go_wp2
        go_ret
        exact ⟨_, by first | rfl | (simp [errW_none, errW_some] <;> rfl) | (simp [*, errW_none, errW_some] <;> rfl) | (simp (disch := omega) only [wrap64_id] <;> rfl), by (with_reducible repeat (first | apply Kd.R_alloc | apply Kd.R_drewN | apply Kd.R_drew)); exact HO_5.out, by repeat (first | (with_reducible first | exact HB.out | apply below_alloc | apply pw_below_drewN | apply below_drew1) | exact HB.out)⟩
      · rw [if_neg c3] at H
        have c3b0 : (x0_1.toList == ([] : List UInt8)) = false := beq_eq_false_iff_ne.mpr c3
        have c3b1 : (x0_1.toList != ([] : List UInt8)) = true := bne_iff_ne.mpr c3
        replace H := Option.bind_eq_some_iff.mp H
        obtain ⟨⟨t126, t127, t128⟩, A40, H⟩ := H
        replace H : (if t128 = true then (if x5_1.length < 8796093022208 then ((some (x5_1 ++ [(⟨x1_1, wrap64 (x1_1 + (t126.size : Int))⟩ : S32)] : List (S32))).bind fun y129 => (if (t126.size : Int) > 3 then (if 0 ≤ 2 then (if 2 ≤ (t126.size : Int) then (laws_sgSpans.j1 k1 x1_1 y129 t126 t127 ((t126.extract 0 2).toList == ([97, 123] : List UInt8))) else (none)) else (none)) else (laws_sgSpans.j1 k1 x1_1 y129 t126 t127 false))) else (none)) else (some x5_1)) = some r := H
        have A4 := Aside0.mk A40
        clear A40
        by_cases c5 : t128 = true
        · subst c5
          have H1 : (if x5_1.length < 8796093022208 then ((some (x5_1 ++ [(⟨x1_1, wrap64 (x1_1 + (t126.size : Int))⟩ : S32)] : List (S32))).bind fun y129 => (if (t126.size : Int) > 3 then (if 0 ≤ 2 then (if 2 ≤ (t126.size : Int) then (laws_sgSpans.j1 k1 x1_1 y129 t126 t127 ((t126.extract 0 2).toList == ([97, 123] : List UInt8))) else (none)) else (none)) else (laws_sgSpans.j1 k1 x1_1 y129 t126 t127 false))) else (none)) = some r := by rw [if_pos rfl] at H; exact H
          clear H
          have H := H1
          clear H1
          by_cases c6 : x5_1.length < 8796093022208
          · rw [if_pos c6] at H
            have LMc6 := Aside0.mk c6
            clear c6
            obtain ⟨y129, hy129⟩ : ∃ y_ : List (S32), y_ = (x5_1 ++ [(⟨x1_1, wrap64 (x1_1 + (t126.size : Int))⟩ : S32)]) := ⟨_, rfl⟩
            replace H : (if (t126.size : Int) > 3 then (if 0 ≤ 2 then (if 2 ≤ (t126.size : Int) then (laws_sgSpans.j1 k1 x1_1 y129 t126 t127 ((t126.extract 0 2).toList == ([97, 123] : List UInt8))) else (none)) else (none)) else (laws_sgSpans.j1 k1 x1_1 y129 t126 t127 false)) = some r := by first | (rw [hy129]; with_reducible exact H) | (have H2_ := (Option.bind_some _ _).symm.trans H; rw [hy129]; with_reducible exact H2_) | (have H2_ := (Option.bind_some _ _).symm.trans H; with_reducible exact H2_) | with_reducible exact H | (rw [hy129]; exact H) | exact H
            have Ny129 := Aside0.mk hy129
            clear hy129
            have HC7 := Aside0.mk H
            clear H
            go_upto_region 7 with (first | ((with_reducible refine gate_callee (f := 21) rfl ?_); refine goesL_ (some 13) rfl rfl Try.func21 (by kernel_rfl) rfl #[.string x0_1] rfl (by (try simp only [List.map_toArray, List.map_cons, List.map_nil]); first | done | rfl | (simp only [List.length_drop, List.length_take]; rfl)) ?_; (with_reducible refine (spec_First.calls k1 x0_1 t126 t127 true _ A4.out).mono ?_); rintro e w' ⟨rfl, ⟨nd, rfl⟩⟩; refine ⟨_, rfl, ?_⟩) | ((with_reducible refine gate_builtin (b := .append) (xs := #[.tmp 20, .tmp 27]) rfl ?_); at_builtin; refine Kd.R_append k32 (w0 := w) w.heap.size rfl (.tmp 20) (.tmp 27) 30 32 (.agg #[(.int .i64 0), (.int .i64 0)]) 16 rfl Try.underlying30 info32 rfl (by decide) (by omega) u5 x5_1 (⟨x1_1, wrap64 (x1_1 + (t126.size : Int))⟩ : S32) [.int .i64 x1_1, .int .i64 (wrap64 (x1_1 + (t126.size : Int)))] (fun _ => True) (fun _ => False) rfl rfl ?aP (fun _ hk => hk.elim) ?aF ?aO ?aB ?aS ?aL ?_; (case aP => exact k32_mkM _ _ _ (⟨x1_1, wrap64 (x1_1 + (t126.size : Int))⟩ : S32)); (case aB => exact (by repeat (first | (with_reducible first | exact HB.out | apply below_alloc | apply pw_below_drewN | apply below_drew1) | exact HB.out))); (case aF => exact (fun _ _ => trivial)); (case aO => exact (by (with_reducible repeat (first | apply Kd.R_alloc | apply Kd.R_drewN | apply Kd.R_drew)); exact HO_5.out)); (case aS => exact (below_size (by repeat (first | (with_reducible first | exact HB.out | apply below_alloc | apply pw_below_drewN | apply below_drew1) | exact HB.out)))); (case aL => have := LMc6.out; omega); intro v130 w8 ho hb hg hat; rw [← Ny129.out] at ho; have n0_ := Aside0.mk (hb); have n1_ := Aside0.mk (ho); clear HB; clear HO_5; have HB := n0_; have HO131 := n1_; clear n0_ n1_; clear ho hb hg hat))
            (try simp only [Act.put, List.setIfInBounds_toArray, List.set_cons_zero, List.set_cons_succ])
            go_cut [29] (fun v29 wc => ∃ (kq : Nat) (x29_6 : Bool), v29 = .bool x29_6 ∧ Aside0 (laws_sgSpans.j1 kq x1_1 y129 t126 t127 x29_6 = some r) ∧ Aside0 (kq ≤ k1) ∧ Aside0 (Kd.R k32 32 wc w.heap.size (fun _ => True) v130 y129) ∧ Aside0 (Below w.heap.size w wc))
            case first =>
              have H := HC7.out
              clear HC7
              by_cases c9 : (t126.size : Int) > 3
              · rw [if_pos c9] at H
                have c9b0 : decide (3 < (t126.size : Int)) = true := decide_eq_true c9
                have c9b1 : decide (3 < t126.size) = true := decide_eq_true (by omega)
                clear c9
                (first | rw [c9b0] | (simp only [i64_w, i32_w]; rw [c9b0]) | skip)
                by_cases c10 : 0 ≤ 2
                · rw [if_pos c10] at H
                  have c10b0 := eq_true c10
                  have c10b1 : decide (0 ≤ 2) = true := decide_eq_true c10
                  clear c10
                  by_cases c11 : 2 ≤ (t126.size : Int)
                  · rw [if_pos c11] at H
                    have c11b0 := eq_true c11
                    have c11b1 : decide (2 ≤ (t126.size : Int)) = true := decide_eq_true c11
                    clear c11
                    have H' := Aside0.mk H
                    clear H
                    go_wp2
                    go_meet
                    case rel => exact ⟨_, (((t126.extract 0 2).toList == ([97, 123] : List UInt8))), (by first | rfl | (simp; done) | (simp [*]; done)), H', ⟨by have := HK1.out; first | omega | exact Nat.le_refl _⟩, ⟨by (with_reducible repeat (first | apply Kd.R_alloc | apply Kd.R_drewN | apply Kd.R_drew)); exact HO131.out⟩, ⟨by repeat (first | (with_reducible first | exact HB.out | apply below_alloc | apply pw_below_drewN | apply below_drew1) | exact HB.out)⟩⟩
                  · rw [if_neg c11] at H
                    exact absurd H (by simp)
                · rw [if_neg c10] at H
                  exact absurd H (by simp)
              · rw [if_neg c9] at H
                have c9b0 : decide (3 < (t126.size : Int)) = false := decide_eq_false c9
                have c9b1 : decide (3 < t126.size) = false := decide_eq_false (by omega)
                clear c9
                (first | rw [c9b0] | (simp only [i64_w, i32_w]; rw [c9b0]) | skip)
                have H' := Aside0.mk H
                clear H
                go_wp2
                go_meet
                case rel => exact ⟨_, (false), (by first | rfl | (simp; done) | (simp [*]; done)), H', ⟨by have := HK1.out; first | omega | exact Nat.le_refl _⟩, ⟨by (with_reducible repeat (first | apply Kd.R_alloc | apply Kd.R_drewN | apply Kd.R_drew)); exact HO131.out⟩, ⟨by repeat (first | (with_reducible first | exact HB.out | apply below_alloc | apply pw_below_drewN | apply below_drew1) | exact HB.out)⟩⟩
            case rest =>
              clear HC7
              try clear c1
              try clear c2
              try clear p2
              try clear c3
              try clear c3b0
              try clear c3b1
              try clear c5
              try clear c6
              try clear p6
              try clear c9
              try clear c9b0
              try clear c9b1
              try clear c10
              try clear c10b0
              try clear c10b1
              try clear c11
              try clear c11b0
              try clear c11b1
              try clear p2
              obtain ⟨kq, x29_6, rfl, HA, HJ6, HO_5, HB⟩ := hcut
              cases kq with
              | zero => exact absurd HA.out (by simp [laws_sgSpans.j1])
              | succ kj6 =>
                have H := HA.out
                clear HA
                simp only [laws_sgSpans.j1] at H
                by_cases c12 : x29_6 = true
                · subst c12
                  have H1 : (if 3 ≤ (wrap64 ((t126.size : Int) - 1)) then (if (wrap64 ((t126.size : Int) - 1)) ≤ (t126.size : Int) then ((laws_sgSpans.f kj6 (t126.extract 3 ((wrap64 ((t126.size : Int) - 1)) : Int).toNat) (wrap64 (x1_1 + 3))).bind fun t132 => (if y129.length + t132.length < 8796093022208 then (laws_sgSpans.l0 kj6 t127 (wrap64 (x1_1 + (t126.size : Int))) (y129 ++ t132)) else (none))) else (none)) else (none)) = some r := by rw [if_pos rfl] at H; exact H
                  clear H
                  have H := H1
                  clear H1
                  by_cases c13 : 3 ≤ (wrap64 ((t126.size : Int) - 1))
                  · rw [if_pos c13] at H
                    have c13b0 := eq_true c13
                    have c13b1 : decide (3 ≤ (wrap64 ((t126.size : Int) - 1))) = true := decide_eq_true c13
                    clear c13
                    by_cases c14 : (wrap64 ((t126.size : Int) - 1)) ≤ (t126.size : Int)
                    · rw [if_pos c14] at H
                      have c14b0 := eq_true c14
                      have c14b1 : decide ((wrap64 ((t126.size : Int) - 1)) ≤ (t126.size : Int)) = true := decide_eq_true c14
                      clear c14
                      replace H := Option.bind_eq_some_iff.mp H
                      obtain ⟨t132, A150, H⟩ := H
                      replace H : (if y129.length + t132.length < 8796093022208 then (laws_sgSpans.l0 kj6 t127 (wrap64 (x1_1 + (t126.size : Int))) (y129 ++ t132)) else (none)) = some r := H
                      have A15 := Aside0.mk A150
                      clear A150
                      by_cases c16 : y129.length + t132.length < 8796093022208
                      · rw [if_pos c16] at H
                        have LMc16 := Aside0.mk c16
                        clear c16
                        obtain ⟨y135, hy135⟩ : ∃ y_ : List (S32), y_ = (y129 ++ t132) := ⟨_, rfl⟩
                        replace H : (laws_sgSpans.l0 kj6 t127 (wrap64 (x1_1 + (t126.size : Int))) y135) = some r := by first | (rw [hy135]; with_reducible exact H) | (have H2_ := (Option.bind_some _ _).symm.trans H; rw [hy135]; with_reducible exact H2_) | (have H2_ := (Option.bind_some _ _).symm.trans H; with_reducible exact H2_) | with_reducible exact H | (rw [hy135]; exact H) | exact H
                        have Ny135 := Aside0.mk hy135
                        clear hy135
                        have H' := Aside0.mk H
                        clear H
                        go_wp2_with (first | ((with_reducible refine gate_callee (f := 14) rfl ?_); refine goesL_ (some 46) rfl rfl Try.func14 (by kernel_rfl) rfl #[.string (t126.extract 3 ((wrap64 ((t126.size : Int) - 1)) : Int).toNat), .int .i64 (wrap64 (x1_1 + 3))] rfl (by (try simp only [List.map_toArray, List.map_cons, List.map_nil]); first | done | rfl | (simp only [List.length_drop, List.length_take]; rfl)) ?_; (with_reducible refine (ih kj6 (by have := HK1.out; have := HJ6.out; omega) (t126.extract 3 ((wrap64 ((t126.size : Int) - 1)) : Int).toNat) (wrap64 (x1_1 + 3)) t132 _ A15.out).mono ?_); rintro e w17 ⟨v133, rfl, ho0, hb⟩; refine ⟨_, rfl, ?_⟩; have n0_ := Aside0.mk (Kd.R_elder' (by (with_reducible repeat (first | apply Kd.R_alloc | apply Kd.R_drewN | apply Kd.R_drew)); exact HO_5.out) (Kd.R_base ho0) hb); have n1_ := Aside0.mk (Kd.R_lower (Kd.R_new' ho0 (Kd.R_lt (by (with_reducible repeat (first | apply Kd.R_alloc | apply Kd.R_drewN | apply Kd.R_drew)); exact HO_5.out))) (below_size (by repeat (first | (with_reducible first | exact HB.out | apply below_alloc | apply pw_below_drewN | apply below_drew1) | exact HB.out)))); have n2_ := Aside0.mk (below_step (by repeat (first | (with_reducible first | exact HB.out | apply below_alloc | apply pw_below_drewN | apply below_drew1) | exact HB.out)) hb); clear HO_5; clear HB; have HO_5 := n0_; have HO134 := n1_; have HB := n2_; clear n0_ n1_ n2_; (try clear hb); (try clear hb2); (try clear hk); (try clear hi); (try clear ho0); obtain ⟨Ao19, co19, eo19⟩ := Kd.R_slice HO134.out; subst eo19) | ((with_reducible refine gate_builtin (b := .append) (xs := #[.tmp 38, .tmp 46]) rfl ?_); at_builtin; refine Kd.R_append_rows k32 (w0 := w) w.heap.size rfl (.tmp 38) (.tmp 46) 30 32 (.agg #[(.int .i64 0), (.int .i64 0)]) 16 rfl Try.underlying30 info32 rfl (by decide) (by omega) v130 y129 t132 _ _ _ (fun k_ => some k_ ≠ (.slice Ao19 t132.length co19 : Value).ownBlock) (fun _ => False) rfl rfl ?aO ?aR (fun _ _ h => h) (fun _ h => h.elim) ?aF ?aB ?aS ?aL ?_; (case aR => repeat (first | exact (Kd.R_reads' HO134.out).2.2 | (with_reducible refine Kd.C_alloc ?_ _) | (with_reducible refine Kd.C_drewN ?_ _) | (with_reducible refine Kd.C_drew ?_))); (case aB => exact (by repeat (first | (with_reducible first | exact HB.out | apply below_alloc | apply pw_below_drewN | apply below_drew1) | exact HB.out))); (case aF => exact (fun k_ hk => Kd.fresh' (Kd.R_lt (by (with_reducible repeat (first | apply Kd.R_alloc | apply Kd.R_drewN | apply Kd.R_drew)); exact HO134.out)) k_ hk)); (case aO => exact (by (with_reducible repeat (first | apply Kd.R_alloc | apply Kd.R_drewN | apply Kd.R_drew)); exact Kd.R_mono HO_5.out (fun _ hk => hk.2))); (case aS => exact (below_size (by repeat (first | (with_reducible first | exact HB.out | apply below_alloc | apply pw_below_drewN | apply below_drew1) | exact HB.out)))); (case aL => have := LMc16.out; omega); intro v136 w18 ho hb hg hat; rw [← Ny135.out] at ho; have n0_ := Aside0.mk (Kd.R_after (ok := (fun _ => True)) (by (with_reducible repeat (first | apply Kd.R_alloc | apply Kd.R_drewN | apply Kd.R_drew)); exact HO134.out) hg hat); have n1_ := Aside0.mk (hb); have n2_ := Aside0.mk (ho); clear HO134; clear HB; clear HO_5; have HO134 := n0_; have HB := n1_; have HO137 := n2_; clear n0_ n1_ n2_; clear ho hb hg hat))
                        go_roundg kj6
                        case measure => have := HK1.out; have := HJ6.out; omega
                        case rel => exact ⟨(t127), (wrap64 (x1_1 + (t126.size : Int))), (y135), (by first | rfl | (simp; done) | (simp [*]; done)), (by first | rfl | (simp; done) | (simp [*]; done)), H', ⟨by have := HK1.out; have := HJ6.out; omega⟩, ⟨by (with_reducible repeat (first | apply Kd.R_alloc | apply Kd.R_drewN | apply Kd.R_drew)); exact Kd.R_mono HO137.out (fun _ hk => trivial)⟩, ⟨by repeat (first | (with_reducible first | exact HB.out | apply below_alloc | apply pw_below_drewN | apply below_drew1) | exact HB.out)⟩⟩
                      · rw [if_neg c16] at H
                        exact absurd H (by simp)
                    · rw [if_neg c14] at H
                      exact absurd H (by simp)
                  · rw [if_neg c13] at H
                    exact absurd H (by simp)
                · replace c12 := Bool.eq_false_iff.mpr c12
                  subst c12
                  have H1 : (if 0 < (t126.size : Int) then (if (bt t126 0) = 97 then (if 1 ≤ (t126.size : Int) then ((laws_sgSpans.f kj6 (t126.extract 1 t126.size) (wrap64 (x1_1 + 1))).bind fun t138 => (if y129.length + t138.length < 8796093022208 then (laws_sgSpans.l0 kj6 t127 (wrap64 (x1_1 + (t126.size : Int))) (y129 ++ t138)) else (none))) else (none)) else (if (bt t126 0) = 40 then (if 1 ≤ (wrap64 ((t126.size : Int) - 1)) then (if (wrap64 ((t126.size : Int) - 1)) ≤ (t126.size : Int) then ((laws_sgSpans.f kj6 (t126.extract 1 ((wrap64 ((t126.size : Int) - 1)) : Int).toNat) (wrap64 (x1_1 + 1))).bind fun t144 => (if y129.length + t144.length < 8796093022208 then (laws_sgSpans.l0 kj6 t127 (wrap64 (x1_1 + (t126.size : Int))) (y129 ++ t144)) else (none))) else (none)) else (none)) else (laws_sgSpans.l0 kj6 t127 (wrap64 (x1_1 + (t126.size : Int))) y129))) else (none)) = some r := by rw [if_neg (show ¬ (false = true) by decide)] at H; exact H
                  clear H
                  have H := H1
                  clear H1
                  by_cases c20 : 0 < (t126.size : Int)
                  · rw [if_pos c20] at H
                    have c20b0 : decide (0 < (t126.size : Int)) = true := decide_eq_true c20
                    have c20b1 : decide (0 < t126.size) = true := decide_eq_true (by omega)
                    clear c20
                    by_cases c22 : (bt t126 0) = 97
                    · rw [if_pos c22] at H
                      have c22b0 : ((bt t126 0) == 97) = true := beq_iff_eq.mpr c22
                      have c22b1 : ((bt t126 0) != 97) = false := bne_eq_false_iff_eq.mpr c22
                      clear c22
                      by_cases c23 : 1 ≤ (t126.size : Int)
                      · rw [if_pos c23] at H
                        have c23b0 := eq_true c23
                        have c23b1 : decide (1 ≤ (t126.size : Int)) = true := decide_eq_true c23
                        clear c23
                        replace H := Option.bind_eq_some_iff.mp H
                        obtain ⟨t138, A240, H⟩ := H
                        replace H : (if y129.length + t138.length < 8796093022208 then (laws_sgSpans.l0 kj6 t127 (wrap64 (x1_1 + (t126.size : Int))) (y129 ++ t138)) else (none)) = some r := H
                        have A24 := Aside0.mk A240
                        clear A240
                        by_cases c25 : y129.length + t138.length < 8796093022208
                        · rw [if_pos c25] at H
                          have LMc25 := Aside0.mk c25
                          clear c25
                          obtain ⟨y141, hy141⟩ : ∃ y_ : List (S32), y_ = (y129 ++ t138) := ⟨_, rfl⟩
                          replace H : (laws_sgSpans.l0 kj6 t127 (wrap64 (x1_1 + (t126.size : Int))) y141) = some r := by first | (rw [hy141]; with_reducible exact H) | (have H2_ := (Option.bind_some _ _).symm.trans H; rw [hy141]; with_reducible exact H2_) | (have H2_ := (Option.bind_some _ _).symm.trans H; with_reducible exact H2_) | with_reducible exact H | (rw [hy141]; exact H) | exact H
                          have Ny141 := Aside0.mk hy141
                          clear hy141
                          have H' := Aside0.mk H
                          clear H
                          have p21 : 0 ≤ (0 : Int) := (by omega)
                          have q21 : 0 < t126.size := (by have : (0 : Int) < (t126.size : Int) := of_decide_eq_true (by first | (with_reducible assumption) | assumption); omega)
                          have hx21 : ∀ h : 0 < t126.size, ((t126[0]'h).toNat : Int) = bt t126 0 := bt_at t126 0
                          clear p21
                          have qi21 : (0 < (t126.size : Int)) = True := eq_true (of_decide_eq_true (by first | (with_reducible assumption) | assumption))
                          replace q21 := eq_true q21
                          go_wp2_with (first | ((with_reducible refine gate_callee (f := 14) rfl ?_); refine goesL_ (some 57) rfl rfl Try.func14 (by kernel_rfl) rfl #[.string (t126.extract 1 t126.size), .int .i64 (wrap64 (x1_1 + 1))] rfl (by (try simp only [List.map_toArray, List.map_cons, List.map_nil]); first | done | rfl | (simp only [List.length_drop, List.length_take]; rfl)) ?_; (with_reducible refine (ih kj6 (by have := HK1.out; have := HJ6.out; omega) (t126.extract 1 t126.size) (wrap64 (x1_1 + 1)) t138 _ A24.out).mono ?_); rintro e w26 ⟨v139, rfl, ho0, hb⟩; refine ⟨_, rfl, ?_⟩; have n0_ := Aside0.mk (Kd.R_elder' (by (with_reducible repeat (first | apply Kd.R_alloc | apply Kd.R_drewN | apply Kd.R_drew)); exact HO_5.out) (Kd.R_base ho0) hb); have n1_ := Aside0.mk (Kd.R_lower (Kd.R_new' ho0 (Kd.R_lt (by (with_reducible repeat (first | apply Kd.R_alloc | apply Kd.R_drewN | apply Kd.R_drew)); exact HO_5.out))) (below_size (by repeat (first | (with_reducible first | exact HB.out | apply below_alloc | apply pw_below_drewN | apply below_drew1) | exact HB.out)))); have n2_ := Aside0.mk (below_step (by repeat (first | (with_reducible first | exact HB.out | apply below_alloc | apply pw_below_drewN | apply below_drew1) | exact HB.out)) hb); clear HO_5; clear HB; have HO_5 := n0_; have HO140 := n1_; have HB := n2_; clear n0_ n1_ n2_; (try clear hb); (try clear hb2); (try clear hk); (try clear hi); (try clear ho0); obtain ⟨Ao28, co28, eo28⟩ := Kd.R_slice HO140.out; subst eo28) | ((with_reducible refine gate_builtin (b := .append) (xs := #[.tmp 52, .tmp 57]) rfl ?_); at_builtin; refine Kd.R_append_rows k32 (w0 := w) w.heap.size rfl (.tmp 52) (.tmp 57) 30 32 (.agg #[(.int .i64 0), (.int .i64 0)]) 16 rfl Try.underlying30 info32 rfl (by decide) (by omega) v130 y129 t138 _ _ _ (fun k_ => some k_ ≠ (.slice Ao28 t138.length co28 : Value).ownBlock) (fun _ => False) rfl rfl ?aO ?aR (fun _ _ h => h) (fun _ h => h.elim) ?aF ?aB ?aS ?aL ?_; (case aR => repeat (first | exact (Kd.R_reads' HO140.out).2.2 | (with_reducible refine Kd.C_alloc ?_ _) | (with_reducible refine Kd.C_drewN ?_ _) | (with_reducible refine Kd.C_drew ?_))); (case aB => exact (by repeat (first | (with_reducible first | exact HB.out | apply below_alloc | apply pw_below_drewN | apply below_drew1) | exact HB.out))); (case aF => exact (fun k_ hk => Kd.fresh' (Kd.R_lt (by (with_reducible repeat (first | apply Kd.R_alloc | apply Kd.R_drewN | apply Kd.R_drew)); exact HO140.out)) k_ hk)); (case aO => exact (by (with_reducible repeat (first | apply Kd.R_alloc | apply Kd.R_drewN | apply Kd.R_drew)); exact Kd.R_mono HO_5.out (fun _ hk => hk.2))); (case aS => exact (below_size (by repeat (first | (with_reducible first | exact HB.out | apply below_alloc | apply pw_below_drewN | apply below_drew1) | exact HB.out)))); (case aL => have := LMc25.out; omega); intro v142 w27 ho hb hg hat; rw [← Ny141.out] at ho; have n0_ := Aside0.mk (Kd.R_after (ok := (fun _ => True)) (by (with_reducible repeat (first | apply Kd.R_alloc | apply Kd.R_drewN | apply Kd.R_drew)); exact HO140.out) hg hat); have n1_ := Aside0.mk (hb); have n2_ := Aside0.mk (ho); clear HO140; clear HB; clear HO_5; have HO140 := n0_; have HB := n1_; have HO143 := n2_; clear n0_ n1_ n2_; clear ho hb hg hat))
                          go_roundg kj6
                          case measure => have := HK1.out; have := HJ6.out; omega
                          case rel => exact ⟨(t127), (wrap64 (x1_1 + (t126.size : Int))), (y141), (by first | rfl | (simp; done) | (simp [*]; done)), (by first | rfl | (simp; done) | (simp [*]; done)), H', ⟨by have := HK1.out; have := HJ6.out; omega⟩, ⟨by (with_reducible repeat (first | apply Kd.R_alloc | apply Kd.R_drewN | apply Kd.R_drew)); exact Kd.R_mono HO143.out (fun _ hk => trivial)⟩, ⟨by repeat (first | (with_reducible first | exact HB.out | apply below_alloc | apply pw_below_drewN | apply below_drew1) | exact HB.out)⟩⟩
                        · rw [if_neg c25] at H
                          exact absurd H (by simp)
                      · rw [if_neg c23] at H
                        exact absurd H (by simp)
                    · rw [if_neg c22] at H
                      have c22b0 : ((bt t126 0) == 97) = false := beq_eq_false_iff_ne.mpr c22
                      have c22b1 : ((bt t126 0) != 97) = true := bne_iff_ne.mpr c22
                      by_cases c30 : (bt t126 0) = 40
                      · rw [if_pos c30] at H
                        have c30b0 : ((bt t126 0) == 40) = true := beq_iff_eq.mpr c30
                        have c30b1 : ((bt t126 0) != 40) = false := bne_eq_false_iff_eq.mpr c30
                        clear c30
                        by_cases c31 : 1 ≤ (wrap64 ((t126.size : Int) - 1))
                        · rw [if_pos c31] at H
                          have c31b0 := eq_true c31
                          have c31b1 : decide (1 ≤ (wrap64 ((t126.size : Int) - 1))) = true := decide_eq_true c31
                          clear c31
                          by_cases c32 : (wrap64 ((t126.size : Int) - 1)) ≤ (t126.size : Int)
                          · rw [if_pos c32] at H
                            have c32b0 := eq_true c32
                            have c32b1 : decide ((wrap64 ((t126.size : Int) - 1)) ≤ (t126.size : Int)) = true := decide_eq_true c32
                            clear c32
                            replace H := Option.bind_eq_some_iff.mp H
                            obtain ⟨t144, A330, H⟩ := H
                            replace H : (if y129.length + t144.length < 8796093022208 then (laws_sgSpans.l0 kj6 t127 (wrap64 (x1_1 + (t126.size : Int))) (y129 ++ t144)) else (none)) = some r := H
                            have A33 := Aside0.mk A330
                            clear A330
                            by_cases c34 : y129.length + t144.length < 8796093022208
                            · rw [if_pos c34] at H
                              have LMc34 := Aside0.mk c34
                              clear c34
                              obtain ⟨y147, hy147⟩ : ∃ y_ : List (S32), y_ = (y129 ++ t144) := ⟨_, rfl⟩
                              replace H : (laws_sgSpans.l0 kj6 t127 (wrap64 (x1_1 + (t126.size : Int))) y147) = some r := by first | (rw [hy147]; with_reducible exact H) | (have H2_ := (Option.bind_some _ _).symm.trans H; rw [hy147]; with_reducible exact H2_) | (have H2_ := (Option.bind_some _ _).symm.trans H; with_reducible exact H2_) | with_reducible exact H | (rw [hy147]; exact H) | exact H
                              have Ny147 := Aside0.mk hy147
                              clear hy147
                              have H' := Aside0.mk H
                              clear H
                              have p21 : 0 ≤ (0 : Int) := (by omega)
                              have q21 : 0 < t126.size := (by have : (0 : Int) < (t126.size : Int) := of_decide_eq_true (by first | (with_reducible assumption) | assumption); omega)
                              have hx21 : ∀ h : 0 < t126.size, ((t126[0]'h).toNat : Int) = bt t126 0 := bt_at t126 0
                              clear p21
                              have qi21 : (0 < (t126.size : Int)) = True := eq_true (of_decide_eq_true (by first | (with_reducible assumption) | assumption))
                              replace q21 := eq_true q21
                              have p29 : 0 ≤ (0 : Int) := (by omega)
                              have q29 : 0 < t126.size := (by have : (0 : Int) < (t126.size : Int) := of_decide_eq_true (by first | (with_reducible assumption) | assumption); omega)
                              have hx29 : ∀ h : 0 < t126.size, ((t126[0]'h).toNat : Int) = bt t126 0 := bt_at t126 0
                              clear p29
                              have qi29 : (0 < (t126.size : Int)) = True := eq_true (of_decide_eq_true (by first | (with_reducible assumption) | assumption))
                              replace q29 := eq_true q29
                              go_wp2_with (first | ((with_reducible refine gate_callee (f := 14) rfl ?_); refine goesL_ (some 71) rfl rfl Try.func14 (by kernel_rfl) rfl #[.string (t126.extract 1 ((wrap64 ((t126.size : Int) - 1)) : Int).toNat), .int .i64 (wrap64 (x1_1 + 1))] rfl (by (try simp only [List.map_toArray, List.map_cons, List.map_nil]); first | done | rfl | (simp only [List.length_drop, List.length_take]; rfl)) ?_; (with_reducible refine (ih kj6 (by have := HK1.out; have := HJ6.out; omega) (t126.extract 1 ((wrap64 ((t126.size : Int) - 1)) : Int).toNat) (wrap64 (x1_1 + 1)) t144 _ A33.out).mono ?_); rintro e w35 ⟨v145, rfl, ho0, hb⟩; refine ⟨_, rfl, ?_⟩; have n0_ := Aside0.mk (Kd.R_elder' (by (with_reducible repeat (first | apply Kd.R_alloc | apply Kd.R_drewN | apply Kd.R_drew)); exact HO_5.out) (Kd.R_base ho0) hb); have n1_ := Aside0.mk (Kd.R_lower (Kd.R_new' ho0 (Kd.R_lt (by (with_reducible repeat (first | apply Kd.R_alloc | apply Kd.R_drewN | apply Kd.R_drew)); exact HO_5.out))) (below_size (by repeat (first | (with_reducible first | exact HB.out | apply below_alloc | apply pw_below_drewN | apply below_drew1) | exact HB.out)))); have n2_ := Aside0.mk (below_step (by repeat (first | (with_reducible first | exact HB.out | apply below_alloc | apply pw_below_drewN | apply below_drew1) | exact HB.out)) hb); clear HO_5; clear HB; have HO_5 := n0_; have HO146 := n1_; have HB := n2_; clear n0_ n1_ n2_; (try clear hb); (try clear hb2); (try clear hk); (try clear hi); (try clear ho0); obtain ⟨Ao37, co37, eo37⟩ := Kd.R_slice HO146.out; subst eo37) | ((with_reducible refine gate_builtin (b := .append) (xs := #[.tmp 63, .tmp 71]) rfl ?_); at_builtin; refine Kd.R_append_rows k32 (w0 := w) w.heap.size rfl (.tmp 63) (.tmp 71) 30 32 (.agg #[(.int .i64 0), (.int .i64 0)]) 16 rfl Try.underlying30 info32 rfl (by decide) (by omega) v130 y129 t144 _ _ _ (fun k_ => some k_ ≠ (.slice Ao37 t144.length co37 : Value).ownBlock) (fun _ => False) rfl rfl ?aO ?aR (fun _ _ h => h) (fun _ h => h.elim) ?aF ?aB ?aS ?aL ?_; (case aR => repeat (first | exact (Kd.R_reads' HO146.out).2.2 | (with_reducible refine Kd.C_alloc ?_ _) | (with_reducible refine Kd.C_drewN ?_ _) | (with_reducible refine Kd.C_drew ?_))); (case aB => exact (by repeat (first | (with_reducible first | exact HB.out | apply below_alloc | apply pw_below_drewN | apply below_drew1) | exact HB.out))); (case aF => exact (fun k_ hk => Kd.fresh' (Kd.R_lt (by (with_reducible repeat (first | apply Kd.R_alloc | apply Kd.R_drewN | apply Kd.R_drew)); exact HO146.out)) k_ hk)); (case aO => exact (by (with_reducible repeat (first | apply Kd.R_alloc | apply Kd.R_drewN | apply Kd.R_drew)); exact Kd.R_mono HO_5.out (fun _ hk => hk.2))); (case aS => exact (below_size (by repeat (first | (with_reducible first | exact HB.out | apply below_alloc | apply pw_below_drewN | apply below_drew1) | exact HB.out)))); (case aL => have := LMc34.out; omega); intro v148 w36 ho hb hg hat; rw [← Ny147.out] at ho; have n0_ := Aside0.mk (Kd.R_after (ok := (fun _ => True)) (by (with_reducible repeat (first | apply Kd.R_alloc | apply Kd.R_drewN | apply Kd.R_drew)); exact HO146.out) hg hat); have n1_ := Aside0.mk (hb); have n2_ := Aside0.mk (ho); clear HO146; clear HB; clear HO_5; have HO146 := n0_; have HB := n1_; have HO149 := n2_; clear n0_ n1_ n2_; clear ho hb hg hat))
                              go_roundg kj6
                              case measure => have := HK1.out; have := HJ6.out; omega
                              case rel => exact ⟨(t127), (wrap64 (x1_1 + (t126.size : Int))), (y147), (by first | rfl | (simp; done) | (simp [*]; done)), (by first | rfl | (simp; done) | (simp [*]; done)), H', ⟨by have := HK1.out; have := HJ6.out; omega⟩, ⟨by (with_reducible repeat (first | apply Kd.R_alloc | apply Kd.R_drewN | apply Kd.R_drew)); exact Kd.R_mono HO149.out (fun _ hk => trivial)⟩, ⟨by repeat (first | (with_reducible first | exact HB.out | apply below_alloc | apply pw_below_drewN | apply below_drew1) | exact HB.out)⟩⟩
                            · rw [if_neg c34] at H
                              exact absurd H (by simp)
                          · rw [if_neg c32] at H
                            exact absurd H (by simp)
                        · rw [if_neg c31] at H
                          exact absurd H (by simp)
                      · rw [if_neg c30] at H
                        have c30b0 : ((bt t126 0) == 40) = false := beq_eq_false_iff_ne.mpr c30
                        have c30b1 : ((bt t126 0) != 40) = true := bne_iff_ne.mpr c30
                        have H' := Aside0.mk H
                        clear H
                        have p21 : 0 ≤ (0 : Int) := (by omega)
                        have q21 : 0 < t126.size := (by have : (0 : Int) < (t126.size : Int) := of_decide_eq_true (by first | (with_reducible assumption) | assumption); omega)
                        have hx21 : ∀ h : 0 < t126.size, ((t126[0]'h).toNat : Int) = bt t126 0 := bt_at t126 0
                        clear p21
                        have qi21 : (0 < (t126.size : Int)) = True := eq_true (of_decide_eq_true (by first | (with_reducible assumption) | assumption))
                        replace q21 := eq_true q21
                        have p29 : 0 ≤ (0 : Int) := (by omega)
                        have q29 : 0 < t126.size := (by have : (0 : Int) < (t126.size : Int) := of_decide_eq_true (by first | (with_reducible assumption) | assumption); omega)
                        have hx29 : ∀ h : 0 < t126.size, ((t126[0]'h).toNat : Int) = bt t126 0 := bt_at t126 0
                        clear p29
                        have qi29 : (0 < (t126.size : Int)) = True := eq_true (of_decide_eq_true (by first | (with_reducible assumption) | assumption))
                        replace q29 := eq_true q29
                        go_wp2
                        go_roundg kj6
                        case measure => have := HK1.out; have := HJ6.out; omega
                        case rel => exact ⟨(t127), (wrap64 (x1_1 + (t126.size : Int))), (y129), (by first | rfl | (simp; done) | (simp [*]; done)), (by first | rfl | (simp; done) | (simp [*]; done)), H', ⟨by have := HK1.out; have := HJ6.out; omega⟩, ⟨by (with_reducible repeat (first | apply Kd.R_alloc | apply Kd.R_drewN | apply Kd.R_drew)); exact HO_5.out⟩, ⟨by repeat (first | (with_reducible first | exact HB.out | apply below_alloc | apply pw_below_drewN | apply below_drew1) | exact HB.out)⟩⟩
                  · rw [if_neg c20] at H
                    exact absurd H (by simp)
          · rw [if_neg c6] at H
            exact absurd H (by simp)
        · replace c5 := Bool.eq_false_iff.mpr c5
          subst c5
          have H1 : (some x5_1) = some r := by rw [if_neg (show ¬ (false = true) by decide)] at H; exact H
          clear H
          have H := H1
          clear H1
          obtain rfl := Option.some.inj H
          go_wp2_with (first | ((with_reducible refine gate_callee (f := 21) rfl ?_); refine goesL_ (some 13) rfl rfl Try.func21 (by kernel_rfl) rfl #[.string x0_1] rfl (by (try simp only [List.map_toArray, List.map_cons, List.map_nil]); first | done | rfl | (simp only [List.length_drop, List.length_take]; rfl)) ?_; (with_reducible refine (spec_First.calls k1 x0_1 t126 t127 false _ A4.out).mono ?_); rintro e w' ⟨rfl, ⟨nd, rfl⟩⟩; refine ⟨_, rfl, ?_⟩))
          go_ret
          exact ⟨_, by first | rfl | (simp [errW_none, errW_some] <;> rfl) | (simp [*, errW_none, errW_some] <;> rfl) | (simp (disch := omega) only [wrap64_id] <;> rfl), by (with_reducible repeat (first | apply Kd.R_alloc | apply Kd.R_drewN | apply Kd.R_drew)); exact HO_5.out, by repeat (first | (with_reducible first | exact HB.out | apply below_alloc | apply pw_below_drewN | apply below_drew1) | exact HB.out)⟩

end Go.Proofs.Ytfipimoemhbnlaa.MFnSgReplace
