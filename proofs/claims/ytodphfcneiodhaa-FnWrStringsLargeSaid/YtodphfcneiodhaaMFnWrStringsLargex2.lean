-- Written by a program of this session (myprint.py, out of the translation). Not trusted: Lean checks it.
import Derived.Test.YtodphfcneiodhaaMFnWrStringsLargex0
namespace Go.Proofs.Ytodphfcneiodhaa.MFnWrStringsLarge
open Go.RowKit Go.Proofs.YtodphfcneiodhaaW.PrintWords Go.Proofs.YtodphfcneiodhaaW.PrintLast Go.Proofs.YtodphfcneiodhaaW.PrintMore
attribute [local go_sem] max2_int min2_int max_two min_two max_three min_three max_four min_four   -- for this text's walks alone
set_option linter.unusedVariables false
set_option linter.unusedSimpArgs false

/-! ### dbus_DoorConvert: function 10 -/
-- GIVENTEXT
-- INFO 9
/-- The converter's block: the buffer (its length is the offset), owned from base on. -/
def Cv (w : World) (base g C : Nat) : Prop :=
  base ≤ g ∧ ∃ (b0 L : Nat) (xs : List Value), w.heap[g]? = some (.cells #[.slice (some ⟨b0, 0, none⟩) L C, .int .i64 (L : Int)] 38 (0, 0)) ∧ L ≤ C ∧
    w.ownsRow base 5 1 (.slice (some ⟨b0, 0, none⟩) L C) L xs
/-- What is neither a converter nor a buffer stays as it is. -/
def Kp (base : Nat) (W w' : World) : Prop :=
  Below base W w' ∧ ∀ (k : Nat) (cells : Array Value) (q : Nat) (m : Nat × Nat), W.heap[k]? = some (Obj.cells cells q m) → q ≠ 38 → (q = 5 → m ≠ (0, 0)) → w'.heap[k]? = W.heap[k]?
theorem Kp.refl (base : Nat) (W : World) : Kp base W W := ⟨Below.refl _ _, fun _ _ _ _ _ _ _ => rfl⟩
theorem Kp.trans {base : Nat} {a b c : World} (h : Kp base a b) (k : Kp base b c) : Kp base a c :=
  ⟨h.1.trans k.1, fun i cells q m hi h1 h2 => (k.2 i cells q m ((h.2 i cells q m hi h1 h2).trans hi) h1 h2).trans (h.2 i cells q m hi h1 h2)⟩
theorem Kp.set {base g i : Nat} {W : World} {cs : Array Value} {v : Value} (hg : W.heap[g]? = some (.cells cs 38 (0, 0))) (hb : base ≤ g) : Kp base W (W.setCell ⟨g, i, none⟩ v) :=
  ⟨(Below.refl _ _).setCell hb v, fun k cells q m hk h1 _ => Below.heap_setCell W _ v k (fun e => by
    have e' : k = g := e
    subst e'; rw [hg] at hk; injection hk with hk; injection hk with _ hk _; exact h1 hk.symm)⟩
theorem Kp.grown {base : Nat} {W w' : World} (hg : W.grownBy w' none) (hb : base ≤ W.heap.size) : Kp base W w' :=
  ⟨(Below.refl _ _).grown hg hb (fun _ h => by cases h), fun k _ _ _ hk _ _ => hg.block k (Array.getElem?_eq_some_iff.1 hk).1 (by simp)⟩
theorem Kp.row {base b0 n c : Nat} {W w' : World} {xs : List Value} (hg : W.grownBy w' (some b0)) (ho : W.ownsRow base 5 1 (.slice (some ⟨b0, 0, none⟩) n c) n xs) (hs : base ≤ W.heap.size) : Kp base W w' :=
  ⟨(Below.refl _ _).grown hg hs (fun k h => by cases h; exact own_base ho _ rfl), fun k cells q m hk h1 h2 => hg.block k (Array.getElem?_eq_some_iff.1 hk).1 (fun e => by
    cases e
    obtain ⟨cur, hc⟩ := own_typed ho b0 rfl
    rw [hc] at hk
    injection hk with hk
    injection hk with _ hq hm
    exact h2 hq.symm hm.symm)⟩
theorem cv_apart {w : World} {base g b0 n c : Nat} {cs : Array Value} {xs : List Value} (hg : w.heap[g]? = some (.cells cs 38 (0, 0))) (ho : w.ownsRow base 5 1 (.slice (some ⟨b0, 0, none⟩) n c) n xs) : g ≠ b0 := by
  rintro rfl
  obtain ⟨cur, hc⟩ := own_typed ho g rfl
  rw [hg] at hc
  injection hc with hc
  injection hc with _ hc _
  cases hc
def NewPost (w : World) (C : Nat) (e : Ending) (w' : World) : Prop := ∃ g, e = .returned (.pointer (some ⟨g, 0, none⟩)) ∧ Cv w' w.heap.size g C ∧ Below w.heap.size w w'
theorem info5x : (Try.prog.info? 5).map (fun i => (i.zero, i.size, i.bytes)) = some (some (.int .u8 0), 1, 1) := by kernel_rfl
set_option maxHeartbeats 1000000 in
theorem nsc_calls (C : Nat) (w : World) (hC : C ≤ 65536) : Calls Try.prog 13 #[.int .i64 (C : Int)] w (NewPost w C) := by
  obtain ⟨i0, hi, hz0, hz1, hz2⟩ := info_parts info5x
  have u31 := Try.underlying31
  go_enter Try.func13, Try.ntmps13
  go_wp2_with (at_make; refine wpList_make_own _ rfl _ _ 31 rfl w.heap.size 5 i0 (.int .u8 0) 1 Try.underlying31 hi hz0 hz1 .i64 .i64 _ C rfl rfl rfl (by rw [hz2]; omega) (by unfold maxLen; omega) (Nat.le_refl _) ?_; intro w1 ho hg)
  go_ret
  exact ⟨w1.heap.size, rfl, ⟨hg.size, w.heap.size, 0, [], heap_alloc_new _ _, Nat.zero_le _, ho.alloc _⟩, ((Below.refl _ _).grown hg (Nat.le_refl _) (fun _ h => by cases h)).alloc hg.size _⟩
theorem tostr_calls (b off c : Nat) (bs : ByteArray) (w : World) (hb : ∀ j, j < bs.size → w.cell? ⟨b, off + j, none⟩ = some (.int .u8 (bs.data.toList.getD j 0).toNat)) :
    Calls Try.prog 17 #[.slice (some ⟨b, off, none⟩) bs.size c] w fun e w' => e = .returned (.string bs) ∧ w = w' := by
  have hcv := run_convert_bytes_arg (P := Try.prog) w 31 5 Try.underlying31 Try.underlying5 b off bs.size c (bs.data.toList.map fun x => (x.toNat : Int)) (by simp) (fun i hi => by rw [hb i hi]; simp [List.getD, hi]) 9 Try.underlying9
  have he : strOfNums (bs.data.toList.map fun x => (x.toNat : Int)) = bs := by
    unfold strOfNums
    rw [List.map_map]
    have : ((fun n : Int => UInt8.ofNat n.toNat) ∘ fun x : UInt8 => (x.toNat : Int)) = id := by funext x; simp
    rw [this, List.map_id]
  rw [he] at hcv
  clear he hb
  go_enter Try.func17, Try.ntmps17
  go_wp2
  go_ret
  simp
def StrPost (base g C : Nat) (bs : ByteArray) (W : World) (e : Ending) (w' : World) : Prop := e = .returned (.string bs) ∧ Cv w' base g C ∧ Kp base W w'
theorem str_zero (base g C bb c : Nat) (W : World) (hv : Cv W base g C) : Calls Try.prog 14 #[.pointer (some ⟨g, 0, none⟩), .slice (some ⟨bb, 0, none⟩) 0 c] W (StrPost base g C ByteArray.empty W) := by
  have HV := Aside0.mk hv
  clear hv
  go_enter Try.func14, Try.ntmps14
  go_wp2
  go_ret
  exact ⟨rfl, HV.out, Kp.refl _ _⟩
set_option maxHeartbeats 1000000 in
theorem str_long (base g C bb c : Nat) (bs : ByteArray) (W : World) (hv : Cv W base g C) (hb : ∀ j, j < bs.size → W.cell? ⟨bb, j, none⟩ = some (.int .u8 (bs.data.toList.getD j 0).toNat)) (hl : C < bs.size) :
    Calls Try.prog 14 #[.pointer (some ⟨g, 0, none⟩), .slice (some ⟨bb, 0, none⟩) bs.size c] W (StrPost base g C bs W) := by
  have HV := Aside0.mk hv
  obtain ⟨_, b0, L, xs, hg, _, _⟩ := hv
  have hc0 : W.cell? ⟨g, 0, none⟩ = some (.slice (some ⟨b0, 0, none⟩) L C) := by rw [cell_of_row W g 0 _ 38 (0, 0) hg]; rfl
  have hn0 : ((bs.size : Int) == 0) = false := beq_eq_false_iff_ne.2 (by omega)
  have hn1 : decide (C < bs.size) = true := by simpa using hl
  have hcv := run_convert_bytes_arg (P := Try.prog) W 31 5 Try.underlying31 Try.underlying5 bb 0 bs.size c (bs.data.toList.map fun x => (x.toNat : Int)) (by simp) (fun i hi => by rw [Nat.zero_add, hb i hi]; simp [List.getD, hi]) 9 Try.underlying9
  have he : strOfNums (bs.data.toList.map fun x => (x.toNat : Int)) = bs := by
    unfold strOfNums
    rw [List.map_map]
    have : ((fun n : Int => UInt8.ofNat n.toNat) ∘ fun x : UInt8 => (x.toNat : Int)) = id := by funext x; simp
    rw [this, List.map_id]
  rw [he] at hcv
  clear he hb hg
  go_enter Try.func14, Try.ntmps14
  go_wp2
  go_ret
  exact ⟨rfl, HV.out, Kp.refl _ _⟩
def MidPost (base g C n : Nat) (W : World) (wc : World) : Prop :=
  ∃ (b0 L : Nat) (xs : List Value), wc.heap[g]? = some (.cells #[.slice (some ⟨b0, 0, none⟩) L C, .int .i64 (L : Int)] 38 (0, 0)) ∧ L + n ≤ C ∧ wc.ownsRow base 5 1 (.slice (some ⟨b0, 0, none⟩) L C) L xs ∧ Kp base W wc
def bcells (bs : ByteArray) : List Value := bs.data.toList.map fun x => Value.int .u8 x.toNat
theorem bcells_length (bs : ByteArray) : (bcells bs).length = bs.size := by simp [bcells]
theorem bcells_one (bs : ByteArray) : ∀ u ∈ bcells bs, u.oneCell' = true := by
  intro u hu
  obtain ⟨x, _, rfl⟩ := List.mem_map.1 hu
  rfl
theorem bcells_at (bs : ByteArray) (j : Nat) (hj : j < bs.size) : (bcells bs)[j]? = some (.int .u8 (bs.data.toList.getD j 0).toNat) := by
  have : j < bs.data.size := hj
  simp [bcells, List.getD, Array.getElem?_eq_getElem this]
theorem mid_keep {base g C b0 L n nq : Nat} {W : World} {xs : List Value} (hg : W.heap[g]? = some (.cells #[.slice (some ⟨b0, 0, none⟩) L C, .int .i64 (L : Int)] 38 (0, 0))) (ho : W.ownsRow base 5 1 (.slice (some ⟨b0, 0, none⟩) L C) L xs) (hle : L + n ≤ C) : MidPost base g C n W (W.drewN nq) :=
  ⟨b0, L, xs, hg, hle, pw_own_below ho (pw_below_drewN (Below.refl _ _) nq), pw_below_drewN (Below.refl _ _) nq, fun _ _ _ _ _ _ _ => rfl⟩
theorem mid_new {base g C n nq : Nat} {W w1 : World} {cs : Array Value} (hb : base ≤ g) (hg : W.heap[g]? = some (.cells cs 38 (0, 0))) (hc : cs.size = 2) (hs : base ≤ W.heap.size) (ho : w1.ownsRow base 5 1 (.slice (some ⟨W.heap.size, 0, none⟩) 0 C) 0 []) (hgr : (W.drewN nq).grownBy w1 none) (hle : n ≤ C) :
    MidPost base g C n W ((w1.setCell ⟨g, 0, none⟩ (.slice (some ⟨W.heap.size, 0, none⟩) 0 C)).setCell ⟨g, 1, none⟩ (.int .i64 0)) := by
  have hlt : g < W.heap.size := (Array.getElem?_eq_some_iff.1 hg).1
  have h1 : w1.heap[g]? = some (.cells cs 38 (0, 0)) := (hgr.block g hlt (by simp)).trans hg
  have h2 := heap_setCell_same w1 g 0 cs 38 (.slice (some ⟨W.heap.size, 0, none⟩) 0 C) h1
  have h3 := heap_setCell_same _ g 1 _ 38 (.int .i64 0) h2
  have k1 : Kp base W w1 := Kp.trans (b := W.drewN nq) ⟨pw_below_drewN (Below.refl _ _) nq, fun _ _ _ _ _ _ _ => rfl⟩ (Kp.grown hgr hs)
  refine ⟨W.heap.size, 0, [], ?_, by omega, ?_, (k1.trans (Kp.set h1 hb)).trans (Kp.set h2 hb)⟩
  · rw [h3]
    obtain ⟨l⟩ := cs
    obtain ⟨a, b, rfl⟩ : ∃ a b, l = [a, b] := by
      match l, hc with
      | [a, b], _ => exact ⟨a, b, rfl⟩
    rfl
  · have hne : g ≠ W.heap.size := by omega
    refine own_move (own_move ho fun k hk => Below.heap_setCell _ _ _ _ ?_) fun k hk => Below.heap_setCell _ _ _ _ ?_
    all_goals
      have : W.heap.size = k := by simpa [Value.ownBlock] using hk
      intro (e : k = g)
      omega
theorem slice_from (b0 L n C : Nat) (hn : 0 < n) (hle : L + n ≤ C) (w : World) : (Instr.slice 31 (.slice (some ⟨b0, 0, none⟩) (L + n) C) (some (.int .i64 (L : Int))) none none).run Try.prog w = .ok (.slice (some ⟨b0, L, none⟩) n (C - L)) w := by
  obtain ⟨i0, hi, hz0, hz1, hz2⟩ := info_parts info5x
  have he : Try.prog.elem 31 = 5 := by kernel_rfl
  rw [run_slice_l w 31 _ _ _ (by rw [he]; exact Try.underlying31) .i64 L (by omega) (by omega), he]
  have : (C : Nat) ≠ L := by omega
  simp [sizeOf, typeInfo, hi, Result.andThen, sliced, hz1, this, Addr.add_lit]
theorem fin_ {base g C b0 L n : Nat} {W wc w1 : World} {xs ys : List Value} {v0 v1 : Value} (hb : base ≤ g) (hg : wc.heap[g]? = some (.cells #[v0, v1] 38 (0, 0))) (ho : wc.ownsRow base 5 1 (.slice (some ⟨b0, 0, none⟩) L C) L xs) (hk : Kp base W wc) (hgr : wc.grownBy w1 (some b0))
    (ho1 : w1.ownsRow base 5 1 (.slice (some ⟨b0, 0, none⟩) (L + n) C) (L + n) ys) (hs : base ≤ wc.heap.size) (hle : L + n ≤ C) :
    Cv ((w1.setCell ⟨g, 0, none⟩ (.slice (some ⟨b0, 0, none⟩) (L + n) C)).setCell ⟨g, 1, none⟩ (.int .i64 ((L : Int) + (n : Int)))) base g C ∧
    Kp base W ((w1.setCell ⟨g, 0, none⟩ (.slice (some ⟨b0, 0, none⟩) (L + n) C)).setCell ⟨g, 1, none⟩ (.int .i64 ((L : Int) + (n : Int)))) := by
  have hlt : g < wc.heap.size := (Array.getElem?_eq_some_iff.1 hg).1
  have hne := cv_apart hg ho
  have h1 : w1.heap[g]? = some (.cells #[v0, v1] 38 (0, 0)) := (hgr.block g hlt (by simpa using hne)).trans hg
  have h2 := heap_setCell_same w1 g 0 #[v0, v1] 38 (.slice (some ⟨b0, 0, none⟩) (L + n) C) h1
  have h3 := heap_setCell_same _ g 1 _ 38 (.int .i64 ((L : Int) + (n : Int))) h2
  refine ⟨⟨hb, b0, L + n, ys, ?_, hle, ?_⟩, ((hk.trans (Kp.row hgr ho hs)).trans (Kp.set h1 hb)).trans (Kp.set h2 hb)⟩
  · rw [h3]; rfl
  · refine own_move (own_move ho1 fun k hk => Below.heap_setCell _ _ _ _ ?_) fun k hk => Below.heap_setCell _ _ _ _ ?_
    all_goals
      have : b0 = k := by simpa [Value.ownBlock] using hk
      intro (e : k = g)
      omega
theorem Cv.drewN {w : World} {base g C : Nat} (h : Cv w base g C) (n : Nat) : Cv (w.drewN n) base g C := by
  obtain ⟨hb, b0, L, xs, hg, hl, ho⟩ := h
  exact ⟨hb, b0, L, xs, hg, hl, pw_own_below ho (pw_below_drewN (Below.refl _ _) n)⟩
theorem Kp.drewN {w W : World} {base : Nat} (h : Kp base W w) (n : Nat) : Kp base W (w.drewN n) := ⟨pw_below_drewN h.1 n, h.2⟩
theorem buf_cells {base g b0 L C : Nat} {bs : ByteArray} {w1 : World} {xs : List Value} {v : Value} (ho : w1.ownsRow base 5 1 (.slice (some ⟨b0, 0, none⟩) (L + bs.size) C) (L + bs.size) (xs ++ bcells bs)) (hx : xs.length = L) (hne : g ≠ b0) (o : Nat) :
    ∀ j, j < bs.size → (w1.setCell ⟨g, o, none⟩ v).cell? ⟨b0, L + j, none⟩ = some (.int .u8 (bs.data.toList.getD j 0).toNat) := by
  intro j hj
  rw [World.cell?_setCell_other (h := fun e => hne (by injection e)), ho.cellAt (L + j) (by omega), List.getElem?_append_right (by omega), hx, Nat.add_sub_cancel_left, bcells_at bs j hj]
set_option maxHeartbeats 2000000 in
theorem str_short (base g C bb c : Nat) (bs : ByteArray) (W : World) (hv : Cv W base g C) (hb : ∃ cells m, m ≠ (0, 0) ∧ W.heap[bb]? = some (.cells cells 5 m) ∧ ∀ j, j < bs.size → W.cell? ⟨bb, j, none⟩ = some (.int .u8 (bs.data.toList.getD j 0).toNat)) (hl : bs.size ≤ C) (h0 : 0 < bs.size) (hC : C ≤ 65536) (hs : base ≤ W.heap.size) :
    Calls Try.prog 14 #[.pointer (some ⟨g, 0, none⟩), .slice (some ⟨bb, 0, none⟩) bs.size c] W (StrPost base g C bs W) := by
  have HB := Aside0.mk hb
  clear hb
  obtain ⟨hbase, b0, L, xs, hg, hLC, hown⟩ := hv
  have HG := Aside0.mk hg
  have HO := Aside0.mk hown
  have hc0 : W.cell? ⟨g, 0, none⟩ = some (.slice (some ⟨b0, 0, none⟩) L C) := by rw [cell_of_row W g 0 _ 38 (0, 0) hg]; rfl
  have hc1 : W.cell? ⟨g, 1, none⟩ = some (.int .i64 (L : Int)) := by rw [cell_of_row W g 1 _ 38 (0, 0) hg]; rfl
  have hn0 : ((bs.size : Int) == 0) = false := beq_eq_false_iff_ne.2 (by omega)
  have hn1 : decide (C < bs.size) = false := by simpa using hl
  clear hg hown
  go_enter Try.func14, Try.ntmps14
  go_upto_region 6 with (fail)
  obtain ⟨i0, hi, hz0, hz1, hz2⟩ := info_parts info5x
  have hw1 : IntKind.i64.wrap ((L : Int) + (bs.size : Int)) = (L : Int) + (bs.size : Int) := by rw [IntKind.wrap_i64]; omega
  have hf0 := frozen_of_row W g 0 _ 38 HG.out
  have hf1 := frozen_of_row W g 1 _ 38 HG.out
  have hlt : g < W.heap.size := (Array.getElem?_eq_some_iff.1 HG.out).1
  go_quiet (fail)
  go_upto_if 32 with (fail)
  go_cut [] (fun wc => Aside0 (MidPost base g C bs.size W wc))
  case first =>
    by_cases hfull : C < L + bs.size
    · have hd1 : decide ((C : Int) < (L : Int) + (bs.size : Int)) = true := by simp; omega
      go_wp2_with (at_make; refine wpList_make_own _ rfl _ _ 31 rfl base 5 i0 (.int .u8 0) 1 Try.underlying31 hi hz0 hz1 .i64 .i64 _ C rfl rfl rfl (by rw [hz2]; omega) (by unfold maxLen; omega) hs ?_; intro w1 ho hgr; have HO1 := Aside0.mk ho; have HR1 := Aside0.mk hgr; have hc0' := hgr.cell hc0 (by simp); have hc1' := hgr.cell hc1 (by simp); have hf0' : w1.frozen? ⟨g, 0, none⟩ = false := (World.frozen?_of_block (hgr.block g hlt (by simp))).trans hf0; have hf1' : w1.frozen? ⟨g, 1, none⟩ = false := (World.frozen?_of_block (hgr.block g hlt (by simp))).trans hf1; clear ho hgr)
      go_meet
      exact ⟨mid_new hbase HG.out rfl hs HO1.out HR1.out hl⟩
    · have hd1 : decide ((C : Int) < (L : Int) + (bs.size : Int)) = false := by simp; omega
      go_wp2
      go_meet
      exact ⟨mid_keep HG.out HO.out (by omega)⟩
  case rest =>
    obtain ⟨HM⟩ := hcut
    obtain ⟨b0', L', xs', hg', hLC', ho', hk'⟩ := HM
    clear hc0 hc1 hf0 hf1 hw1 hlt HO
    have hc0 : wc.cell? ⟨g, 0, none⟩ = some (.slice (some ⟨b0', 0, none⟩) L' C) := by rw [cell_of_row wc g 0 _ 38 (0, 0) hg']; rfl
    have hc1 : wc.cell? ⟨g, 1, none⟩ = some (.int .i64 (L' : Int)) := by rw [cell_of_row wc g 1 _ 38 (0, 0) hg']; rfl
    have hf0 := frozen_of_row wc g 0 _ 38 hg'
    have hf1 := frozen_of_row wc g 1 _ 38 hg'
    have hne := cv_apart hg' ho'
    have hlt : g < wc.heap.size := (Array.getElem?_eq_some_iff.1 hg').1
    have hw1 : IntKind.i64.wrap ((L' : Int) + (bs.size : Int)) = (L' : Int) + (bs.size : Int) := by rw [IntKind.wrap_i64]; omega
    have hsl := slice_from b0' L' bs.size C h0 hLC'
    have hbc : ∀ j u, (bcells bs)[j]? = some u → wc.cell? ((⟨bb, 0, none⟩ : Addr).add j) = some u := by
      intro j u hu
      obtain ⟨cells, m, hm, hbb, hcell⟩ := HB.out
      have hj : j < bs.size := by rw [← bcells_length bs]; exact (List.getElem?_eq_some_iff.1 hu).1
      rw [bcells_at bs j hj] at hu
      rw [Addr.add_lit, Nat.zero_add, ← hu, ← hcell j hj]
      exact World.cell?_of_block (hk'.2 bb cells 5 m hbb (by decide) (fun _ => hm))
    have HBC := Aside0.mk hbc
    have HG' := Aside0.mk hg'
    have HO' := Aside0.mk ho'
    have HK' := Aside0.mk hk'
    have HL := Aside0.mk hLC'
    have HN := Aside0.mk hne
    have hx' : Aside0 (xs'.length = L') := ⟨by rw [ho'.1, Nat.mul_one]⟩
    clear hbc hg' ho' hk' hne
    go_upto_region 11 with (at_builtin; refine wpList_append_fits _ rfl (.tmp 49) (.tmp 50) 31 rfl base 5 i0 1 Try.underlying31 hi hz1 b0' L' C xs' rfl HO'.out ⟨bb, 0, none⟩ bs.size c (bcells bs) rfl (by rw [bcells_length, Nat.mul_one]) HBC.out (bcells_one bs) hLC' ?_; intro w1 ho hgr; have HO1 := Aside0.mk ho; have HR1 := Aside0.mk hgr; have hc0' := hgr.cell hc0 (by simpa using HN.out); have hc1' := hgr.cell hc1 (by simpa using HN.out); have hf0' : w1.frozen? ⟨g, 0, none⟩ = false := (World.frozen?_of_block (hgr.block g hlt (by simpa using HN.out))).trans hf0; have hf1' : w1.frozen? ⟨g, 1, none⟩ = false := (World.frozen?_of_block (hgr.block g hlt (by simpa using HN.out))).trans hf1; clear ho hgr)
    have HBF := Aside0.mk (buf_cells (g := g) HO1.out hx'.out HN.out 0 (v := .slice (some ⟨b0', 0, none⟩) (L' + bs.size) C))
    go_quiet (fail)
    go_upto_region 12 with (fail)
    refine (tostr_calls b0' L' (C - L') bs _ ?hc).mono ?_
    case hc => exact HBF.out
    rintro e w' ⟨rfl, rfl⟩
    go_wp2
    go_ret
    have F := fin_ hbase HG'.out HO'.out HK'.out HR1.out HO1.out (Nat.le_trans hs HK'.out.1.size) HL.out
    exact ⟨rfl, F.1.drewN _, F.2.drewN _⟩
/-- One text through the converter. -/
theorem str_any (base g C bb c : Nat) (bs : ByteArray) (W : World) (hv : Cv W base g C) (hb : ∃ cells m, m ≠ (0, 0) ∧ W.heap[bb]? = some (.cells cells 5 m) ∧ ∀ j, j < bs.size → W.cell? ⟨bb, j, none⟩ = some (.int .u8 (bs.data.toList.getD j 0).toNat)) (hC : C ≤ 65536) (hs : base ≤ W.heap.size) :
    Calls Try.prog 14 #[.pointer (some ⟨g, 0, none⟩), .slice (some ⟨bb, 0, none⟩) bs.size c] W (StrPost base g C bs W) := by
  by_cases h0 : bs.size = 0
  · have : bs = ByteArray.empty := by
      obtain ⟨⟨l⟩⟩ := bs
      have : l.length = 0 := h0
      rw [List.length_eq_zero_iff] at this
      subst this
      rfl
    subst this
    exact str_zero base g C bb c W hv
  · by_cases h1 : C < bs.size
    · obtain ⟨_, _, _, _, h⟩ := hb
      exact str_long base g C bb c bs W hv h h1
    · exact str_short base g C bb c bs W hv hb (by omega) (by omega) hC hs
theorem R_kp {W w' : World} {base : Nat} {ok : Nat → Prop} {v : Value} {xs : List ByteArray} (h : Kd.R Kd.string 9 W base ok v xs) (hk : Kp base W w') : Kd.R Kd.string 9 w' base ok v xs :=
  Kd.R_mono (Kd.R_move (Kd.R_bound h) (fun k ho => by
    obtain ⟨_, _, _, q, hq, cells, hc⟩ := ho
    have hq9 : q = 9 := by simpa [Kd.string, Kd.scalar] using hq
    subst hq9
    exact hk.2 k cells 9 (0, 0) hc (by decide) (fun h => by cases h))) (fun _ ho => ho.1)
theorem Cv.below {w w' : World} {base g C : Nat} (h : Cv w base g C) (hb : Below w.heap.size w w') : Cv w' base g C := by
  obtain ⟨h1, b0, L, xs, hg, hl, ho⟩ := h
  exact ⟨h1, b0, L, xs, (hb.block g (Array.getElem?_eq_some_iff.1 hg).1).trans hg, hl, pw_own_below ho hb⟩
theorem Cv.grown {w w' : World} {base g C : Nat} {ok : Nat → Prop} {v : Value} {xs : List ByteArray} (h : Cv w base g C) (hr : Kd.R Kd.string 9 w base ok v xs) (hg : w.grownBy w' v.ownBlock) : Cv w' base g C := by
  obtain ⟨h1, b0, L, ys, hgc, hl, ho⟩ := h
  obtain ⟨cur, hcur⟩ := own_typed ho b0 rfl
  refine ⟨h1, b0, L, ys, (hg.block g (Array.getElem?_eq_some_iff.1 hgc).1 (Kd.R_ne hr hgc (by decide))).trans hgc, hl, own_move ho fun k hk => ?_⟩
  have : b0 = k := by simpa [Value.ownBlock] using hk
  subst this
  exact hg.block b0 (own_lt ho b0 rfl) (Kd.R_ne hr hcur (by decide))
theorem bytes_at (W : World) (s : ByteArray) : ∃ cells m, m ≠ (0, 0) ∧ (Lib.bytesWorld W 5 s).heap[W.heap.size]? = some (.cells cells 5 m) ∧ ∀ j, j < s.size → (Lib.bytesWorld W 5 s).cell? ⟨W.heap.size, j, none⟩ = some (.int .u8 (s.data.toList.getD j 0).toNat) :=
  ⟨_, _, by simp, Lib.bytesWorld_at_new W 5 s, fun j hj => Lib.bytesWorld_cell W 5 s j hj⟩
theorem info9x : (Try.prog.info? 9).map (fun i => (i.zero, i.size, i.bytes)) = some (some (.string ⟨#[]⟩), 1, 16) := by kernel_rfl
def dbus_DoorConvert.f (a0 : List ByteArray) (a1 : Int) : Option (List ByteArray) := if 0 ≤ a1 then if a1 ≤ 65536 then if a0.length < 8796093022208 then some a0 else none else none else none
set_option maxHeartbeats 4000000 in
set_option maxRecDepth 100000 in
theorem dbus_DoorConvert.calls (A0 : Option Addr) (c0 : Nat) (l0 : List ByteArray) (a1 : Int) (r : List ByteArray) (w : World) (hr0 : Kd.C Kd.string w A0 l0.length l0) (hc0 : l0.length ≤ c0) (h : dbus_DoorConvert.f l0 a1 = some r) :
    Calls Try.prog 10 #[.slice A0 l0.length c0, .int .i64 a1] w fun e w' => ∃ v0_ : Value, e = .returned (v0_) ∧ Kd.R Kd.string 9 w' w.heap.size (fun _ => True) v0_ r ∧ Below w.heap.size w w' := by
  have HR := Aside0.mk hr0
  unfold dbus_DoorConvert.f at h
  split at h
  · rename_i ha
    split at h
    · rename_i hb
      split at h
      · rename_i hlen
        obtain rfl := Option.some.inj h
        obtain ⟨C, rfl⟩ : ∃ C : Nat, a1 = (C : Int) := ⟨a1.toNat, by omega⟩
        have hC : C ≤ 65536 := by omega
        clear h ha hb hr0 hc0
        have HN := Aside0.mk hlen
        go_enter Try.func10, Try.ntmps10
        go_upto_region 2 with (go_at_call 13; (with_reducible refine (nsc_calls C _ hC).mono ?_); rintro e w1 ⟨g, rfl, hcv, hbl⟩; have HV := Aside0.mk hcv; have HB := Aside0.mk hbl; clear hcv hbl)
        have u31 := Try.underlying31
        go_wp2
        go_loopg [6, 13] l0.length (fun kq v6 v13 w' => ∃ k : Nat, k ≤ l0.length ∧ v13 = .int .i64 (k : Int) ∧ Aside0 (kq = l0.length - k) ∧ Aside0 (Kd.R Kd.string 9 w' w.heap.size (fun _ => True) v6 (l0.take k)) ∧ Aside0 (Cv w' w.heap.size g C) ∧ Aside0 (Below w.heap.size w w'))
        case atStart => exact ⟨0, Nat.zero_le _, rfl, ⟨rfl⟩, ⟨Kd.R_nil _ _ _ _ _⟩, HV, HB⟩
        case round =>
          clear HB HV
          obtain ⟨k, hk, rfl, HK, HO, HV, HB⟩ := hrel
          by_cases hlt : k < l0.length
          · obtain ⟨ad, c, hA, hc1, hc2, hc3⟩ := HR.out.get_ ByteArray.empty (k : Int) (by omega) (by omega)
            obtain ⟨p, hp⟩ : ∃ p, l0.getD ((k : Int).toNat) ByteArray.empty = p := ⟨_, rfl⟩
            rw [hp] at hc2
            have hc2' : c = [.string p] := hc2
            subst hc2'
            have hcell := hc3 0 (.string p) rfl
            have hcell' := pw_cell_below HB.out hcell
            have hwk : IntKind.i64.wrap ((k : Int) + 1) = ((k + 1 : Nat) : Int) := by rw [IntKind.wrap_i64]; have := HN.out; omega
            have hd1 : decide ((k : Int) < (l0.length : Int)) = true := by simpa using hlt
            have hd2 : decide (k < l0.length) = true := by simpa using hlt
            have hcv := fun W : World => Lib.run_convert_string_bytes (P := Try.prog) W 9 31 5 p Try.underlying9 Try.underlying31 Try.underlying5
            obtain ⟨A, c6, e6⟩ := Kd.R_slice HO.out
            have hcx : wr.cell? (ad.add k) = some (.string p) := by
              have h2 := hcell'
              simp only [Int.toNat_natCast, Nat.add_zero] at h2
              rwa [show Kd.string.sz = 1 from rfl, Nat.mul_one] at h2
            have htk : Aside0 (l0.take (k + 1) = l0.take k ++ [p]) := ⟨by
              rw [List.take_succ_eq_append_getElem hlt, ← hp]
              simp [List.getD, hlt]⟩
            clear hcell hcell' hc3 hp
            have HSZ := Aside0.mk (below_size HB.out)
            have HLL := Aside0.mk (show (l0.take k).length = k by simp; omega)
            rw [HLL.out] at e6
            subst hA e6
            have HK1 := Aside0.mk hlt
            go_wp2_with (first | (go_at_call 14; refine (str_any w.heap.size g C wr.heap.size _ p _ (HV.out.below (bytes_below (Below.refl _ _) (Nat.le_refl _) 5 p)) (bytes_at wr p) hC ?_).mono ?_; (rw [Lib.bytesWorld_size]; have := HSZ.out; omega); rintro e w2 ⟨rfl, hcv2, hkp2⟩; have HV2 := Aside0.mk hcv2; have HO2 := Aside0.mk (R_kp (Kd.R_below HO.out (bytes_below (Below.refl _ _) (Nat.le_refl _) 5 p)) hkp2); have HB2 := Aside0.mk ((bytes_below HB.out HSZ.out 5 p).trans hkp2.1); clear hcv2 hkp2) | ((with_reducible refine gate_builtin (b := .append) (xs := #[.tmp 17, .tmp 22]) rfl ?_); at_builtin; refine Kd.R_append Kd.string (w0 := w) w.heap.size rfl (.tmp 17) (.tmp 22) 24 9 (.string ⟨#[]⟩) 16 rfl Try.underlying24 info9x rfl (by decide) (by omega) (.slice A k c6) (l0.take k) p [.string p] (fun _ => True) (fun _ => False) rfl rfl ?aP (fun _ hk => hk.elim) ?aF HO2.out HB2.out (below_size HB2.out) ?aL ?_; (case aP => exact rfl); (case aF => exact (fun _ _ => trivial)); (case aL => rw [HLL.out]; have := HN.out; have := HK1.out; omega); intro v7 w3 ho hb hg hat; rw [← htk.out] at ho; have HO3 := Aside0.mk ho; have HB3 := Aside0.mk hb; have HG3 := Aside0.mk hg; clear ho hb hg hat))
            go_roundg (l0.length - (k + 1))
            case measure => have := HK.out; omega
            case rel =>
              exact ⟨k + 1, by omega, by first | rfl | (simp; done), ⟨rfl⟩, HO3, ⟨HV2.out.grown HO2.out HG3.out⟩, HB3⟩
          · have hd1 : decide ((k : Int) < (l0.length : Int)) = false := by simpa using hlt
            have hd2 : decide (k < l0.length) = false := by simpa using hlt
            have hkk : Aside0 (l0.take k = l0) := ⟨List.take_of_length_le (by omega)⟩
            go_wp2
            go_ret
            exact ⟨_, rfl, by have := HO.out; rwa [hkk.out] at this, HB.out⟩
      · cases h
    · cases h
  · cases h

end Go.Proofs.Ytodphfcneiodhaa.MFnWrStringsLarge
