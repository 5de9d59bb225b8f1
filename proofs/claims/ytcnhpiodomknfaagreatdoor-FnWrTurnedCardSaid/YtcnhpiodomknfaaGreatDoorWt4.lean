-- A trial text of this session.
import Derived.Test.YtcnhpiodomknfaaGreatDoorWt3
namespace Go.Proofs.YtcnhpiodomknfaaGreatDoor.MFnWrTurned
open Go.RowKit Go.Proofs.YtcnhpiodomknfaaGreatDoorW.PrintWords Go.Proofs.YtcnhpiodomknfaaGreatDoorW.PrintLast Go.Proofs.YtcnhpiodomknfaaGreatDoorW.PrintMore
attribute [local go_sem] max2_int min2_int max_two min_two max_three min_three max_four min_four
set_option linter.unusedVariables false
set_option linter.unusedSimpArgs false

attribute [local go_sem] as2_2 as2_4 as2_5 as2_21 as2_25 as2_43 as2_87 as2_90 as2_121 as2_130 as2_131 as2_132 as5_2 as5_5 as5_21 as5_25 as5_43 as5_87 as5_90 as5_91 as5_137 as21_4 as21_5 as21_21 as21_25 as21_43 as21_87 as21_90 as21_121 as21_130 as21_131 as21_132 as25_2 as25_4 as25_5 as25_21 as25_25 as25_43 as25_87 as25_90 as25_130 as25_131 as25_132 as25_137 as43_4 as43_5 as43_25 as43_43 as43_87 as43_90 as43_121 as43_130 as43_131 as43_132 as87_2 as87_4 as87_5 as87_21 as87_43 as87_87 as87_90 as87_130 as87_131 as87_132 as87_137 as90_2 as90_4 as90_5 as90_21 as90_43 as90_90 as90_130 as90_131 as90_132 as90_137 as91_2 as91_4 as91_5 as91_21 as91_25 as91_43 as91_87 as91_90 as91_91 as91_121 as91_130 as91_131 as91_132 as91_137 as121_2 as121_4 as121_5 as121_9 as121_21 as121_25 as121_43 as121_87 as121_90 as121_91 as121_95 as121_103 as121_105 as121_121 as121_130 as121_131 as121_132 as121_137 as127_2 as127_4 as127_5 as127_9 as127_21 as127_24 as127_25 as127_43 as127_55 as127_87 as127_90 as127_91 as127_95 as127_103 as127_105 as127_121 as127_127 as127_130 as127_131 as127_132 as127_137 as127_146 as91_91f
/-- Within encode: the encoder's block, the boxed value's. -/
def En (w W : World) (e : Nat) (en : Array Value) (V S : Value) : Prop := Below w.heap.size w W ∧ W.heap[e]? = some (.cells en 65 (0, 0)) ∧ W.heap[w.heap.size]? = some (.cells #[V, S] 73 (0, 0)) ∧ w.heap.size ≤ W.heap.size
theorem En.start {w : World} {e : Nat} {en : Array Value} (V S : Value) (he : w.heap[e]? = some (.cells en 65 (0, 0))) : En w (w.alloc (.cells #[V, S] 73)) e en V S :=
  ⟨below_alloc (Below.refl _ _) _, (heap_alloc_old _ _ (Array.getElem?_eq_some_iff.1 he).1).trans he, heap_alloc_new _ _, by simp⟩
theorem En.step {w W W' : World} {e : Nat} {en : Array Value} {V S : Value} (h : En w W e en V S) (hb : Below W.heap.size W W') : En w W' e en V S :=
  ⟨below_step h.1 hb, (hb.block e (Array.getElem?_eq_some_iff.1 h.2.1).1).trans h.2.1, (hb.block _ (Array.getElem?_eq_some_iff.1 h.2.2.1).1).trans h.2.2.1, Nat.le_trans h.2.2.2 hb.size⟩
theorem En.x0 {w W : World} {e : Nat} {en : Array Value} {V S : Value} (h : En w W e en V S) : W.cell? ⟨w.heap.size, 0, none⟩ = some V := (cell_of_row W _ 0 _ 73 (0, 0) h.2.2.1).trans rfl
theorem En.ne {w W : World} {e : Nat} {en : Array Value} {V S : Value} (h : En w W e en V S) : e ≠ W.heap.size := by
  have := (Array.getElem?_eq_some_iff.1 h.2.1).1
  omega
theorem set_other {W : World} {g e : Nat} {v : Value} {en : Array Value} (hn : e ≠ g) (he : W.heap[e]? = some (.cells en 65 (0, 0))) : (W.setCell ⟨g, 0, none⟩ v).heap[e]? = some (.cells en 65 (0, 0)) := by
  rw [Below.heap_setCell W ⟨g, 0, none⟩ v e hn]; exact he
theorem up_heap2 {W w2 : World} (hb : Below W.heap.size W w2) {g : Nat} {o : Obj} (h : W.heap[g]? = some o) : w2.heap[g]? = some o := (hb.block g (Array.getElem?_eq_some_iff.1 h).1).trans h
theorem En.x1 {w W : World} {e : Nat} {en : Array Value} {V S : Value} (h : En w W e en V S) : W.cell? ⟨w.heap.size, 1, none⟩ = some S := (cell_of_row W _ 1 _ 73 (0, 0) h.2.2.1).trans rfl
set_option maxRecDepth 100000 in
set_option maxHeartbeats 4000000 in
theorem en_y67 (m : Nat) (hm : m < 256) (dep : Int) (hd0 : 0 ≤ dep) (hd1 : dep ≤ 60) (w : World) (e b : Nat) (pos : Int) (he : w.heap[e]? = some (.cells #[.iface 50 (.pointer (some ⟨b, 0, none⟩)), .slice none 0 0, .iface 67 (.agg #[]), .int .i64 pos] 65 (0, 0))) (hp : 0 ≤ pos) (hp2 : pos ≤ 90000) (hr : pos % 1 = 0) (Q : World → Prop) (HE : ∀ w', Q w' → w'.heap[e]? = some (.cells #[.iface 50 (.pointer (some ⟨b, 0, none⟩)), .slice none 0 0, .iface 67 (.agg #[]), .int .i64 pos] 65 (0, 0)))
    (HW : ∀ W1, Below w.heap.size w W1 → ∀ a T, w.heap.size ≤ a → W1.heap[a]? = some (.cells #[.int .u8 (m : Int)] T (0, 0)) → Calls Tryz.prog 98 #[.pointer (some ⟨b, 0, none⟩), .slice (some ⟨a, 0, none⟩) 1 1] W1 fun e w' => e = .returned (.tuple #[.int .i64 1, .nilIface]) ∧ Q w') :
    Calls Tryz.prog 19 #[.pointer (some ⟨e, 0, none⟩), .agg #[.iface 5 (.int .u8 (m : Int)), .string ⟨#[121]⟩], .int .i64 dep] w fun e' w' => e' = .returned (.tuple #[]) ∧ ∃ w1, Q w1 ∧ w' = w1.setCell ⟨e, 3, none⟩ (.int .i64 (pos + 1)) := by
  have hdp : decide (64 < dep) = false := by simp; omega
  have hwp : IntKind.i64.wrap (pos + 1) = pos + 1 := by rw [IntKind.wrap_i64]; omega
  have hw9 : IntKind.u8.wrap (m : Int) = (m : Int) := by simp [IntKind.wrap, IntKind.bits, IntKind.signed]; omega
  have NU := Aside0.mk (fun W => nu_y (m : Int) (by omega) (by omega) W)
  have AL := Aside0.mk (fun W (h : W.heap[e]? = some (.cells #[.iface 50 (.pointer (some ⟨b, 0, none⟩)), .slice none 0 0, .iface 67 (.agg #[]), .int .i64 pos] 65 (0, 0))) => align0_calls W e _ _ _ pos 1 h hp (by omega) (by omega) (by omega) hr)
  have N0 := Aside0.mk (En.start (.iface 5 (.int .u8 (m : Int))) (.string ⟨#[121]⟩) he)
  have y0 := N0.out.x0
  have y1 := N0.out.x1
  have HC := Aside0.mk HW
  have HX := Aside0.mk HE
  clear he HW HE hp hp2 hr hd0 hd1 hm
  go_enter Tryz.func19, Tryz.ntmps19
  go_wp2_with (first
    | (go_at_call 24; refine (ty_calls _ rfl _ _).mono ?_; rintro e1 w2 ⟨rfl, hb⟩; (first | (have N1 := Aside0.mk (N0.out.step hb); have z0 := N1.out.x0; have z1 := N1.out.x1) | (have N2 := Aside0.mk (N2.out.step hb); have u0 := N2.out.x0; have u1 := N2.out.x1)); clear hb)
    | (go_at_call 23; refine (al_y _).mono ?_; rintro e1 w3 ⟨rfl, rfl⟩)
    | (go_at_call 22; refine (AL.out _ N1.out.2.1).mono ?_; rintro e1 w4 ⟨rfl, rfl⟩)
    | (go_at_call 25; refine (vk_y _ rfl _).mono ?_; rintro e1 w5 ⟨rfl, hb⟩; have N2 := Aside0.mk (N1.out.step hb); have u0 := N2.out.x0; have u1 := N2.out.x1; clear hb; have u0a := fun o => (N2.out.step (below_alloc (Below.refl _ _) o)).x0; have u1a := fun o => (N2.out.step (below_alloc (Below.refl _ _) o)).x1)
    | fail)
  refine (NU.out _).mono ?_
  rintro e1 w6 ⟨rfl, hb⟩
  have N3 := Aside0.mk ((N2.out.step (below_alloc (Below.refl _ _) _)).step hb)
  have hs := up_heap2 hb (heap_alloc_new _ _)
  have s0 := (cell_of_row w6 _ 0 _ 82 (0, 0) hs).trans rfl
  have s1 := frozen_of_row w6 _ 0 _ 82 hs
  have HS := Aside0.mk hs
  have HCE := Aside0.mk (fun v => set_other (v := v) N2.out.ne N3.out.2.1)
  have ce : ∀ v, (w6.setCell ⟨w5.heap.size, 0, none⟩ v).cell? ⟨e, 0, none⟩ = some (.iface 50 (.pointer (some ⟨b, 0, none⟩))) := fun v => (cell_of_row _ e 0 _ 65 (0, 0) (HCE.out v)).trans rfl
  clear hb hs
  have hmw := m_write b
  have hnw := nil_write b
  have hsl : ∀ W : World, (Instr.sliceAt 82 (.pointer (some ⟨w5.heap.size, 0, none⟩)) none none none).run Tryz.prog W = .ok (.slice (some ⟨w5.heap.size, 0, none⟩) 1 1) W := by
    intro W
    have hal : Tryz.prog.arrayLen 82 = 1 := by kernel_rfl
    have hel : Tryz.prog.elem 82 = 5 := by kernel_rfl
    obtain ⟨i0, hi5, hz5⟩ := Option.map_eq_some_iff.1 info5y
    simp only [Prod.mk.injEq] at hz5
    rw [run_sliceAt_array_all W 82 ⟨w5.heap.size, 0, none⟩ (by simp [Program.arrayLen, Program.elem, Tryz.underlying82])]
    simp [hal, sizeOf, typeInfo, hel, hi5, hz5.2.1, slicedAt, Result.andThen, Addr.add]
  have hB6 : Below w.heap.size w (w6.setCell ⟨w5.heap.size, 0, none⟩ (.int .u8 (m : Int))) := N3.out.1.setCell N2.out.2.2.2 _
  have HB6 := Aside0.mk hB6
  have hH6 : (w6.setCell ⟨w5.heap.size, 0, none⟩ (.int .u8 (m : Int))).heap[w5.heap.size]? = some (.cells #[.int .u8 (m : Int)] 82 (0, 0)) := heap_setCell_same w6 w5.heap.size 0 _ 82 _ HS.out
  have HH6 := Aside0.mk hH6
  clear hB6 hH6
  go_wp2
  go_region_with (go_at_call 98; refine (HC.out _ (below_drew1 HB6.out) w5.heap.size 82 N2.out.2.2.2 HH6.out).mono ?_; rintro e1 w7 ⟨rfl, hq⟩; have HQ := Aside0.mk hq; have hen := HX.out _ hq; have q3 := (cell_of_row w7 e 3 _ 65 (0, 0) hen).trans rfl; have q4 := frozen_of_row w7 e 3 _ 65 hen; clear hq hen)
  all_goals
    go_wp2
    go_end0
    exact ⟨rfl, _, HQ.out, rfl⟩
set_option maxRecDepth 100000 in
set_option maxHeartbeats 4000000 in
theorem en_y68 (m : Nat) (hm : m < 256) (dep : Int) (hd0 : 0 ≤ dep) (hd1 : dep ≤ 60) (w : World) (e b : Nat) (pos : Int) (he : w.heap[e]? = some (.cells #[.iface 50 (.pointer (some ⟨b, 0, none⟩)), .slice none 0 0, .iface 68 (.agg #[]), .int .i64 pos] 65 (0, 0))) (hp : 0 ≤ pos) (hp2 : pos ≤ 90000) (hr : pos % 1 = 0) (Q : World → Prop) (HE : ∀ w', Q w' → w'.heap[e]? = some (.cells #[.iface 50 (.pointer (some ⟨b, 0, none⟩)), .slice none 0 0, .iface 68 (.agg #[]), .int .i64 pos] 65 (0, 0)))
    (HW : ∀ W1, Below w.heap.size w W1 → ∀ a T, w.heap.size ≤ a → W1.heap[a]? = some (.cells #[.int .u8 (m : Int)] T (0, 0)) → Calls Tryz.prog 98 #[.pointer (some ⟨b, 0, none⟩), .slice (some ⟨a, 0, none⟩) 1 1] W1 fun e w' => e = .returned (.tuple #[.int .i64 1, .nilIface]) ∧ Q w') :
    Calls Tryz.prog 19 #[.pointer (some ⟨e, 0, none⟩), .agg #[.iface 5 (.int .u8 (m : Int)), .string ⟨#[121]⟩], .int .i64 dep] w fun e' w' => e' = .returned (.tuple #[]) ∧ ∃ w1, Q w1 ∧ w' = w1.setCell ⟨e, 3, none⟩ (.int .i64 (pos + 1)) := by
  have hdp : decide (64 < dep) = false := by simp; omega
  have hwp : IntKind.i64.wrap (pos + 1) = pos + 1 := by rw [IntKind.wrap_i64]; omega
  have hw9 : IntKind.u8.wrap (m : Int) = (m : Int) := by simp [IntKind.wrap, IntKind.bits, IntKind.signed]; omega
  have NU := Aside0.mk (fun W => nu_y (m : Int) (by omega) (by omega) W)
  have AL := Aside0.mk (fun W (h : W.heap[e]? = some (.cells #[.iface 50 (.pointer (some ⟨b, 0, none⟩)), .slice none 0 0, .iface 68 (.agg #[]), .int .i64 pos] 65 (0, 0))) => align0_calls W e _ _ _ pos 1 h hp (by omega) (by omega) (by omega) hr)
  have N0 := Aside0.mk (En.start (.iface 5 (.int .u8 (m : Int))) (.string ⟨#[121]⟩) he)
  have y0 := N0.out.x0
  have y1 := N0.out.x1
  have HC := Aside0.mk HW
  have HX := Aside0.mk HE
  clear he HW HE hp hp2 hr hd0 hd1 hm
  go_enter Tryz.func19, Tryz.ntmps19
  go_wp2_with (first
    | (go_at_call 24; refine (ty_calls _ rfl _ _).mono ?_; rintro e1 w2 ⟨rfl, hb⟩; (first | (have N1 := Aside0.mk (N0.out.step hb); have z0 := N1.out.x0; have z1 := N1.out.x1) | (have N2 := Aside0.mk (N2.out.step hb); have u0 := N2.out.x0; have u1 := N2.out.x1)); clear hb)
    | (go_at_call 23; refine (al_y _).mono ?_; rintro e1 w3 ⟨rfl, rfl⟩)
    | (go_at_call 22; refine (AL.out _ N1.out.2.1).mono ?_; rintro e1 w4 ⟨rfl, rfl⟩)
    | (go_at_call 25; refine (vk_y _ rfl _).mono ?_; rintro e1 w5 ⟨rfl, hb⟩; have N2 := Aside0.mk (N1.out.step hb); have u0 := N2.out.x0; have u1 := N2.out.x1; clear hb; have u0a := fun o => (N2.out.step (below_alloc (Below.refl _ _) o)).x0; have u1a := fun o => (N2.out.step (below_alloc (Below.refl _ _) o)).x1)
    | fail)
  refine (NU.out _).mono ?_
  rintro e1 w6 ⟨rfl, hb⟩
  have N3 := Aside0.mk ((N2.out.step (below_alloc (Below.refl _ _) _)).step hb)
  have hs := up_heap2 hb (heap_alloc_new _ _)
  have s0 := (cell_of_row w6 _ 0 _ 82 (0, 0) hs).trans rfl
  have s1 := frozen_of_row w6 _ 0 _ 82 hs
  have HS := Aside0.mk hs
  have HCE := Aside0.mk (fun v => set_other (v := v) N2.out.ne N3.out.2.1)
  have ce : ∀ v, (w6.setCell ⟨w5.heap.size, 0, none⟩ v).cell? ⟨e, 0, none⟩ = some (.iface 50 (.pointer (some ⟨b, 0, none⟩))) := fun v => (cell_of_row _ e 0 _ 65 (0, 0) (HCE.out v)).trans rfl
  clear hb hs
  have hmw := m_write b
  have hnw := nil_write b
  have hsl : ∀ W : World, (Instr.sliceAt 82 (.pointer (some ⟨w5.heap.size, 0, none⟩)) none none none).run Tryz.prog W = .ok (.slice (some ⟨w5.heap.size, 0, none⟩) 1 1) W := by
    intro W
    have hal : Tryz.prog.arrayLen 82 = 1 := by kernel_rfl
    have hel : Tryz.prog.elem 82 = 5 := by kernel_rfl
    obtain ⟨i0, hi5, hz5⟩ := Option.map_eq_some_iff.1 info5y
    simp only [Prod.mk.injEq] at hz5
    rw [run_sliceAt_array_all W 82 ⟨w5.heap.size, 0, none⟩ (by simp [Program.arrayLen, Program.elem, Tryz.underlying82])]
    simp [hal, sizeOf, typeInfo, hel, hi5, hz5.2.1, slicedAt, Result.andThen, Addr.add]
  have hB6 : Below w.heap.size w (w6.setCell ⟨w5.heap.size, 0, none⟩ (.int .u8 (m : Int))) := N3.out.1.setCell N2.out.2.2.2 _
  have HB6 := Aside0.mk hB6
  have hH6 : (w6.setCell ⟨w5.heap.size, 0, none⟩ (.int .u8 (m : Int))).heap[w5.heap.size]? = some (.cells #[.int .u8 (m : Int)] 82 (0, 0)) := heap_setCell_same w6 w5.heap.size 0 _ 82 _ HS.out
  have HH6 := Aside0.mk hH6
  clear hB6 hH6
  go_wp2
  go_region_with (go_at_call 98; refine (HC.out _ (below_drew1 HB6.out) w5.heap.size 82 N2.out.2.2.2 HH6.out).mono ?_; rintro e1 w7 ⟨rfl, hq⟩; have HQ := Aside0.mk hq; have hen := HX.out _ hq; have q3 := (cell_of_row w7 e 3 _ 65 (0, 0) hen).trans rfl; have q4 := frozen_of_row w7 e 3 _ 65 hen; clear hq hen)
  all_goals
    go_wp2
    go_end0
    exact ⟨rfl, _, HQ.out, rfl⟩
set_option maxRecDepth 100000 in
set_option maxHeartbeats 4000000 in
theorem en_n67 (x : Int) (m : Nat) (h0 : -32768 ≤ x) (h1 : x < 32768) (hx : IntKind.u16.wrap x = (m : Int)) (dep : Int) (hd0 : 0 ≤ dep) (hd1 : dep ≤ 60) (w : World) (e b : Nat) (pos : Int) (he : w.heap[e]? = some (.cells #[.iface 50 (.pointer (some ⟨b, 0, none⟩)), .slice none 0 0, .iface 67 (.agg #[]), .int .i64 pos] 65 (0, 0))) (hp : 0 ≤ pos) (hp2 : pos ≤ 90000) (hr : pos % 2 = 0) (Q : World → Prop) (HE : ∀ w', Q w' → w'.heap[e]? = some (.cells #[.iface 50 (.pointer (some ⟨b, 0, none⟩)), .slice none 0 0, .iface 67 (.agg #[]), .int .i64 pos] 65 (0, 0)))
    (HW : ∀ W1, Below w.heap.size w W1 → ∀ a T, w.heap.size ≤ a → W1.heap[a]? = some (.cells #[.int .u8 ((m : Int) / 256 % 256), .int .u8 ((m : Int) % 256)] T (0, 0)) → Calls Tryz.prog 98 #[.pointer (some ⟨b, 0, none⟩), .slice (some ⟨a, 0, none⟩) 2 2] W1 fun e w' => e = .returned (.tuple #[.int .i64 2, .nilIface]) ∧ Q w') :
    Calls Tryz.prog 19 #[.pointer (some ⟨e, 0, none⟩), .agg #[.iface 43 (.int .i16 x), .string ⟨#[110]⟩], .int .i64 dep] w fun e' w' => e' = .returned (.tuple #[]) ∧ ∃ w1, Q w1 ∧ w' = w1.setCell ⟨e, 3, none⟩ (.int .i64 (pos + 2)) := by
  have hdp : decide (64 < dep) = false := by simp; omega
  have hwp : IntKind.i64.wrap (pos + 2) = pos + 2 := by rw [IntKind.wrap_i64]; omega
  have hw9 : IntKind.i16.wrap x = x := by simp [IntKind.wrap, IntKind.bits, IntKind.signed]; omega
  have NU := Aside0.mk (fun W => nu_n x h0 h1 W)
  have AL := Aside0.mk (fun W (h : W.heap[e]? = some (.cells #[.iface 50 (.pointer (some ⟨b, 0, none⟩)), .slice none 0 0, .iface 67 (.agg #[]), .int .i64 pos] 65 (0, 0))) => align0_calls W e _ _ _ pos 2 h hp (by omega) (by omega) (by omega) hr)
  have BW := Aside0.mk (fun W (h : W.heap[e]? = some (.cells #[.iface 50 (.pointer (some ⟨b, 0, none⟩)), .slice none 0 0, .iface 67 (.agg #[]), .int .i64 pos] 65 (0, 0))) HQ => bw_n67 x m hx W e b pos h Q HQ)
  have N0 := Aside0.mk (En.start (.iface 43 (.int .i16 x)) (.string ⟨#[110]⟩) he)
  have y0 := N0.out.x0
  have y1 := N0.out.x1
  have HC := Aside0.mk HW
  have HX := Aside0.mk HE
  clear he HW HE hp hp2 hr hd0 hd1 h0 h1 hx
  go_enter Tryz.func19, Tryz.ntmps19
  go_wp2_with (first
    | (go_at_call 24; refine (ty_calls _ rfl _ _).mono ?_; rintro e1 w2 ⟨rfl, hb⟩; (first | (have N1 := Aside0.mk (N0.out.step hb); have z0 := N1.out.x0; have z1 := N1.out.x1) | (have N2 := Aside0.mk (N2.out.step hb); have u0 := N2.out.x0; have u1 := N2.out.x1)); clear hb)
    | (go_at_call 23; refine (al_n _).mono ?_; rintro e1 w3 ⟨rfl, rfl⟩)
    | (go_at_call 22; refine (AL.out _ N1.out.2.1).mono ?_; rintro e1 w4 ⟨rfl, rfl⟩)
    | (go_at_call 25; refine (vk_n _ rfl _).mono ?_; rintro e1 w5 ⟨rfl, hb⟩; have N2 := Aside0.mk (N1.out.step hb); have u0 := N2.out.x0; have u1 := N2.out.x1; clear hb)
    | (go_at_call 29; refine (NU.out _).mono ?_; rintro e1 w6 ⟨rfl, hb⟩; have N3 := Aside0.mk (N2.out.step hb); have v0 := N3.out.x0; have v1 := N3.out.x1; clear hb)
    | (go_at_call 28; refine (BW.out _ N3.out.2.1 (fun W1 hB a T ha hh => HC.out W1 (below_step N3.out.1 hB) a T (Nat.le_trans N3.out.2.2.2 ha) hh)).mono ?_; rintro e1 w7 ⟨rfl, hq⟩; have HQ := Aside0.mk hq; have hen := HX.out _ hq; have q3 := (cell_of_row w7 e 3 _ 65 (0, 0) hen).trans rfl; have q4 := frozen_of_row w7 e 3 _ 65 hen; clear hq hen))
  all_goals
    go_end0
    exact ⟨rfl, _, HQ.out, rfl⟩
set_option maxRecDepth 100000 in
set_option maxHeartbeats 4000000 in
theorem en_n68 (x : Int) (m : Nat) (h0 : -32768 ≤ x) (h1 : x < 32768) (hx : IntKind.u16.wrap x = (m : Int)) (dep : Int) (hd0 : 0 ≤ dep) (hd1 : dep ≤ 60) (w : World) (e b : Nat) (pos : Int) (he : w.heap[e]? = some (.cells #[.iface 50 (.pointer (some ⟨b, 0, none⟩)), .slice none 0 0, .iface 68 (.agg #[]), .int .i64 pos] 65 (0, 0))) (hp : 0 ≤ pos) (hp2 : pos ≤ 90000) (hr : pos % 2 = 0) (Q : World → Prop) (HE : ∀ w', Q w' → w'.heap[e]? = some (.cells #[.iface 50 (.pointer (some ⟨b, 0, none⟩)), .slice none 0 0, .iface 68 (.agg #[]), .int .i64 pos] 65 (0, 0)))
    (HW : ∀ W1, Below w.heap.size w W1 → ∀ a T, w.heap.size ≤ a → W1.heap[a]? = some (.cells #[.int .u8 ((m : Int) % 256), .int .u8 ((m : Int) / 256 % 256)] T (0, 0)) → Calls Tryz.prog 98 #[.pointer (some ⟨b, 0, none⟩), .slice (some ⟨a, 0, none⟩) 2 2] W1 fun e w' => e = .returned (.tuple #[.int .i64 2, .nilIface]) ∧ Q w') :
    Calls Tryz.prog 19 #[.pointer (some ⟨e, 0, none⟩), .agg #[.iface 43 (.int .i16 x), .string ⟨#[110]⟩], .int .i64 dep] w fun e' w' => e' = .returned (.tuple #[]) ∧ ∃ w1, Q w1 ∧ w' = w1.setCell ⟨e, 3, none⟩ (.int .i64 (pos + 2)) := by
  have hdp : decide (64 < dep) = false := by simp; omega
  have hwp : IntKind.i64.wrap (pos + 2) = pos + 2 := by rw [IntKind.wrap_i64]; omega
  have hw9 : IntKind.i16.wrap x = x := by simp [IntKind.wrap, IntKind.bits, IntKind.signed]; omega
  have NU := Aside0.mk (fun W => nu_n x h0 h1 W)
  have AL := Aside0.mk (fun W (h : W.heap[e]? = some (.cells #[.iface 50 (.pointer (some ⟨b, 0, none⟩)), .slice none 0 0, .iface 68 (.agg #[]), .int .i64 pos] 65 (0, 0))) => align0_calls W e _ _ _ pos 2 h hp (by omega) (by omega) (by omega) hr)
  have BW := Aside0.mk (fun W (h : W.heap[e]? = some (.cells #[.iface 50 (.pointer (some ⟨b, 0, none⟩)), .slice none 0 0, .iface 68 (.agg #[]), .int .i64 pos] 65 (0, 0))) HQ => bw_n68 x m hx W e b pos h Q HQ)
  have N0 := Aside0.mk (En.start (.iface 43 (.int .i16 x)) (.string ⟨#[110]⟩) he)
  have y0 := N0.out.x0
  have y1 := N0.out.x1
  have HC := Aside0.mk HW
  have HX := Aside0.mk HE
  clear he HW HE hp hp2 hr hd0 hd1 h0 h1 hx
  go_enter Tryz.func19, Tryz.ntmps19
  go_wp2_with (first
    | (go_at_call 24; refine (ty_calls _ rfl _ _).mono ?_; rintro e1 w2 ⟨rfl, hb⟩; (first | (have N1 := Aside0.mk (N0.out.step hb); have z0 := N1.out.x0; have z1 := N1.out.x1) | (have N2 := Aside0.mk (N2.out.step hb); have u0 := N2.out.x0; have u1 := N2.out.x1)); clear hb)
    | (go_at_call 23; refine (al_n _).mono ?_; rintro e1 w3 ⟨rfl, rfl⟩)
    | (go_at_call 22; refine (AL.out _ N1.out.2.1).mono ?_; rintro e1 w4 ⟨rfl, rfl⟩)
    | (go_at_call 25; refine (vk_n _ rfl _).mono ?_; rintro e1 w5 ⟨rfl, hb⟩; have N2 := Aside0.mk (N1.out.step hb); have u0 := N2.out.x0; have u1 := N2.out.x1; clear hb)
    | (go_at_call 29; refine (NU.out _).mono ?_; rintro e1 w6 ⟨rfl, hb⟩; have N3 := Aside0.mk (N2.out.step hb); have v0 := N3.out.x0; have v1 := N3.out.x1; clear hb)
    | (go_at_call 28; refine (BW.out _ N3.out.2.1 (fun W1 hB a T ha hh => HC.out W1 (below_step N3.out.1 hB) a T (Nat.le_trans N3.out.2.2.2 ha) hh)).mono ?_; rintro e1 w7 ⟨rfl, hq⟩; have HQ := Aside0.mk hq; have hen := HX.out _ hq; have q3 := (cell_of_row w7 e 3 _ 65 (0, 0) hen).trans rfl; have q4 := frozen_of_row w7 e 3 _ 65 hen; clear hq hen))
  all_goals
    go_end0
    exact ⟨rfl, _, HQ.out, rfl⟩
set_option maxRecDepth 100000 in
set_option maxHeartbeats 4000000 in
theorem en_q67 (m : Nat) (hm : m < 65536) (dep : Int) (hd0 : 0 ≤ dep) (hd1 : dep ≤ 60) (w : World) (e b : Nat) (pos : Int) (he : w.heap[e]? = some (.cells #[.iface 50 (.pointer (some ⟨b, 0, none⟩)), .slice none 0 0, .iface 67 (.agg #[]), .int .i64 pos] 65 (0, 0))) (hp : 0 ≤ pos) (hp2 : pos ≤ 90000) (hr : pos % 2 = 0) (Q : World → Prop) (HE : ∀ w', Q w' → w'.heap[e]? = some (.cells #[.iface 50 (.pointer (some ⟨b, 0, none⟩)), .slice none 0 0, .iface 67 (.agg #[]), .int .i64 pos] 65 (0, 0)))
    (HW : ∀ W1, Below w.heap.size w W1 → ∀ a T, w.heap.size ≤ a → W1.heap[a]? = some (.cells #[.int .u8 ((m : Int) / 256 % 256), .int .u8 ((m : Int) % 256)] T (0, 0)) → Calls Tryz.prog 98 #[.pointer (some ⟨b, 0, none⟩), .slice (some ⟨a, 0, none⟩) 2 2] W1 fun e w' => e = .returned (.tuple #[.int .i64 2, .nilIface]) ∧ Q w') :
    Calls Tryz.prog 19 #[.pointer (some ⟨e, 0, none⟩), .agg #[.iface 90 (.int .u16 (m : Int)), .string ⟨#[113]⟩], .int .i64 dep] w fun e' w' => e' = .returned (.tuple #[]) ∧ ∃ w1, Q w1 ∧ w' = w1.setCell ⟨e, 3, none⟩ (.int .i64 (pos + 2)) := by
  have hdp : decide (64 < dep) = false := by simp; omega
  have hwp : IntKind.i64.wrap (pos + 2) = pos + 2 := by rw [IntKind.wrap_i64]; omega
  have hw9 : IntKind.u16.wrap (m : Int) = (m : Int) := by simp [IntKind.wrap, IntKind.bits, IntKind.signed]; omega
  have NU := Aside0.mk (fun W => nu_q (m : Int) (by omega) (by omega) W)
  have AL := Aside0.mk (fun W (h : W.heap[e]? = some (.cells #[.iface 50 (.pointer (some ⟨b, 0, none⟩)), .slice none 0 0, .iface 67 (.agg #[]), .int .i64 pos] 65 (0, 0))) => align0_calls W e _ _ _ pos 2 h hp (by omega) (by omega) (by omega) hr)
  have BW := Aside0.mk (fun W (h : W.heap[e]? = some (.cells #[.iface 50 (.pointer (some ⟨b, 0, none⟩)), .slice none 0 0, .iface 67 (.agg #[]), .int .i64 pos] 65 (0, 0))) HQ => bw_q67 m W e b pos h Q HQ)
  have N0 := Aside0.mk (En.start (.iface 90 (.int .u16 (m : Int))) (.string ⟨#[113]⟩) he)
  have y0 := N0.out.x0
  have y1 := N0.out.x1
  have HC := Aside0.mk HW
  have HX := Aside0.mk HE
  clear he HW HE hp hp2 hr hd0 hd1 hm
  go_enter Tryz.func19, Tryz.ntmps19
  go_wp2_with (first
    | (go_at_call 24; refine (ty_calls _ rfl _ _).mono ?_; rintro e1 w2 ⟨rfl, hb⟩; (first | (have N1 := Aside0.mk (N0.out.step hb); have z0 := N1.out.x0; have z1 := N1.out.x1) | (have N2 := Aside0.mk (N2.out.step hb); have u0 := N2.out.x0; have u1 := N2.out.x1)); clear hb)
    | (go_at_call 23; refine (al_q _).mono ?_; rintro e1 w3 ⟨rfl, rfl⟩)
    | (go_at_call 22; refine (AL.out _ N1.out.2.1).mono ?_; rintro e1 w4 ⟨rfl, rfl⟩)
    | (go_at_call 25; refine (vk_q _ rfl _).mono ?_; rintro e1 w5 ⟨rfl, hb⟩; have N2 := Aside0.mk (N1.out.step hb); have u0 := N2.out.x0; have u1 := N2.out.x1; clear hb)
    | (go_at_call 26; refine (NU.out _).mono ?_; rintro e1 w6 ⟨rfl, hb⟩; have N3 := Aside0.mk (N2.out.step hb); have v0 := N3.out.x0; have v1 := N3.out.x1; clear hb)
    | (go_at_call 28; refine (BW.out _ N3.out.2.1 (fun W1 hB a T ha hh => HC.out W1 (below_step N3.out.1 hB) a T (Nat.le_trans N3.out.2.2.2 ha) hh)).mono ?_; rintro e1 w7 ⟨rfl, hq⟩; have HQ := Aside0.mk hq; have hen := HX.out _ hq; have q3 := (cell_of_row w7 e 3 _ 65 (0, 0) hen).trans rfl; have q4 := frozen_of_row w7 e 3 _ 65 hen; clear hq hen))
  all_goals
    go_end0
    exact ⟨rfl, _, HQ.out, rfl⟩
set_option maxRecDepth 100000 in
set_option maxHeartbeats 4000000 in
theorem en_q68 (m : Nat) (hm : m < 65536) (dep : Int) (hd0 : 0 ≤ dep) (hd1 : dep ≤ 60) (w : World) (e b : Nat) (pos : Int) (he : w.heap[e]? = some (.cells #[.iface 50 (.pointer (some ⟨b, 0, none⟩)), .slice none 0 0, .iface 68 (.agg #[]), .int .i64 pos] 65 (0, 0))) (hp : 0 ≤ pos) (hp2 : pos ≤ 90000) (hr : pos % 2 = 0) (Q : World → Prop) (HE : ∀ w', Q w' → w'.heap[e]? = some (.cells #[.iface 50 (.pointer (some ⟨b, 0, none⟩)), .slice none 0 0, .iface 68 (.agg #[]), .int .i64 pos] 65 (0, 0)))
    (HW : ∀ W1, Below w.heap.size w W1 → ∀ a T, w.heap.size ≤ a → W1.heap[a]? = some (.cells #[.int .u8 ((m : Int) % 256), .int .u8 ((m : Int) / 256 % 256)] T (0, 0)) → Calls Tryz.prog 98 #[.pointer (some ⟨b, 0, none⟩), .slice (some ⟨a, 0, none⟩) 2 2] W1 fun e w' => e = .returned (.tuple #[.int .i64 2, .nilIface]) ∧ Q w') :
    Calls Tryz.prog 19 #[.pointer (some ⟨e, 0, none⟩), .agg #[.iface 90 (.int .u16 (m : Int)), .string ⟨#[113]⟩], .int .i64 dep] w fun e' w' => e' = .returned (.tuple #[]) ∧ ∃ w1, Q w1 ∧ w' = w1.setCell ⟨e, 3, none⟩ (.int .i64 (pos + 2)) := by
  have hdp : decide (64 < dep) = false := by simp; omega
  have hwp : IntKind.i64.wrap (pos + 2) = pos + 2 := by rw [IntKind.wrap_i64]; omega
  have hw9 : IntKind.u16.wrap (m : Int) = (m : Int) := by simp [IntKind.wrap, IntKind.bits, IntKind.signed]; omega
  have NU := Aside0.mk (fun W => nu_q (m : Int) (by omega) (by omega) W)
  have AL := Aside0.mk (fun W (h : W.heap[e]? = some (.cells #[.iface 50 (.pointer (some ⟨b, 0, none⟩)), .slice none 0 0, .iface 68 (.agg #[]), .int .i64 pos] 65 (0, 0))) => align0_calls W e _ _ _ pos 2 h hp (by omega) (by omega) (by omega) hr)
  have BW := Aside0.mk (fun W (h : W.heap[e]? = some (.cells #[.iface 50 (.pointer (some ⟨b, 0, none⟩)), .slice none 0 0, .iface 68 (.agg #[]), .int .i64 pos] 65 (0, 0))) HQ => bw_q68 m W e b pos h Q HQ)
  have N0 := Aside0.mk (En.start (.iface 90 (.int .u16 (m : Int))) (.string ⟨#[113]⟩) he)
  have y0 := N0.out.x0
  have y1 := N0.out.x1
  have HC := Aside0.mk HW
  have HX := Aside0.mk HE
  clear he HW HE hp hp2 hr hd0 hd1 hm
  go_enter Tryz.func19, Tryz.ntmps19
  go_wp2_with (first
    | (go_at_call 24; refine (ty_calls _ rfl _ _).mono ?_; rintro e1 w2 ⟨rfl, hb⟩; (first | (have N1 := Aside0.mk (N0.out.step hb); have z0 := N1.out.x0; have z1 := N1.out.x1) | (have N2 := Aside0.mk (N2.out.step hb); have u0 := N2.out.x0; have u1 := N2.out.x1)); clear hb)
    | (go_at_call 23; refine (al_q _).mono ?_; rintro e1 w3 ⟨rfl, rfl⟩)
    | (go_at_call 22; refine (AL.out _ N1.out.2.1).mono ?_; rintro e1 w4 ⟨rfl, rfl⟩)
    | (go_at_call 25; refine (vk_q _ rfl _).mono ?_; rintro e1 w5 ⟨rfl, hb⟩; have N2 := Aside0.mk (N1.out.step hb); have u0 := N2.out.x0; have u1 := N2.out.x1; clear hb)
    | (go_at_call 26; refine (NU.out _).mono ?_; rintro e1 w6 ⟨rfl, hb⟩; have N3 := Aside0.mk (N2.out.step hb); have v0 := N3.out.x0; have v1 := N3.out.x1; clear hb)
    | (go_at_call 28; refine (BW.out _ N3.out.2.1 (fun W1 hB a T ha hh => HC.out W1 (below_step N3.out.1 hB) a T (Nat.le_trans N3.out.2.2.2 ha) hh)).mono ?_; rintro e1 w7 ⟨rfl, hq⟩; have HQ := Aside0.mk hq; have hen := HX.out _ hq; have q3 := (cell_of_row w7 e 3 _ 65 (0, 0) hen).trans rfl; have q4 := frozen_of_row w7 e 3 _ 65 hen; clear hq hen))
  all_goals
    go_end0
    exact ⟨rfl, _, HQ.out, rfl⟩
set_option maxRecDepth 100000 in
set_option maxHeartbeats 4000000 in
theorem en_i67 (x : Int) (m : Nat) (h0 : -2147483648 ≤ x) (h1 : x < 2147483648) (hx : IntKind.u32.wrap x = (m : Int)) (dep : Int) (hd0 : 0 ≤ dep) (hd1 : dep ≤ 60) (w : World) (e b : Nat) (pos : Int) (he : w.heap[e]? = some (.cells #[.iface 50 (.pointer (some ⟨b, 0, none⟩)), .slice none 0 0, .iface 67 (.agg #[]), .int .i64 pos] 65 (0, 0))) (hp : 0 ≤ pos) (hp2 : pos ≤ 90000) (hr : pos % 4 = 0) (Q : World → Prop) (HE : ∀ w', Q w' → w'.heap[e]? = some (.cells #[.iface 50 (.pointer (some ⟨b, 0, none⟩)), .slice none 0 0, .iface 67 (.agg #[]), .int .i64 pos] 65 (0, 0)))
    (HW : ∀ W1, Below w.heap.size w W1 → ∀ a T, w.heap.size ≤ a → W1.heap[a]? = some (.cells #[.int .u8 ((m : Int) / 16777216 % 256), .int .u8 ((m : Int) / 65536 % 256), .int .u8 ((m : Int) / 256 % 256), .int .u8 ((m : Int) % 256)] T (0, 0)) → Calls Tryz.prog 98 #[.pointer (some ⟨b, 0, none⟩), .slice (some ⟨a, 0, none⟩) 4 4] W1 fun e w' => e = .returned (.tuple #[.int .i64 4, .nilIface]) ∧ Q w') :
    Calls Tryz.prog 19 #[.pointer (some ⟨e, 0, none⟩), .agg #[.iface 21 (.int .i32 x), .string ⟨#[105]⟩], .int .i64 dep] w fun e' w' => e' = .returned (.tuple #[]) ∧ ∃ w1, Q w1 ∧ w' = w1.setCell ⟨e, 3, none⟩ (.int .i64 (pos + 4)) := by
  have hdp : decide (64 < dep) = false := by simp; omega
  have hwp : IntKind.i64.wrap (pos + 4) = pos + 4 := by rw [IntKind.wrap_i64]; omega
  have hw9 : IntKind.i32.wrap x = x := by simp [IntKind.wrap, IntKind.bits, IntKind.signed]; omega
  have NU := Aside0.mk (fun W => nu_i x h0 h1 W)
  have AL := Aside0.mk (fun W (h : W.heap[e]? = some (.cells #[.iface 50 (.pointer (some ⟨b, 0, none⟩)), .slice none 0 0, .iface 67 (.agg #[]), .int .i64 pos] 65 (0, 0))) => align0_calls W e _ _ _ pos 4 h hp (by omega) (by omega) (by omega) hr)
  have BW := Aside0.mk (fun W (h : W.heap[e]? = some (.cells #[.iface 50 (.pointer (some ⟨b, 0, none⟩)), .slice none 0 0, .iface 67 (.agg #[]), .int .i64 pos] 65 (0, 0))) HQ => bw_i67 x m hx W e b pos h Q HQ)
  have N0 := Aside0.mk (En.start (.iface 21 (.int .i32 x)) (.string ⟨#[105]⟩) he)
  have y0 := N0.out.x0
  have y1 := N0.out.x1
  have HC := Aside0.mk HW
  have HX := Aside0.mk HE
  clear he HW HE hp hp2 hr hd0 hd1 h0 h1 hx
  go_enter Tryz.func19, Tryz.ntmps19
  go_wp2_with (first
    | (go_at_call 24; refine (ty_calls _ rfl _ _).mono ?_; rintro e1 w2 ⟨rfl, hb⟩; (first | (have N1 := Aside0.mk (N0.out.step hb); have z0 := N1.out.x0; have z1 := N1.out.x1) | (have N2 := Aside0.mk (N2.out.step hb); have u0 := N2.out.x0; have u1 := N2.out.x1)); clear hb)
    | (go_at_call 23; refine (al_i _).mono ?_; rintro e1 w3 ⟨rfl, rfl⟩)
    | (go_at_call 22; refine (AL.out _ N1.out.2.1).mono ?_; rintro e1 w4 ⟨rfl, rfl⟩)
    | (go_at_call 25; refine (vk_i _ rfl _).mono ?_; rintro e1 w5 ⟨rfl, hb⟩; have N2 := Aside0.mk (N1.out.step hb); have u0 := N2.out.x0; have u1 := N2.out.x1; clear hb)
    | (go_at_call 29; refine (NU.out _).mono ?_; rintro e1 w6 ⟨rfl, hb⟩; have N3 := Aside0.mk (N2.out.step hb); have v0 := N3.out.x0; have v1 := N3.out.x1; clear hb)
    | (go_at_call 28; refine (BW.out _ N3.out.2.1 (fun W1 hB a T ha hh => HC.out W1 (below_step N3.out.1 hB) a T (Nat.le_trans N3.out.2.2.2 ha) hh)).mono ?_; rintro e1 w7 ⟨rfl, hq⟩; have HQ := Aside0.mk hq; have hen := HX.out _ hq; have q3 := (cell_of_row w7 e 3 _ 65 (0, 0) hen).trans rfl; have q4 := frozen_of_row w7 e 3 _ 65 hen; clear hq hen))
  all_goals
    go_end0
    exact ⟨rfl, _, HQ.out, rfl⟩
set_option maxRecDepth 100000 in
set_option maxHeartbeats 4000000 in
theorem en_i68 (x : Int) (m : Nat) (h0 : -2147483648 ≤ x) (h1 : x < 2147483648) (hx : IntKind.u32.wrap x = (m : Int)) (dep : Int) (hd0 : 0 ≤ dep) (hd1 : dep ≤ 60) (w : World) (e b : Nat) (pos : Int) (he : w.heap[e]? = some (.cells #[.iface 50 (.pointer (some ⟨b, 0, none⟩)), .slice none 0 0, .iface 68 (.agg #[]), .int .i64 pos] 65 (0, 0))) (hp : 0 ≤ pos) (hp2 : pos ≤ 90000) (hr : pos % 4 = 0) (Q : World → Prop) (HE : ∀ w', Q w' → w'.heap[e]? = some (.cells #[.iface 50 (.pointer (some ⟨b, 0, none⟩)), .slice none 0 0, .iface 68 (.agg #[]), .int .i64 pos] 65 (0, 0)))
    (HW : ∀ W1, Below w.heap.size w W1 → ∀ a T, w.heap.size ≤ a → W1.heap[a]? = some (.cells #[.int .u8 ((m : Int) % 256), .int .u8 ((m : Int) / 256 % 256), .int .u8 ((m : Int) / 65536 % 256), .int .u8 ((m : Int) / 16777216 % 256)] T (0, 0)) → Calls Tryz.prog 98 #[.pointer (some ⟨b, 0, none⟩), .slice (some ⟨a, 0, none⟩) 4 4] W1 fun e w' => e = .returned (.tuple #[.int .i64 4, .nilIface]) ∧ Q w') :
    Calls Tryz.prog 19 #[.pointer (some ⟨e, 0, none⟩), .agg #[.iface 21 (.int .i32 x), .string ⟨#[105]⟩], .int .i64 dep] w fun e' w' => e' = .returned (.tuple #[]) ∧ ∃ w1, Q w1 ∧ w' = w1.setCell ⟨e, 3, none⟩ (.int .i64 (pos + 4)) := by
  have hdp : decide (64 < dep) = false := by simp; omega
  have hwp : IntKind.i64.wrap (pos + 4) = pos + 4 := by rw [IntKind.wrap_i64]; omega
  have hw9 : IntKind.i32.wrap x = x := by simp [IntKind.wrap, IntKind.bits, IntKind.signed]; omega
  have NU := Aside0.mk (fun W => nu_i x h0 h1 W)
  have AL := Aside0.mk (fun W (h : W.heap[e]? = some (.cells #[.iface 50 (.pointer (some ⟨b, 0, none⟩)), .slice none 0 0, .iface 68 (.agg #[]), .int .i64 pos] 65 (0, 0))) => align0_calls W e _ _ _ pos 4 h hp (by omega) (by omega) (by omega) hr)
  have BW := Aside0.mk (fun W (h : W.heap[e]? = some (.cells #[.iface 50 (.pointer (some ⟨b, 0, none⟩)), .slice none 0 0, .iface 68 (.agg #[]), .int .i64 pos] 65 (0, 0))) HQ => bw_i68 x m hx W e b pos h Q HQ)
  have N0 := Aside0.mk (En.start (.iface 21 (.int .i32 x)) (.string ⟨#[105]⟩) he)
  have y0 := N0.out.x0
  have y1 := N0.out.x1
  have HC := Aside0.mk HW
  have HX := Aside0.mk HE
  clear he HW HE hp hp2 hr hd0 hd1 h0 h1 hx
  go_enter Tryz.func19, Tryz.ntmps19
  go_wp2_with (first
    | (go_at_call 24; refine (ty_calls _ rfl _ _).mono ?_; rintro e1 w2 ⟨rfl, hb⟩; (first | (have N1 := Aside0.mk (N0.out.step hb); have z0 := N1.out.x0; have z1 := N1.out.x1) | (have N2 := Aside0.mk (N2.out.step hb); have u0 := N2.out.x0; have u1 := N2.out.x1)); clear hb)
    | (go_at_call 23; refine (al_i _).mono ?_; rintro e1 w3 ⟨rfl, rfl⟩)
    | (go_at_call 22; refine (AL.out _ N1.out.2.1).mono ?_; rintro e1 w4 ⟨rfl, rfl⟩)
    | (go_at_call 25; refine (vk_i _ rfl _).mono ?_; rintro e1 w5 ⟨rfl, hb⟩; have N2 := Aside0.mk (N1.out.step hb); have u0 := N2.out.x0; have u1 := N2.out.x1; clear hb)
    | (go_at_call 29; refine (NU.out _).mono ?_; rintro e1 w6 ⟨rfl, hb⟩; have N3 := Aside0.mk (N2.out.step hb); have v0 := N3.out.x0; have v1 := N3.out.x1; clear hb)
    | (go_at_call 28; refine (BW.out _ N3.out.2.1 (fun W1 hB a T ha hh => HC.out W1 (below_step N3.out.1 hB) a T (Nat.le_trans N3.out.2.2.2 ha) hh)).mono ?_; rintro e1 w7 ⟨rfl, hq⟩; have HQ := Aside0.mk hq; have hen := HX.out _ hq; have q3 := (cell_of_row w7 e 3 _ 65 (0, 0) hen).trans rfl; have q4 := frozen_of_row w7 e 3 _ 65 hen; clear hq hen))
  all_goals
    go_end0
    exact ⟨rfl, _, HQ.out, rfl⟩
set_option maxRecDepth 100000 in
set_option maxHeartbeats 4000000 in
theorem en_u67 (m : Nat) (hm : m < 4294967296) (dep : Int) (hd0 : 0 ≤ dep) (hd1 : dep ≤ 60) (w : World) (e b : Nat) (pos : Int) (he : w.heap[e]? = some (.cells #[.iface 50 (.pointer (some ⟨b, 0, none⟩)), .slice none 0 0, .iface 67 (.agg #[]), .int .i64 pos] 65 (0, 0))) (hp : 0 ≤ pos) (hp2 : pos ≤ 90000) (hr : pos % 4 = 0) (Q : World → Prop) (HE : ∀ w', Q w' → w'.heap[e]? = some (.cells #[.iface 50 (.pointer (some ⟨b, 0, none⟩)), .slice none 0 0, .iface 67 (.agg #[]), .int .i64 pos] 65 (0, 0)))
    (HW : ∀ W1, Below w.heap.size w W1 → ∀ a T, w.heap.size ≤ a → W1.heap[a]? = some (.cells #[.int .u8 ((m : Int) / 16777216 % 256), .int .u8 ((m : Int) / 65536 % 256), .int .u8 ((m : Int) / 256 % 256), .int .u8 ((m : Int) % 256)] T (0, 0)) → Calls Tryz.prog 98 #[.pointer (some ⟨b, 0, none⟩), .slice (some ⟨a, 0, none⟩) 4 4] W1 fun e w' => e = .returned (.tuple #[.int .i64 4, .nilIface]) ∧ Q w') :
    Calls Tryz.prog 19 #[.pointer (some ⟨e, 0, none⟩), .agg #[.iface 87 (.int .u32 (m : Int)), .string ⟨#[117]⟩], .int .i64 dep] w fun e' w' => e' = .returned (.tuple #[]) ∧ ∃ w1, Q w1 ∧ w' = w1.setCell ⟨e, 3, none⟩ (.int .i64 (pos + 4)) := by
  have hdp : decide (64 < dep) = false := by simp; omega
  have hwp : IntKind.i64.wrap (pos + 4) = pos + 4 := by rw [IntKind.wrap_i64]; omega
  have hw9 : IntKind.u32.wrap (m : Int) = (m : Int) := by simp [IntKind.wrap, IntKind.bits, IntKind.signed]; omega
  have NU := Aside0.mk (fun W => nu_u (m : Int) (by omega) (by omega) W)
  have AL := Aside0.mk (fun W (h : W.heap[e]? = some (.cells #[.iface 50 (.pointer (some ⟨b, 0, none⟩)), .slice none 0 0, .iface 67 (.agg #[]), .int .i64 pos] 65 (0, 0))) => align0_calls W e _ _ _ pos 4 h hp (by omega) (by omega) (by omega) hr)
  have BW := Aside0.mk (fun W (h : W.heap[e]? = some (.cells #[.iface 50 (.pointer (some ⟨b, 0, none⟩)), .slice none 0 0, .iface 67 (.agg #[]), .int .i64 pos] 65 (0, 0))) HQ => bw_u67 m W e b pos h Q HQ)
  have N0 := Aside0.mk (En.start (.iface 87 (.int .u32 (m : Int))) (.string ⟨#[117]⟩) he)
  have y0 := N0.out.x0
  have y1 := N0.out.x1
  have HC := Aside0.mk HW
  have HX := Aside0.mk HE
  clear he HW HE hp hp2 hr hd0 hd1 hm
  go_enter Tryz.func19, Tryz.ntmps19
  go_wp2_with (first
    | (go_at_call 24; refine (ty_calls _ rfl _ _).mono ?_; rintro e1 w2 ⟨rfl, hb⟩; (first | (have N1 := Aside0.mk (N0.out.step hb); have z0 := N1.out.x0; have z1 := N1.out.x1) | (have N2 := Aside0.mk (N2.out.step hb); have u0 := N2.out.x0; have u1 := N2.out.x1)); clear hb)
    | (go_at_call 23; refine (al_u _).mono ?_; rintro e1 w3 ⟨rfl, rfl⟩)
    | (go_at_call 22; refine (AL.out _ N1.out.2.1).mono ?_; rintro e1 w4 ⟨rfl, rfl⟩)
    | (go_at_call 25; refine (vk_u _ rfl _).mono ?_; rintro e1 w5 ⟨rfl, hb⟩; have N2 := Aside0.mk (N1.out.step hb); have u0 := N2.out.x0; have u1 := N2.out.x1; clear hb)
    | (go_at_call 26; refine (NU.out _).mono ?_; rintro e1 w6 ⟨rfl, hb⟩; have N3 := Aside0.mk (N2.out.step hb); have v0 := N3.out.x0; have v1 := N3.out.x1; clear hb)
    | (go_at_call 28; refine (BW.out _ N3.out.2.1 (fun W1 hB a T ha hh => HC.out W1 (below_step N3.out.1 hB) a T (Nat.le_trans N3.out.2.2.2 ha) hh)).mono ?_; rintro e1 w7 ⟨rfl, hq⟩; have HQ := Aside0.mk hq; have hen := HX.out _ hq; have q3 := (cell_of_row w7 e 3 _ 65 (0, 0) hen).trans rfl; have q4 := frozen_of_row w7 e 3 _ 65 hen; clear hq hen))
  all_goals
    go_end0
    exact ⟨rfl, _, HQ.out, rfl⟩
set_option maxRecDepth 100000 in
set_option maxHeartbeats 4000000 in
theorem en_u68 (m : Nat) (hm : m < 4294967296) (dep : Int) (hd0 : 0 ≤ dep) (hd1 : dep ≤ 60) (w : World) (e b : Nat) (pos : Int) (he : w.heap[e]? = some (.cells #[.iface 50 (.pointer (some ⟨b, 0, none⟩)), .slice none 0 0, .iface 68 (.agg #[]), .int .i64 pos] 65 (0, 0))) (hp : 0 ≤ pos) (hp2 : pos ≤ 90000) (hr : pos % 4 = 0) (Q : World → Prop) (HE : ∀ w', Q w' → w'.heap[e]? = some (.cells #[.iface 50 (.pointer (some ⟨b, 0, none⟩)), .slice none 0 0, .iface 68 (.agg #[]), .int .i64 pos] 65 (0, 0)))
    (HW : ∀ W1, Below w.heap.size w W1 → ∀ a T, w.heap.size ≤ a → W1.heap[a]? = some (.cells #[.int .u8 ((m : Int) % 256), .int .u8 ((m : Int) / 256 % 256), .int .u8 ((m : Int) / 65536 % 256), .int .u8 ((m : Int) / 16777216 % 256)] T (0, 0)) → Calls Tryz.prog 98 #[.pointer (some ⟨b, 0, none⟩), .slice (some ⟨a, 0, none⟩) 4 4] W1 fun e w' => e = .returned (.tuple #[.int .i64 4, .nilIface]) ∧ Q w') :
    Calls Tryz.prog 19 #[.pointer (some ⟨e, 0, none⟩), .agg #[.iface 87 (.int .u32 (m : Int)), .string ⟨#[117]⟩], .int .i64 dep] w fun e' w' => e' = .returned (.tuple #[]) ∧ ∃ w1, Q w1 ∧ w' = w1.setCell ⟨e, 3, none⟩ (.int .i64 (pos + 4)) := by
  have hdp : decide (64 < dep) = false := by simp; omega
  have hwp : IntKind.i64.wrap (pos + 4) = pos + 4 := by rw [IntKind.wrap_i64]; omega
  have hw9 : IntKind.u32.wrap (m : Int) = (m : Int) := by simp [IntKind.wrap, IntKind.bits, IntKind.signed]; omega
  have NU := Aside0.mk (fun W => nu_u (m : Int) (by omega) (by omega) W)
  have AL := Aside0.mk (fun W (h : W.heap[e]? = some (.cells #[.iface 50 (.pointer (some ⟨b, 0, none⟩)), .slice none 0 0, .iface 68 (.agg #[]), .int .i64 pos] 65 (0, 0))) => align0_calls W e _ _ _ pos 4 h hp (by omega) (by omega) (by omega) hr)
  have BW := Aside0.mk (fun W (h : W.heap[e]? = some (.cells #[.iface 50 (.pointer (some ⟨b, 0, none⟩)), .slice none 0 0, .iface 68 (.agg #[]), .int .i64 pos] 65 (0, 0))) HQ => bw_u68 m W e b pos h Q HQ)
  have N0 := Aside0.mk (En.start (.iface 87 (.int .u32 (m : Int))) (.string ⟨#[117]⟩) he)
  have y0 := N0.out.x0
  have y1 := N0.out.x1
  have HC := Aside0.mk HW
  have HX := Aside0.mk HE
  clear he HW HE hp hp2 hr hd0 hd1 hm
  go_enter Tryz.func19, Tryz.ntmps19
  go_wp2_with (first
    | (go_at_call 24; refine (ty_calls _ rfl _ _).mono ?_; rintro e1 w2 ⟨rfl, hb⟩; (first | (have N1 := Aside0.mk (N0.out.step hb); have z0 := N1.out.x0; have z1 := N1.out.x1) | (have N2 := Aside0.mk (N2.out.step hb); have u0 := N2.out.x0; have u1 := N2.out.x1)); clear hb)
    | (go_at_call 23; refine (al_u _).mono ?_; rintro e1 w3 ⟨rfl, rfl⟩)
    | (go_at_call 22; refine (AL.out _ N1.out.2.1).mono ?_; rintro e1 w4 ⟨rfl, rfl⟩)
    | (go_at_call 25; refine (vk_u _ rfl _).mono ?_; rintro e1 w5 ⟨rfl, hb⟩; have N2 := Aside0.mk (N1.out.step hb); have u0 := N2.out.x0; have u1 := N2.out.x1; clear hb)
    | (go_at_call 26; refine (NU.out _).mono ?_; rintro e1 w6 ⟨rfl, hb⟩; have N3 := Aside0.mk (N2.out.step hb); have v0 := N3.out.x0; have v1 := N3.out.x1; clear hb)
    | (go_at_call 28; refine (BW.out _ N3.out.2.1 (fun W1 hB a T ha hh => HC.out W1 (below_step N3.out.1 hB) a T (Nat.le_trans N3.out.2.2.2 ha) hh)).mono ?_; rintro e1 w7 ⟨rfl, hq⟩; have HQ := Aside0.mk hq; have hen := HX.out _ hq; have q3 := (cell_of_row w7 e 3 _ 65 (0, 0) hen).trans rfl; have q4 := frozen_of_row w7 e 3 _ 65 hen; clear hq hen))
  all_goals
    go_end0
    exact ⟨rfl, _, HQ.out, rfl⟩
set_option maxRecDepth 100000 in
set_option maxHeartbeats 4000000 in
theorem en_x67 (x : Int) (m : Nat) (h0 : -9223372036854775808 ≤ x) (h1 : x < 9223372036854775808) (hx : IntKind.u64.wrap x = (m : Int)) (dep : Int) (hd0 : 0 ≤ dep) (hd1 : dep ≤ 60) (w : World) (e b : Nat) (pos : Int) (he : w.heap[e]? = some (.cells #[.iface 50 (.pointer (some ⟨b, 0, none⟩)), .slice none 0 0, .iface 67 (.agg #[]), .int .i64 pos] 65 (0, 0))) (hp : 0 ≤ pos) (hp2 : pos ≤ 90000) (hr : pos % 8 = 0) (Q : World → Prop) (HE : ∀ w', Q w' → w'.heap[e]? = some (.cells #[.iface 50 (.pointer (some ⟨b, 0, none⟩)), .slice none 0 0, .iface 67 (.agg #[]), .int .i64 pos] 65 (0, 0)))
    (HW : ∀ W1, Below w.heap.size w W1 → ∀ a T, w.heap.size ≤ a → W1.heap[a]? = some (.cells #[.int .u8 ((m : Int) / 72057594037927936 % 256), .int .u8 ((m : Int) / 281474976710656 % 256), .int .u8 ((m : Int) / 1099511627776 % 256), .int .u8 ((m : Int) / 4294967296 % 256), .int .u8 ((m : Int) / 16777216 % 256), .int .u8 ((m : Int) / 65536 % 256), .int .u8 ((m : Int) / 256 % 256), .int .u8 ((m : Int) % 256)] T (0, 0)) → Calls Tryz.prog 98 #[.pointer (some ⟨b, 0, none⟩), .slice (some ⟨a, 0, none⟩) 8 8] W1 fun e w' => e = .returned (.tuple #[.int .i64 8, .nilIface]) ∧ Q w') :
    Calls Tryz.prog 19 #[.pointer (some ⟨e, 0, none⟩), .agg #[.iface 2 (.int .i64 x), .string ⟨#[120]⟩], .int .i64 dep] w fun e' w' => e' = .returned (.tuple #[]) ∧ ∃ w1, Q w1 ∧ w' = w1.setCell ⟨e, 3, none⟩ (.int .i64 (pos + 8)) := by
  have hdp : decide (64 < dep) = false := by simp; omega
  have hwp : IntKind.i64.wrap (pos + 8) = pos + 8 := by rw [IntKind.wrap_i64]; omega
  have NU := Aside0.mk (fun W => nu_x x h0 h1 W)
  have AL := Aside0.mk (fun W (h : W.heap[e]? = some (.cells #[.iface 50 (.pointer (some ⟨b, 0, none⟩)), .slice none 0 0, .iface 67 (.agg #[]), .int .i64 pos] 65 (0, 0))) => align0_calls W e _ _ _ pos 8 h hp (by omega) (by omega) (by omega) hr)
  have BW := Aside0.mk (fun W (h : W.heap[e]? = some (.cells #[.iface 50 (.pointer (some ⟨b, 0, none⟩)), .slice none 0 0, .iface 67 (.agg #[]), .int .i64 pos] 65 (0, 0))) HQ => bw_x67 x m hx W e b pos h Q HQ)
  have N0 := Aside0.mk (En.start (.iface 2 (.int .i64 x)) (.string ⟨#[120]⟩) he)
  have y0 := N0.out.x0
  have y1 := N0.out.x1
  have HC := Aside0.mk HW
  have HX := Aside0.mk HE
  clear he HW HE hp hp2 hr hd0 hd1 h0 h1 hx
  go_enter Tryz.func19, Tryz.ntmps19
  go_wp2_with (first
    | (go_at_call 24; refine (ty_calls _ rfl _ _).mono ?_; rintro e1 w2 ⟨rfl, hb⟩; (first | (have N1 := Aside0.mk (N0.out.step hb); have z0 := N1.out.x0; have z1 := N1.out.x1) | (have N2 := Aside0.mk (N2.out.step hb); have u0 := N2.out.x0; have u1 := N2.out.x1)); clear hb)
    | (go_at_call 23; refine (al_x _).mono ?_; rintro e1 w3 ⟨rfl, rfl⟩)
    | (go_at_call 22; refine (AL.out _ N1.out.2.1).mono ?_; rintro e1 w4 ⟨rfl, rfl⟩)
    | (go_at_call 25; refine (vk_x _ rfl _).mono ?_; rintro e1 w5 ⟨rfl, hb⟩; have N2 := Aside0.mk (N1.out.step hb); have u0 := N2.out.x0; have u1 := N2.out.x1; clear hb)
    | (go_at_call 29; refine (NU.out _).mono ?_; rintro e1 w6 ⟨rfl, hb⟩; have N3 := Aside0.mk (N2.out.step hb); have v0 := N3.out.x0; have v1 := N3.out.x1; clear hb)
    | (go_at_call 28; refine (BW.out _ N3.out.2.1 (fun W1 hB a T ha hh => HC.out W1 (below_step N3.out.1 hB) a T (Nat.le_trans N3.out.2.2.2 ha) hh)).mono ?_; rintro e1 w7 ⟨rfl, hq⟩; have HQ := Aside0.mk hq; have hen := HX.out _ hq; have q3 := (cell_of_row w7 e 3 _ 65 (0, 0) hen).trans rfl; have q4 := frozen_of_row w7 e 3 _ 65 hen; clear hq hen))
  all_goals
    go_end0
    exact ⟨rfl, _, HQ.out, rfl⟩
set_option maxRecDepth 100000 in
set_option maxHeartbeats 4000000 in
theorem en_x68 (x : Int) (m : Nat) (h0 : -9223372036854775808 ≤ x) (h1 : x < 9223372036854775808) (hx : IntKind.u64.wrap x = (m : Int)) (dep : Int) (hd0 : 0 ≤ dep) (hd1 : dep ≤ 60) (w : World) (e b : Nat) (pos : Int) (he : w.heap[e]? = some (.cells #[.iface 50 (.pointer (some ⟨b, 0, none⟩)), .slice none 0 0, .iface 68 (.agg #[]), .int .i64 pos] 65 (0, 0))) (hp : 0 ≤ pos) (hp2 : pos ≤ 90000) (hr : pos % 8 = 0) (Q : World → Prop) (HE : ∀ w', Q w' → w'.heap[e]? = some (.cells #[.iface 50 (.pointer (some ⟨b, 0, none⟩)), .slice none 0 0, .iface 68 (.agg #[]), .int .i64 pos] 65 (0, 0)))
    (HW : ∀ W1, Below w.heap.size w W1 → ∀ a T, w.heap.size ≤ a → W1.heap[a]? = some (.cells #[.int .u8 ((m : Int) % 256), .int .u8 ((m : Int) / 256 % 256), .int .u8 ((m : Int) / 65536 % 256), .int .u8 ((m : Int) / 16777216 % 256), .int .u8 ((m : Int) / 4294967296 % 256), .int .u8 ((m : Int) / 1099511627776 % 256), .int .u8 ((m : Int) / 281474976710656 % 256), .int .u8 ((m : Int) / 72057594037927936 % 256)] T (0, 0)) → Calls Tryz.prog 98 #[.pointer (some ⟨b, 0, none⟩), .slice (some ⟨a, 0, none⟩) 8 8] W1 fun e w' => e = .returned (.tuple #[.int .i64 8, .nilIface]) ∧ Q w') :
    Calls Tryz.prog 19 #[.pointer (some ⟨e, 0, none⟩), .agg #[.iface 2 (.int .i64 x), .string ⟨#[120]⟩], .int .i64 dep] w fun e' w' => e' = .returned (.tuple #[]) ∧ ∃ w1, Q w1 ∧ w' = w1.setCell ⟨e, 3, none⟩ (.int .i64 (pos + 8)) := by
  have hdp : decide (64 < dep) = false := by simp; omega
  have hwp : IntKind.i64.wrap (pos + 8) = pos + 8 := by rw [IntKind.wrap_i64]; omega
  have NU := Aside0.mk (fun W => nu_x x h0 h1 W)
  have AL := Aside0.mk (fun W (h : W.heap[e]? = some (.cells #[.iface 50 (.pointer (some ⟨b, 0, none⟩)), .slice none 0 0, .iface 68 (.agg #[]), .int .i64 pos] 65 (0, 0))) => align0_calls W e _ _ _ pos 8 h hp (by omega) (by omega) (by omega) hr)
  have BW := Aside0.mk (fun W (h : W.heap[e]? = some (.cells #[.iface 50 (.pointer (some ⟨b, 0, none⟩)), .slice none 0 0, .iface 68 (.agg #[]), .int .i64 pos] 65 (0, 0))) HQ => bw_x68 x m hx W e b pos h Q HQ)
  have N0 := Aside0.mk (En.start (.iface 2 (.int .i64 x)) (.string ⟨#[120]⟩) he)
  have y0 := N0.out.x0
  have y1 := N0.out.x1
  have HC := Aside0.mk HW
  have HX := Aside0.mk HE
  clear he HW HE hp hp2 hr hd0 hd1 h0 h1 hx
  go_enter Tryz.func19, Tryz.ntmps19
  go_wp2_with (first
    | (go_at_call 24; refine (ty_calls _ rfl _ _).mono ?_; rintro e1 w2 ⟨rfl, hb⟩; (first | (have N1 := Aside0.mk (N0.out.step hb); have z0 := N1.out.x0; have z1 := N1.out.x1) | (have N2 := Aside0.mk (N2.out.step hb); have u0 := N2.out.x0; have u1 := N2.out.x1)); clear hb)
    | (go_at_call 23; refine (al_x _).mono ?_; rintro e1 w3 ⟨rfl, rfl⟩)
    | (go_at_call 22; refine (AL.out _ N1.out.2.1).mono ?_; rintro e1 w4 ⟨rfl, rfl⟩)
    | (go_at_call 25; refine (vk_x _ rfl _).mono ?_; rintro e1 w5 ⟨rfl, hb⟩; have N2 := Aside0.mk (N1.out.step hb); have u0 := N2.out.x0; have u1 := N2.out.x1; clear hb)
    | (go_at_call 29; refine (NU.out _).mono ?_; rintro e1 w6 ⟨rfl, hb⟩; have N3 := Aside0.mk (N2.out.step hb); have v0 := N3.out.x0; have v1 := N3.out.x1; clear hb)
    | (go_at_call 28; refine (BW.out _ N3.out.2.1 (fun W1 hB a T ha hh => HC.out W1 (below_step N3.out.1 hB) a T (Nat.le_trans N3.out.2.2.2 ha) hh)).mono ?_; rintro e1 w7 ⟨rfl, hq⟩; have HQ := Aside0.mk hq; have hen := HX.out _ hq; have q3 := (cell_of_row w7 e 3 _ 65 (0, 0) hen).trans rfl; have q4 := frozen_of_row w7 e 3 _ 65 hen; clear hq hen))
  all_goals
    go_end0
    exact ⟨rfl, _, HQ.out, rfl⟩
set_option maxRecDepth 100000 in
set_option maxHeartbeats 4000000 in
theorem en_t67 (m : Nat) (hm : m < 18446744073709551616) (dep : Int) (hd0 : 0 ≤ dep) (hd1 : dep ≤ 60) (w : World) (e b : Nat) (pos : Int) (he : w.heap[e]? = some (.cells #[.iface 50 (.pointer (some ⟨b, 0, none⟩)), .slice none 0 0, .iface 67 (.agg #[]), .int .i64 pos] 65 (0, 0))) (hp : 0 ≤ pos) (hp2 : pos ≤ 90000) (hr : pos % 8 = 0) (Q : World → Prop) (HE : ∀ w', Q w' → w'.heap[e]? = some (.cells #[.iface 50 (.pointer (some ⟨b, 0, none⟩)), .slice none 0 0, .iface 67 (.agg #[]), .int .i64 pos] 65 (0, 0)))
    (HW : ∀ W1, Below w.heap.size w W1 → ∀ a T, w.heap.size ≤ a → W1.heap[a]? = some (.cells #[.int .u8 ((m : Int) / 72057594037927936 % 256), .int .u8 ((m : Int) / 281474976710656 % 256), .int .u8 ((m : Int) / 1099511627776 % 256), .int .u8 ((m : Int) / 4294967296 % 256), .int .u8 ((m : Int) / 16777216 % 256), .int .u8 ((m : Int) / 65536 % 256), .int .u8 ((m : Int) / 256 % 256), .int .u8 ((m : Int) % 256)] T (0, 0)) → Calls Tryz.prog 98 #[.pointer (some ⟨b, 0, none⟩), .slice (some ⟨a, 0, none⟩) 8 8] W1 fun e w' => e = .returned (.tuple #[.int .i64 8, .nilIface]) ∧ Q w') :
    Calls Tryz.prog 19 #[.pointer (some ⟨e, 0, none⟩), .agg #[.iface 25 (.int .u64 (m : Int)), .string ⟨#[116]⟩], .int .i64 dep] w fun e' w' => e' = .returned (.tuple #[]) ∧ ∃ w1, Q w1 ∧ w' = w1.setCell ⟨e, 3, none⟩ (.int .i64 (pos + 8)) := by
  have hdp : decide (64 < dep) = false := by simp; omega
  have hwp : IntKind.i64.wrap (pos + 8) = pos + 8 := by rw [IntKind.wrap_i64]; omega
  have NU := Aside0.mk (fun W => nu_t (m : Int) (by omega) (by omega) W)
  have AL := Aside0.mk (fun W (h : W.heap[e]? = some (.cells #[.iface 50 (.pointer (some ⟨b, 0, none⟩)), .slice none 0 0, .iface 67 (.agg #[]), .int .i64 pos] 65 (0, 0))) => align0_calls W e _ _ _ pos 8 h hp (by omega) (by omega) (by omega) hr)
  have BW := Aside0.mk (fun W (h : W.heap[e]? = some (.cells #[.iface 50 (.pointer (some ⟨b, 0, none⟩)), .slice none 0 0, .iface 67 (.agg #[]), .int .i64 pos] 65 (0, 0))) HQ => bw_t67 m W e b pos h Q HQ)
  have N0 := Aside0.mk (En.start (.iface 25 (.int .u64 (m : Int))) (.string ⟨#[116]⟩) he)
  have y0 := N0.out.x0
  have y1 := N0.out.x1
  have HC := Aside0.mk HW
  have HX := Aside0.mk HE
  clear he HW HE hp hp2 hr hd0 hd1 hm
  go_enter Tryz.func19, Tryz.ntmps19
  go_wp2_with (first
    | (go_at_call 24; refine (ty_calls _ rfl _ _).mono ?_; rintro e1 w2 ⟨rfl, hb⟩; (first | (have N1 := Aside0.mk (N0.out.step hb); have z0 := N1.out.x0; have z1 := N1.out.x1) | (have N2 := Aside0.mk (N2.out.step hb); have u0 := N2.out.x0; have u1 := N2.out.x1)); clear hb)
    | (go_at_call 23; refine (al_t _).mono ?_; rintro e1 w3 ⟨rfl, rfl⟩)
    | (go_at_call 22; refine (AL.out _ N1.out.2.1).mono ?_; rintro e1 w4 ⟨rfl, rfl⟩)
    | (go_at_call 25; refine (vk_t _ rfl _).mono ?_; rintro e1 w5 ⟨rfl, hb⟩; have N2 := Aside0.mk (N1.out.step hb); have u0 := N2.out.x0; have u1 := N2.out.x1; clear hb)
    | (go_at_call 26; refine (NU.out _).mono ?_; rintro e1 w6 ⟨rfl, hb⟩; have N3 := Aside0.mk (N2.out.step hb); have v0 := N3.out.x0; have v1 := N3.out.x1; clear hb)
    | (go_at_call 28; refine (BW.out _ N3.out.2.1 (fun W1 hB a T ha hh => HC.out W1 (below_step N3.out.1 hB) a T (Nat.le_trans N3.out.2.2.2 ha) hh)).mono ?_; rintro e1 w7 ⟨rfl, hq⟩; have HQ := Aside0.mk hq; have hen := HX.out _ hq; have q3 := (cell_of_row w7 e 3 _ 65 (0, 0) hen).trans rfl; have q4 := frozen_of_row w7 e 3 _ 65 hen; clear hq hen))
  all_goals
    go_end0
    exact ⟨rfl, _, HQ.out, rfl⟩
set_option maxRecDepth 100000 in
set_option maxHeartbeats 4000000 in
theorem en_t68 (m : Nat) (hm : m < 18446744073709551616) (dep : Int) (hd0 : 0 ≤ dep) (hd1 : dep ≤ 60) (w : World) (e b : Nat) (pos : Int) (he : w.heap[e]? = some (.cells #[.iface 50 (.pointer (some ⟨b, 0, none⟩)), .slice none 0 0, .iface 68 (.agg #[]), .int .i64 pos] 65 (0, 0))) (hp : 0 ≤ pos) (hp2 : pos ≤ 90000) (hr : pos % 8 = 0) (Q : World → Prop) (HE : ∀ w', Q w' → w'.heap[e]? = some (.cells #[.iface 50 (.pointer (some ⟨b, 0, none⟩)), .slice none 0 0, .iface 68 (.agg #[]), .int .i64 pos] 65 (0, 0)))
    (HW : ∀ W1, Below w.heap.size w W1 → ∀ a T, w.heap.size ≤ a → W1.heap[a]? = some (.cells #[.int .u8 ((m : Int) % 256), .int .u8 ((m : Int) / 256 % 256), .int .u8 ((m : Int) / 65536 % 256), .int .u8 ((m : Int) / 16777216 % 256), .int .u8 ((m : Int) / 4294967296 % 256), .int .u8 ((m : Int) / 1099511627776 % 256), .int .u8 ((m : Int) / 281474976710656 % 256), .int .u8 ((m : Int) / 72057594037927936 % 256)] T (0, 0)) → Calls Tryz.prog 98 #[.pointer (some ⟨b, 0, none⟩), .slice (some ⟨a, 0, none⟩) 8 8] W1 fun e w' => e = .returned (.tuple #[.int .i64 8, .nilIface]) ∧ Q w') :
    Calls Tryz.prog 19 #[.pointer (some ⟨e, 0, none⟩), .agg #[.iface 25 (.int .u64 (m : Int)), .string ⟨#[116]⟩], .int .i64 dep] w fun e' w' => e' = .returned (.tuple #[]) ∧ ∃ w1, Q w1 ∧ w' = w1.setCell ⟨e, 3, none⟩ (.int .i64 (pos + 8)) := by
  have hdp : decide (64 < dep) = false := by simp; omega
  have hwp : IntKind.i64.wrap (pos + 8) = pos + 8 := by rw [IntKind.wrap_i64]; omega
  have NU := Aside0.mk (fun W => nu_t (m : Int) (by omega) (by omega) W)
  have AL := Aside0.mk (fun W (h : W.heap[e]? = some (.cells #[.iface 50 (.pointer (some ⟨b, 0, none⟩)), .slice none 0 0, .iface 68 (.agg #[]), .int .i64 pos] 65 (0, 0))) => align0_calls W e _ _ _ pos 8 h hp (by omega) (by omega) (by omega) hr)
  have BW := Aside0.mk (fun W (h : W.heap[e]? = some (.cells #[.iface 50 (.pointer (some ⟨b, 0, none⟩)), .slice none 0 0, .iface 68 (.agg #[]), .int .i64 pos] 65 (0, 0))) HQ => bw_t68 m W e b pos h Q HQ)
  have N0 := Aside0.mk (En.start (.iface 25 (.int .u64 (m : Int))) (.string ⟨#[116]⟩) he)
  have y0 := N0.out.x0
  have y1 := N0.out.x1
  have HC := Aside0.mk HW
  have HX := Aside0.mk HE
  clear he HW HE hp hp2 hr hd0 hd1 hm
  go_enter Tryz.func19, Tryz.ntmps19
  go_wp2_with (first
    | (go_at_call 24; refine (ty_calls _ rfl _ _).mono ?_; rintro e1 w2 ⟨rfl, hb⟩; (first | (have N1 := Aside0.mk (N0.out.step hb); have z0 := N1.out.x0; have z1 := N1.out.x1) | (have N2 := Aside0.mk (N2.out.step hb); have u0 := N2.out.x0; have u1 := N2.out.x1)); clear hb)
    | (go_at_call 23; refine (al_t _).mono ?_; rintro e1 w3 ⟨rfl, rfl⟩)
    | (go_at_call 22; refine (AL.out _ N1.out.2.1).mono ?_; rintro e1 w4 ⟨rfl, rfl⟩)
    | (go_at_call 25; refine (vk_t _ rfl _).mono ?_; rintro e1 w5 ⟨rfl, hb⟩; have N2 := Aside0.mk (N1.out.step hb); have u0 := N2.out.x0; have u1 := N2.out.x1; clear hb)
    | (go_at_call 26; refine (NU.out _).mono ?_; rintro e1 w6 ⟨rfl, hb⟩; have N3 := Aside0.mk (N2.out.step hb); have v0 := N3.out.x0; have v1 := N3.out.x1; clear hb)
    | (go_at_call 28; refine (BW.out _ N3.out.2.1 (fun W1 hB a T ha hh => HC.out W1 (below_step N3.out.1 hB) a T (Nat.le_trans N3.out.2.2.2 ha) hh)).mono ?_; rintro e1 w7 ⟨rfl, hq⟩; have HQ := Aside0.mk hq; have hen := HX.out _ hq; have q3 := (cell_of_row w7 e 3 _ 65 (0, 0) hen).trans rfl; have q4 := frozen_of_row w7 e 3 _ 65 hen; clear hq hen))
  all_goals
    go_end0
    exact ⟨rfl, _, HQ.out, rfl⟩
set_option maxRecDepth 100000 in
set_option maxHeartbeats 4000000 in
theorem en_d67 (m : Nat) (hm : m < 18446744073709551616) (dep : Int) (hd0 : 0 ≤ dep) (hd1 : dep ≤ 60) (w : World) (e b : Nat) (pos : Int) (he : w.heap[e]? = some (.cells #[.iface 50 (.pointer (some ⟨b, 0, none⟩)), .slice none 0 0, .iface 67 (.agg #[]), .int .i64 pos] 65 (0, 0))) (hp : 0 ≤ pos) (hp2 : pos ≤ 90000) (hr : pos % 8 = 0) (Q : World → Prop) (HE : ∀ w', Q w' → w'.heap[e]? = some (.cells #[.iface 50 (.pointer (some ⟨b, 0, none⟩)), .slice none 0 0, .iface 67 (.agg #[]), .int .i64 pos] 65 (0, 0)))
    (HW : ∀ W1, Below w.heap.size w W1 → ∀ a T, w.heap.size ≤ a → W1.heap[a]? = some (.cells #[.int .u8 ((m : Int) / 72057594037927936 % 256), .int .u8 ((m : Int) / 281474976710656 % 256), .int .u8 ((m : Int) / 1099511627776 % 256), .int .u8 ((m : Int) / 4294967296 % 256), .int .u8 ((m : Int) / 16777216 % 256), .int .u8 ((m : Int) / 65536 % 256), .int .u8 ((m : Int) / 256 % 256), .int .u8 ((m : Int) % 256)] T (0, 0)) → Calls Tryz.prog 98 #[.pointer (some ⟨b, 0, none⟩), .slice (some ⟨a, 0, none⟩) 8 8] W1 fun e w' => e = .returned (.tuple #[.int .i64 8, .nilIface]) ∧ Q w') :
    Calls Tryz.prog 19 #[.pointer (some ⟨e, 0, none⟩), .agg #[.iface 91 (.float .f64 m), .string ⟨#[100]⟩], .int .i64 dep] w fun e' w' => e' = .returned (.tuple #[]) ∧ ∃ w1, Q w1 ∧ w' = w1.setCell ⟨e, 3, none⟩ (.int .i64 (pos + 8)) := by
  have hdp : decide (64 < dep) = false := by simp; omega
  have hwp : IntKind.i64.wrap (pos + 8) = pos + 8 := by rw [IntKind.wrap_i64]; omega
  have NU := Aside0.mk (fun W => nu_d m W)
  have AL := Aside0.mk (fun W (h : W.heap[e]? = some (.cells #[.iface 50 (.pointer (some ⟨b, 0, none⟩)), .slice none 0 0, .iface 67 (.agg #[]), .int .i64 pos] 65 (0, 0))) => align0_calls W e _ _ _ pos 8 h hp (by omega) (by omega) (by omega) hr)
  have BW := Aside0.mk (fun W (h : W.heap[e]? = some (.cells #[.iface 50 (.pointer (some ⟨b, 0, none⟩)), .slice none 0 0, .iface 67 (.agg #[]), .int .i64 pos] 65 (0, 0))) HQ => bw_d67 m W e b pos h Q HQ)
  have N0 := Aside0.mk (En.start (.iface 91 (.float .f64 m)) (.string ⟨#[100]⟩) he)
  have y0 := N0.out.x0
  have y1 := N0.out.x1
  have HC := Aside0.mk HW
  have HX := Aside0.mk HE
  clear he HW HE hp hp2 hr hd0 hd1 hm
  go_enter Tryz.func19, Tryz.ntmps19
  go_wp2_with (first
    | (go_at_call 24; refine (ty_calls _ rfl _ _).mono ?_; rintro e1 w2 ⟨rfl, hb⟩; (first | (have N1 := Aside0.mk (N0.out.step hb); have z0 := N1.out.x0; have z1 := N1.out.x1) | (have N2 := Aside0.mk (N2.out.step hb); have u0 := N2.out.x0; have u1 := N2.out.x1)); clear hb)
    | (go_at_call 23; refine (al_d _).mono ?_; rintro e1 w3 ⟨rfl, rfl⟩)
    | (go_at_call 22; refine (AL.out _ N1.out.2.1).mono ?_; rintro e1 w4 ⟨rfl, rfl⟩)
    | (go_at_call 25; refine (vk_d _ rfl _).mono ?_; rintro e1 w5 ⟨rfl, hb⟩; have N2 := Aside0.mk (N1.out.step hb); have u0 := N2.out.x0; have u1 := N2.out.x1; clear hb)
    | (go_at_call 30; refine (NU.out _).mono ?_; rintro e1 w6 ⟨rfl, hb⟩; have N3 := Aside0.mk (N2.out.step hb); have v0 := N3.out.x0; have v1 := N3.out.x1; clear hb)
    | (go_at_call 28; refine (BW.out _ N3.out.2.1 (fun W1 hB a T ha hh => HC.out W1 (below_step N3.out.1 hB) a T (Nat.le_trans N3.out.2.2.2 ha) hh)).mono ?_; rintro e1 w7 ⟨rfl, hq⟩; have HQ := Aside0.mk hq; have hen := HX.out _ hq; have q3 := (cell_of_row w7 e 3 _ 65 (0, 0) hen).trans rfl; have q4 := frozen_of_row w7 e 3 _ 65 hen; clear hq hen))
  all_goals
    go_end0
    exact ⟨rfl, _, HQ.out, rfl⟩
set_option maxRecDepth 100000 in
set_option maxHeartbeats 4000000 in
theorem en_d68 (m : Nat) (hm : m < 18446744073709551616) (dep : Int) (hd0 : 0 ≤ dep) (hd1 : dep ≤ 60) (w : World) (e b : Nat) (pos : Int) (he : w.heap[e]? = some (.cells #[.iface 50 (.pointer (some ⟨b, 0, none⟩)), .slice none 0 0, .iface 68 (.agg #[]), .int .i64 pos] 65 (0, 0))) (hp : 0 ≤ pos) (hp2 : pos ≤ 90000) (hr : pos % 8 = 0) (Q : World → Prop) (HE : ∀ w', Q w' → w'.heap[e]? = some (.cells #[.iface 50 (.pointer (some ⟨b, 0, none⟩)), .slice none 0 0, .iface 68 (.agg #[]), .int .i64 pos] 65 (0, 0)))
    (HW : ∀ W1, Below w.heap.size w W1 → ∀ a T, w.heap.size ≤ a → W1.heap[a]? = some (.cells #[.int .u8 ((m : Int) % 256), .int .u8 ((m : Int) / 256 % 256), .int .u8 ((m : Int) / 65536 % 256), .int .u8 ((m : Int) / 16777216 % 256), .int .u8 ((m : Int) / 4294967296 % 256), .int .u8 ((m : Int) / 1099511627776 % 256), .int .u8 ((m : Int) / 281474976710656 % 256), .int .u8 ((m : Int) / 72057594037927936 % 256)] T (0, 0)) → Calls Tryz.prog 98 #[.pointer (some ⟨b, 0, none⟩), .slice (some ⟨a, 0, none⟩) 8 8] W1 fun e w' => e = .returned (.tuple #[.int .i64 8, .nilIface]) ∧ Q w') :
    Calls Tryz.prog 19 #[.pointer (some ⟨e, 0, none⟩), .agg #[.iface 91 (.float .f64 m), .string ⟨#[100]⟩], .int .i64 dep] w fun e' w' => e' = .returned (.tuple #[]) ∧ ∃ w1, Q w1 ∧ w' = w1.setCell ⟨e, 3, none⟩ (.int .i64 (pos + 8)) := by
  have hdp : decide (64 < dep) = false := by simp; omega
  have hwp : IntKind.i64.wrap (pos + 8) = pos + 8 := by rw [IntKind.wrap_i64]; omega
  have NU := Aside0.mk (fun W => nu_d m W)
  have AL := Aside0.mk (fun W (h : W.heap[e]? = some (.cells #[.iface 50 (.pointer (some ⟨b, 0, none⟩)), .slice none 0 0, .iface 68 (.agg #[]), .int .i64 pos] 65 (0, 0))) => align0_calls W e _ _ _ pos 8 h hp (by omega) (by omega) (by omega) hr)
  have BW := Aside0.mk (fun W (h : W.heap[e]? = some (.cells #[.iface 50 (.pointer (some ⟨b, 0, none⟩)), .slice none 0 0, .iface 68 (.agg #[]), .int .i64 pos] 65 (0, 0))) HQ => bw_d68 m W e b pos h Q HQ)
  have N0 := Aside0.mk (En.start (.iface 91 (.float .f64 m)) (.string ⟨#[100]⟩) he)
  have y0 := N0.out.x0
  have y1 := N0.out.x1
  have HC := Aside0.mk HW
  have HX := Aside0.mk HE
  clear he HW HE hp hp2 hr hd0 hd1 hm
  go_enter Tryz.func19, Tryz.ntmps19
  go_wp2_with (first
    | (go_at_call 24; refine (ty_calls _ rfl _ _).mono ?_; rintro e1 w2 ⟨rfl, hb⟩; (first | (have N1 := Aside0.mk (N0.out.step hb); have z0 := N1.out.x0; have z1 := N1.out.x1) | (have N2 := Aside0.mk (N2.out.step hb); have u0 := N2.out.x0; have u1 := N2.out.x1)); clear hb)
    | (go_at_call 23; refine (al_d _).mono ?_; rintro e1 w3 ⟨rfl, rfl⟩)
    | (go_at_call 22; refine (AL.out _ N1.out.2.1).mono ?_; rintro e1 w4 ⟨rfl, rfl⟩)
    | (go_at_call 25; refine (vk_d _ rfl _).mono ?_; rintro e1 w5 ⟨rfl, hb⟩; have N2 := Aside0.mk (N1.out.step hb); have u0 := N2.out.x0; have u1 := N2.out.x1; clear hb)
    | (go_at_call 30; refine (NU.out _).mono ?_; rintro e1 w6 ⟨rfl, hb⟩; have N3 := Aside0.mk (N2.out.step hb); have v0 := N3.out.x0; have v1 := N3.out.x1; clear hb)
    | (go_at_call 28; refine (BW.out _ N3.out.2.1 (fun W1 hB a T ha hh => HC.out W1 (below_step N3.out.1 hB) a T (Nat.le_trans N3.out.2.2.2 ha) hh)).mono ?_; rintro e1 w7 ⟨rfl, hq⟩; have HQ := Aside0.mk hq; have hen := HX.out _ hq; have q3 := (cell_of_row w7 e 3 _ 65 (0, 0) hen).trans rfl; have q4 := frozen_of_row w7 e 3 _ 65 hen; clear hq hen))
  all_goals
    go_end0
    exact ⟨rfl, _, HQ.out, rfl⟩
set_option maxRecDepth 100000 in
set_option maxHeartbeats 4000000 in
theorem en_h67 (m : Nat) (hm : m < 4294967296) (dep : Int) (hd0 : 0 ≤ dep) (hd1 : dep ≤ 60) (w : World) (e b : Nat) (pos : Int) (he : w.heap[e]? = some (.cells #[.iface 50 (.pointer (some ⟨b, 0, none⟩)), .slice none 0 0, .iface 67 (.agg #[]), .int .i64 pos] 65 (0, 0))) (hp : 0 ≤ pos) (hp2 : pos ≤ 90000) (hr : pos % 4 = 0) (Q : World → Prop) (HE : ∀ w', Q w' → w'.heap[e]? = some (.cells #[.iface 50 (.pointer (some ⟨b, 0, none⟩)), .slice none 0 0, .iface 67 (.agg #[]), .int .i64 pos] 65 (0, 0)))
    (HW : ∀ W1, Below w.heap.size w W1 → ∀ a T, w.heap.size ≤ a → W1.heap[a]? = some (.cells #[.int .u8 ((m : Int) / 16777216 % 256), .int .u8 ((m : Int) / 65536 % 256), .int .u8 ((m : Int) / 256 % 256), .int .u8 ((m : Int) % 256)] T (0, 0)) → Calls Tryz.prog 98 #[.pointer (some ⟨b, 0, none⟩), .slice (some ⟨a, 0, none⟩) 4 4] W1 fun e w' => e = .returned (.tuple #[.int .i64 4, .nilIface]) ∧ Q w') :
    Calls Tryz.prog 19 #[.pointer (some ⟨e, 0, none⟩), .agg #[.iface 121 (.int .u32 (m : Int)), .string ⟨#[104]⟩], .int .i64 dep] w fun e' w' => e' = .returned (.tuple #[]) ∧ ∃ w1, Q w1 ∧ w' = w1.setCell ⟨e, 3, none⟩ (.int .i64 (pos + 4)) := by
  have hdp : decide (64 < dep) = false := by simp; omega
  have hwp : IntKind.i64.wrap (pos + 4) = pos + 4 := by rw [IntKind.wrap_i64]; omega
  have hw9 : IntKind.u32.wrap (m : Int) = (m : Int) := by simp [IntKind.wrap, IntKind.bits, IntKind.signed]; omega
  have NU := Aside0.mk (fun W => nu_h (m : Int) (by omega) (by omega) W)
  have AL := Aside0.mk (fun W (h : W.heap[e]? = some (.cells #[.iface 50 (.pointer (some ⟨b, 0, none⟩)), .slice none 0 0, .iface 67 (.agg #[]), .int .i64 pos] 65 (0, 0))) => align0_calls W e _ _ _ pos 4 h hp (by omega) (by omega) (by omega) hr)
  have BW := Aside0.mk (fun W (h : W.heap[e]? = some (.cells #[.iface 50 (.pointer (some ⟨b, 0, none⟩)), .slice none 0 0, .iface 67 (.agg #[]), .int .i64 pos] 65 (0, 0))) HQ => bw_u67 m W e b pos h Q HQ)
  have N0 := Aside0.mk (En.start (.iface 121 (.int .u32 (m : Int))) (.string ⟨#[104]⟩) he)
  have y0 := N0.out.x0
  have y1 := N0.out.x1
  have HC := Aside0.mk HW
  have HX := Aside0.mk HE
  clear he HW HE hp hp2 hr hd0 hd1 hm
  go_enter Tryz.func19, Tryz.ntmps19
  go_wp2_with (first
    | (go_at_call 24; refine (ty_calls _ rfl _ _).mono ?_; rintro e1 w2 ⟨rfl, hb⟩; (first | (have N1 := Aside0.mk (N0.out.step hb); have z0 := N1.out.x0; have z1 := N1.out.x1) | (have N2 := Aside0.mk (N2.out.step hb); have u0 := N2.out.x0; have u1 := N2.out.x1)); clear hb)
    | (go_at_call 23; refine (al_h _).mono ?_; rintro e1 w3 ⟨rfl, rfl⟩)
    | (go_at_call 22; refine (AL.out _ N1.out.2.1).mono ?_; rintro e1 w4 ⟨rfl, rfl⟩)
    | (go_at_call 25; refine (vk_h _ rfl _).mono ?_; rintro e1 w5 ⟨rfl, hb⟩; have N2 := Aside0.mk (N1.out.step hb); have u0 := N2.out.x0; have u1 := N2.out.x1; clear hb)
    | (go_at_call 26; refine (NU.out _).mono ?_; rintro e1 w6 ⟨rfl, hb⟩; have N3 := Aside0.mk (N2.out.step hb); have v0 := N3.out.x0; have v1 := N3.out.x1; clear hb)
    | (go_at_call 28; refine (BW.out _ N3.out.2.1 (fun W1 hB a T ha hh => HC.out W1 (below_step N3.out.1 hB) a T (Nat.le_trans N3.out.2.2.2 ha) hh)).mono ?_; rintro e1 w7 ⟨rfl, hq⟩; have HQ := Aside0.mk hq; have hen := HX.out _ hq; have q3 := (cell_of_row w7 e 3 _ 65 (0, 0) hen).trans rfl; have q4 := frozen_of_row w7 e 3 _ 65 hen; clear hq hen))
  all_goals
    go_end0
    exact ⟨rfl, _, HQ.out, rfl⟩
set_option maxRecDepth 100000 in
set_option maxHeartbeats 4000000 in
theorem en_h68 (m : Nat) (hm : m < 4294967296) (dep : Int) (hd0 : 0 ≤ dep) (hd1 : dep ≤ 60) (w : World) (e b : Nat) (pos : Int) (he : w.heap[e]? = some (.cells #[.iface 50 (.pointer (some ⟨b, 0, none⟩)), .slice none 0 0, .iface 68 (.agg #[]), .int .i64 pos] 65 (0, 0))) (hp : 0 ≤ pos) (hp2 : pos ≤ 90000) (hr : pos % 4 = 0) (Q : World → Prop) (HE : ∀ w', Q w' → w'.heap[e]? = some (.cells #[.iface 50 (.pointer (some ⟨b, 0, none⟩)), .slice none 0 0, .iface 68 (.agg #[]), .int .i64 pos] 65 (0, 0)))
    (HW : ∀ W1, Below w.heap.size w W1 → ∀ a T, w.heap.size ≤ a → W1.heap[a]? = some (.cells #[.int .u8 ((m : Int) % 256), .int .u8 ((m : Int) / 256 % 256), .int .u8 ((m : Int) / 65536 % 256), .int .u8 ((m : Int) / 16777216 % 256)] T (0, 0)) → Calls Tryz.prog 98 #[.pointer (some ⟨b, 0, none⟩), .slice (some ⟨a, 0, none⟩) 4 4] W1 fun e w' => e = .returned (.tuple #[.int .i64 4, .nilIface]) ∧ Q w') :
    Calls Tryz.prog 19 #[.pointer (some ⟨e, 0, none⟩), .agg #[.iface 121 (.int .u32 (m : Int)), .string ⟨#[104]⟩], .int .i64 dep] w fun e' w' => e' = .returned (.tuple #[]) ∧ ∃ w1, Q w1 ∧ w' = w1.setCell ⟨e, 3, none⟩ (.int .i64 (pos + 4)) := by
  have hdp : decide (64 < dep) = false := by simp; omega
  have hwp : IntKind.i64.wrap (pos + 4) = pos + 4 := by rw [IntKind.wrap_i64]; omega
  have hw9 : IntKind.u32.wrap (m : Int) = (m : Int) := by simp [IntKind.wrap, IntKind.bits, IntKind.signed]; omega
  have NU := Aside0.mk (fun W => nu_h (m : Int) (by omega) (by omega) W)
  have AL := Aside0.mk (fun W (h : W.heap[e]? = some (.cells #[.iface 50 (.pointer (some ⟨b, 0, none⟩)), .slice none 0 0, .iface 68 (.agg #[]), .int .i64 pos] 65 (0, 0))) => align0_calls W e _ _ _ pos 4 h hp (by omega) (by omega) (by omega) hr)
  have BW := Aside0.mk (fun W (h : W.heap[e]? = some (.cells #[.iface 50 (.pointer (some ⟨b, 0, none⟩)), .slice none 0 0, .iface 68 (.agg #[]), .int .i64 pos] 65 (0, 0))) HQ => bw_u68 m W e b pos h Q HQ)
  have N0 := Aside0.mk (En.start (.iface 121 (.int .u32 (m : Int))) (.string ⟨#[104]⟩) he)
  have y0 := N0.out.x0
  have y1 := N0.out.x1
  have HC := Aside0.mk HW
  have HX := Aside0.mk HE
  clear he HW HE hp hp2 hr hd0 hd1 hm
  go_enter Tryz.func19, Tryz.ntmps19
  go_wp2_with (first
    | (go_at_call 24; refine (ty_calls _ rfl _ _).mono ?_; rintro e1 w2 ⟨rfl, hb⟩; (first | (have N1 := Aside0.mk (N0.out.step hb); have z0 := N1.out.x0; have z1 := N1.out.x1) | (have N2 := Aside0.mk (N2.out.step hb); have u0 := N2.out.x0; have u1 := N2.out.x1)); clear hb)
    | (go_at_call 23; refine (al_h _).mono ?_; rintro e1 w3 ⟨rfl, rfl⟩)
    | (go_at_call 22; refine (AL.out _ N1.out.2.1).mono ?_; rintro e1 w4 ⟨rfl, rfl⟩)
    | (go_at_call 25; refine (vk_h _ rfl _).mono ?_; rintro e1 w5 ⟨rfl, hb⟩; have N2 := Aside0.mk (N1.out.step hb); have u0 := N2.out.x0; have u1 := N2.out.x1; clear hb)
    | (go_at_call 26; refine (NU.out _).mono ?_; rintro e1 w6 ⟨rfl, hb⟩; have N3 := Aside0.mk (N2.out.step hb); have v0 := N3.out.x0; have v1 := N3.out.x1; clear hb)
    | (go_at_call 28; refine (BW.out _ N3.out.2.1 (fun W1 hB a T ha hh => HC.out W1 (below_step N3.out.1 hB) a T (Nat.le_trans N3.out.2.2.2 ha) hh)).mono ?_; rintro e1 w7 ⟨rfl, hq⟩; have HQ := Aside0.mk hq; have hen := HX.out _ hq; have q3 := (cell_of_row w7 e 3 _ 65 (0, 0) hen).trans rfl; have q4 := frozen_of_row w7 e 3 _ 65 hen; clear hq hen))
  all_goals
    go_end0
    exact ⟨rfl, _, HQ.out, rfl⟩


end Go.Proofs.YtcnhpiodomknfaaGreatDoor.MFnWrTurned
