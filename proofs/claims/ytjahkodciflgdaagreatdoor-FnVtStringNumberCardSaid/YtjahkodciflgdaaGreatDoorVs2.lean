-- A trial text of this session.
import Derived.Test.YtjahkodciflgdaaGreatDoorVs1
import Derived.Recover
namespace Go.Proofs.YtjahkodciflgdaaGreatDoor.MFnVtStringNumber
open Go.RowKit Go.Proofs.YtjahkodciflgdaaGreatDoorW.PrintWords Go.Proofs.YtjahkodciflgdaaGreatDoorW.PrintLast Go.Proofs.YtjahkodciflgdaaGreatDoorW.PrintMore
attribute [local go_sem] max2_int min2_int max_two min_two max_three min_three max_four min_four
set_option linter.unusedVariables false
set_option linter.unusedSimpArgs false

theorem va_calls (w : World) (g : Nat) (hg : w.heap[g]? = some (.cells #[.int .i64 0, .int .i64 0, .int .i64 0] 92 (0, 0))) : Calls Tryz.prog 61 #[.pointer (some ⟨g, 0, none⟩)] w fun e w' => e = .returned (.bool true) ∧ w' = w := by
  have c0 : w.cell? ⟨g, 0, none⟩ = some (.int .i64 0) := (cell_of_row w g 0 _ 92 (0, 0) hg).trans rfl
  have c1 : w.cell? ⟨g, 1, none⟩ = some (.int .i64 0) := (cell_of_row w g 1 _ 92 (0, 0) hg).trans rfl
  have c2 : w.cell? ⟨g, 2, none⟩ = some (.int .i64 0) := (cell_of_row w g 2 _ 92 (0, 0) hg).trans rfl
  clear hg
  go_enter Tryz.func61, Tryz.ntmps61
  go_wp2
  go_ret
  exact ⟨rfl, rfl⟩
theorem sig_idle (p : Addr) (s : ByteArray) (hs : s.size ≤ 255) (w : World) (hp : w.cell? p = some (.string s)) :
    CallsD Tryz.prog 62 #[.pointer (some p)] .returning w fun e u' w' => e = .returned (.tuple #[]) ∧ u' = .returning ∧ w' = w := by
  have hd : decide ((255 : Int) < (s.size : Int)) = false := by simp; omega
  refine callsD_of_wpS Tryz.func62 rfl fun c₀ cs hu => ?_
  apply wpS_seq
  apply wpS_region
  simp [wpOpsS, go_sem, hp, hd, hu, Tryz.ntmps62, Exit.thenS]
  refine wpS_cond (t := false) (by simp [Act.eval, Array.replicate, hd]) ?_
  simp only [Bool.false_eq_true, if_false]
  refine wpS_of_wp (wp_skip ?_)
  cases c₀
  simp_all [bodyPostS, results, Tryz.results62]
set_option maxRecDepth 100000 in
set_option maxHeartbeats 4000000 in
theorem gs_y (w : World) (g : Nat) (hg : w.heap[g]? = some (.cells #[.int .i64 0, .int .i64 0, .int .i64 0] 92 (0, 0))) : Calls Tryz.prog 37 #[.string ⟨#[121]⟩, .pointer (some ⟨g, 0, none⟩)] w fun e w' => e = .returned (.string ⟨#[121]⟩) ∧ Below w.heap.size w w' := by
  have hmf : ∀ (fn : Fn) (first cap : Array Value) (w : World), (Instr.makeFunc fn first cap).run Tryz.prog w = .ok (.func fn first cap) w := fun _ _ _ _ => rfl
  have hg2 : ∀ o : Obj, (w.alloc o).heap[g]? = some (.cells #[.int .i64 0, .int .i64 0, .int .i64 0] 92 (0, 0)) := fun o => by rw [heap_alloc_old _ _ (Array.getElem?_eq_some_iff.1 hg).1]; exact hg
  have HG := Aside0.mk hg2
  clear hg hg2
  go_enter_defers Tryz.func37, Tryz.ntmps37
  go_wp2_with (first | (go_at_call 61; refine (va_calls _ g (HG.out _)).mono ?_; rintro e w2 ⟨rfl, rfl⟩) | (go_at_call 39; refine (ki_y _).mono ?_; rintro e w2 ⟨rfl, rfl⟩))
  refine leaves_cons (f := 62) (args := #[.pointer (some ⟨w.heap.size, 0, none⟩)]) (by simp) (by simp [go_sem]) ?_
  refine (sig_idle _ ⟨#[121]⟩ (by decide) _ (by simp)).mono ?_
  rintro e u' w'' ⟨rfl, rfl, hw⟩
  subst hw
  simp [Leaves, settle, results, Tryz.results37, go_sem]
  exact below_alloc (Below.refl _ _) _
set_option maxRecDepth 100000 in
set_option maxHeartbeats 4000000 in
theorem gs_b (w : World) (g : Nat) (hg : w.heap[g]? = some (.cells #[.int .i64 0, .int .i64 0, .int .i64 0] 92 (0, 0))) : Calls Tryz.prog 37 #[.string ⟨#[98]⟩, .pointer (some ⟨g, 0, none⟩)] w fun e w' => e = .returned (.string ⟨#[98]⟩) ∧ Below w.heap.size w w' := by
  have hmf : ∀ (fn : Fn) (first cap : Array Value) (w : World), (Instr.makeFunc fn first cap).run Tryz.prog w = .ok (.func fn first cap) w := fun _ _ _ _ => rfl
  have hg2 : ∀ o : Obj, (w.alloc o).heap[g]? = some (.cells #[.int .i64 0, .int .i64 0, .int .i64 0] 92 (0, 0)) := fun o => by rw [heap_alloc_old _ _ (Array.getElem?_eq_some_iff.1 hg).1]; exact hg
  have HG := Aside0.mk hg2
  clear hg hg2
  go_enter_defers Tryz.func37, Tryz.ntmps37
  go_wp2_with (first | (go_at_call 61; refine (va_calls _ g (HG.out _)).mono ?_; rintro e w2 ⟨rfl, rfl⟩) | (go_at_call 39; refine (ki_b _).mono ?_; rintro e w2 ⟨rfl, rfl⟩))
  refine leaves_cons (f := 62) (args := #[.pointer (some ⟨w.heap.size, 0, none⟩)]) (by simp) (by simp [go_sem]) ?_
  refine (sig_idle _ ⟨#[98]⟩ (by decide) _ (by simp)).mono ?_
  rintro e u' w'' ⟨rfl, rfl, hw⟩
  subst hw
  simp [Leaves, settle, results, Tryz.results37, go_sem]
  exact below_alloc (Below.refl _ _) _
set_option maxRecDepth 100000 in
set_option maxHeartbeats 4000000 in
theorem gs_n (w : World) (g : Nat) (hg : w.heap[g]? = some (.cells #[.int .i64 0, .int .i64 0, .int .i64 0] 92 (0, 0))) : Calls Tryz.prog 37 #[.string ⟨#[110]⟩, .pointer (some ⟨g, 0, none⟩)] w fun e w' => e = .returned (.string ⟨#[110]⟩) ∧ Below w.heap.size w w' := by
  have hmf : ∀ (fn : Fn) (first cap : Array Value) (w : World), (Instr.makeFunc fn first cap).run Tryz.prog w = .ok (.func fn first cap) w := fun _ _ _ _ => rfl
  have hg2 : ∀ o : Obj, (w.alloc o).heap[g]? = some (.cells #[.int .i64 0, .int .i64 0, .int .i64 0] 92 (0, 0)) := fun o => by rw [heap_alloc_old _ _ (Array.getElem?_eq_some_iff.1 hg).1]; exact hg
  have HG := Aside0.mk hg2
  clear hg hg2
  go_enter_defers Tryz.func37, Tryz.ntmps37
  go_wp2_with (first | (go_at_call 61; refine (va_calls _ g (HG.out _)).mono ?_; rintro e w2 ⟨rfl, rfl⟩) | (go_at_call 39; refine (ki_n _).mono ?_; rintro e w2 ⟨rfl, rfl⟩))
  refine leaves_cons (f := 62) (args := #[.pointer (some ⟨w.heap.size, 0, none⟩)]) (by simp) (by simp [go_sem]) ?_
  refine (sig_idle _ ⟨#[110]⟩ (by decide) _ (by simp)).mono ?_
  rintro e u' w'' ⟨rfl, rfl, hw⟩
  subst hw
  simp [Leaves, settle, results, Tryz.results37, go_sem]
  exact below_alloc (Below.refl _ _) _
set_option maxRecDepth 100000 in
set_option maxHeartbeats 4000000 in
theorem gs_q (w : World) (g : Nat) (hg : w.heap[g]? = some (.cells #[.int .i64 0, .int .i64 0, .int .i64 0] 92 (0, 0))) : Calls Tryz.prog 37 #[.string ⟨#[113]⟩, .pointer (some ⟨g, 0, none⟩)] w fun e w' => e = .returned (.string ⟨#[113]⟩) ∧ Below w.heap.size w w' := by
  have hmf : ∀ (fn : Fn) (first cap : Array Value) (w : World), (Instr.makeFunc fn first cap).run Tryz.prog w = .ok (.func fn first cap) w := fun _ _ _ _ => rfl
  have hg2 : ∀ o : Obj, (w.alloc o).heap[g]? = some (.cells #[.int .i64 0, .int .i64 0, .int .i64 0] 92 (0, 0)) := fun o => by rw [heap_alloc_old _ _ (Array.getElem?_eq_some_iff.1 hg).1]; exact hg
  have HG := Aside0.mk hg2
  clear hg hg2
  go_enter_defers Tryz.func37, Tryz.ntmps37
  go_wp2_with (first | (go_at_call 61; refine (va_calls _ g (HG.out _)).mono ?_; rintro e w2 ⟨rfl, rfl⟩) | (go_at_call 39; refine (ki_q _).mono ?_; rintro e w2 ⟨rfl, rfl⟩))
  refine leaves_cons (f := 62) (args := #[.pointer (some ⟨w.heap.size, 0, none⟩)]) (by simp) (by simp [go_sem]) ?_
  refine (sig_idle _ ⟨#[113]⟩ (by decide) _ (by simp)).mono ?_
  rintro e u' w'' ⟨rfl, rfl, hw⟩
  subst hw
  simp [Leaves, settle, results, Tryz.results37, go_sem]
  exact below_alloc (Below.refl _ _) _
set_option maxRecDepth 100000 in
set_option maxHeartbeats 4000000 in
theorem gs_i (w : World) (g : Nat) (hg : w.heap[g]? = some (.cells #[.int .i64 0, .int .i64 0, .int .i64 0] 92 (0, 0))) : Calls Tryz.prog 37 #[.string ⟨#[105]⟩, .pointer (some ⟨g, 0, none⟩)] w fun e w' => e = .returned (.string ⟨#[105]⟩) ∧ Below w.heap.size w w' := by
  have hmf : ∀ (fn : Fn) (first cap : Array Value) (w : World), (Instr.makeFunc fn first cap).run Tryz.prog w = .ok (.func fn first cap) w := fun _ _ _ _ => rfl
  have hg2 : ∀ o : Obj, (w.alloc o).heap[g]? = some (.cells #[.int .i64 0, .int .i64 0, .int .i64 0] 92 (0, 0)) := fun o => by rw [heap_alloc_old _ _ (Array.getElem?_eq_some_iff.1 hg).1]; exact hg
  have HG := Aside0.mk hg2
  clear hg hg2
  go_enter_defers Tryz.func37, Tryz.ntmps37
  go_wp2_with (first | (go_at_call 61; refine (va_calls _ g (HG.out _)).mono ?_; rintro e w2 ⟨rfl, rfl⟩) | (go_at_call 39; refine (ki_i _).mono ?_; rintro e w2 ⟨rfl, rfl⟩))
  refine leaves_cons (f := 62) (args := #[.pointer (some ⟨w.heap.size, 0, none⟩)]) (by simp) (by simp [go_sem]) ?_
  refine (sig_idle _ ⟨#[105]⟩ (by decide) _ (by simp)).mono ?_
  rintro e u' w'' ⟨rfl, rfl, hw⟩
  subst hw
  simp [Leaves, settle, results, Tryz.results37, go_sem]
  exact below_alloc (Below.refl _ _) _
set_option maxRecDepth 100000 in
set_option maxHeartbeats 4000000 in
theorem gs_u (w : World) (g : Nat) (hg : w.heap[g]? = some (.cells #[.int .i64 0, .int .i64 0, .int .i64 0] 92 (0, 0))) : Calls Tryz.prog 37 #[.string ⟨#[117]⟩, .pointer (some ⟨g, 0, none⟩)] w fun e w' => e = .returned (.string ⟨#[117]⟩) ∧ Below w.heap.size w w' := by
  have hmf : ∀ (fn : Fn) (first cap : Array Value) (w : World), (Instr.makeFunc fn first cap).run Tryz.prog w = .ok (.func fn first cap) w := fun _ _ _ _ => rfl
  have hg2 : ∀ o : Obj, (w.alloc o).heap[g]? = some (.cells #[.int .i64 0, .int .i64 0, .int .i64 0] 92 (0, 0)) := fun o => by rw [heap_alloc_old _ _ (Array.getElem?_eq_some_iff.1 hg).1]; exact hg
  have HG := Aside0.mk hg2
  clear hg hg2
  go_enter_defers Tryz.func37, Tryz.ntmps37
  go_wp2_with (first | (go_at_call 61; refine (va_calls _ g (HG.out _)).mono ?_; rintro e w2 ⟨rfl, rfl⟩) | (go_at_call 39; refine (ki_u _).mono ?_; rintro e w2 ⟨rfl, rfl⟩))
  refine leaves_cons (f := 62) (args := #[.pointer (some ⟨w.heap.size, 0, none⟩)]) (by simp) (by simp [go_sem]) ?_
  refine (sig_idle _ ⟨#[117]⟩ (by decide) _ (by simp)).mono ?_
  rintro e u' w'' ⟨rfl, rfl, hw⟩
  subst hw
  simp [Leaves, settle, results, Tryz.results37, go_sem]
  exact below_alloc (Below.refl _ _) _
set_option maxRecDepth 100000 in
set_option maxHeartbeats 4000000 in
theorem gs_x (w : World) (g : Nat) (hg : w.heap[g]? = some (.cells #[.int .i64 0, .int .i64 0, .int .i64 0] 92 (0, 0))) : Calls Tryz.prog 37 #[.string ⟨#[120]⟩, .pointer (some ⟨g, 0, none⟩)] w fun e w' => e = .returned (.string ⟨#[120]⟩) ∧ Below w.heap.size w w' := by
  have hmf : ∀ (fn : Fn) (first cap : Array Value) (w : World), (Instr.makeFunc fn first cap).run Tryz.prog w = .ok (.func fn first cap) w := fun _ _ _ _ => rfl
  have hg2 : ∀ o : Obj, (w.alloc o).heap[g]? = some (.cells #[.int .i64 0, .int .i64 0, .int .i64 0] 92 (0, 0)) := fun o => by rw [heap_alloc_old _ _ (Array.getElem?_eq_some_iff.1 hg).1]; exact hg
  have HG := Aside0.mk hg2
  clear hg hg2
  go_enter_defers Tryz.func37, Tryz.ntmps37
  go_wp2_with (first | (go_at_call 61; refine (va_calls _ g (HG.out _)).mono ?_; rintro e w2 ⟨rfl, rfl⟩) | (go_at_call 39; refine (ki_x _).mono ?_; rintro e w2 ⟨rfl, rfl⟩))
  refine leaves_cons (f := 62) (args := #[.pointer (some ⟨w.heap.size, 0, none⟩)]) (by simp) (by simp [go_sem]) ?_
  refine (sig_idle _ ⟨#[120]⟩ (by decide) _ (by simp)).mono ?_
  rintro e u' w'' ⟨rfl, rfl, hw⟩
  subst hw
  simp [Leaves, settle, results, Tryz.results37, go_sem]
  exact below_alloc (Below.refl _ _) _
set_option maxRecDepth 100000 in
set_option maxHeartbeats 4000000 in
theorem gs_t (w : World) (g : Nat) (hg : w.heap[g]? = some (.cells #[.int .i64 0, .int .i64 0, .int .i64 0] 92 (0, 0))) : Calls Tryz.prog 37 #[.string ⟨#[116]⟩, .pointer (some ⟨g, 0, none⟩)] w fun e w' => e = .returned (.string ⟨#[116]⟩) ∧ Below w.heap.size w w' := by
  have hmf : ∀ (fn : Fn) (first cap : Array Value) (w : World), (Instr.makeFunc fn first cap).run Tryz.prog w = .ok (.func fn first cap) w := fun _ _ _ _ => rfl
  have hg2 : ∀ o : Obj, (w.alloc o).heap[g]? = some (.cells #[.int .i64 0, .int .i64 0, .int .i64 0] 92 (0, 0)) := fun o => by rw [heap_alloc_old _ _ (Array.getElem?_eq_some_iff.1 hg).1]; exact hg
  have HG := Aside0.mk hg2
  clear hg hg2
  go_enter_defers Tryz.func37, Tryz.ntmps37
  go_wp2_with (first | (go_at_call 61; refine (va_calls _ g (HG.out _)).mono ?_; rintro e w2 ⟨rfl, rfl⟩) | (go_at_call 39; refine (ki_t _).mono ?_; rintro e w2 ⟨rfl, rfl⟩))
  refine leaves_cons (f := 62) (args := #[.pointer (some ⟨w.heap.size, 0, none⟩)]) (by simp) (by simp [go_sem]) ?_
  refine (sig_idle _ ⟨#[116]⟩ (by decide) _ (by simp)).mono ?_
  rintro e u' w'' ⟨rfl, rfl, hw⟩
  subst hw
  simp [Leaves, settle, results, Tryz.results37, go_sem]
  exact below_alloc (Below.refl _ _) _
set_option maxRecDepth 100000 in
set_option maxHeartbeats 4000000 in
theorem gs_h (w : World) (g : Nat) (hg : w.heap[g]? = some (.cells #[.int .i64 0, .int .i64 0, .int .i64 0] 92 (0, 0))) : Calls Tryz.prog 37 #[.string ⟨#[104]⟩, .pointer (some ⟨g, 0, none⟩)] w fun e w' => e = .returned (.string ⟨#[104]⟩) ∧ Below w.heap.size w w' := by
  have hmf : ∀ (fn : Fn) (first cap : Array Value) (w : World), (Instr.makeFunc fn first cap).run Tryz.prog w = .ok (.func fn first cap) w := fun _ _ _ _ => rfl
  have hg2 : ∀ o : Obj, (w.alloc o).heap[g]? = some (.cells #[.int .i64 0, .int .i64 0, .int .i64 0] 92 (0, 0)) := fun o => by rw [heap_alloc_old _ _ (Array.getElem?_eq_some_iff.1 hg).1]; exact hg
  have HG := Aside0.mk hg2
  clear hg hg2
  go_enter_defers Tryz.func37, Tryz.ntmps37
  go_wp2_with (first | (go_at_call 61; refine (va_calls _ g (HG.out _)).mono ?_; rintro e w2 ⟨rfl, rfl⟩) | (go_at_call 39; refine (ki_h _).mono ?_; rintro e w2 ⟨rfl, rfl⟩))
  refine leaves_cons (f := 62) (args := #[.pointer (some ⟨w.heap.size, 0, none⟩)]) (by simp) (by simp [go_sem]) ?_
  refine (sig_idle _ ⟨#[104]⟩ (by decide) _ (by simp)).mono ?_
  rintro e u' w'' ⟨rfl, rfl, hw⟩
  subst hw
  simp [Leaves, settle, results, Tryz.results37, go_sem]
  exact below_alloc (Below.refl _ _) _


end Go.Proofs.YtjahkodciflgdaaGreatDoor.MFnVtStringNumber
