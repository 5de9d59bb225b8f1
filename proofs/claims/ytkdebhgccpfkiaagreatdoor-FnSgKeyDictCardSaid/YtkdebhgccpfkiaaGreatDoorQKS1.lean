import Derived.Test.YtkdebhgccpfkiaaGreatDoorQKE1
import Derived.Defers
import Derived.Test.YtkdebhgccpfkiaaGreatDoorQKX1
set_option maxRecDepth 100000
set_option maxHeartbeats 16000000
namespace Go.Proofs.YtkdebhgccpfkiaaGreatDoor.au
open Go.RowKit Go.Proofs.aa.az Go.Proofs.aa.aM Go.Proofs.aa.aU
attribute [local go_sem] ba bh
set_option linter.unusedVariables false
set_option linter.unusedSimpArgs false
theorem aQ {W w2 : World} (hb : Below W.heap.size W w2) {g : Nat} {o : Obj} (h : W.heap[g]? = some o) : w2.heap[g]? = some o := (hb.block g (Array.getElem?_eq_some_iff.1 h).1).trans h
theorem aC {b b' : Nat} {w W : World} (h : Below b w W) (hb : b' ≤ b) : Below b' w W := ⟨h.os,h.tape,h.output,h.size,fun k hk => h.block k (Nat.lt_of_lt_of_le hk hb)⟩
theorem Re (p : Addr) (r : ByteArray) (w : World) (hc : w.cell? p = some (.string r)) (hr : r.size ≤ 255) : CallsD Tryz.prog 112 #[.pointer (some p)] .returning w fun e u' w' => u' = .returning ∧ (e = .returned (.tuple #[]) ∧ w' = w) := by
 have hd : decide ((255 : Int) < (r.size : Int)) = false := by simp; omega
 refine callsD_of_wp Tryz.func112 rfl ?_
 simp only [Tryz.ntmps112]
 go_wp2
 all_goals simp [bodyPost,results,Tryz.results112,go_sem]
def DC (w : World) (g : Nat) (a s d : Int) : Prop := w.cell? ⟨g,0,none⟩ = some (.int .i64 a) ∧ w.cell? ⟨g,1,none⟩ = some (.int .i64 s) ∧ w.cell? ⟨g,2,none⟩ = some (.int .i64 d)
theorem DC.c0 {w : World} {g : Nat} {a s d : Int} (h : DC w g a s d) : w.cell? ⟨g,0,none⟩ = some (.int .i64 a) := h.1
theorem DC.c1 {w : World} {g : Nat} {a s d : Int} (h : DC w g a s d) : w.cell? ⟨g,1,none⟩ = some (.int .i64 s) := h.2.1
theorem DC.c2 {w : World} {g : Nat} {a s d : Int} (h : DC w g a s d) : w.cell? ⟨g,2,none⟩ = some (.int .i64 d) := h.2.2
theorem DC.up {w w' : World} {g : Nat} {a s d : Int} (h : DC w g a s d) (hb : Below w.heap.size w w') : DC w' g a s d := ⟨ag hb h.1,ag hb h.2.1,ag hb h.2.2⟩
theorem DC.lt {w : World} {g : Nat} {a s d : Int} (h : DC w g a s d) : g < w.heap.size := World.block_lt_of_cell? w ⟨g,0,none⟩ h.1
theorem dv {w : World} {g : Nat} {a s d : Int} (h : DC w g a s d) (ha : a ≤ 32) (hs : s ≤ 32) (hd : d ≤ 32) : Calls Tryz.prog 92 #[.pointer (some ⟨g,0,none⟩)] w fun e w' => e = .returned (.bool true) ∧ w' = w := by
 refine (aj.valid g a s d w h.c0 h.c1 h.c2).mono ?_
 rintro e w' ⟨rfl,rfl⟩
 exact ⟨by rw [show aj.ok a s d = true by simp [aj.ok,ha,hs,hd]],rfl⟩
theorem fA {w w4 : World} {u r : ByteArray} (hc : w4.cell? ⟨w.heap.size,0,none⟩ = some (.string u)) (hB : Below w.heap.size w w4) (hr : r.size ≤ 255) (tmps : Array Value) (h4 : tmps[4]? = some (.pointer (some ⟨w.heap.size,0,none⟩))) :
 Leaves Tryz.prog Tryz.f111 tmps (fun e w' => e = .returned (.string r) ∧ Below w.heap.size w w') [{ target := .fn (.func 112) #[.pointer (some ⟨w.heap.size,0,none⟩)],args := #[] }] .returning (w4.setCell ⟨w.heap.size,0,none⟩ (.string r)) := by
 have Dj := World.cell?_setCell_same w4 ⟨w.heap.size,0,none⟩ (.string r) hc
 refine leaves_cons (f := 112) (args := #[.pointer (some ⟨w.heap.size,0,none⟩)]) (by simp) (by simp [go_sem]) ?_
 refine (Re _ r _ Dj hr).mono ?_
 rintro e u' w'' ⟨rfl,rfl,hw⟩
 simp only [Leaves,settle]
 subst hw
 refine ⟨.string r,?_,rfl,hB.setCell (Nat.le_refl _) _⟩
 simp [results,Tryz.results111,go_sem,h4,Dj]
theorem Z5 (g : Nat) (a s d : Int) (w : World) (h : DC w g a s d) (ha : a ≤ 32) (hs : s ≤ 32) (hd : d ≤ 32) :
 Calls Tryz.prog 111 #[.string ⟨#[121]⟩,.pointer (some ⟨g,0,none⟩)] w fun e w' => e = .returned (.string ⟨#[121]⟩) ∧ Below w.heap.size w w' := by
 have jO : ∀ (fn : Fn) (first cap : Array Value) (w : World),(Instr.makeFunc fn first cap).run Tryz.prog w = .ok (.func fn first cap) w := fun _ _ _ _ => rfl
 have HV := U.mk (dv (h.up (ab (Below.refl _ _) (.cells #[.string ⟨#[]⟩] 9))) ha hs hd)
 have k0 := heap_alloc_new w (.cells #[.string ⟨#[]⟩] 9)
 have hB := ab (Below.refl w.heap.size w) (.cells #[.string ⟨#[]⟩] 9)
 clear h ha hs hd
 go_enter_defers Tryz.func111,Tryz.ntmps111
 go_wp2_with fail
 generalize w.alloc (.cells #[.string ⟨#[]⟩] 9) = W at *
 refine HV.out.mono ?_
 rintro e1 w2 ⟨rfl,hw⟩
 obtain rfl := hw.symm
 clear hw HV
 go_wp2_with fail
 refine (aq.calls 9 ⟨#[121]⟩ 7 _ (by kernel_rfl)).mono ?_
 rintro e1 w3 ⟨rfl,k1,rfl⟩
 have c0 : (W.drewN k1).cell? ⟨w.heap.size,0,none⟩ = some (.string ⟨#[]⟩) := (cell_of_row W w.heap.size 0 _ 9 (0,0) k0).trans rfl
 have z0 : (W.drewN k1).frozen? ⟨w.heap.size,0,none⟩ = false := frozen_of_row W w.heap.size 0 _ 9 k0
 have eo := ai hB k1
 clear k0 hB
 go_wp2_with fail
 exact fA c0 eo (by decide) _ rfl
theorem ac1 (g : Nat) (a s d : Int) (w : World) (h : DC w g a s d) (ha : a ≤ 32) (hs : s ≤ 32) (hd : d ≤ 32) :
 Calls Tryz.prog 111 #[.string ⟨#[98]⟩,.pointer (some ⟨g,0,none⟩)] w fun e w' => e = .returned (.string ⟨#[98]⟩) ∧ Below w.heap.size w w' := by
 have jO : ∀ (fn : Fn) (first cap : Array Value) (w : World),(Instr.makeFunc fn first cap).run Tryz.prog w = .ok (.func fn first cap) w := fun _ _ _ _ => rfl
 have HV := U.mk (dv (h.up (ab (Below.refl _ _) (.cells #[.string ⟨#[]⟩] 9))) ha hs hd)
 have k0 := heap_alloc_new w (.cells #[.string ⟨#[]⟩] 9)
 have hB := ab (Below.refl w.heap.size w) (.cells #[.string ⟨#[]⟩] 9)
 clear h ha hs hd
 go_enter_defers Tryz.func111,Tryz.ntmps111
 go_wp2_with fail
 generalize w.alloc (.cells #[.string ⟨#[]⟩] 9) = W at *
 refine HV.out.mono ?_
 rintro e1 w2 ⟨rfl,hw⟩
 obtain rfl := hw.symm
 clear hw HV
 go_wp2_with fail
 refine (aq.calls 9 ⟨#[98]⟩ 1 _ (by kernel_rfl)).mono ?_
 rintro e1 w3 ⟨rfl,k1,rfl⟩
 have c0 : (W.drewN k1).cell? ⟨w.heap.size,0,none⟩ = some (.string ⟨#[]⟩) := (cell_of_row W w.heap.size 0 _ 9 (0,0) k0).trans rfl
 have z0 : (W.drewN k1).frozen? ⟨w.heap.size,0,none⟩ = false := frozen_of_row W w.heap.size 0 _ 9 k0
 have eo := ai hB k1
 clear k0 hB
 go_wp2_with fail
 exact fA c0 eo (by decide) _ rfl
theorem aac (g : Nat) (a s d : Int) (w : World) (h : DC w g a s d) (ha : a ≤ 32) (hs : s ≤ 32) (hd : d ≤ 32) :
 Calls Tryz.prog 111 #[.string ⟨#[110]⟩,.pointer (some ⟨g,0,none⟩)] w fun e w' => e = .returned (.string ⟨#[110]⟩) ∧ Below w.heap.size w w' := by
 have jO : ∀ (fn : Fn) (first cap : Array Value) (w : World),(Instr.makeFunc fn first cap).run Tryz.prog w = .ok (.func fn first cap) w := fun _ _ _ _ => rfl
 have HV := U.mk (dv (h.up (ab (Below.refl _ _) (.cells #[.string ⟨#[]⟩] 9))) ha hs hd)
 have k0 := heap_alloc_new w (.cells #[.string ⟨#[]⟩] 9)
 have hB := ab (Below.refl w.heap.size w) (.cells #[.string ⟨#[]⟩] 9)
 clear h ha hs hd
 go_enter_defers Tryz.func111,Tryz.ntmps111
 go_wp2_with fail
 generalize w.alloc (.cells #[.string ⟨#[]⟩] 9) = W at *
 refine HV.out.mono ?_
 rintro e1 w2 ⟨rfl,hw⟩
 obtain rfl := hw.symm
 clear hw HV
 go_wp2_with fail
 refine (aq.calls 9 ⟨#[110]⟩ 3 _ (by kernel_rfl)).mono ?_
 rintro e1 w3 ⟨rfl,k1,rfl⟩
 have c0 : (W.drewN k1).cell? ⟨w.heap.size,0,none⟩ = some (.string ⟨#[]⟩) := (cell_of_row W w.heap.size 0 _ 9 (0,0) k0).trans rfl
 have z0 : (W.drewN k1).frozen? ⟨w.heap.size,0,none⟩ = false := frozen_of_row W w.heap.size 0 _ 9 k0
 have eo := ai hB k1
 clear k0 hB
 go_wp2_with fail
 exact fA c0 eo (by decide) _ rfl
theorem aaa (g : Nat) (a s d : Int) (w : World) (h : DC w g a s d) (ha : a ≤ 32) (hs : s ≤ 32) (hd : d ≤ 32) :
 Calls Tryz.prog 111 #[.string ⟨#[113]⟩,.pointer (some ⟨g,0,none⟩)] w fun e w' => e = .returned (.string ⟨#[113]⟩) ∧ Below w.heap.size w w' := by
 have jO : ∀ (fn : Fn) (first cap : Array Value) (w : World),(Instr.makeFunc fn first cap).run Tryz.prog w = .ok (.func fn first cap) w := fun _ _ _ _ => rfl
 have HV := U.mk (dv (h.up (ab (Below.refl _ _) (.cells #[.string ⟨#[]⟩] 9))) ha hs hd)
 have k0 := heap_alloc_new w (.cells #[.string ⟨#[]⟩] 9)
 have hB := ab (Below.refl w.heap.size w) (.cells #[.string ⟨#[]⟩] 9)
 clear h ha hs hd
 go_enter_defers Tryz.func111,Tryz.ntmps111
 go_wp2_with fail
 generalize w.alloc (.cells #[.string ⟨#[]⟩] 9) = W at *
 refine HV.out.mono ?_
 rintro e1 w2 ⟨rfl,hw⟩
 obtain rfl := hw.symm
 clear hw HV
 go_wp2_with fail
 refine (aq.calls 9 ⟨#[113]⟩ 8 _ (by kernel_rfl)).mono ?_
 rintro e1 w3 ⟨rfl,k1,rfl⟩
 have c0 : (W.drewN k1).cell? ⟨w.heap.size,0,none⟩ = some (.string ⟨#[]⟩) := (cell_of_row W w.heap.size 0 _ 9 (0,0) k0).trans rfl
 have z0 : (W.drewN k1).frozen? ⟨w.heap.size,0,none⟩ = false := frozen_of_row W w.heap.size 0 _ 9 k0
 have eo := ai hB k1
 clear k0 hB
 go_wp2_with fail
 exact fA c0 eo (by decide) _ rfl
theorem aad (g : Nat) (a s d : Int) (w : World) (h : DC w g a s d) (ha : a ≤ 32) (hs : s ≤ 32) (hd : d ≤ 32) :
 Calls Tryz.prog 111 #[.string ⟨#[105]⟩,.pointer (some ⟨g,0,none⟩)] w fun e w' => e = .returned (.string ⟨#[105]⟩) ∧ Below w.heap.size w w' := by
 have jO : ∀ (fn : Fn) (first cap : Array Value) (w : World),(Instr.makeFunc fn first cap).run Tryz.prog w = .ok (.func fn first cap) w := fun _ _ _ _ => rfl
 have HV := U.mk (dv (h.up (ab (Below.refl _ _) (.cells #[.string ⟨#[]⟩] 9))) ha hs hd)
 have k0 := heap_alloc_new w (.cells #[.string ⟨#[]⟩] 9)
 have hB := ab (Below.refl w.heap.size w) (.cells #[.string ⟨#[]⟩] 9)
 clear h ha hs hd
 go_enter_defers Tryz.func111,Tryz.ntmps111
 go_wp2_with fail
 generalize w.alloc (.cells #[.string ⟨#[]⟩] 9) = W at *
 refine HV.out.mono ?_
 rintro e1 w2 ⟨rfl,hw⟩
 obtain rfl := hw.symm
 clear hw HV
 go_wp2_with fail
 refine (aq.calls 9 ⟨#[105]⟩ 4 _ (by kernel_rfl)).mono ?_
 rintro e1 w3 ⟨rfl,k1,rfl⟩
 have c0 : (W.drewN k1).cell? ⟨w.heap.size,0,none⟩ = some (.string ⟨#[]⟩) := (cell_of_row W w.heap.size 0 _ 9 (0,0) k0).trans rfl
 have z0 : (W.drewN k1).frozen? ⟨w.heap.size,0,none⟩ = false := frozen_of_row W w.heap.size 0 _ 9 k0
 have eo := ai hB k1
 clear k0 hB
 go_wp2_with fail
 exact fA c0 eo (by decide) _ rfl
theorem Z8 (g : Nat) (a s d : Int) (w : World) (h : DC w g a s d) (ha : a ≤ 32) (hs : s ≤ 32) (hd : d ≤ 32) :
 Calls Tryz.prog 111 #[.string ⟨#[117]⟩,.pointer (some ⟨g,0,none⟩)] w fun e w' => e = .returned (.string ⟨#[117]⟩) ∧ Below w.heap.size w w' := by
 have jO : ∀ (fn : Fn) (first cap : Array Value) (w : World),(Instr.makeFunc fn first cap).run Tryz.prog w = .ok (.func fn first cap) w := fun _ _ _ _ => rfl
 have HV := U.mk (dv (h.up (ab (Below.refl _ _) (.cells #[.string ⟨#[]⟩] 9))) ha hs hd)
 have k0 := heap_alloc_new w (.cells #[.string ⟨#[]⟩] 9)
 have hB := ab (Below.refl w.heap.size w) (.cells #[.string ⟨#[]⟩] 9)
 clear h ha hs hd
 go_enter_defers Tryz.func111,Tryz.ntmps111
 go_wp2_with fail
 generalize w.alloc (.cells #[.string ⟨#[]⟩] 9) = W at *
 refine HV.out.mono ?_
 rintro e1 w2 ⟨rfl,hw⟩
 obtain rfl := hw.symm
 clear hw HV
 go_wp2_with fail
 refine (aq.calls 9 ⟨#[117]⟩ 9 _ (by kernel_rfl)).mono ?_
 rintro e1 w3 ⟨rfl,k1,rfl⟩
 have c0 : (W.drewN k1).cell? ⟨w.heap.size,0,none⟩ = some (.string ⟨#[]⟩) := (cell_of_row W w.heap.size 0 _ 9 (0,0) k0).trans rfl
 have z0 : (W.drewN k1).frozen? ⟨w.heap.size,0,none⟩ = false := frozen_of_row W w.heap.size 0 _ 9 k0
 have eo := ai hB k1
 clear k0 hB
 go_wp2_with fail
 exact fA c0 eo (by decide) _ rfl
theorem Z6 (g : Nat) (a s d : Int) (w : World) (h : DC w g a s d) (ha : a ≤ 32) (hs : s ≤ 32) (hd : d ≤ 32) :
 Calls Tryz.prog 111 #[.string ⟨#[120]⟩,.pointer (some ⟨g,0,none⟩)] w fun e w' => e = .returned (.string ⟨#[120]⟩) ∧ Below w.heap.size w w' := by
 have jO : ∀ (fn : Fn) (first cap : Array Value) (w : World),(Instr.makeFunc fn first cap).run Tryz.prog w = .ok (.func fn first cap) w := fun _ _ _ _ => rfl
 have HV := U.mk (dv (h.up (ab (Below.refl _ _) (.cells #[.string ⟨#[]⟩] 9))) ha hs hd)
 have k0 := heap_alloc_new w (.cells #[.string ⟨#[]⟩] 9)
 have hB := ab (Below.refl w.heap.size w) (.cells #[.string ⟨#[]⟩] 9)
 clear h ha hs hd
 go_enter_defers Tryz.func111,Tryz.ntmps111
 go_wp2_with fail
 generalize w.alloc (.cells #[.string ⟨#[]⟩] 9) = W at *
 refine HV.out.mono ?_
 rintro e1 w2 ⟨rfl,hw⟩
 obtain rfl := hw.symm
 clear hw HV
 go_wp2_with fail
 refine (aq.calls 9 ⟨#[120]⟩ 5 _ (by kernel_rfl)).mono ?_
 rintro e1 w3 ⟨rfl,k1,rfl⟩
 have c0 : (W.drewN k1).cell? ⟨w.heap.size,0,none⟩ = some (.string ⟨#[]⟩) := (cell_of_row W w.heap.size 0 _ 9 (0,0) k0).trans rfl
 have z0 : (W.drewN k1).frozen? ⟨w.heap.size,0,none⟩ = false := frozen_of_row W w.heap.size 0 _ 9 k0
 have eo := ai hB k1
 clear k0 hB
 go_wp2_with fail
 exact fA c0 eo (by decide) _ rfl
theorem Z9 (g : Nat) (a s d : Int) (w : World) (h : DC w g a s d) (ha : a ≤ 32) (hs : s ≤ 32) (hd : d ≤ 32) :
 Calls Tryz.prog 111 #[.string ⟨#[116]⟩,.pointer (some ⟨g,0,none⟩)] w fun e w' => e = .returned (.string ⟨#[116]⟩) ∧ Below w.heap.size w w' := by
 have jO : ∀ (fn : Fn) (first cap : Array Value) (w : World),(Instr.makeFunc fn first cap).run Tryz.prog w = .ok (.func fn first cap) w := fun _ _ _ _ => rfl
 have HV := U.mk (dv (h.up (ab (Below.refl _ _) (.cells #[.string ⟨#[]⟩] 9))) ha hs hd)
 have k0 := heap_alloc_new w (.cells #[.string ⟨#[]⟩] 9)
 have hB := ab (Below.refl w.heap.size w) (.cells #[.string ⟨#[]⟩] 9)
 clear h ha hs hd
 go_enter_defers Tryz.func111,Tryz.ntmps111
 go_wp2_with fail
 generalize w.alloc (.cells #[.string ⟨#[]⟩] 9) = W at *
 refine HV.out.mono ?_
 rintro e1 w2 ⟨rfl,hw⟩
 obtain rfl := hw.symm
 clear hw HV
 go_wp2_with fail
 refine (aq.calls 9 ⟨#[116]⟩ 10 _ (by kernel_rfl)).mono ?_
 rintro e1 w3 ⟨rfl,k1,rfl⟩
 have c0 : (W.drewN k1).cell? ⟨w.heap.size,0,none⟩ = some (.string ⟨#[]⟩) := (cell_of_row W w.heap.size 0 _ 9 (0,0) k0).trans rfl
 have z0 : (W.drewN k1).frozen? ⟨w.heap.size,0,none⟩ = false := frozen_of_row W w.heap.size 0 _ 9 k0
 have eo := ai hB k1
 clear k0 hB
 go_wp2_with fail
 exact fA c0 eo (by decide) _ rfl
theorem aag (g : Nat) (a s d : Int) (w : World) (h : DC w g a s d) (ha : a ≤ 32) (hs : s ≤ 32) (hd : d ≤ 32) :
 Calls Tryz.prog 111 #[.string ⟨#[100]⟩,.pointer (some ⟨g,0,none⟩)] w fun e w' => e = .returned (.string ⟨#[100]⟩) ∧ Below w.heap.size w w' := by
 have jO : ∀ (fn : Fn) (first cap : Array Value) (w : World),(Instr.makeFunc fn first cap).run Tryz.prog w = .ok (.func fn first cap) w := fun _ _ _ _ => rfl
 have HV := U.mk (dv (h.up (ab (Below.refl _ _) (.cells #[.string ⟨#[]⟩] 9))) ha hs hd)
 have k0 := heap_alloc_new w (.cells #[.string ⟨#[]⟩] 9)
 have hB := ab (Below.refl w.heap.size w) (.cells #[.string ⟨#[]⟩] 9)
 clear h ha hs hd
 go_enter_defers Tryz.func111,Tryz.ntmps111
 go_wp2_with fail
 generalize w.alloc (.cells #[.string ⟨#[]⟩] 9) = W at *
 refine HV.out.mono ?_
 rintro e1 w2 ⟨rfl,hw⟩
 obtain rfl := hw.symm
 clear hw HV
 go_wp2_with fail
 refine (aq.calls 9 ⟨#[100]⟩ 11 _ (by kernel_rfl)).mono ?_
 rintro e1 w3 ⟨rfl,k1,rfl⟩
 have c0 : (W.drewN k1).cell? ⟨w.heap.size,0,none⟩ = some (.string ⟨#[]⟩) := (cell_of_row W w.heap.size 0 _ 9 (0,0) k0).trans rfl
 have z0 : (W.drewN k1).frozen? ⟨w.heap.size,0,none⟩ = false := frozen_of_row W w.heap.size 0 _ 9 k0
 have eo := ai hB k1
 clear k0 hB
 go_wp2_with fail
 exact fA c0 eo (by decide) _ rfl
theorem Z' (g : Nat) (a s d : Int) (w : World) (h : DC w g a s d) (ha : a ≤ 32) (hs : s ≤ 32) (hd : d ≤ 32) :
 Calls Tryz.prog 111 #[.string ⟨#[115]⟩,.pointer (some ⟨g,0,none⟩)] w fun e w' => e = .returned (.string ⟨#[115]⟩) ∧ Below w.heap.size w w' := by
 have jO : ∀ (fn : Fn) (first cap : Array Value) (w : World),(Instr.makeFunc fn first cap).run Tryz.prog w = .ok (.func fn first cap) w := fun _ _ _ _ => rfl
 have HV := U.mk (dv (h.up (ab (Below.refl _ _) (.cells #[.string ⟨#[]⟩] 9))) ha hs hd)
 have k0 := heap_alloc_new w (.cells #[.string ⟨#[]⟩] 9)
 have hB := ab (Below.refl w.heap.size w) (.cells #[.string ⟨#[]⟩] 9)
 clear h ha hs hd
 go_enter_defers Tryz.func111,Tryz.ntmps111
 go_wp2_with fail
 generalize w.alloc (.cells #[.string ⟨#[]⟩] 9) = W at *
 refine HV.out.mono ?_
 rintro e1 w2 ⟨rfl,hw⟩
 obtain rfl := hw.symm
 clear hw HV
 go_wp2_with fail
 refine (aq.calls 9 ⟨#[115]⟩ 17 _ (by kernel_rfl)).mono ?_
 rintro e1 w3 ⟨rfl,k1,rfl⟩
 have c0 : (W.drewN k1).cell? ⟨w.heap.size,0,none⟩ = some (.string ⟨#[]⟩) := (cell_of_row W w.heap.size 0 _ 9 (0,0) k0).trans rfl
 have z0 : (W.drewN k1).frozen? ⟨w.heap.size,0,none⟩ = false := frozen_of_row W w.heap.size 0 _ 9 k0
 have eo := ai hB k1
 clear k0 hB
 go_wp2_with fail
 exact fA c0 eo (by decide) _ rfl
theorem aab (g : Nat) (a s d : Int) (w : World) (h : DC w g a s d) (ha : a ≤ 32) (hs : s ≤ 32) (hd : d ≤ 32) :
 Calls Tryz.prog 111 #[.string ⟨#[111]⟩,.pointer (some ⟨g,0,none⟩)] w fun e w' => e = .returned (.string ⟨#[111]⟩) ∧ Below w.heap.size w w' := by
 have jO : ∀ (fn : Fn) (first cap : Array Value) (w : World),(Instr.makeFunc fn first cap).run Tryz.prog w = .ok (.func fn first cap) w := fun _ _ _ _ => rfl
 have HV := U.mk (dv (h.up (ab (Below.refl _ _) (.cells #[.string ⟨#[]⟩] 9))) ha hs hd)
 have k0 := heap_alloc_new w (.cells #[.string ⟨#[]⟩] 9)
 have hB := ab (Below.refl w.heap.size w) (.cells #[.string ⟨#[]⟩] 9)
 clear h ha hs hd
 go_enter_defers Tryz.func111,Tryz.ntmps111
 go_wp2_with fail
 generalize w.alloc (.cells #[.string ⟨#[]⟩] 9) = W at *
 refine HV.out.mono ?_
 rintro e1 w2 ⟨rfl,hw⟩
 obtain rfl := hw.symm
 clear hw HV
 go_wp2_with fail
 refine (aq.calls 9 ⟨#[111]⟩ 17 _ (by kernel_rfl)).mono ?_
 rintro e1 w3 ⟨rfl,k1,rfl⟩
 have c0 : (W.drewN k1).cell? ⟨w.heap.size,0,none⟩ = some (.string ⟨#[]⟩) := (cell_of_row W w.heap.size 0 _ 9 (0,0) k0).trans rfl
 have z0 : (W.drewN k1).frozen? ⟨w.heap.size,0,none⟩ = false := frozen_of_row W w.heap.size 0 _ 9 k0
 have eo := ai hB k1
 clear k0 hB
 go_wp2_with fail
 exact fA c0 eo (by decide) _ rfl
theorem aaf (g : Nat) (a s d : Int) (w : World) (h : DC w g a s d) (ha : a ≤ 32) (hs : s ≤ 32) (hd : d ≤ 32) :
 Calls Tryz.prog 111 #[.string ⟨#[103]⟩,.pointer (some ⟨g,0,none⟩)] w fun e w' => e = .returned (.string ⟨#[103]⟩) ∧ Below w.heap.size w w' := by
 have jO : ∀ (fn : Fn) (first cap : Array Value) (w : World),(Instr.makeFunc fn first cap).run Tryz.prog w = .ok (.func fn first cap) w := fun _ _ _ _ => rfl
 have HV := U.mk (dv (h.up (ab (Below.refl _ _) (.cells #[.string ⟨#[]⟩] 9))) ha hs hd)
 have k0 := heap_alloc_new w (.cells #[.string ⟨#[]⟩] 9)
 have hB := ab (Below.refl w.heap.size w) (.cells #[.string ⟨#[]⟩] 9)
 clear h ha hs hd
 go_enter_defers Tryz.func111,Tryz.ntmps111
 go_wp2_with fail
 generalize w.alloc (.cells #[.string ⟨#[]⟩] 9) = W at *
 refine HV.out.mono ?_
 rintro e1 w2 ⟨rfl,hw⟩
 obtain rfl := hw.symm
 clear hw HV
 go_wp2_with fail
 refine (aq.calls 9 ⟨#[103]⟩ 18 _ (by kernel_rfl)).mono ?_
 rintro e1 w3 ⟨rfl,k1,rfl⟩
 have c0 : (W.drewN k1).cell? ⟨w.heap.size,0,none⟩ = some (.string ⟨#[]⟩) := (cell_of_row W w.heap.size 0 _ 9 (0,0) k0).trans rfl
 have z0 : (W.drewN k1).frozen? ⟨w.heap.size,0,none⟩ = false := frozen_of_row W w.heap.size 0 _ 9 k0
 have eo := ai hB k1
 clear k0 hB
 go_wp2_with fail
 exact fA c0 eo (by decide) _ rfl
theorem aae (g : Nat) (a s d : Int) (w : World) (h : DC w g a s d) (ha : a ≤ 32) (hs : s ≤ 32) (hd : d ≤ 32) :
 Calls Tryz.prog 111 #[.string ⟨#[104]⟩,.pointer (some ⟨g,0,none⟩)] w fun e w' => e = .returned (.string ⟨#[104]⟩) ∧ Below w.heap.size w w' := by
 have jO : ∀ (fn : Fn) (first cap : Array Value) (w : World),(Instr.makeFunc fn first cap).run Tryz.prog w = .ok (.func fn first cap) w := fun _ _ _ _ => rfl
 have HV := U.mk (dv (h.up (ab (Below.refl _ _) (.cells #[.string ⟨#[]⟩] 9))) ha hs hd)
 have k0 := heap_alloc_new w (.cells #[.string ⟨#[]⟩] 9)
 have hB := ab (Below.refl w.heap.size w) (.cells #[.string ⟨#[]⟩] 9)
 clear h ha hs hd
 go_enter_defers Tryz.func111,Tryz.ntmps111
 go_wp2_with fail
 generalize w.alloc (.cells #[.string ⟨#[]⟩] 9) = W at *
 refine HV.out.mono ?_
 rintro e1 w2 ⟨rfl,hw⟩
 obtain rfl := hw.symm
 clear hw HV
 go_wp2_with fail
 refine (aq.calls 9 ⟨#[104]⟩ 9 _ (by kernel_rfl)).mono ?_
 rintro e1 w3 ⟨rfl,k1,rfl⟩
 have c0 : (W.drewN k1).cell? ⟨w.heap.size,0,none⟩ = some (.string ⟨#[]⟩) := (cell_of_row W w.heap.size 0 _ 9 (0,0) k0).trans rfl
 have z0 : (W.drewN k1).frozen? ⟨w.heap.size,0,none⟩ = false := frozen_of_row W w.heap.size 0 _ 9 k0
 have eo := ai hB k1
 clear k0 hB
 go_wp2_with fail
 exact fA c0 eo (by decide) _ rfl
theorem Z7 (g : Nat) (a s d : Int) (w : World) (h : DC w g a s d) (ha : a ≤ 32) (hs : s ≤ 32) (hd : d ≤ 32) :
 Calls Tryz.prog 111 #[.string ⟨#[118]⟩,.pointer (some ⟨g,0,none⟩)] w fun e w' => e = .returned (.string ⟨#[118]⟩) ∧ Below w.heap.size w w' := by
 have jO : ∀ (fn : Fn) (first cap : Array Value) (w : World),(Instr.makeFunc fn first cap).run Tryz.prog w = .ok (.func fn first cap) w := fun _ _ _ _ => rfl
 have HV := U.mk (dv (h.up (ab (Below.refl _ _) (.cells #[.string ⟨#[]⟩] 9))) ha hs hd)
 have k0 := heap_alloc_new w (.cells #[.string ⟨#[]⟩] 9)
 have hB := ab (Below.refl w.heap.size w) (.cells #[.string ⟨#[]⟩] 9)
 clear h ha hs hd
 go_enter_defers Tryz.func111,Tryz.ntmps111
 go_wp2_with fail
 generalize w.alloc (.cells #[.string ⟨#[]⟩] 9) = W at *
 refine HV.out.mono ?_
 rintro e1 w2 ⟨rfl,hw⟩
 obtain rfl := hw.symm
 clear hw HV
 go_wp2_with fail
 refine (aq.calls 9 ⟨#[118]⟩ 18 _ (by kernel_rfl)).mono ?_
 rintro e1 w3 ⟨rfl,k1,rfl⟩
 have c0 : (W.drewN k1).cell? ⟨w.heap.size,0,none⟩ = some (.string ⟨#[]⟩) := (cell_of_row W w.heap.size 0 _ 9 (0,0) k0).trans rfl
 have z0 : (W.drewN k1).frozen? ⟨w.heap.size,0,none⟩ = false := frozen_of_row W w.heap.size 0 _ 9 k0
 have eo := ai hB k1
 clear k0 hB
 go_wp2_with fail
 exact fA c0 eo (by decide) _ rfl
open Go.Proofs.YtkdebhgccpfkiaaGreatDoor.fD Go.Proofs.YtkdebhgccpfkiaaGreatDoor.fO Go.Proofs.YtkdebhgccpfkiaaGreatDoor.gw
def Bs (l : List UInt8) : ByteArray := ⟨l.toArray⟩
theorem fH (l : List UInt8) : bl (Bs l) = l := by simp [bl,Bs]
theorem aZ (l : List UInt8) : (Bs l).size = l.length := by simp [Bs,ByteArray.size]
theorem fc (x y : List UInt8) : Bs x ++ Bs y = Bs (x ++ y) := gQ (by rw [dg,fH,fH,fH])
theorem ld (l : List UInt8) (i j : Nat) : (Bs l).extract i j = Bs ((l.drop i).take (j - i)) := gQ (by rw [fb,fH,fH])
theorem jm (l : List UInt8) (i : Nat) : (Bs l).extract i (Bs l).size = Bs (l.drop i) := by
 rw [ld,aZ,List.take_of_length_le (by rw [List.length_drop]; omega)]
theorem MF (l : List UInt8) (i : Nat) : bt (Bs l) (i : Int) = ((l.getD i 0).toNat : Int) := by rw [lO,fH]
theorem J5 (c : UInt8) (r : List UInt8) : bt (Bs (c :: r)) 0 = (c.toNat : Int) := by
 have h := MF (c :: r) 0
 simpa using h
theorem ij (c : UInt8) (r : List UInt8) (k : Int) (h : aq.f 9 (Bs [c]) = some k) : aq.f 9 (Bs (c :: r)) = some k := by
 have n1 : ∀ r : List UInt8,¬ (Bs (c :: r)).toList = ([] : List UInt8) := fun r e => by have := (ji _).1 e; rw [aZ] at this; simp at this
 have p1 : ∀ r : List UInt8,(0 : Int) < ((Bs (c :: r)).size : Int) := fun r => by rw [aZ]; simp only [List.length_cons]; omega
 unfold aq.f at h ⊢
 rw [if_neg (n1 _),if_pos (p1 _)] at h ⊢
 rw [J5] at h ⊢
 exact h
theorem JH (y : List UInt8) : b8.f 9 (Bs (91 :: y)) = some (Bs y) := by
 unfold b8.f
 rw [ij 91 y 16 (by kernel_rfl)]
 simp only [Option.bind_some]
 rw [if_neg (by decide),if_pos (by rw [aZ]; simp only [List.length_cons]; omega),jm]
 rfl
theorem GJ (c : UInt8) (y : List UInt8) : b8.f 9 (Bs (123 :: c :: y)) = some (Bs y) := by
 unfold b8.f
 rw [ij 123 (c :: y) 14 (by kernel_rfl)]
 simp only [Option.bind_some]
 rw [if_pos (by decide),if_pos (by rw [aZ]; simp only [List.length_cons]; omega),jm]
 rfl
theorem Dz (c : UInt8) (y : List UInt8) : du.f (Bs (123 :: c :: y)) = some (Bs [c]) := by
 unfold du.f
 rw [if_pos (by decide),if_pos (by rw [aZ]; simp only [List.length_cons]; omega),ld]
 rfl
theorem enA {a s d : Int} (ha : 0 ≤ a) (ha2 : a ≤ 40) (W : World) : Calls Tryz.prog 94 #[.agg #[.int .i64 a,.int .i64 s,.int .i64 d]] W fun e w' => e = .returned (.pointer (some ⟨W.heap.size,0,none⟩)) ∧ W.alloc (.cells #[.int .i64 (a + 1),.int .i64 s,.int .i64 d] 95) = w' := by
 have h := aj.BJ a s d W
 rwa [show wrap64 (a + 1) = a + 1 from fK (by omega) (by omega)] at h
theorem enD {a s d : Int} (ha : 0 ≤ d) (ha2 : d ≤ 40) (W : World) : Calls Tryz.prog 95 #[.agg #[.int .i64 a,.int .i64 s,.int .i64 d]] W fun e w' => e = .returned (.pointer (some ⟨W.heap.size,0,none⟩)) ∧ W.alloc (.cells #[.int .i64 a,.int .i64 s,.int .i64 (d + 1)] 95) = w' := by
 have h := aj.JG a s d W
 rwa [show wrap64 (d + 1) = d + 1 from fK (by omega) (by omega)] at h
theorem enS {a s d : Int} (ha : 0 ≤ s) (ha2 : s ≤ 40) (W : World) : Calls Tryz.prog 96 #[.agg #[.int .i64 a,.int .i64 s,.int .i64 d]] W fun e w' => e = .returned (.pointer (some ⟨W.heap.size,0,none⟩)) ∧ W.alloc (.cells #[.int .i64 a,.int .i64 (s + 1),.int .i64 d] 95) = w' := by
 have h := aj.O0 a s d W
 rwa [show wrap64 (s + 1) = s + 1 from fK (by omega) (by omega)] at h
theorem Bi (V : World) (a s d : Int) (k : Nat) : ((V.drewN k).alloc (.cells #[.int .i64 a,.int .i64 s,.int .i64 d] 95)).cell? ⟨V.heap.size,0,none⟩ = some (.int .i64 a) ∧ ((V.drewN k).alloc (.cells #[.int .i64 a,.int .i64 s,.int .i64 d] 95)).cell? ⟨V.heap.size,1,none⟩ = some (.int .i64 s) ∧ ((V.drewN k).alloc (.cells #[.int .i64 a,.int .i64 s,.int .i64 d] 95)).cell? ⟨V.heap.size,2,none⟩ = some (.int .i64 d) := by
 have h : ((V.drewN k).alloc (.cells #[.int .i64 a,.int .i64 s,.int .i64 d] 95)).heap[V.heap.size]? = some (.cells #[.int .i64 a,.int .i64 s,.int .i64 d] 95 (0,0)) := heap_alloc_new (V.drewN k) _
 exact ⟨(cell_of_row _ _ 0 _ 95 (0,0) h).trans rfl,(cell_of_row _ _ 1 _ 95 (0,0) h).trans rfl,(cell_of_row _ _ 2 _ 95 (0,0) h).trans rfl⟩
theorem Lm (V : World) (o : Obj) (a s d : Int) (k : Nat) : DC (((V.drewN k).alloc o).alloc (.cells #[.int .i64 a,.int .i64 s,.int .i64 d] 95)) (V.heap.size + 1) a s d := by
 have h := heap_alloc_new ((V.drewN k).alloc o) (.cells #[.int .i64 a,.int .i64 s,.int .i64 d] 95)
 rw [World.size_alloc] at h
 exact ⟨(cell_of_row _ _ 0 _ 95 (0,0) h).trans rfl,(cell_of_row _ _ 1 _ 95 (0,0) h).trans rfl,(cell_of_row _ _ 2 _ 95 (0,0) h).trans rfl⟩
def GS (l t : List UInt8) (a s d : Int) : Prop := ∀ g w,DC w g a s d → Calls Tryz.prog 111 #[.string (Bs t),.pointer (some ⟨g,0,none⟩)] w fun e w' => e = .returned (.string (Bs l)) ∧ Below w.heap.size w w'
theorem Z4 (x y : List UInt8) (a s d : Int) (ha0 : 0 ≤ a) (lA : 0 ≤ s) (cm : 0 ≤ d) (ha : a ≤ 32) (hs : s ≤ 32) (hd : d ≤ 32) (hl : x.length + 1 ≤ 255) (ih : GS x y (a + 1) s d) : GS (97 :: x) (91 :: y) a s d := by
 intro g w h
 have jO : ∀ (fn : Fn) (first cap : Array Value) (w : World),(Instr.makeFunc fn first cap).run Tryz.prog w = .ok (.func fn first cap) w := fun _ _ _ _ => rfl
 have yQ : (⟨#[97]⟩ : ByteArray) ++ Bs x = Bs (97 :: x) := fc [97] x
 have ahY : (9223372036854775807 < 1 + (Bs x).size) = False := eq_false (by rw [aZ]; omega)
 have hu := Tryz.underlying95
 have IH := U.mk ih
 have HV := U.mk (dv (h.up (ab (Below.refl _ _) (.cells #[.string ⟨#[]⟩] 9))) ha hs hd)
 have hg := h.lt
 have HD := U.mk (h.up (ab (Below.refl _ _) (.cells #[.string ⟨#[]⟩] 9)))
 have k0 := heap_alloc_new w (.cells #[.string ⟨#[]⟩] 9)
 have hB := ab (Below.refl w.heap.size w) (.cells #[.string ⟨#[]⟩] 9)
 clear h hs ih
 go_enter_defers Tryz.func111,Tryz.ntmps111
 go_wp2_with fail
 generalize w.alloc (.cells #[.string ⟨#[]⟩] 9) = W at *
 refine HV.out.mono ?_
 rintro e1 w2 ⟨rfl,hw⟩
 obtain rfl := hw.symm
 clear hw HV
 go_wp2_with fail
 refine (aq.calls 9 _ 16 _ (ij 91 y 16 (by kernel_rfl))).mono ?_
 rintro e1 w3 ⟨rfl,k1,rfl⟩
 have c0 : (W.drewN k1).cell? ⟨w.heap.size,0,none⟩ = some (.string ⟨#[]⟩) := (cell_of_row W w.heap.size 0 _ 9 (0,0) k0).trans rfl
 have z0 : (W.drewN k1).frozen? ⟨w.heap.size,0,none⟩ = false := frozen_of_row W w.heap.size 0 _ 9 k0
 have eo := ai hB k1
 have vK : U (DC (W.drewN k1) g a s d) := ⟨HD.out⟩
 have K0 : U ((W.drewN k1).heap[w.heap.size]? = some (.cells #[.string ⟨#[]⟩] 9 (0,0))) := ⟨k0⟩
 have cO := U.mk eo
 generalize W.drewN k1 = V at *
 clear k0 hB HD eo
 go_wp2_with fail
 have c0d := fun k => (show (V.drewN k).cell? ⟨w.heap.size,0,none⟩ = some (.string ⟨#[]⟩) from c0)
 go_region_held3 (fun w' => w'.cell? ⟨g,0,none⟩ = some (.int .i64 a) ∧ w'.cell? ⟨g,1,none⟩ = some (.int .i64 s) ∧ w'.cell? ⟨g,2,none⟩ = some (.int .i64 d)) (first | exact kk.out | exact ⟨vK.out.c0,vK.out.c1,vK.out.c2⟩ | go_keep | exact ⟨(World.cell?_setCell_other _ _ _ _ (by intro e; injection e with e; omega)).trans kk.out.1,(World.cell?_setCell_other _ _ _ _ (by intro e; injection e with e; omega)).trans kk.out.2.1,(World.cell?_setCell_other _ _ _ _ (by intro e; injection e with e; omega)).trans kk.out.2.2⟩)
  (first
    | (go_at_call 74; refine (b8.calls 9 _ (Bs y) _ (JH y)).mono ?_; rintro e w2 ⟨rfl,k2,rfl⟩)
    | (go_at_call 94; refine (enA ha0 (by omega) _).mono ?_; rintro e w' ⟨rfl,rfl⟩)
    | (go_at_call 111; refine (IH.out _ _ (by refine ⟨?_,?_,?_⟩ <;> simp [Bi])).mono ?_; rintro e w' ⟨rfl,hb⟩;
        have jA := aw (w := V) (by repeat (first | exact Below.refl _ _ | apply ab | apply ai)) hb;
        have kd := vK.out.up jA; have kk := U.mk (And.intro kd.c0 (And.intro kd.c1 kd.c2)); have k4 := aQ jA K0.out;
        have c4 := (cell_of_row w' w.heap.size 0 _ 9 (0,0) k4).trans rfl; have z4 := frozen_of_row w' w.heap.size 0 _ 9 k4; have gy := U.mk (aw cO.out jA); clear hb jA kd k4))
 go_wp2_with fail
 exact fA c4 gy.out (by rw [aZ]; simpa using hl) _ rfl
theorem UQ : ∀ n : Fin 256,fJ (UInt8.ofNat n.val) = true → dm.f 9 (Bs [UInt8.ofNat n.val]) = some true := by decide +kernel
theorem NL (c : UInt8) (h : fJ c = true) : dm.f 9 (Bs [c]) = some true := by
 have := UQ ⟨c.toNat,c.toNat_lt⟩
 simp only [UInt8.ofNat_toNat] at this
 exact this h
theorem U2 (c : UInt8) (hc : fJ c = true) (x y : List UInt8) (a s d : Int) (ha0 : 0 ≤ a) (lA : 0 ≤ s) (cm : 0 ≤ d) (ha : a ≤ 32) (hs : s ≤ 32) (hd : d ≤ 32) (hl : x.length + 4 ≤ 255) (ihk : GS [c] [c] (a + 1) s (d + 1)) (ih : GS x y (a + 1) s (d + 1)) : GS (97 :: 123 :: c :: (x ++ [125])) (123 :: c :: y) a s d := by
 intro g w h
 have jO : ∀ (fn : Fn) (first cap : Array Value) (w : World),(Instr.makeFunc fn first cap).run Tryz.prog w = .ok (.func fn first cap) w := fun _ _ _ _ => rfl
 have yQ : (⟨#[97,123]⟩ : ByteArray) ++ Bs [c] = Bs [97,123,c] := fc [97,123] [c]
 have acY : Bs [97,123,c] ++ Bs x = Bs (97 :: 123 :: c :: x) := fc [97,123,c] x
 have ahp : Bs (97 :: 123 :: c :: x) ++ (⟨#[125]⟩ : ByteArray) = Bs (97 :: 123 :: c :: (x ++ [125])) := fc (97 :: 123 :: c :: x) [125]
 have aeQ : (9223372036854775807 < 2 + (Bs [c]).size) = False := eq_false (by rw [aZ]; simp)
 have aeP : (9223372036854775807 < (Bs [97,123,c]).size + (Bs x).size) = False := eq_false (by rw [aZ,aZ]; simp only [List.length_cons,List.length_nil]; omega)
 have ah2 : (9223372036854775807 < (Bs (97 :: 123 :: c :: x)).size + 1) = False := eq_false (by rw [aZ]; simp only [List.length_cons]; omega)
 have hu := Tryz.underlying95
 have HKT := U.mk (NL c hc)
 have IH := U.mk ih
 have IHK := U.mk ihk
 have HV := U.mk (dv (h.up (ab (Below.refl _ _) (.cells #[.string ⟨#[]⟩] 9))) ha hs hd)
 have hg := h.lt
 have HD := U.mk (h.up (ab (Below.refl _ _) (.cells #[.string ⟨#[]⟩] 9)))
 have k0 := heap_alloc_new w (.cells #[.string ⟨#[]⟩] 9)
 have hB := ab (Below.refl w.heap.size w) (.cells #[.string ⟨#[]⟩] 9)
 clear h hs ih ihk hc
 go_enter_defers Tryz.func111,Tryz.ntmps111
 go_wp2_with fail
 generalize w.alloc (.cells #[.string ⟨#[]⟩] 9) = W at *
 refine HV.out.mono ?_
 rintro e1 w2 ⟨rfl,hw⟩
 obtain rfl := hw.symm
 clear hw HV
 go_wp2_with fail
 refine (aq.calls 9 _ 14 _ (ij 123 (c :: y) 14 (by kernel_rfl))).mono ?_
 rintro e1 w3 ⟨rfl,k1,rfl⟩
 replace HD : U (DC (W.drewN k1) g a s d) := ⟨HD.out⟩
 replace k0 : (W.drewN k1).heap[w.heap.size]? = some (.cells #[.string ⟨#[]⟩] 9 (0,0)) := k0
 replace hB := ai hB k1
 generalize W.drewN k1 = W1 at *
 go_wp2_with fail
 refine (du.calls _ _ _ (Dz c y)).mono ?_
 rintro e1 w3 ⟨rfl,k2,rfl⟩
 replace HD : U (DC (W1.drewN k2) g a s d) := ⟨HD.out⟩
 replace k0 : (W1.drewN k2).heap[w.heap.size]? = some (.cells #[.string ⟨#[]⟩] 9 (0,0)) := k0
 replace hB := ai hB k2
 generalize W1.drewN k2 = W2 at *
 go_wp2_with fail
 refine (dm.calls 9 _ true _ HKT.out).mono ?_
 rintro e1 w3 ⟨rfl,k3,rfl⟩
 replace HD : U (DC (W2.drewN k3) g a s d) := ⟨HD.out⟩
 replace k0 : (W2.drewN k3).heap[w.heap.size]? = some (.cells #[.string ⟨#[]⟩] 9 (0,0)) := k0
 have eo := ai hB k3
 generalize W2.drewN k3 = V at *
 have vK := HD
 have K0 := U.mk k0
 have cO := U.mk eo
 clear k0 hB HD eo
 have q0 := vK.out.c0
 have q1 := vK.out.c1
 have q2 := vK.out.c2
 have hgV := vK.out.lt
 have n0 := fun k => (Bi V (a + 1) s d k).1
 have n1 := fun k => (Bi V (a + 1) s d k).2.1
 have n2 := fun k => (Bi V (a + 1) s d k).2.2
 go_wp2_with fail
 refine wp_region_noPanic ?_
 refine wp_region_held_drew (S := (fun w' => w'.cell? ⟨g,0,none⟩ = some (.int .i64 a) ∧ w'.cell? ⟨g,1,none⟩ = some (.int .i64 s) ∧ w'.cell? ⟨g,2,none⟩ = some (.int .i64 d))) (by kernel_rfl) ?_ (fun hHeld => ?_)
 · exact ⟨q0,q1,q2⟩
 refine wpAnyH_take (i := 0) (v := ?_) rfl (by kernel_rfl) (by kernel_rfl) (by kernel_rfl) (fun _ _ _ h => h) (Or.inl ⟨by rfl,?_⟩) (by assumption) ?_
 rotate_left
 · intro w hSw
   try dsimp only at hSw
   go_simp <;> with_reducible rfl
 try simp only [Act.put,List.setIfInBounds_toArray,List.set_cons_zero,List.set_cons_succ]
 refine wpAnyH_take (i := 2) (v := ?_) rfl (by kernel_rfl) (by kernel_rfl) (by kernel_rfl) (fun _ _ _ h => h) (Or.inl ⟨by rfl,?_⟩) (by assumption) ?_
 rotate_left
 · intro w hSw
   try dsimp only at hSw
   go_simp <;> with_reducible rfl
 try simp only [Act.put,List.setIfInBounds_toArray,List.set_cons_zero,List.set_cons_succ]
 refine wpAnyH_take (i := 3) (v := ?_) rfl (by kernel_rfl) (by kernel_rfl) (by kernel_rfl) (fun _ _ _ h => h) (Or.inl ⟨by rfl,?_⟩) (by assumption) ?_
 rotate_left
 · intro w hSw
   try dsimp only at hSw
   go_simp <;> with_reducible rfl
 try simp only [Act.put,List.setIfInBounds_toArray,List.set_cons_zero,List.set_cons_succ]
 refine wpAnyH_take (i := 4) (v := ?_) rfl (by kernel_rfl) (by kernel_rfl) (by kernel_rfl) (fun _ _ _ h => h) (Or.inl ⟨by rfl,?_⟩) (by assumption) ?_
 rotate_left
 · intro w hSw
   try dsimp only at hSw
   go_simp <;> with_reducible rfl
 try simp only [Act.put,List.setIfInBounds_toArray,List.set_cons_zero,List.set_cons_succ]
 refine wpAnyH_take (i := 11) (v := ?_) rfl (by kernel_rfl) (by kernel_rfl) (by kernel_rfl) (fun _ _ _ h => h) (Or.inl ⟨by rfl,?_⟩) (by assumption) ?_
 rotate_left
 · intro w hSw
   try dsimp only at hSw
   go_simp <;> with_reducible rfl
 try simp only [Act.put,List.setIfInBounds_toArray,List.set_cons_zero,List.set_cons_succ]
 refine wpAnyH_take (i := 13) (v := ?_) rfl (by kernel_rfl) (by kernel_rfl) (by kernel_rfl) (fun _ _ _ h => h) (Or.inl ⟨by rfl,?_⟩) (by assumption) ?_
 rotate_left
 · intro w hSw
   try dsimp only at hSw
   go_simp <;> with_reducible rfl
 try simp only [Act.put,List.setIfInBounds_toArray,List.set_cons_zero,List.set_cons_succ]
 refine wpAnyH_take (i := 14) (v := ?_) rfl (by kernel_rfl) (by kernel_rfl) (by kernel_rfl) (fun _ _ _ h => h) (Or.inl ⟨by rfl,?_⟩) (by assumption) ?_
 rotate_left
 · intro w hSw
   try dsimp only at hSw
   go_simp <;> with_reducible rfl
 try simp only [Act.put,List.setIfInBounds_toArray,List.set_cons_zero,List.set_cons_succ]
 refine wpAnyH_take (i := 15) (v := ?_) rfl (by kernel_rfl) (by kernel_rfl) (by kernel_rfl) (fun _ _ _ h => h) (Or.inl ⟨by rfl,?_⟩) (by assumption) ?_
 rotate_left
 · intro w hSw
   try dsimp only at hSw
   go_simp <;> with_reducible rfl
 try simp only [Act.put,List.setIfInBounds_toArray,List.set_cons_zero,List.set_cons_succ]
 refine wpAnyH_ready (rs := [1]) (by kernel_rfl) (by simp) ?_
 refine AllReadyH.cons rfl (fun K hK => ?_) AllReadyH.nil
 go_simp
 refine (du.calls _ _ _ (Dz c y)).mono ?_
 rintro e w2 ⟨rfl,k4,rfl⟩
 try go_wp2_with fail
 refine hK.out _ _ ?_ (fun hHeld => ?_)
 · first | exact da.out | exact Bn.out | exact ⟨q0,q1,q2⟩ | go_keep | exact ⟨(World.cell?_setCell_other _ _ _ _ (by intro e; injection e with e; omega)).trans da.out.1,(World.cell?_setCell_other _ _ _ _ (by intro e; injection e with e; omega)).trans da.out.2.1,(World.cell?_setCell_other _ _ _ _ (by intro e; injection e with e; omega)).trans da.out.2.2⟩
 clear hK K
 try simp only [Act.put,List.setIfInBounds_toArray,List.set_cons_zero,List.set_cons_succ]
 refine wpAnyH_ready (rs := [5]) (by kernel_rfl) (by simp) ?_
 refine AllReadyH.cons rfl (fun K hK => ?_) AllReadyH.nil
 go_simp
 refine (enA ha0 (by omega) _).mono ?_
 rintro e w2 ⟨rfl,rfl⟩
 try go_wp2_with fail
 refine hK.out _ _ ?_ (fun hHeld => ?_)
 · first | exact da.out | exact Bn.out | exact ⟨q0,q1,q2⟩ | go_keep | exact ⟨(World.cell?_setCell_other _ _ _ _ (by intro e; injection e with e; omega)).trans da.out.1,(World.cell?_setCell_other _ _ _ _ (by intro e; injection e with e; omega)).trans da.out.2.1,(World.cell?_setCell_other _ _ _ _ (by intro e; injection e with e; omega)).trans da.out.2.2⟩
 clear hK K
 try simp only [Act.put,List.setIfInBounds_toArray,List.set_cons_zero,List.set_cons_succ]
 refine wpAnyH_take (i := 6) (v := ?_) rfl (by kernel_rfl) (by kernel_rfl) (by kernel_rfl) (fun _ _ _ h => h) (Or.inl ⟨by rfl,?_⟩) (by assumption) ?_
 rotate_left
 · intro w hSw
   try dsimp only at hSw
   go_simp <;> with_reducible rfl
 try simp only [Act.put,List.setIfInBounds_toArray,List.set_cons_zero,List.set_cons_succ]
 refine wpAnyH_ready (rs := [7]) (by kernel_rfl) (by simp) ?_
 refine AllReadyH.cons rfl (fun K hK => ?_) AllReadyH.nil
 go_simp
 refine hK.out _ _ ?_ (fun hHeld => ?_)
 · first | exact da.out | exact Bn.out | exact ⟨q0,q1,q2⟩ | go_keep | exact ⟨(World.cell?_setCell_other _ _ _ _ (by intro e; injection e with e; omega)).trans da.out.1,(World.cell?_setCell_other _ _ _ _ (by intro e; injection e with e; omega)).trans da.out.2.1,(World.cell?_setCell_other _ _ _ _ (by intro e; injection e with e; omega)).trans da.out.2.2⟩
 clear hK K
 try simp only [Act.put,List.setIfInBounds_toArray,List.set_cons_zero,List.set_cons_succ]
 refine wpAnyH_ready (rs := [8]) (by kernel_rfl) (by simp) ?_
 refine AllReadyH.cons rfl (fun K hK => ?_) AllReadyH.nil
 go_simp
 refine (enD cm (by omega) _).mono ?_
 rintro e w2 ⟨rfl,rfl⟩
 try go_wp2_with fail
 refine hK.out _ _ ?_ (fun hHeld => ?_)
 · first | exact da.out | exact Bn.out | exact ⟨q0,q1,q2⟩ | go_keep | exact ⟨(World.cell?_setCell_other _ _ _ _ (by intro e; injection e with e; omega)).trans da.out.1,(World.cell?_setCell_other _ _ _ _ (by intro e; injection e with e; omega)).trans da.out.2.1,(World.cell?_setCell_other _ _ _ _ (by intro e; injection e with e; omega)).trans da.out.2.2⟩
 clear hK K
 try simp only [Act.put,List.setIfInBounds_toArray,List.set_cons_zero,List.set_cons_succ]
 refine wpAnyH_ready (rs := [9]) (by kernel_rfl) (by simp) ?_
 refine AllReadyH.cons rfl (fun K hK => ?_) AllReadyH.nil
 go_simp
 refine (IHK.out _ _ (Lm _ _ _ _ _ _)).mono ?_
 rintro e w5 ⟨rfl,hb⟩
 have jA := aw (w := V) (by repeat (first | exact Below.refl _ _ | apply ab | apply ai | apply ak)) hb
 have af1 := U.mk jA
 have kd := vK.out.up jA
 have Bn := U.mk (And.intro kd.c0 (And.intro kd.c1 kd.c2))
 have xD := kd.lt
 have p0 := fun k => (Bi w5 (a + 1) s d k).1
 have p1 := fun k => (Bi w5 (a + 1) s d k).2.1
 have p2 := fun k => (Bi w5 (a + 1) s d k).2.2
 clear hb jA kd
 try go_wp2_with fail
 refine hK.out _ _ ?_ (fun hHeld => ?_)
 · first | exact da.out | exact Bn.out | exact ⟨q0,q1,q2⟩ | go_keep | exact ⟨(World.cell?_setCell_other _ _ _ _ (by intro e; injection e with e; omega)).trans da.out.1,(World.cell?_setCell_other _ _ _ _ (by intro e; injection e with e; omega)).trans da.out.2.1,(World.cell?_setCell_other _ _ _ _ (by intro e; injection e with e; omega)).trans da.out.2.2⟩
 clear hK K
 try simp only [Act.put,List.setIfInBounds_toArray,List.set_cons_zero,List.set_cons_succ]
 refine wpAnyH_take (i := 10) (v := ?_) rfl (by kernel_rfl) (by kernel_rfl) (by kernel_rfl) (fun _ _ _ h => h) (Or.inl ⟨by rfl,?_⟩) (by assumption) ?_
 rotate_left
 · intro w hSw
   try dsimp only at hSw
   go_simp <;> with_reducible rfl
 try simp only [Act.put,List.setIfInBounds_toArray,List.set_cons_zero,List.set_cons_succ]
 refine wpAnyH_ready (rs := [12]) (by kernel_rfl) (by simp) ?_
 refine AllReadyH.cons rfl (fun K hK => ?_) AllReadyH.nil
 go_simp
 refine (b8.calls 9 _ (Bs y) _ (GJ c y)).mono ?_
 rintro e w2 ⟨rfl,k5,rfl⟩
 try go_wp2_with fail
 refine hK.out _ _ ?_ (fun hHeld => ?_)
 · first | exact da.out | exact Bn.out | exact ⟨q0,q1,q2⟩ | go_keep | exact ⟨(World.cell?_setCell_other _ _ _ _ (by intro e; injection e with e; omega)).trans da.out.1,(World.cell?_setCell_other _ _ _ _ (by intro e; injection e with e; omega)).trans da.out.2.1,(World.cell?_setCell_other _ _ _ _ (by intro e; injection e with e; omega)).trans da.out.2.2⟩
 clear hK K
 try simp only [Act.put,List.setIfInBounds_toArray,List.set_cons_zero,List.set_cons_succ]
 refine wpAnyH_ready (rs := [16]) (by kernel_rfl) (by simp) ?_
 refine AllReadyH.cons rfl (fun K hK => ?_) AllReadyH.nil
 go_simp
 refine (enA ha0 (by omega) _).mono ?_
 rintro e w2 ⟨rfl,rfl⟩
 try go_wp2_with fail
 refine hK.out _ _ ?_ (fun hHeld => ?_)
 · first | exact da.out | exact Bn.out | exact ⟨q0,q1,q2⟩ | go_keep | exact ⟨(World.cell?_setCell_other _ _ _ _ (by intro e; injection e with e; omega)).trans da.out.1,(World.cell?_setCell_other _ _ _ _ (by intro e; injection e with e; omega)).trans da.out.2.1,(World.cell?_setCell_other _ _ _ _ (by intro e; injection e with e; omega)).trans da.out.2.2⟩
 clear hK K
 try simp only [Act.put,List.setIfInBounds_toArray,List.set_cons_zero,List.set_cons_succ]
 refine wpAnyH_take (i := 17) (v := ?_) rfl (by kernel_rfl) (by kernel_rfl) (by kernel_rfl) (fun _ _ _ h => h) (Or.inl ⟨by rfl,?_⟩) (by assumption) ?_
 rotate_left
 · intro w hSw
   try dsimp only at hSw
   go_simp <;> with_reducible rfl
 try simp only [Act.put,List.setIfInBounds_toArray,List.set_cons_zero,List.set_cons_succ]
 refine wpAnyH_ready (rs := [18]) (by kernel_rfl) (by simp) ?_
 refine AllReadyH.cons rfl (fun K hK => ?_) AllReadyH.nil
 go_simp
 refine hK.out _ _ ?_ (fun hHeld => ?_)
 · first | exact da.out | exact Bn.out | exact ⟨q0,q1,q2⟩ | go_keep | exact ⟨(World.cell?_setCell_other _ _ _ _ (by intro e; injection e with e; omega)).trans da.out.1,(World.cell?_setCell_other _ _ _ _ (by intro e; injection e with e; omega)).trans da.out.2.1,(World.cell?_setCell_other _ _ _ _ (by intro e; injection e with e; omega)).trans da.out.2.2⟩
 clear hK K
 try simp only [Act.put,List.setIfInBounds_toArray,List.set_cons_zero,List.set_cons_succ]
 refine wpAnyH_ready (rs := [19]) (by kernel_rfl) (by simp) ?_
 refine AllReadyH.cons rfl (fun K hK => ?_) AllReadyH.nil
 go_simp
 refine (enD cm (by omega) _).mono ?_
 rintro e w2 ⟨rfl,rfl⟩
 try go_wp2_with fail
 refine hK.out _ _ ?_ (fun hHeld => ?_)
 · first | exact da.out | exact Bn.out | exact ⟨q0,q1,q2⟩ | go_keep | exact ⟨(World.cell?_setCell_other _ _ _ _ (by intro e; injection e with e; omega)).trans da.out.1,(World.cell?_setCell_other _ _ _ _ (by intro e; injection e with e; omega)).trans da.out.2.1,(World.cell?_setCell_other _ _ _ _ (by intro e; injection e with e; omega)).trans da.out.2.2⟩
 clear hK K
 try simp only [Act.put,List.setIfInBounds_toArray,List.set_cons_zero,List.set_cons_succ]
 refine wpAnyH_ready (rs := [20]) (by kernel_rfl) (by simp) ?_
 refine AllReadyH.cons rfl (fun K hK => ?_) AllReadyH.nil
 go_simp
 refine (IH.out _ _ (Lm _ _ _ _ _ _)).mono ?_
 rintro e w6 ⟨rfl,hb⟩
 have jA := aw (w := V) (by repeat (first | exact af1.out | apply ab | apply ai | apply ak)) hb
 have kd := vK.out.up jA
 have da := U.mk (And.intro kd.c0 (And.intro kd.c1 kd.c2))
 have k4 := aQ jA K0.out
 have c4 := (cell_of_row w6 w.heap.size 0 _ 9 (0,0) k4).trans rfl
 have z4 := frozen_of_row w6 w.heap.size 0 _ 9 k4
 have gy := U.mk (aw cO.out jA)
 clear hb jA k4
 try go_wp2_with fail
 refine hK.out _ _ ?_ (fun hHeld => ?_)
 · first | exact da.out | exact Bn.out | exact ⟨q0,q1,q2⟩ | go_keep | exact ⟨(World.cell?_setCell_other _ _ _ _ (by intro e; injection e with e; omega)).trans da.out.1,(World.cell?_setCell_other _ _ _ _ (by intro e; injection e with e; omega)).trans da.out.2.1,(World.cell?_setCell_other _ _ _ _ (by intro e; injection e with e; omega)).trans da.out.2.2⟩
 clear hK K
 try simp only [Act.put,List.setIfInBounds_toArray,List.set_cons_zero,List.set_cons_succ]
 refine wpAnyH_take (i := 21) (v := ?_) rfl (by kernel_rfl) (by kernel_rfl) (by kernel_rfl) (fun _ _ _ h => h) (Or.inl ⟨by rfl,?_⟩) (by assumption) ?_
 rotate_left
 · intro w hSw
   try dsimp only at hSw
   go_simp <;> with_reducible rfl
 try simp only [Act.put,List.setIfInBounds_toArray,List.set_cons_zero,List.set_cons_succ]
 refine wpAnyH_take (i := 22) (v := ?_) rfl (by kernel_rfl) (by kernel_rfl) (by kernel_rfl) (fun _ _ _ h => h) (Or.inl ⟨by rfl,?_⟩) (by assumption) ?_
 rotate_left
 · intro w hSw
   try dsimp only at hSw
   go_simp <;> with_reducible rfl
 try simp only [Act.put,List.setIfInBounds_toArray,List.set_cons_zero,List.set_cons_succ]
 refine wpAnyH_ready (rs := [23]) (by kernel_rfl) (by simp) ?_
 refine AllReadyH.cons rfl (fun K hK => ?_) AllReadyH.nil
 go_simp
 refine hK.out _ _ ?_ (fun hHeld => ?_)
 · first | exact da.out | exact Bn.out | exact ⟨q0,q1,q2⟩ | go_keep | exact ⟨(World.cell?_setCell_other _ _ _ _ (by intro e; injection e with e; omega)).trans da.out.1,(World.cell?_setCell_other _ _ _ _ (by intro e; injection e with e; omega)).trans da.out.2.1,(World.cell?_setCell_other _ _ _ _ (by intro e; injection e with e; omega)).trans da.out.2.2⟩
 clear hK K
 try simp only [Act.put,List.setIfInBounds_toArray,List.set_cons_zero,List.set_cons_succ]
 refine wpAnyH_done (by kernel_rfl) ?_ _
 refine NoPanic.normal ?_
 go_wp2_with fail
 exact fA (r := Bs (97 :: 123 :: c :: (x ++ [125]))) c4 gy.out (by rw [aZ]; simp only [List.length_cons,List.length_append,List.length_nil]; omega) _ rfl
theorem xI (zs : List (List UInt8 × List UInt8)) (i : Nat) (z : List UInt8 × List UInt8) (h : zs[i]? = some z) : (List.take (i + 1) (zs.map Prod.fst)).flatten = (List.take i (zs.map Prod.fst)).flatten ++ z.1 := by
 rw [List.take_add_one,List.getElem?_map,h]
 simp
theorem Lj (zs : List (List UInt8 × List UInt8)) (i : Nat) : (List.take i (zs.map Prod.fst)).flatten.length ≤ (zs.map Prod.fst).flatten.length := by
 conv => rhs; rw [← List.take_append_drop i (zs.map Prod.fst)]
 rw [List.flatten_append,List.length_append]
 omega
theorem aal (a b c : ByteArray) (w : World) : (Instr.field 137 (.agg #[.string a,.string b,.string c]) 0).run Tryz.prog w = .ok (.string a) w := by kernel_rfl
attribute [local go_sem] aal
theorem Ln (V : World) (a s d : Int) (k : Nat) : DC ((V.drewN k).alloc (.cells #[.int .i64 a,.int .i64 s,.int .i64 d] 95)) V.heap.size a s d := Bi V a s d k
theorem Z3 (zs : List (List UInt8 × List UInt8)) (hne : 0 < (zs.map Prod.fst).flatten.length) (t : List UInt8) (hF : ∃ kf,aX.f kf (Bs (40 :: t)) = some (zs.map fun z => Bs z.2)) (a s d : Int) (ha0 : 0 ≤ a) (lA : 0 ≤ s) (cm : 0 ≤ d) (ha : a ≤ 32) (hs : s ≤ 32) (hd : d ≤ 32) (hl : (zs.map Prod.fst).flatten.length + 2 ≤ 255) (hzn : zs.length ≤ 255) (ih : ∀ z ∈ zs,GS z.1 z.2 a (s + 1) d) : GS (40 :: ((zs.map Prod.fst).flatten ++ [41])) (40 :: t) a s d := by
 intro g w h
 obtain ⟨kf,hf⟩ := hF
 have jO : ∀ (fn : Fn) (first cap : Array Value) (w : World),(Instr.makeFunc fn first cap).run Tryz.prog w = .ok (.func fn first cap) w := fun _ _ _ _ => rfl
 have hu := Tryz.underlying95
 have acU := Tryz.underlying137
 have Eo : ((Bs (40 :: t)).toList == ([118] : List UInt8)) = false := by rw [ch,fH]; exact beq_eq_false_iff_ne.mpr (by simp)
 have I6 : ((Bs (40 :: t)).toList == ([103] : List UInt8)) = false := by rw [ch,fH]; exact beq_eq_false_iff_ne.mpr (by simp)
 have HNF : U (cZ.f kf (Bs (40 :: t)) = some (zs.length : Int)) := ⟨by unfold cZ.f; rw [hf]; simp⟩
 have HFD : U (∀ (i : Nat) z,zs[i]? = some z → dh.f kf (Bs (40 :: t)) (i : Int) = some (Bs z.2,⟨#[]⟩,⟨#[]⟩)) := ⟨fun i z hz => by
  have hi := (List.getElem?_eq_some_iff.1 hz).1
  unfold dh.f
  rw [hf]
  simp only [Option.bind_some]
  rw [if_pos (by omega),if_pos (by rw [List.length_map]; omega)]
  unfold gI
  rw [Int.toNat_natCast,List.getD_eq_getElem?_getD,List.getElem?_map,hz]
  rfl⟩
 have IH := U.mk ih
 have HV := U.mk (dv (h.up (ab (Below.refl _ _) (.cells #[.string ⟨#[]⟩] 9))) ha hs hd)
 have hg := h.lt
 have HD := U.mk (h.up (ab (Below.refl _ _) (.cells #[.string ⟨#[]⟩] 9)))
 have k0 := heap_alloc_new w (.cells #[.string ⟨#[]⟩] 9)
 have hB := ab (Below.refl w.heap.size w) (.cells #[.string ⟨#[]⟩] 9)
 clear h ih hf
 go_enter_defers Tryz.func111,Tryz.ntmps111
 go_wp2_with fail
 generalize w.alloc (.cells #[.string ⟨#[]⟩] 9) = W at *
 refine HV.out.mono ?_
 rintro e1 w2 ⟨rfl,hw⟩
 obtain rfl := hw.symm
 clear hw HV
 go_wp2_with fail
 refine (aq.calls 9 _ 18 _ (ij 40 t 18 (by kernel_rfl))).mono ?_
 rintro e1 w3 ⟨rfl,k1,rfl⟩
 have eo := ai hB k1
 have vK : U (DC (W.drewN k1) g a s d) := ⟨HD.out⟩
 have K0 : U ((W.drewN k1).heap[w.heap.size]? = some (.cells #[.string ⟨#[]⟩] 9 (0,0))) := ⟨k0⟩
 have cO := U.mk eo
 generalize W.drewN k1 = V at *
 clear k0 hB HD eo
 go_wp2_with fail
 go_loopg [5,6] zs.length (fun kq v5 v6 wr => ∃ (i : Nat),v5 = .string (Bs (List.take i (zs.map Prod.fst)).flatten) ∧ v6 = .int .i64 (i : Int) ∧ i ≤ zs.length ∧ U (kq = zs.length - i ∧ Below V.heap.size V wr))
 case atStart => exact ⟨0,by first | rfl | simp,rfl,by omega,⟨rfl,Below.refl _ _⟩⟩
 case round=>
  obtain ⟨i,rfl,rfl,hi,HI⟩ := hrel
  have fP := U.mk HI.out.1
  go_wp2_with fail
  refine (cZ.calls kf _ _ _ HNF.out).mono ?_
  rintro e1 w4 ⟨rfl,zL⟩
  have Uo := U.mk (aw HI.out.2 zL)
  clear zL
  by_cases hlt : i < zs.length
  · have Jq : decide ((i : Int) < (zs.length : Int)) = true := by simpa using hlt
    have iI : IntKind.i64.wrap ((i : Int) + 1) = ((i + 1 : Nat) : Int) := by rw [IntKind.wrap_i64]; omega
    obtain ⟨z,hz⟩ : ∃ z,zs[i]? = some z := ⟨zs[i],List.getElem?_eq_getElem hlt⟩
    have HZ := U.mk hz
    have Ur := U.mk (HFD.out i z hz)
    have HIz := U.mk (IH.out z (List.mem_of_getElem? hz))
    have yQ : Bs (List.take i (zs.map Prod.fst)).flatten ++ Bs z.1 = Bs (List.take (i + 1) (zs.map Prod.fst)).flatten := by rw [fc,xI zs i z hz]
    have cN : (9223372036854775807 < (Bs (List.take i (zs.map Prod.fst)).flatten).size + (Bs z.1).size) = False := eq_false (by
     have h1 := Lj zs (i + 1)
     rw [xI zs i z hz,List.length_append] at h1
     rw [aZ,aZ]; omega)
    clear hz
    go_wp2_with fail
    refine (dh.calls kf _ _ _ _ _ _ Ur.out).mono ?_
    rintro e1 w5 ⟨rfl,hb5⟩
    have HI5 := U.mk (aw Uo.out hb5)
    clear hb5
    go_wp2_with fail
    refine (jj.calls _ _ ⟨#[]⟩ _ rfl).mono ?_
    rintro e1 w6 ⟨rfl,k6,rfl⟩
    have HI6 : U (Below V.heap.size V ((w5.alloc (.cells #[.string (Bs z.2),.string ⟨#[]⟩,.string ⟨#[]⟩] 137)).drewN k6)) := ⟨ai (ab HI5.out _) _⟩
    generalize (w5.alloc (.cells #[.string (Bs z.2),.string ⟨#[]⟩,.string ⟨#[]⟩] 137)).drewN k6 = V6 at *
    clear HI5 Uo HI
    have q := vK.out.up HI6.out
    have q0 := q.c0
    have q1 := q.c1
    have q2 := q.c2
    clear q
    go_wp2_with fail
    go_region_held3 (fun w' => w'.cell? ⟨g,0,none⟩ = some (.int .i64 a) ∧ w'.cell? ⟨g,1,none⟩ = some (.int .i64 s) ∧ w'.cell? ⟨g,2,none⟩ = some (.int .i64 d)) (first | exact Bm.out | exact xt.out | exact ⟨q0,q1,q2⟩ | go_keep)
     (first
       | (go_at_call 81; refine (dh.calls kf _ _ _ _ _ _ Ur.out).mono ?_; rintro e w7 ⟨rfl,hb⟩;
           have jA := aw HI6.out (by first | exact hb | exact (ak (Below.refl _ _)).trans hb); have HI7 := U.mk jA; have kd := vK.out.up jA; have xt := U.mk (And.intro kd.c0 (And.intro kd.c1 kd.c2)); clear hb jA kd)
       | (go_at_call 96; refine (enS lA (by omega) _).mono ?_; rintro e w' ⟨rfl,rfl⟩)
       | (go_at_call 111; refine (HIz.out _ _ (by first | exact Ln _ _ _ _ _ | exact Ln _ _ _ _ 0)).mono ?_; rintro e w8 ⟨rfl,hb⟩;
           have jA := aw (w := V) (by repeat (first | exact HI7.out | exact HI6.out | apply ab | apply ai | apply ak)) hb;
           have kd := vK.out.up jA; have Bm := U.mk (And.intro kd.c0 (And.intro kd.c1 kd.c2)); have HI8 := U.mk jA; clear hb jA kd))
    go_wp2_with fail
    go_roundg (zs.length - (i + 1))
    case measure => have := fP.out; omega
    case rel => exact ⟨i + 1,by first | rfl | simp,by first | rfl | simp,by omega,⟨rfl,by first | exact HI8.out | exact ai HI8.out _⟩⟩
  · have Jq : decide ((i : Int) < (zs.length : Int)) = false := by simpa using hlt
    have vz : List.take i (zs.map Prod.fst) = zs.map Prod.fst := List.take_of_length_le (by rw [List.length_map]; omega)
    rw [vz]
    obtain ⟨fl,vA⟩ : ∃ fl,(zs.map Prod.fst).flatten = fl := ⟨_,rfl⟩
    rw [vA] at hne hl ⊢
    have HFL := U.mk vA
    have ah0 : (((Bs fl).size : Int) == 0) = false := beq_eq_false_iff_ne.mpr (by rw [aZ]; omega)
    have ahZ : decide (((Bs fl).size : Int) = 0) = false := decide_eq_false (by rw [aZ]; omega)
    have ahq : (⟨#[40]⟩ : ByteArray) ++ Bs fl = Bs (40 :: fl) := fc [40] fl
    have acY : Bs (40 :: fl) ++ (⟨#[41]⟩ : ByteArray) = Bs (40 :: (fl ++ [41])) := fc (40 :: fl) [41]
    have aeQ : (9223372036854775807 < 1 + (Bs fl).size) = False := eq_false (by rw [aZ]; omega)
    have aeP : (9223372036854775807 < (Bs (40 :: fl)).size + 1) = False := eq_false (by rw [aZ,List.length_cons]; omega)
    have k4 := aQ Uo.out K0.out
    have c4 : w4.cell? ⟨w.heap.size,0,none⟩ = some (.string ⟨#[]⟩) := (cell_of_row w4 w.heap.size 0 _ 9 (0,0) k4).trans rfl
    have z4 := frozen_of_row w4 w.heap.size 0 _ 9 k4
    have gy := U.mk (aw cO.out Uo.out)
    clear k4 vz vA
    go_wp2_with fail
    rw [HFL.out]
    exact fA (r := Bs (40 :: (fl ++ [41]))) c4 gy.out (by rw [aZ]; simp only [List.length_cons,List.length_append,List.length_nil]; omega) _ rfl
theorem Yv : ∀ c : UInt8,cj c = true → c ≠ 91 ∧ c ≠ 123 ∧ c ≠ 40 ∧ c ≠ 41 := by
 intro c h
 have h2 := eQ c h
 refine ⟨?_,h2.2.2.2.2.1,h2.2.2.1,h2.2.2.2.1⟩
 rintro rfl
 exact absurd h (by decide)
theorem jU {c d : UInt8} (h : c ≠ d) : ¬ (c.toNat : Int) = (d.toNat : Int) := fun e => h (UInt8.toNat_inj.mp (by exact_mod_cast e))
theorem adV (c : UInt8) (r : List UInt8) : ¬ (Bs (c :: r)).toList = ([] : List UInt8) := fun e => by have := (ji _).1 e; rw [aZ] at this; simp at this
theorem ab8 (c : UInt8) (r : List UInt8) : (0 : Int) < ((Bs (c :: r)).size : Int) := by rw [aZ]; simp only [List.length_cons]; omega
theorem Ab (k : Nat) (c : UInt8) (r : List UInt8) : bp.f (k + 1) (Bs (c :: r)) = if (c.toNat : Int) = 91 then (if 1 ≤ ((Bs (c :: r)).size : Int) then ((bp.f k (Bs r)).bind fun t164 => (some (wrap64 (1 + t164)))) else (none)) else (if (c.toNat : Int) = 123 then (if 2 ≤ ((Bs (c :: r)).size : Int) then ((bp.f k (Bs (r.drop 1))).bind fun t165 => (some (wrap64 (2 + t165)))) else (none)) else (if (c.toNat : Int) = 40 then (bp.l0 k (Bs (c :: r)) 1) else (some 1))) := by
 have e1 : (Bs (c :: r)).extract 1 (Bs (c :: r)).size = Bs r := by rw [jm]; rfl
 have e2 : (Bs (c :: r)).extract 2 (Bs (c :: r)).size = Bs (r.drop 1) := by rw [jm]; rfl
 conv => lhs; unfold bp.f
 rw [if_neg (adV c r),if_pos (ab8 c r),J5,e1,e2]
theorem EL (p : List UInt8) (c : UInt8) (r : List UInt8) : bt (Bs (p ++ c :: r)) ((p.length : Nat) : Int) = (c.toNat : Int) := by
 rw [MF]; simp [List.getD_eq_getElem?_getD]
theorem Lo (p r : List UInt8) : (Bs (p ++ r)).extract p.length (Bs (p ++ r)).size = Bs r := by
 rw [jm,List.drop_left]
theorem O7 (p x r : List UInt8) : (Bs (p ++ (x ++ r))).extract p.length (p.length + x.length) = Bs x := by
 rw [ld,List.drop_left]; simp
theorem adZ {A B E : Int} {l t : List UInt8} (z : Z A B E l t) : ∀ rest : List UInt8,(t ++ rest).length ≤ 1000000 → Ev (fun k => bp.f k (Bs (t ++ rest))) (t.length : Int) := by
 refine Z.ind (P := fun A B E l t => ∀ rest : List UInt8,(t ++ rest).length ≤ 1000000 → Ev (fun k => bp.f k (Bs (t ++ rest))) (t.length : Int)) ?_ ?_ ?_ ?_ z
 · intro A B E c _ _ _ hc rest hr
   obtain ⟨h1,h2,h3,_⟩ := Yv c hc
   refine Ev.step (fun k => Ab k c rest) ?_
   exact aV (jU h1) (fun _ => rfl) (aV (jU h2) (fun _ => rfl) (aV (jU h3) (fun _ => rfl) (Ev.now _)))
 · intro A B E x y _ _ _ hz ih rest hr
   have jW : (y ++ rest).length ≤ 1000000 := by simp only [List.cons_append,List.length_cons] at hr; omega
   refine Ev.step (fun k => Ab k 91 (y ++ rest)) (aE rfl (fun _ => rfl) (aE (by rw [aZ]; simp only [List.length_cons]; omega) (fun _ => rfl) (Ev.bind (ih rest jW) ?_)))
   have hw : wrap64 (1 + (y.length : Int)) = (((91 :: y).length : Nat) : Int) := by rw [fK (by omega) (by simp only [List.length_append] at jW; omega),List.length_cons]; omega
   rw [hw]
   exact Ev.now _
 · intro A B E c x y _ _ _ hc hz ih rest hr
   have jW : (y ++ rest).length ≤ 1000000 := by simp only [List.cons_append,List.length_cons] at hr; omega
   refine Ev.step (fun k => Ab k 123 (c :: y ++ rest)) (aV (by decide) (fun _ => rfl) (aE rfl (fun _ => rfl) (aE (by rw [aZ]; simp only [List.length_cons,List.cons_append]; omega) (fun _ => rfl) (Ev.bind (ih rest jW) ?_))))
   have hw : wrap64 (2 + (y.length : Int)) = (((123 :: c :: y).length : Nat) : Int) := by rw [fK (by omega) (by simp only [List.length_append] at jW; omega),List.length_cons,List.length_cons]; omega
   rw [hw]
   exact Ev.now _
 · intro A B E zs _ _ _ hne hz ih rest hr
   have key : ∀ (ws : List (List UInt8 × List UInt8)),(∀ w ∈ ws,w ∈ zs) → ∀ pre : List UInt8,(40 :: pre ++ ((ws.map Prod.snd).flatten ++ 41 :: rest)).length ≤ 1000000 →
    Ev (fun k => bp.l0 k (Bs (40 :: pre ++ ((ws.map Prod.snd).flatten ++ 41 :: rest))) (((40 :: pre).length : Nat) : Int)) (((40 :: pre).length + (ws.map Prod.snd).flatten.length + 1 : Nat) : Int) := by
    intro ws
    induction ws with
    | nil=>
      intro _ pre hl
      simp only [List.map_nil,List.flatten_nil,List.nil_append,List.length_nil] at hl ⊢
      have hb := EL (40 :: pre) 41 rest
      have cN : (((40 :: pre).length : Nat) : Int) < ((Bs (40 :: pre ++ 41 :: rest)).size : Int) := by rw [aZ,List.length_append,List.length_cons (a := 41)]; omega
      refine Ev.step (f := fun _ => some (((40 :: pre).length + 0 + 1 : Nat) : Int)) (fun k => ?_) (Ev.now _)
      unfold bp.l0
      rw [if_pos cN,if_pos (by omega),if_pos (by rw [hb]; rfl),fK (by omega) (by rw [List.length_append] at hl; omega)]
      rfl
    | cons w ws NY=>
      intro hm pre hl
      simp only [List.map_cons,List.flatten_cons,List.append_assoc] at hl ⊢
      obtain ⟨c,r,hc,xH⟩ := (hz w (hm w List.mem_cons_self)).head
      have hwl := (hz w (hm w List.mem_cons_self)).len.2
      have hb : bt (Bs (40 :: pre ++ (w.2 ++ ((ws.map Prod.snd).flatten ++ 41 :: rest)))) (((40 :: pre).length : Nat) : Int) = (c.toNat : Int) := by
       rw [hc,List.cons_append]; exact EL _ _ _
      have cN : (((40 :: pre).length : Nat) : Int) < ((Bs (40 :: pre ++ (w.2 ++ ((ws.map Prod.snd).flatten ++ 41 :: rest)))).size : Int) := by rw [aZ,List.length_append,List.length_append]; omega
      have Er : (w.2 ++ ((ws.map Prod.snd).flatten ++ 41 :: rest)).length ≤ 1000000 := by rw [List.length_append] at hl; omega
      have h2 := NY (fun q hq => hm q (List.mem_cons_of_mem _ hq)) (pre ++ w.2) (by simpa [List.append_assoc] using hl)
      have e2 : 40 :: (pre ++ w.2) ++ ((ws.map Prod.snd).flatten ++ 41 :: rest) = 40 :: pre ++ (w.2 ++ ((ws.map Prod.snd).flatten ++ 41 :: rest)) := by simp
      rw [e2] at h2
      have hw : wrap64 ((((40 :: pre).length : Nat) : Int) + (w.2.length : Int)) = (((40 :: (pre ++ w.2)).length : Nat) : Int) := by
       rw [fK (by omega) (by rw [List.length_append,List.length_append] at hl; omega),List.length_cons,List.length_cons,List.length_append]; omega
      have st : ∀ k,bp.l0 (k + 1) (Bs (40 :: pre ++ (w.2 ++ ((ws.map Prod.snd).flatten ++ 41 :: rest)))) (((40 :: pre).length : Nat) : Int) = (bp.f k (Bs (w.2 ++ ((ws.map Prod.snd).flatten ++ 41 :: rest)))).bind fun t => bp.l0 k (Bs (40 :: pre ++ (w.2 ++ ((ws.map Prod.snd).flatten ++ 41 :: rest)))) (wrap64 ((((40 :: pre).length : Nat) : Int) + t)) := by
       intro k
       conv => lhs; unfold bp.l0
       rw [if_pos cN,if_pos (by omega),if_neg (by rw [hb]; exact jU xH),if_pos (by omega),Int.toNat_natCast,Lo]
      refine Ev.step st (Ev.bind (ih w (hm w List.mem_cons_self) _ Er) ?_)
      rw [hw]
      have e3 : (40 :: (pre ++ w.2)).length + (ws.map Prod.snd).flatten.length + 1 = (40 :: pre).length + (w.2.length + (ws.map Prod.snd).flatten.length) + 1 := by simp only [List.length_cons,List.length_append]; omega
      rw [e3] at h2
      rw [List.length_append]
      exact h2
   have h := key zs (fun _ h => h) [] (by simpa [List.append_assoc] using hr)
   have e : 40 :: ((zs.map Prod.snd).flatten ++ [41]) ++ rest = 40 :: [] ++ ((zs.map Prod.snd).flatten ++ 41 :: rest) := by simp
   rw [e]
   refine Ev.step (fun k => Ab k 40 _) (aV (by decide) (fun _ => rfl) (aV (by decide) (fun _ => rfl) (aE rfl (fun _ => rfl) ?_)))
   have e4 : (40 :: ((zs.map Prod.snd).flatten ++ [41])).length = (40 :: ([] : List UInt8)).length + (zs.map Prod.snd).flatten.length + 1 := by simp only [List.length_cons,List.length_append,List.length_nil]; omega
   rw [e4]
   exact h
theorem L' (X : ByteArray) (acc : List ByteArray) (p n : Nat) (Y : ByteArray) (W : ByteArray) (R : List ByteArray) (cN : (p : Int) < (X.size : Int)) (hp0 : (0 : Int) ≤ (p : Int)) (hc : ¬ bt X (p : Int) = 41) (hcut : X.extract p X.size = Y) (Jo : Ev (fun k => bp.f k Y) (n : Int)) (hw : wrap64 ((p : Int) + (n : Int)) = ((p + n : Nat) : Int)) (hle : ((p + n : Nat) : Int) ≤ (X.size : Int)) (I8 : X.extract p (p + n) = W) (gM : acc.length < 8796093022208)
 (h2 : Ev (fun k => aX.l0 k X (acc ++ [W]) ((p + n : Nat) : Int)) R) : Ev (fun k => aX.l0 k X acc (p : Int)) R := by
 have st : ∀ k,aX.l0 (k + 1) X acc (p : Int) = (bp.f k Y).bind fun t167 => (if (p : Int) ≤ (wrap64 ((p : Int) + t167)) then (if (wrap64 ((p : Int) + t167)) ≤ (X.size : Int) then (if acc.length < 8796093022208 then (aX.l0 k X (acc ++ [X.extract p ((wrap64 ((p : Int) + t167)) : Int).toNat]) (wrap64 ((p : Int) + t167))) else (none)) else (none)) else (none)) := by
  intro k
  conv => lhs; unfold aX.l0
  rw [if_pos cN,if_pos hp0,if_neg hc,if_pos (by omega),Int.toNat_natCast,hcut]
 refine Ev.step st (Ev.bind Jo ?_)
 rw [hw,Int.toNat_natCast,I8]
 exact aE (by omega) (fun _ => rfl) (aE hle (fun _ => rfl) (aE gM (fun _ => rfl) h2))
theorem Kf {A B E : Int} (zs : List (List UInt8 × List UInt8)) (hz : ∀ z ∈ zs,Z A B E z.1 z.2) (hl : (zs.map Prod.snd).flatten.length ≤ 100000) : Ev (fun k => aX.f k (Bs (40 :: ((zs.map Prod.snd).flatten ++ [41])))) (zs.map fun z => Bs z.2) := by
 have key : ∀ (ws : List (List UInt8 × List UInt8)),(∀ w ∈ ws,w ∈ zs) → ∀ (pre : List UInt8) (acc : List ByteArray),(40 :: pre ++ ((ws.map Prod.snd).flatten ++ [41])).length ≤ 200000 → acc.length + ws.length ≤ 200000 →
  Ev (fun k => aX.l0 k (Bs (40 :: pre ++ ((ws.map Prod.snd).flatten ++ [41]))) acc (((40 :: pre).length : Nat) : Int)) (acc ++ ws.map fun z => Bs z.2) := by
  intro ws
  induction ws with
  | nil=>
    intro _ pre acc hl _
    simp only [List.map_nil,List.flatten_nil,List.nil_append,List.append_nil] at hl ⊢
    have hb := EL (40 :: pre) 41 []
    have cN : (((40 :: pre).length : Nat) : Int) < ((Bs (40 :: pre ++ [41])).size : Int) := by rw [aZ,List.length_append,List.length_singleton]; omega
    refine Ev.step (f := fun _ => some acc) (fun k => ?_) (Ev.now _)
    unfold aX.l0
    rw [if_pos cN,if_pos (by omega),if_pos (by rw [hb]; rfl)]
  | cons w ws NY=>
    intro hm pre acc hl ZM
    simp only [List.map_cons,List.flatten_cons,List.append_assoc] at hl ⊢
    obtain ⟨c,r,hc,xH⟩ := (hz w (hm w List.mem_cons_self)).head
    have hwl := (hz w (hm w List.mem_cons_self)).len.2
    have hb : bt (Bs (40 :: pre ++ (w.2 ++ ((ws.map Prod.snd).flatten ++ [41])))) (((40 :: pre).length : Nat) : Int) = (c.toNat : Int) := by
     rw [hc,List.cons_append]; exact EL _ _ _
    have cN : (((40 :: pre).length : Nat) : Int) < ((Bs (40 :: pre ++ (w.2 ++ ((ws.map Prod.snd).flatten ++ [41])))).size : Int) := by rw [aZ,List.length_append,List.length_append]; omega
    have Er : (w.2 ++ ((ws.map Prod.snd).flatten ++ [41])).length ≤ 1000000 := by rw [List.length_append] at hl; omega
    simp only [List.length_cons] at ZM
    have h2 := NY (fun q hq => hm q (List.mem_cons_of_mem _ hq)) (pre ++ w.2) (acc ++ [Bs w.2]) (by simpa [List.append_assoc] using hl) (by simp only [List.length_append,List.length_singleton]; omega)
    have e2 : 40 :: (pre ++ w.2) ++ ((ws.map Prod.snd).flatten ++ [41]) = 40 :: pre ++ (w.2 ++ ((ws.map Prod.snd).flatten ++ [41])) := by simp
    rw [e2] at h2
    have hw : wrap64 ((((40 :: pre).length : Nat) : Int) + (w.2.length : Int)) = (((40 :: pre).length + w.2.length : Nat) : Int) := by
     rw [fK (by omega) (by rw [List.length_append,List.length_append] at hl; omega)]; omega
    have Bq : (40 :: (pre ++ w.2)).length = (40 :: pre).length + w.2.length := by simp only [List.length_cons,List.length_append]; omega
    have hcut : (Bs (40 :: pre ++ (w.2 ++ ((ws.map Prod.snd).flatten ++ [41])))).extract (40 :: pre).length (Bs (40 :: pre ++ (w.2 ++ ((ws.map Prod.snd).flatten ++ [41])))).size = Bs (w.2 ++ ((ws.map Prod.snd).flatten ++ [41])) := Lo _ _
    have I8 : (Bs (40 :: pre ++ (w.2 ++ ((ws.map Prod.snd).flatten ++ [41])))).extract (40 :: pre).length ((40 :: pre).length + w.2.length) = Bs w.2 := O7 _ _ _
    have Jo := adZ (hz w (hm w List.mem_cons_self)) _ Er
    have hle : (((40 :: pre).length + w.2.length : Nat) : Int) ≤ ((Bs (40 :: pre ++ (w.2 ++ ((ws.map Prod.snd).flatten ++ [41])))).size : Int) := by rw [aZ,List.length_append,List.length_append]; omega
    rw [Bq,List.append_assoc,List.singleton_append] at h2
    have gM : acc.length < 8796093022208 := by omega
    exact L' _ acc _ _ _ _ _ cN (by omega) (by rw [hb]; exact jU xH) hcut Jo hw hle I8 gM h2
 have h := key zs (fun _ h => h) [] [] (by simp only [List.length_cons,List.length_append,List.length_nil]; omega) (by
  have hlen : ∀ ws : List (List UInt8 × List UInt8),(∀ w ∈ ws,w ∈ zs) → ws.length ≤ (ws.map Prod.snd).flatten.length := by
   intro ws
   induction ws with
   | nil => simp
   | cons w ws ih=>
     intro hm
     have h1 := ih (fun q hq => hm q (List.mem_cons_of_mem _ hq))
     have h2 := (hz w (hm w List.mem_cons_self)).len.2
     simp only [List.map_cons,List.flatten_cons,List.length_append,List.length_cons]
     omega
  have := hlen zs (fun _ h => h)
  simp only [List.length_nil]
  omega)
 exact h
end Go.Proofs.YtkdebhgccpfkiaaGreatDoor.au
