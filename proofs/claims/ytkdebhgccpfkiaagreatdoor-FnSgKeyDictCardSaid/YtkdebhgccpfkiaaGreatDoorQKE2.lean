import Derived.Test.YtkdebhgccpfkiaaGreatDoorQKE1
import Derived.Laws.Externs
set_option maxRecDepth 100000
set_option maxHeartbeats 16000000
namespace Go.Proofs.YtkdebhgccpfkiaaGreatDoor.au
open Go.RowKit Go.Proofs.aa.az Go.Proofs.aa.aM Go.Proofs.aa.aU
attribute [local go_sem] ba bh
set_option linter.unusedVariables false
set_option linter.unusedSimpArgs false
attribute [local go_sem] Hv EZ EY EW EU Hu CN CM CL E3 E0 CK CJ CI CH CG Am Al Aj CF ET ES CE CD CC CB Ai Ah Ag EP CA Cz Af Ae Ad EO Cy Cx Cw Cv Cu Ct CP At As Ar xQ xP xO xN CO Aq Ap Ao xM xL Ac
theorem dL (n : Nat) (hn : n ≤ 1000000) (cs : Array Value) (hc : cs = madeCells (Value.int .u8 0).cells n) (m : Int) (hm : m = (n : Int)) (W : World) : (Instr.makeSlice 36 (.int .i64 m) (.int .i64 m)).run Tryz.prog W = .ok (.slice (some ⟨W.heap.size,0,none⟩) n n) (W.alloc (.cells cs 5)) := by
 subst hc hm
 obtain ⟨i,hi,hz⟩ := Option.map_eq_some_iff.1 IX
 simp only [Prod.mk.injEq] at hz
 have h := run_make (P := Tryz.prog) W 36 5 i (.int .u8 0) Tryz.underlying36 hi hz.1 .i64 .i64 (n : Int) (n : Int) (by omega) (by omega) (by rw [hz.2.2]; omega) (by omega)
 simpa [hz.2.1] using h
theorem Fz (n : Nat) : (madeCells (Value.int .u8 0).cells n).size = n ∧ ∀ x ∈ (madeCells (Value.int .u8 0).cells n).toList,jC x := by
 refine ⟨by simp [madeCells,Value.cells],fun x hx => ?_⟩
 simp only [madeCells,Value.cells] at hx
 simp at hx
 obtain ⟨a,_,rfl⟩ := hx
 rw [Nat.mod_one]
 exact ⟨0,rfl⟩
theorem Gj : (Tryz.prog.info? 56).bind (fun i => (i.methods.find? (·.name == "Write")).map (fun m => (m.path.toList,m.func))) = some ([],some (128,true)) := by kernel_rfl
theorem dS (g : Nat) (W : World) : (method 307 56 (.pointer (some ⟨g,0,none⟩)) "Write").run Tryz.prog W = .ok (128,.pointer (some ⟨g,0,none⟩)) W := by
 obtain ⟨i,hi,h2⟩ := Option.bind_eq_some_iff.1 Gj
 obtain ⟨m,hm,h3⟩ := Option.map_eq_some_iff.1 h2
 simp only [Prod.mk.injEq] at h3
 have h : ∀ fuel,(method (fuel + 1) 56 (.pointer (some ⟨g,0,none⟩)) "Write").run Tryz.prog W = .ok (128,.pointer (some ⟨g,0,none⟩)) W := by
  intro fuel
  simp [method,typeInfo,hi,hm,h3.1,h3.2,follow,receiverAt,Place.get,run_underlying Tryz.underlying56]
 exact h 306
theorem cR (g : Nat) (W : World) : (nilAhead 307 56 (.pointer (some ⟨g,0,none⟩)) "Write").run Tryz.prog W = .ok (some false) W := by
 obtain ⟨i,hi,h2⟩ := Option.bind_eq_some_iff.1 Gj
 obtain ⟨m,hm,h3⟩ := Option.map_eq_some_iff.1 h2
 simp only [Prod.mk.injEq] at h3
 have h : ∀ fuel,(nilAhead (fuel + 1) 56 (.pointer (some ⟨g,0,none⟩)) "Write").run Tryz.prog W = .ok (some false) W := by
  intro fuel
  simp [nilAhead,typeInfo,hi,hm,h3.1,h3.2,followBlind,run_underlying Tryz.underlying56]
 exact h 306
theorem QQ : (Tryz.prog.info? 81).bind (fun i => (i.methods.find? (·.name == "PutUint16")).map (fun m => (m.path.toList,m.func))) = some ([],some (135,false)) := by kernel_rfl
theorem NG (W : World) : (method 307 81 (.agg #[]) "PutUint16").run Tryz.prog W = .ok (135,.agg #[]) W := by
 obtain ⟨i,hi,h2⟩ := Option.bind_eq_some_iff.1 QQ
 obtain ⟨m,hm,h3⟩ := Option.map_eq_some_iff.1 h2
 simp only [Prod.mk.injEq] at h3
 have h : ∀ fuel,(method (fuel + 1) 81 (.agg #[]) "PutUint16").run Tryz.prog W = .ok (135,.agg #[]) W := by
  intro fuel
  simp [method,typeInfo,hi,hm,h3.1,h3.2,follow,receiverAt,Place.get,run_underlying Tryz.underlying81]
 exact h 306
theorem QP : (Tryz.prog.info? 81).bind (fun i => (i.methods.find? (·.name == "PutUint32")).map (fun m => (m.path.toList,m.func))) = some ([],some (136,false)) := by kernel_rfl
theorem NF (W : World) : (method 307 81 (.agg #[]) "PutUint32").run Tryz.prog W = .ok (136,.agg #[]) W := by
 obtain ⟨i,hi,h2⟩ := Option.bind_eq_some_iff.1 QP
 obtain ⟨m,hm,h3⟩ := Option.map_eq_some_iff.1 h2
 simp only [Prod.mk.injEq] at h3
 have h : ∀ fuel,(method (fuel + 1) 81 (.agg #[]) "PutUint32").run Tryz.prog W = .ok (136,.agg #[]) W := by
  intro fuel
  simp [method,typeInfo,hi,hm,h3.1,h3.2,follow,receiverAt,Place.get,run_underlying Tryz.underlying81]
 exact h 306
theorem QO : (Tryz.prog.info? 81).bind (fun i => (i.methods.find? (·.name == "PutUint64")).map (fun m => (m.path.toList,m.func))) = some ([],some (137,false)) := by kernel_rfl
theorem Iz (W : World) : (method 307 81 (.agg #[]) "PutUint64").run Tryz.prog W = .ok (137,.agg #[]) W := by
 obtain ⟨i,hi,h2⟩ := Option.bind_eq_some_iff.1 QO
 obtain ⟨m,hm,h3⟩ := Option.map_eq_some_iff.1 h2
 simp only [Prod.mk.injEq] at h3
 have h : ∀ fuel,(method (fuel + 1) 81 (.agg #[]) "PutUint64").run Tryz.prog W = .ok (137,.agg #[]) W := by
  intro fuel
  simp [method,typeInfo,hi,hm,h3.1,h3.2,follow,receiverAt,Place.get,run_underlying Tryz.underlying81]
 exact h 306
theorem QN : (Tryz.prog.info? 82).bind (fun i => (i.methods.find? (·.name == "PutUint16")).map (fun m => (m.path.toList,m.func))) = some ([],some (143,false)) := by kernel_rfl
theorem NC (W : World) : (method 307 82 (.agg #[]) "PutUint16").run Tryz.prog W = .ok (143,.agg #[]) W := by
 obtain ⟨i,hi,h2⟩ := Option.bind_eq_some_iff.1 QN
 obtain ⟨m,hm,h3⟩ := Option.map_eq_some_iff.1 h2
 simp only [Prod.mk.injEq] at h3
 have h : ∀ fuel,(method (fuel + 1) 82 (.agg #[]) "PutUint16").run Tryz.prog W = .ok (143,.agg #[]) W := by
  intro fuel
  simp [method,typeInfo,hi,hm,h3.1,h3.2,follow,receiverAt,Place.get,run_underlying Tryz.underlying82]
 exact h 306
theorem QM : (Tryz.prog.info? 82).bind (fun i => (i.methods.find? (·.name == "PutUint32")).map (fun m => (m.path.toList,m.func))) = some ([],some (144,false)) := by kernel_rfl
theorem NB (W : World) : (method 307 82 (.agg #[]) "PutUint32").run Tryz.prog W = .ok (144,.agg #[]) W := by
 obtain ⟨i,hi,h2⟩ := Option.bind_eq_some_iff.1 QM
 obtain ⟨m,hm,h3⟩ := Option.map_eq_some_iff.1 h2
 simp only [Prod.mk.injEq] at h3
 have h : ∀ fuel,(method (fuel + 1) 82 (.agg #[]) "PutUint32").run Tryz.prog W = .ok (144,.agg #[]) W := by
  intro fuel
  simp [method,typeInfo,hi,hm,h3.1,h3.2,follow,receiverAt,Place.get,run_underlying Tryz.underlying82]
 exact h 306
theorem QL : (Tryz.prog.info? 82).bind (fun i => (i.methods.find? (·.name == "PutUint64")).map (fun m => (m.path.toList,m.func))) = some ([],some (145,false)) := by kernel_rfl
theorem Iy (W : World) : (method 307 82 (.agg #[]) "PutUint64").run Tryz.prog W = .ok (145,.agg #[]) W := by
 obtain ⟨i,hi,h2⟩ := Option.bind_eq_some_iff.1 QL
 obtain ⟨m,hm,h3⟩ := Option.map_eq_some_iff.1 h2
 simp only [Prod.mk.injEq] at h3
 have h : ∀ fuel,(method (fuel + 1) 82 (.agg #[]) "PutUint64").run Tryz.prog W = .ok (145,.agg #[]) W := by
  intro fuel
  simp [method,typeInfo,hi,hm,h3.1,h3.2,follow,receiverAt,Place.get,run_underlying Tryz.underlying82]
 exact h 306
theorem KA (m : Nat) (w : World) : Calls Tryz.prog 135 #[.agg #[],.slice (some ⟨w.heap.size,0,none⟩) 2 2,.int .u16 (m : Int)] (w.alloc (.cells #[.int .u8 0,.int .u8 0] 5)) fun e w' => e = .returned (.tuple #[]) ∧ w' = (w.alloc (.cells #[.int .u8 ((m : Int) / 256 % 256),.int .u8 ((m : Int) % 256)] 5)).alloc (.cells #[] 81) := by
 go_enter Tryz.func135,Tryz.ntmps135
 go_wp2
 go_end0
 exact ⟨rfl,rfl⟩
theorem Kz (m : Nat) (w : World) : Calls Tryz.prog 136 #[.agg #[],.slice (some ⟨w.heap.size,0,none⟩) 4 4,.int .u32 (m : Int)] (w.alloc (.cells #[.int .u8 0,.int .u8 0,.int .u8 0,.int .u8 0] 5)) fun e w' => e = .returned (.tuple #[]) ∧ w' = (w.alloc (.cells #[.int .u8 ((m : Int) / 16777216 % 256),.int .u8 ((m : Int) / 65536 % 256),.int .u8 ((m : Int) / 256 % 256),.int .u8 ((m : Int) % 256)] 5)).alloc (.cells #[] 81) := by
 go_enter Tryz.func136,Tryz.ntmps136
 go_wp2
 go_end0
 exact ⟨rfl,rfl⟩
theorem Cb (m : Nat) (w : World) : Calls Tryz.prog 137 #[.agg #[],.slice (some ⟨w.heap.size,0,none⟩) 8 8,.int .u64 (m : Int)] (w.alloc (.cells #[.int .u8 0,.int .u8 0,.int .u8 0,.int .u8 0,.int .u8 0,.int .u8 0,.int .u8 0,.int .u8 0] 5)) fun e w' => e = .returned (.tuple #[]) ∧ w' = (w.alloc (.cells #[.int .u8 ((m : Int) / 72057594037927936 % 256),.int .u8 ((m : Int) / 281474976710656 % 256),.int .u8 ((m : Int) / 1099511627776 % 256),.int .u8 ((m : Int) / 4294967296 % 256),.int .u8 ((m : Int) / 16777216 % 256),.int .u8 ((m : Int) / 65536 % 256),.int .u8 ((m : Int) / 256 % 256),.int .u8 ((m : Int) % 256)] 5)).alloc (.cells #[] 81) := by
 go_enter Tryz.func137,Tryz.ntmps137
 go_wp2
 go_end0
 exact ⟨rfl,rfl⟩
theorem Ky (m : Nat) (w : World) : Calls Tryz.prog 143 #[.agg #[],.slice (some ⟨w.heap.size,0,none⟩) 2 2,.int .u16 (m : Int)] (w.alloc (.cells #[.int .u8 0,.int .u8 0] 5)) fun e w' => e = .returned (.tuple #[]) ∧ w' = (w.alloc (.cells #[.int .u8 ((m : Int) % 256),.int .u8 ((m : Int) / 256 % 256)] 5)).alloc (.cells #[] 82) := by
 go_enter Tryz.func143,Tryz.ntmps143
 go_wp2
 go_end0
 exact ⟨rfl,rfl⟩
theorem Kw (m : Nat) (w : World) : Calls Tryz.prog 144 #[.agg #[],.slice (some ⟨w.heap.size,0,none⟩) 4 4,.int .u32 (m : Int)] (w.alloc (.cells #[.int .u8 0,.int .u8 0,.int .u8 0,.int .u8 0] 5)) fun e w' => e = .returned (.tuple #[]) ∧ w' = (w.alloc (.cells #[.int .u8 ((m : Int) % 256),.int .u8 ((m : Int) / 256 % 256),.int .u8 ((m : Int) / 65536 % 256),.int .u8 ((m : Int) / 16777216 % 256)] 5)).alloc (.cells #[] 82) := by
 go_enter Tryz.func144,Tryz.ntmps144
 go_wp2
 go_end0
 exact ⟨rfl,rfl⟩
theorem Ca (m : Nat) (w : World) : Calls Tryz.prog 145 #[.agg #[],.slice (some ⟨w.heap.size,0,none⟩) 8 8,.int .u64 (m : Int)] (w.alloc (.cells #[.int .u8 0,.int .u8 0,.int .u8 0,.int .u8 0,.int .u8 0,.int .u8 0,.int .u8 0,.int .u8 0] 5)) fun e w' => e = .returned (.tuple #[]) ∧ w' = (w.alloc (.cells #[.int .u8 ((m : Int) % 256),.int .u8 ((m : Int) / 256 % 256),.int .u8 ((m : Int) / 65536 % 256),.int .u8 ((m : Int) / 16777216 % 256),.int .u8 ((m : Int) / 4294967296 % 256),.int .u8 ((m : Int) / 1099511627776 % 256),.int .u8 ((m : Int) / 281474976710656 % 256),.int .u8 ((m : Int) / 72057594037927936 % 256)] 5)).alloc (.cells #[] 82) := by
 go_enter Tryz.func145,Tryz.ntmps145
 go_wp2
 go_end0
 exact ⟨rfl,rfl⟩
theorem dM (n : Nat) (w : World) : (callFunc 98 #[.float .f64 n]).run Tryz.prog w = .ok (.value (.int .u64 (n : Int))) w := by
 rw [run_callFunc_extern (e := Extern.MathFloatBits.float64bits) Tryz.func98 (by kernel_rfl) (by kernel_rfl) (by kernel_rfl) (by kernel_rfl)]
 rfl
theorem Ij (n : Int) (w : World) : (callFunc 88 #[.int .u64 n]).run Tryz.prog w = .ok (.value (.float .f64 n.toNat)) w := by
 rw [run_callFunc_extern (e := Extern.MathFloatBits.float64frombits) Tryz.func88 (by kernel_rfl) (by kernel_rfl) (by kernel_rfl) (by kernel_rfl)]
 rfl
theorem aa7 (x : Int) (m : Nat) (hx : IntKind.u16.wrap x = (m : Int)) (w : World) (e b : Nat) (pos : Int) (he : w.heap[e]? = some (.cells #[.iface 56 (.pointer (some ⟨b,0,none⟩)),.slice none 0 0,.iface 81 (.agg #[]),.int .i64 pos] 79 (0,0))) (Q : World → Prop)
 (HW : ∀ W1,Below w.heap.size w W1 → ∀ a T,w.heap.size ≤ a → W1.heap[a]? = some (.cells #[.int .u8 ((m : Int) / 256 % 256),.int .u8 ((m : Int) % 256)] T (0,0)) → Calls Tryz.prog 128 #[.pointer (some ⟨b,0,none⟩),.slice (some ⟨a,0,none⟩) 2 2] W1 fun e w' => e = .returned (.tuple #[.int .i64 2,.nilIface]) ∧ Q w') :
 Calls Tryz.prog 65 #[.pointer (some ⟨e,0,none⟩),.iface 71 (.int .i16 x)] w fun e w' => e = .returned (.tuple #[]) ∧ Q w' := by
 have c0 : w.cell? ⟨e,0,none⟩ = some (.iface 56 (.pointer (some ⟨b,0,none⟩))) := (cell_of_row w e 0 _ 79 (0,0) he).trans rfl
 have c2 : w.cell? ⟨e,2,none⟩ = some (.iface 81 (.agg #[])) := (cell_of_row w e 2 _ 79 (0,0) he).trans rfl
 have gi : ∀ o,(w.alloc o).cell? ⟨e,0,none⟩ = some (.iface 56 (.pointer (some ⟨b,0,none⟩))) := fun o => ag (ab (Below.refl _ _) o) c0
 have zN : ∀ o,(w.alloc o).cell? ⟨e,2,none⟩ = some (.iface 81 (.agg #[])) := fun o => ag (ab (Below.refl _ _) o) c2
 have vF : ∀ o o2,((w.alloc o).alloc o2).cell? ⟨e,0,none⟩ = some (.iface 56 (.pointer (some ⟨b,0,none⟩))) := fun o o2 => ag (ab (Below.refl _ _) o2) (gi o)
 have i' := fun W : World => dL 2 (by omega) #[.int .u8 0,.int .u8 0] (by kernel_rfl) 2 rfl W
 have zI := NG
 have jZ := dS b
 have jY := cR b
 have iZ := dM
 have HC := U.mk HW
 clear he HW
 go_enter Tryz.func65,Tryz.ntmps65
 go_wp2_with (first | (go_at_call 135; refine (KA m _).mono ?_; rintro e w2 ⟨rfl,rfl⟩) | (go_at_call 128; refine (HC.out _ (ab (ab (Below.refl _ _) _) _) _ 5 (Nat.le_refl _) (by rw [heap_alloc_old _ _ (by simp)]; exact heap_alloc_new _ _)).mono ?_; rintro e w3 ⟨rfl,hq⟩; have HQ := U.mk hq; clear hq))
 all_goals
  go_end0
  exact ⟨rfl,HQ.out⟩
theorem aa6 (x : Int) (m : Nat) (hx : IntKind.u16.wrap x = (m : Int)) (w : World) (e b : Nat) (pos : Int) (he : w.heap[e]? = some (.cells #[.iface 56 (.pointer (some ⟨b,0,none⟩)),.slice none 0 0,.iface 82 (.agg #[]),.int .i64 pos] 79 (0,0))) (Q : World → Prop)
 (HW : ∀ W1,Below w.heap.size w W1 → ∀ a T,w.heap.size ≤ a → W1.heap[a]? = some (.cells #[.int .u8 ((m : Int) % 256),.int .u8 ((m : Int) / 256 % 256)] T (0,0)) → Calls Tryz.prog 128 #[.pointer (some ⟨b,0,none⟩),.slice (some ⟨a,0,none⟩) 2 2] W1 fun e w' => e = .returned (.tuple #[.int .i64 2,.nilIface]) ∧ Q w') :
 Calls Tryz.prog 65 #[.pointer (some ⟨e,0,none⟩),.iface 71 (.int .i16 x)] w fun e w' => e = .returned (.tuple #[]) ∧ Q w' := by
 have c0 : w.cell? ⟨e,0,none⟩ = some (.iface 56 (.pointer (some ⟨b,0,none⟩))) := (cell_of_row w e 0 _ 79 (0,0) he).trans rfl
 have c2 : w.cell? ⟨e,2,none⟩ = some (.iface 82 (.agg #[])) := (cell_of_row w e 2 _ 79 (0,0) he).trans rfl
 have gi : ∀ o,(w.alloc o).cell? ⟨e,0,none⟩ = some (.iface 56 (.pointer (some ⟨b,0,none⟩))) := fun o => ag (ab (Below.refl _ _) o) c0
 have zN : ∀ o,(w.alloc o).cell? ⟨e,2,none⟩ = some (.iface 82 (.agg #[])) := fun o => ag (ab (Below.refl _ _) o) c2
 have vF : ∀ o o2,((w.alloc o).alloc o2).cell? ⟨e,0,none⟩ = some (.iface 56 (.pointer (some ⟨b,0,none⟩))) := fun o o2 => ag (ab (Below.refl _ _) o2) (gi o)
 have i' := fun W : World => dL 2 (by omega) #[.int .u8 0,.int .u8 0] (by kernel_rfl) 2 rfl W
 have zI := NC
 have jZ := dS b
 have jY := cR b
 have iZ := dM
 have HC := U.mk HW
 clear he HW
 go_enter Tryz.func65,Tryz.ntmps65
 go_wp2_with (first | (go_at_call 143; refine (Ky m _).mono ?_; rintro e w2 ⟨rfl,rfl⟩) | (go_at_call 128; refine (HC.out _ (ab (ab (Below.refl _ _) _) _) _ 5 (Nat.le_refl _) (by rw [heap_alloc_old _ _ (by simp)]; exact heap_alloc_new _ _)).mono ?_; rintro e w3 ⟨rfl,hq⟩; have HQ := U.mk hq; clear hq))
 all_goals
  go_end0
  exact ⟨rfl,HQ.out⟩
theorem aa5 (m : Nat) (w : World) (e b : Nat) (pos : Int) (he : w.heap[e]? = some (.cells #[.iface 56 (.pointer (some ⟨b,0,none⟩)),.slice none 0 0,.iface 81 (.agg #[]),.int .i64 pos] 79 (0,0))) (Q : World → Prop)
 (HW : ∀ W1,Below w.heap.size w W1 → ∀ a T,w.heap.size ≤ a → W1.heap[a]? = some (.cells #[.int .u8 ((m : Int) / 256 % 256),.int .u8 ((m : Int) % 256)] T (0,0)) → Calls Tryz.prog 128 #[.pointer (some ⟨b,0,none⟩),.slice (some ⟨a,0,none⟩) 2 2] W1 fun e w' => e = .returned (.tuple #[.int .i64 2,.nilIface]) ∧ Q w') :
 Calls Tryz.prog 65 #[.pointer (some ⟨e,0,none⟩),.iface 120 (.int .u16 (m : Int))] w fun e w' => e = .returned (.tuple #[]) ∧ Q w' := by
 have c0 : w.cell? ⟨e,0,none⟩ = some (.iface 56 (.pointer (some ⟨b,0,none⟩))) := (cell_of_row w e 0 _ 79 (0,0) he).trans rfl
 have c2 : w.cell? ⟨e,2,none⟩ = some (.iface 81 (.agg #[])) := (cell_of_row w e 2 _ 79 (0,0) he).trans rfl
 have gi : ∀ o,(w.alloc o).cell? ⟨e,0,none⟩ = some (.iface 56 (.pointer (some ⟨b,0,none⟩))) := fun o => ag (ab (Below.refl _ _) o) c0
 have zN : ∀ o,(w.alloc o).cell? ⟨e,2,none⟩ = some (.iface 81 (.agg #[])) := fun o => ag (ab (Below.refl _ _) o) c2
 have vF : ∀ o o2,((w.alloc o).alloc o2).cell? ⟨e,0,none⟩ = some (.iface 56 (.pointer (some ⟨b,0,none⟩))) := fun o o2 => ag (ab (Below.refl _ _) o2) (gi o)
 have i' := fun W : World => dL 2 (by omega) #[.int .u8 0,.int .u8 0] (by kernel_rfl) 2 rfl W
 have zI := NG
 have jZ := dS b
 have jY := cR b
 have iZ := dM
 have HC := U.mk HW
 clear he HW
 go_enter Tryz.func65,Tryz.ntmps65
 go_wp2_with (first | (go_at_call 135; refine (KA m _).mono ?_; rintro e w2 ⟨rfl,rfl⟩) | (go_at_call 128; refine (HC.out _ (ab (ab (Below.refl _ _) _) _) _ 5 (Nat.le_refl _) (by rw [heap_alloc_old _ _ (by simp)]; exact heap_alloc_new _ _)).mono ?_; rintro e w3 ⟨rfl,hq⟩; have HQ := U.mk hq; clear hq))
 all_goals
  go_end0
  exact ⟨rfl,HQ.out⟩
theorem aa4 (m : Nat) (w : World) (e b : Nat) (pos : Int) (he : w.heap[e]? = some (.cells #[.iface 56 (.pointer (some ⟨b,0,none⟩)),.slice none 0 0,.iface 82 (.agg #[]),.int .i64 pos] 79 (0,0))) (Q : World → Prop)
 (HW : ∀ W1,Below w.heap.size w W1 → ∀ a T,w.heap.size ≤ a → W1.heap[a]? = some (.cells #[.int .u8 ((m : Int) % 256),.int .u8 ((m : Int) / 256 % 256)] T (0,0)) → Calls Tryz.prog 128 #[.pointer (some ⟨b,0,none⟩),.slice (some ⟨a,0,none⟩) 2 2] W1 fun e w' => e = .returned (.tuple #[.int .i64 2,.nilIface]) ∧ Q w') :
 Calls Tryz.prog 65 #[.pointer (some ⟨e,0,none⟩),.iface 120 (.int .u16 (m : Int))] w fun e w' => e = .returned (.tuple #[]) ∧ Q w' := by
 have c0 : w.cell? ⟨e,0,none⟩ = some (.iface 56 (.pointer (some ⟨b,0,none⟩))) := (cell_of_row w e 0 _ 79 (0,0) he).trans rfl
 have c2 : w.cell? ⟨e,2,none⟩ = some (.iface 82 (.agg #[])) := (cell_of_row w e 2 _ 79 (0,0) he).trans rfl
 have gi : ∀ o,(w.alloc o).cell? ⟨e,0,none⟩ = some (.iface 56 (.pointer (some ⟨b,0,none⟩))) := fun o => ag (ab (Below.refl _ _) o) c0
 have zN : ∀ o,(w.alloc o).cell? ⟨e,2,none⟩ = some (.iface 82 (.agg #[])) := fun o => ag (ab (Below.refl _ _) o) c2
 have vF : ∀ o o2,((w.alloc o).alloc o2).cell? ⟨e,0,none⟩ = some (.iface 56 (.pointer (some ⟨b,0,none⟩))) := fun o o2 => ag (ab (Below.refl _ _) o2) (gi o)
 have i' := fun W : World => dL 2 (by omega) #[.int .u8 0,.int .u8 0] (by kernel_rfl) 2 rfl W
 have zI := NC
 have jZ := dS b
 have jY := cR b
 have iZ := dM
 have HC := U.mk HW
 clear he HW
 go_enter Tryz.func65,Tryz.ntmps65
 go_wp2_with (first | (go_at_call 143; refine (Ky m _).mono ?_; rintro e w2 ⟨rfl,rfl⟩) | (go_at_call 128; refine (HC.out _ (ab (ab (Below.refl _ _) _) _) _ 5 (Nat.le_refl _) (by rw [heap_alloc_old _ _ (by simp)]; exact heap_alloc_new _ _)).mono ?_; rintro e w3 ⟨rfl,hq⟩; have HQ := U.mk hq; clear hq))
 all_goals
  go_end0
  exact ⟨rfl,HQ.out⟩
theorem aa9 (x : Int) (m : Nat) (hx : IntKind.u32.wrap x = (m : Int)) (w : World) (e b : Nat) (pos : Int) (he : w.heap[e]? = some (.cells #[.iface 56 (.pointer (some ⟨b,0,none⟩)),.slice none 0 0,.iface 81 (.agg #[]),.int .i64 pos] 79 (0,0))) (Q : World → Prop)
 (HW : ∀ W1,Below w.heap.size w W1 → ∀ a T,w.heap.size ≤ a → W1.heap[a]? = some (.cells #[.int .u8 ((m : Int) / 16777216 % 256),.int .u8 ((m : Int) / 65536 % 256),.int .u8 ((m : Int) / 256 % 256),.int .u8 ((m : Int) % 256)] T (0,0)) → Calls Tryz.prog 128 #[.pointer (some ⟨b,0,none⟩),.slice (some ⟨a,0,none⟩) 4 4] W1 fun e w' => e = .returned (.tuple #[.int .i64 4,.nilIface]) ∧ Q w') :
 Calls Tryz.prog 65 #[.pointer (some ⟨e,0,none⟩),.iface 21 (.int .i32 x)] w fun e w' => e = .returned (.tuple #[]) ∧ Q w' := by
 have c0 : w.cell? ⟨e,0,none⟩ = some (.iface 56 (.pointer (some ⟨b,0,none⟩))) := (cell_of_row w e 0 _ 79 (0,0) he).trans rfl
 have c2 : w.cell? ⟨e,2,none⟩ = some (.iface 81 (.agg #[])) := (cell_of_row w e 2 _ 79 (0,0) he).trans rfl
 have gi : ∀ o,(w.alloc o).cell? ⟨e,0,none⟩ = some (.iface 56 (.pointer (some ⟨b,0,none⟩))) := fun o => ag (ab (Below.refl _ _) o) c0
 have zN : ∀ o,(w.alloc o).cell? ⟨e,2,none⟩ = some (.iface 81 (.agg #[])) := fun o => ag (ab (Below.refl _ _) o) c2
 have vF : ∀ o o2,((w.alloc o).alloc o2).cell? ⟨e,0,none⟩ = some (.iface 56 (.pointer (some ⟨b,0,none⟩))) := fun o o2 => ag (ab (Below.refl _ _) o2) (gi o)
 have i' := fun W : World => dL 4 (by omega) #[.int .u8 0,.int .u8 0,.int .u8 0,.int .u8 0] (by kernel_rfl) 4 rfl W
 have zI := NF
 have jZ := dS b
 have jY := cR b
 have iZ := dM
 have HC := U.mk HW
 clear he HW
 go_enter Tryz.func65,Tryz.ntmps65
 go_wp2_with (first | (go_at_call 136; refine (Kz m _).mono ?_; rintro e w2 ⟨rfl,rfl⟩) | (go_at_call 128; refine (HC.out _ (ab (ab (Below.refl _ _) _) _) _ 5 (Nat.le_refl _) (by rw [heap_alloc_old _ _ (by simp)]; exact heap_alloc_new _ _)).mono ?_; rintro e w3 ⟨rfl,hq⟩; have HQ := U.mk hq; clear hq))
 all_goals
  go_end0
  exact ⟨rfl,HQ.out⟩
theorem aa8 (x : Int) (m : Nat) (hx : IntKind.u32.wrap x = (m : Int)) (w : World) (e b : Nat) (pos : Int) (he : w.heap[e]? = some (.cells #[.iface 56 (.pointer (some ⟨b,0,none⟩)),.slice none 0 0,.iface 82 (.agg #[]),.int .i64 pos] 79 (0,0))) (Q : World → Prop)
 (HW : ∀ W1,Below w.heap.size w W1 → ∀ a T,w.heap.size ≤ a → W1.heap[a]? = some (.cells #[.int .u8 ((m : Int) % 256),.int .u8 ((m : Int) / 256 % 256),.int .u8 ((m : Int) / 65536 % 256),.int .u8 ((m : Int) / 16777216 % 256)] T (0,0)) → Calls Tryz.prog 128 #[.pointer (some ⟨b,0,none⟩),.slice (some ⟨a,0,none⟩) 4 4] W1 fun e w' => e = .returned (.tuple #[.int .i64 4,.nilIface]) ∧ Q w') :
 Calls Tryz.prog 65 #[.pointer (some ⟨e,0,none⟩),.iface 21 (.int .i32 x)] w fun e w' => e = .returned (.tuple #[]) ∧ Q w' := by
 have c0 : w.cell? ⟨e,0,none⟩ = some (.iface 56 (.pointer (some ⟨b,0,none⟩))) := (cell_of_row w e 0 _ 79 (0,0) he).trans rfl
 have c2 : w.cell? ⟨e,2,none⟩ = some (.iface 82 (.agg #[])) := (cell_of_row w e 2 _ 79 (0,0) he).trans rfl
 have gi : ∀ o,(w.alloc o).cell? ⟨e,0,none⟩ = some (.iface 56 (.pointer (some ⟨b,0,none⟩))) := fun o => ag (ab (Below.refl _ _) o) c0
 have zN : ∀ o,(w.alloc o).cell? ⟨e,2,none⟩ = some (.iface 82 (.agg #[])) := fun o => ag (ab (Below.refl _ _) o) c2
 have vF : ∀ o o2,((w.alloc o).alloc o2).cell? ⟨e,0,none⟩ = some (.iface 56 (.pointer (some ⟨b,0,none⟩))) := fun o o2 => ag (ab (Below.refl _ _) o2) (gi o)
 have i' := fun W : World => dL 4 (by omega) #[.int .u8 0,.int .u8 0,.int .u8 0,.int .u8 0] (by kernel_rfl) 4 rfl W
 have zI := NB
 have jZ := dS b
 have jY := cR b
 have iZ := dM
 have HC := U.mk HW
 clear he HW
 go_enter Tryz.func65,Tryz.ntmps65
 go_wp2_with (first | (go_at_call 144; refine (Kw m _).mono ?_; rintro e w2 ⟨rfl,rfl⟩) | (go_at_call 128; refine (HC.out _ (ab (ab (Below.refl _ _) _) _) _ 5 (Nat.le_refl _) (by rw [heap_alloc_old _ _ (by simp)]; exact heap_alloc_new _ _)).mono ?_; rintro e w3 ⟨rfl,hq⟩; have HQ := U.mk hq; clear hq))
 all_goals
  go_end0
  exact ⟨rfl,HQ.out⟩
theorem aa1 (m : Nat) (w : World) (e b : Nat) (pos : Int) (he : w.heap[e]? = some (.cells #[.iface 56 (.pointer (some ⟨b,0,none⟩)),.slice none 0 0,.iface 81 (.agg #[]),.int .i64 pos] 79 (0,0))) (Q : World → Prop)
 (HW : ∀ W1,Below w.heap.size w W1 → ∀ a T,w.heap.size ≤ a → W1.heap[a]? = some (.cells #[.int .u8 ((m : Int) / 16777216 % 256),.int .u8 ((m : Int) / 65536 % 256),.int .u8 ((m : Int) / 256 % 256),.int .u8 ((m : Int) % 256)] T (0,0)) → Calls Tryz.prog 128 #[.pointer (some ⟨b,0,none⟩),.slice (some ⟨a,0,none⟩) 4 4] W1 fun e w' => e = .returned (.tuple #[.int .i64 4,.nilIface]) ∧ Q w') :
 Calls Tryz.prog 65 #[.pointer (some ⟨e,0,none⟩),.iface 117 (.int .u32 (m : Int))] w fun e w' => e = .returned (.tuple #[]) ∧ Q w' := by
 have c0 : w.cell? ⟨e,0,none⟩ = some (.iface 56 (.pointer (some ⟨b,0,none⟩))) := (cell_of_row w e 0 _ 79 (0,0) he).trans rfl
 have c2 : w.cell? ⟨e,2,none⟩ = some (.iface 81 (.agg #[])) := (cell_of_row w e 2 _ 79 (0,0) he).trans rfl
 have gi : ∀ o,(w.alloc o).cell? ⟨e,0,none⟩ = some (.iface 56 (.pointer (some ⟨b,0,none⟩))) := fun o => ag (ab (Below.refl _ _) o) c0
 have zN : ∀ o,(w.alloc o).cell? ⟨e,2,none⟩ = some (.iface 81 (.agg #[])) := fun o => ag (ab (Below.refl _ _) o) c2
 have vF : ∀ o o2,((w.alloc o).alloc o2).cell? ⟨e,0,none⟩ = some (.iface 56 (.pointer (some ⟨b,0,none⟩))) := fun o o2 => ag (ab (Below.refl _ _) o2) (gi o)
 have i' := fun W : World => dL 4 (by omega) #[.int .u8 0,.int .u8 0,.int .u8 0,.int .u8 0] (by kernel_rfl) 4 rfl W
 have zI := NF
 have jZ := dS b
 have jY := cR b
 have iZ := dM
 have HC := U.mk HW
 clear he HW
 go_enter Tryz.func65,Tryz.ntmps65
 go_wp2_with (first | (go_at_call 136; refine (Kz m _).mono ?_; rintro e w2 ⟨rfl,rfl⟩) | (go_at_call 128; refine (HC.out _ (ab (ab (Below.refl _ _) _) _) _ 5 (Nat.le_refl _) (by rw [heap_alloc_old _ _ (by simp)]; exact heap_alloc_new _ _)).mono ?_; rintro e w3 ⟨rfl,hq⟩; have HQ := U.mk hq; clear hq))
 all_goals
  go_end0
  exact ⟨rfl,HQ.out⟩
theorem aa0 (m : Nat) (w : World) (e b : Nat) (pos : Int) (he : w.heap[e]? = some (.cells #[.iface 56 (.pointer (some ⟨b,0,none⟩)),.slice none 0 0,.iface 82 (.agg #[]),.int .i64 pos] 79 (0,0))) (Q : World → Prop)
 (HW : ∀ W1,Below w.heap.size w W1 → ∀ a T,w.heap.size ≤ a → W1.heap[a]? = some (.cells #[.int .u8 ((m : Int) % 256),.int .u8 ((m : Int) / 256 % 256),.int .u8 ((m : Int) / 65536 % 256),.int .u8 ((m : Int) / 16777216 % 256)] T (0,0)) → Calls Tryz.prog 128 #[.pointer (some ⟨b,0,none⟩),.slice (some ⟨a,0,none⟩) 4 4] W1 fun e w' => e = .returned (.tuple #[.int .i64 4,.nilIface]) ∧ Q w') :
 Calls Tryz.prog 65 #[.pointer (some ⟨e,0,none⟩),.iface 117 (.int .u32 (m : Int))] w fun e w' => e = .returned (.tuple #[]) ∧ Q w' := by
 have c0 : w.cell? ⟨e,0,none⟩ = some (.iface 56 (.pointer (some ⟨b,0,none⟩))) := (cell_of_row w e 0 _ 79 (0,0) he).trans rfl
 have c2 : w.cell? ⟨e,2,none⟩ = some (.iface 82 (.agg #[])) := (cell_of_row w e 2 _ 79 (0,0) he).trans rfl
 have gi : ∀ o,(w.alloc o).cell? ⟨e,0,none⟩ = some (.iface 56 (.pointer (some ⟨b,0,none⟩))) := fun o => ag (ab (Below.refl _ _) o) c0
 have zN : ∀ o,(w.alloc o).cell? ⟨e,2,none⟩ = some (.iface 82 (.agg #[])) := fun o => ag (ab (Below.refl _ _) o) c2
 have vF : ∀ o o2,((w.alloc o).alloc o2).cell? ⟨e,0,none⟩ = some (.iface 56 (.pointer (some ⟨b,0,none⟩))) := fun o o2 => ag (ab (Below.refl _ _) o2) (gi o)
 have i' := fun W : World => dL 4 (by omega) #[.int .u8 0,.int .u8 0,.int .u8 0,.int .u8 0] (by kernel_rfl) 4 rfl W
 have zI := NB
 have jZ := dS b
 have jY := cR b
 have iZ := dM
 have HC := U.mk HW
 clear he HW
 go_enter Tryz.func65,Tryz.ntmps65
 go_wp2_with (first | (go_at_call 144; refine (Kw m _).mono ?_; rintro e w2 ⟨rfl,rfl⟩) | (go_at_call 128; refine (HC.out _ (ab (ab (Below.refl _ _) _) _) _ 5 (Nat.le_refl _) (by rw [heap_alloc_old _ _ (by simp)]; exact heap_alloc_new _ _)).mono ?_; rintro e w3 ⟨rfl,hq⟩; have HQ := U.mk hq; clear hq))
 all_goals
  go_end0
  exact ⟨rfl,HQ.out⟩
theorem aaZ (x : Int) (m : Nat) (hx : IntKind.u64.wrap x = (m : Int)) (w : World) (e b : Nat) (pos : Int) (he : w.heap[e]? = some (.cells #[.iface 56 (.pointer (some ⟨b,0,none⟩)),.slice none 0 0,.iface 81 (.agg #[]),.int .i64 pos] 79 (0,0))) (Q : World → Prop)
 (HW : ∀ W1,Below w.heap.size w W1 → ∀ a T,w.heap.size ≤ a → W1.heap[a]? = some (.cells #[.int .u8 ((m : Int) / 72057594037927936 % 256),.int .u8 ((m : Int) / 281474976710656 % 256),.int .u8 ((m : Int) / 1099511627776 % 256),.int .u8 ((m : Int) / 4294967296 % 256),.int .u8 ((m : Int) / 16777216 % 256),.int .u8 ((m : Int) / 65536 % 256),.int .u8 ((m : Int) / 256 % 256),.int .u8 ((m : Int) % 256)] T (0,0)) → Calls Tryz.prog 128 #[.pointer (some ⟨b,0,none⟩),.slice (some ⟨a,0,none⟩) 8 8] W1 fun e w' => e = .returned (.tuple #[.int .i64 8,.nilIface]) ∧ Q w') :
 Calls Tryz.prog 65 #[.pointer (some ⟨e,0,none⟩),.iface 2 (.int .i64 x)] w fun e w' => e = .returned (.tuple #[]) ∧ Q w' := by
 have c0 : w.cell? ⟨e,0,none⟩ = some (.iface 56 (.pointer (some ⟨b,0,none⟩))) := (cell_of_row w e 0 _ 79 (0,0) he).trans rfl
 have c2 : w.cell? ⟨e,2,none⟩ = some (.iface 81 (.agg #[])) := (cell_of_row w e 2 _ 79 (0,0) he).trans rfl
 have gi : ∀ o,(w.alloc o).cell? ⟨e,0,none⟩ = some (.iface 56 (.pointer (some ⟨b,0,none⟩))) := fun o => ag (ab (Below.refl _ _) o) c0
 have zN : ∀ o,(w.alloc o).cell? ⟨e,2,none⟩ = some (.iface 81 (.agg #[])) := fun o => ag (ab (Below.refl _ _) o) c2
 have vF : ∀ o o2,((w.alloc o).alloc o2).cell? ⟨e,0,none⟩ = some (.iface 56 (.pointer (some ⟨b,0,none⟩))) := fun o o2 => ag (ab (Below.refl _ _) o2) (gi o)
 have i' := fun W : World => dL 8 (by omega) #[.int .u8 0,.int .u8 0,.int .u8 0,.int .u8 0,.int .u8 0,.int .u8 0,.int .u8 0,.int .u8 0] (by kernel_rfl) 8 rfl W
 have zI := Iz
 have jZ := dS b
 have jY := cR b
 have iZ := dM
 have HC := U.mk HW
 clear he HW
 go_enter Tryz.func65,Tryz.ntmps65
 go_wp2_with (first | (go_at_call 137; refine (Cb m _).mono ?_; rintro e w2 ⟨rfl,rfl⟩) | (go_at_call 128; refine (HC.out _ (ab (ab (Below.refl _ _) _) _) _ 5 (Nat.le_refl _) (by rw [heap_alloc_old _ _ (by simp)]; exact heap_alloc_new _ _)).mono ?_; rintro e w3 ⟨rfl,hq⟩; have HQ := U.mk hq; clear hq))
 all_goals
  go_end0
  exact ⟨rfl,HQ.out⟩
theorem aaY (x : Int) (m : Nat) (hx : IntKind.u64.wrap x = (m : Int)) (w : World) (e b : Nat) (pos : Int) (he : w.heap[e]? = some (.cells #[.iface 56 (.pointer (some ⟨b,0,none⟩)),.slice none 0 0,.iface 82 (.agg #[]),.int .i64 pos] 79 (0,0))) (Q : World → Prop)
 (HW : ∀ W1,Below w.heap.size w W1 → ∀ a T,w.heap.size ≤ a → W1.heap[a]? = some (.cells #[.int .u8 ((m : Int) % 256),.int .u8 ((m : Int) / 256 % 256),.int .u8 ((m : Int) / 65536 % 256),.int .u8 ((m : Int) / 16777216 % 256),.int .u8 ((m : Int) / 4294967296 % 256),.int .u8 ((m : Int) / 1099511627776 % 256),.int .u8 ((m : Int) / 281474976710656 % 256),.int .u8 ((m : Int) / 72057594037927936 % 256)] T (0,0)) → Calls Tryz.prog 128 #[.pointer (some ⟨b,0,none⟩),.slice (some ⟨a,0,none⟩) 8 8] W1 fun e w' => e = .returned (.tuple #[.int .i64 8,.nilIface]) ∧ Q w') :
 Calls Tryz.prog 65 #[.pointer (some ⟨e,0,none⟩),.iface 2 (.int .i64 x)] w fun e w' => e = .returned (.tuple #[]) ∧ Q w' := by
 have c0 : w.cell? ⟨e,0,none⟩ = some (.iface 56 (.pointer (some ⟨b,0,none⟩))) := (cell_of_row w e 0 _ 79 (0,0) he).trans rfl
 have c2 : w.cell? ⟨e,2,none⟩ = some (.iface 82 (.agg #[])) := (cell_of_row w e 2 _ 79 (0,0) he).trans rfl
 have gi : ∀ o,(w.alloc o).cell? ⟨e,0,none⟩ = some (.iface 56 (.pointer (some ⟨b,0,none⟩))) := fun o => ag (ab (Below.refl _ _) o) c0
 have zN : ∀ o,(w.alloc o).cell? ⟨e,2,none⟩ = some (.iface 82 (.agg #[])) := fun o => ag (ab (Below.refl _ _) o) c2
 have vF : ∀ o o2,((w.alloc o).alloc o2).cell? ⟨e,0,none⟩ = some (.iface 56 (.pointer (some ⟨b,0,none⟩))) := fun o o2 => ag (ab (Below.refl _ _) o2) (gi o)
 have i' := fun W : World => dL 8 (by omega) #[.int .u8 0,.int .u8 0,.int .u8 0,.int .u8 0,.int .u8 0,.int .u8 0,.int .u8 0,.int .u8 0] (by kernel_rfl) 8 rfl W
 have zI := Iy
 have jZ := dS b
 have jY := cR b
 have iZ := dM
 have HC := U.mk HW
 clear he HW
 go_enter Tryz.func65,Tryz.ntmps65
 go_wp2_with (first | (go_at_call 145; refine (Ca m _).mono ?_; rintro e w2 ⟨rfl,rfl⟩) | (go_at_call 128; refine (HC.out _ (ab (ab (Below.refl _ _) _) _) _ 5 (Nat.le_refl _) (by rw [heap_alloc_old _ _ (by simp)]; exact heap_alloc_new _ _)).mono ?_; rintro e w3 ⟨rfl,hq⟩; have HQ := U.mk hq; clear hq))
 all_goals
  go_end0
  exact ⟨rfl,HQ.out⟩
theorem aa3 (m : Nat) (w : World) (e b : Nat) (pos : Int) (he : w.heap[e]? = some (.cells #[.iface 56 (.pointer (some ⟨b,0,none⟩)),.slice none 0 0,.iface 81 (.agg #[]),.int .i64 pos] 79 (0,0))) (Q : World → Prop)
 (HW : ∀ W1,Below w.heap.size w W1 → ∀ a T,w.heap.size ≤ a → W1.heap[a]? = some (.cells #[.int .u8 ((m : Int) / 72057594037927936 % 256),.int .u8 ((m : Int) / 281474976710656 % 256),.int .u8 ((m : Int) / 1099511627776 % 256),.int .u8 ((m : Int) / 4294967296 % 256),.int .u8 ((m : Int) / 16777216 % 256),.int .u8 ((m : Int) / 65536 % 256),.int .u8 ((m : Int) / 256 % 256),.int .u8 ((m : Int) % 256)] T (0,0)) → Calls Tryz.prog 128 #[.pointer (some ⟨b,0,none⟩),.slice (some ⟨a,0,none⟩) 8 8] W1 fun e w' => e = .returned (.tuple #[.int .i64 8,.nilIface]) ∧ Q w') :
 Calls Tryz.prog 65 #[.pointer (some ⟨e,0,none⟩),.iface 22 (.int .u64 (m : Int))] w fun e w' => e = .returned (.tuple #[]) ∧ Q w' := by
 have c0 : w.cell? ⟨e,0,none⟩ = some (.iface 56 (.pointer (some ⟨b,0,none⟩))) := (cell_of_row w e 0 _ 79 (0,0) he).trans rfl
 have c2 : w.cell? ⟨e,2,none⟩ = some (.iface 81 (.agg #[])) := (cell_of_row w e 2 _ 79 (0,0) he).trans rfl
 have gi : ∀ o,(w.alloc o).cell? ⟨e,0,none⟩ = some (.iface 56 (.pointer (some ⟨b,0,none⟩))) := fun o => ag (ab (Below.refl _ _) o) c0
 have zN : ∀ o,(w.alloc o).cell? ⟨e,2,none⟩ = some (.iface 81 (.agg #[])) := fun o => ag (ab (Below.refl _ _) o) c2
 have vF : ∀ o o2,((w.alloc o).alloc o2).cell? ⟨e,0,none⟩ = some (.iface 56 (.pointer (some ⟨b,0,none⟩))) := fun o o2 => ag (ab (Below.refl _ _) o2) (gi o)
 have i' := fun W : World => dL 8 (by omega) #[.int .u8 0,.int .u8 0,.int .u8 0,.int .u8 0,.int .u8 0,.int .u8 0,.int .u8 0,.int .u8 0] (by kernel_rfl) 8 rfl W
 have zI := Iz
 have jZ := dS b
 have jY := cR b
 have iZ := dM
 have HC := U.mk HW
 clear he HW
 go_enter Tryz.func65,Tryz.ntmps65
 go_wp2_with (first | (go_at_call 137; refine (Cb m _).mono ?_; rintro e w2 ⟨rfl,rfl⟩) | (go_at_call 128; refine (HC.out _ (ab (ab (Below.refl _ _) _) _) _ 5 (Nat.le_refl _) (by rw [heap_alloc_old _ _ (by simp)]; exact heap_alloc_new _ _)).mono ?_; rintro e w3 ⟨rfl,hq⟩; have HQ := U.mk hq; clear hq))
 all_goals
  go_end0
  exact ⟨rfl,HQ.out⟩
theorem aa2 (m : Nat) (w : World) (e b : Nat) (pos : Int) (he : w.heap[e]? = some (.cells #[.iface 56 (.pointer (some ⟨b,0,none⟩)),.slice none 0 0,.iface 82 (.agg #[]),.int .i64 pos] 79 (0,0))) (Q : World → Prop)
 (HW : ∀ W1,Below w.heap.size w W1 → ∀ a T,w.heap.size ≤ a → W1.heap[a]? = some (.cells #[.int .u8 ((m : Int) % 256),.int .u8 ((m : Int) / 256 % 256),.int .u8 ((m : Int) / 65536 % 256),.int .u8 ((m : Int) / 16777216 % 256),.int .u8 ((m : Int) / 4294967296 % 256),.int .u8 ((m : Int) / 1099511627776 % 256),.int .u8 ((m : Int) / 281474976710656 % 256),.int .u8 ((m : Int) / 72057594037927936 % 256)] T (0,0)) → Calls Tryz.prog 128 #[.pointer (some ⟨b,0,none⟩),.slice (some ⟨a,0,none⟩) 8 8] W1 fun e w' => e = .returned (.tuple #[.int .i64 8,.nilIface]) ∧ Q w') :
 Calls Tryz.prog 65 #[.pointer (some ⟨e,0,none⟩),.iface 22 (.int .u64 (m : Int))] w fun e w' => e = .returned (.tuple #[]) ∧ Q w' := by
 have c0 : w.cell? ⟨e,0,none⟩ = some (.iface 56 (.pointer (some ⟨b,0,none⟩))) := (cell_of_row w e 0 _ 79 (0,0) he).trans rfl
 have c2 : w.cell? ⟨e,2,none⟩ = some (.iface 82 (.agg #[])) := (cell_of_row w e 2 _ 79 (0,0) he).trans rfl
 have gi : ∀ o,(w.alloc o).cell? ⟨e,0,none⟩ = some (.iface 56 (.pointer (some ⟨b,0,none⟩))) := fun o => ag (ab (Below.refl _ _) o) c0
 have zN : ∀ o,(w.alloc o).cell? ⟨e,2,none⟩ = some (.iface 82 (.agg #[])) := fun o => ag (ab (Below.refl _ _) o) c2
 have vF : ∀ o o2,((w.alloc o).alloc o2).cell? ⟨e,0,none⟩ = some (.iface 56 (.pointer (some ⟨b,0,none⟩))) := fun o o2 => ag (ab (Below.refl _ _) o2) (gi o)
 have i' := fun W : World => dL 8 (by omega) #[.int .u8 0,.int .u8 0,.int .u8 0,.int .u8 0,.int .u8 0,.int .u8 0,.int .u8 0,.int .u8 0] (by kernel_rfl) 8 rfl W
 have zI := Iy
 have jZ := dS b
 have jY := cR b
 have iZ := dM
 have HC := U.mk HW
 clear he HW
 go_enter Tryz.func65,Tryz.ntmps65
 go_wp2_with (first | (go_at_call 145; refine (Ca m _).mono ?_; rintro e w2 ⟨rfl,rfl⟩) | (go_at_call 128; refine (HC.out _ (ab (ab (Below.refl _ _) _) _) _ 5 (Nat.le_refl _) (by rw [heap_alloc_old _ _ (by simp)]; exact heap_alloc_new _ _)).mono ?_; rintro e w3 ⟨rfl,hq⟩; have HQ := U.mk hq; clear hq))
 all_goals
  go_end0
  exact ⟨rfl,HQ.out⟩
theorem aba (m : Nat) (w : World) (e b : Nat) (pos : Int) (he : w.heap[e]? = some (.cells #[.iface 56 (.pointer (some ⟨b,0,none⟩)),.slice none 0 0,.iface 81 (.agg #[]),.int .i64 pos] 79 (0,0))) (Q : World → Prop)
 (HW : ∀ W1,Below w.heap.size w W1 → ∀ a T,w.heap.size ≤ a → W1.heap[a]? = some (.cells #[.int .u8 ((m : Int) / 72057594037927936 % 256),.int .u8 ((m : Int) / 281474976710656 % 256),.int .u8 ((m : Int) / 1099511627776 % 256),.int .u8 ((m : Int) / 4294967296 % 256),.int .u8 ((m : Int) / 16777216 % 256),.int .u8 ((m : Int) / 65536 % 256),.int .u8 ((m : Int) / 256 % 256),.int .u8 ((m : Int) % 256)] T (0,0)) → Calls Tryz.prog 128 #[.pointer (some ⟨b,0,none⟩),.slice (some ⟨a,0,none⟩) 8 8] W1 fun e w' => e = .returned (.tuple #[.int .i64 8,.nilIface]) ∧ Q w') :
 Calls Tryz.prog 65 #[.pointer (some ⟨e,0,none⟩),.iface 121 (.float .f64 m)] w fun e w' => e = .returned (.tuple #[]) ∧ Q w' := by
 have c0 : w.cell? ⟨e,0,none⟩ = some (.iface 56 (.pointer (some ⟨b,0,none⟩))) := (cell_of_row w e 0 _ 79 (0,0) he).trans rfl
 have c2 : w.cell? ⟨e,2,none⟩ = some (.iface 81 (.agg #[])) := (cell_of_row w e 2 _ 79 (0,0) he).trans rfl
 have gi : ∀ o,(w.alloc o).cell? ⟨e,0,none⟩ = some (.iface 56 (.pointer (some ⟨b,0,none⟩))) := fun o => ag (ab (Below.refl _ _) o) c0
 have zN : ∀ o,(w.alloc o).cell? ⟨e,2,none⟩ = some (.iface 81 (.agg #[])) := fun o => ag (ab (Below.refl _ _) o) c2
 have vF : ∀ o o2,((w.alloc o).alloc o2).cell? ⟨e,0,none⟩ = some (.iface 56 (.pointer (some ⟨b,0,none⟩))) := fun o o2 => ag (ab (Below.refl _ _) o2) (gi o)
 have i' := fun W : World => dL 8 (by omega) #[.int .u8 0,.int .u8 0,.int .u8 0,.int .u8 0,.int .u8 0,.int .u8 0,.int .u8 0,.int .u8 0] (by kernel_rfl) 8 rfl W
 have zI := Iz
 have jZ := dS b
 have jY := cR b
 have iZ := dM
 have HC := U.mk HW
 clear he HW
 go_enter Tryz.func65,Tryz.ntmps65
 go_wp2_with (first | (go_at_call 137; refine (Cb m _).mono ?_; rintro e w2 ⟨rfl,rfl⟩) | (go_at_call 128; refine (HC.out _ (ab (ab (Below.refl _ _) _) _) _ 5 (Nat.le_refl _) (by rw [heap_alloc_old _ _ (by simp)]; exact heap_alloc_new _ _)).mono ?_; rintro e w3 ⟨rfl,hq⟩; have HQ := U.mk hq; clear hq))
 go_region_with (first | (go_at_call 137; refine (Cb m w.drew).mono ?_; rintro e w2 ⟨rfl,rfl⟩))
 all_goals
  have c0c : ∀ o o2,((w.drew.alloc o).alloc o2).cell? ⟨e,0,none⟩ = some (.iface 56 (.pointer (some ⟨b,0,none⟩))) := fun o o2 => vF o o2
  go_wp2_with (go_at_call 128; refine (HC.out _ (ab (ab (ak (Below.refl _ _)) _) _) w.heap.size 5 (Nat.le_refl _) (by rw [heap_alloc_old _ _ (by simp)]; exact heap_alloc_new w.drew _)).mono ?_; rintro e w3 ⟨rfl,hq⟩; have HQ := U.mk hq; clear hq)
  go_end0
  exact ⟨rfl,HQ.out⟩
theorem aa' (m : Nat) (w : World) (e b : Nat) (pos : Int) (he : w.heap[e]? = some (.cells #[.iface 56 (.pointer (some ⟨b,0,none⟩)),.slice none 0 0,.iface 82 (.agg #[]),.int .i64 pos] 79 (0,0))) (Q : World → Prop)
 (HW : ∀ W1,Below w.heap.size w W1 → ∀ a T,w.heap.size ≤ a → W1.heap[a]? = some (.cells #[.int .u8 ((m : Int) % 256),.int .u8 ((m : Int) / 256 % 256),.int .u8 ((m : Int) / 65536 % 256),.int .u8 ((m : Int) / 16777216 % 256),.int .u8 ((m : Int) / 4294967296 % 256),.int .u8 ((m : Int) / 1099511627776 % 256),.int .u8 ((m : Int) / 281474976710656 % 256),.int .u8 ((m : Int) / 72057594037927936 % 256)] T (0,0)) → Calls Tryz.prog 128 #[.pointer (some ⟨b,0,none⟩),.slice (some ⟨a,0,none⟩) 8 8] W1 fun e w' => e = .returned (.tuple #[.int .i64 8,.nilIface]) ∧ Q w') :
 Calls Tryz.prog 65 #[.pointer (some ⟨e,0,none⟩),.iface 121 (.float .f64 m)] w fun e w' => e = .returned (.tuple #[]) ∧ Q w' := by
 have c0 : w.cell? ⟨e,0,none⟩ = some (.iface 56 (.pointer (some ⟨b,0,none⟩))) := (cell_of_row w e 0 _ 79 (0,0) he).trans rfl
 have c2 : w.cell? ⟨e,2,none⟩ = some (.iface 82 (.agg #[])) := (cell_of_row w e 2 _ 79 (0,0) he).trans rfl
 have gi : ∀ o,(w.alloc o).cell? ⟨e,0,none⟩ = some (.iface 56 (.pointer (some ⟨b,0,none⟩))) := fun o => ag (ab (Below.refl _ _) o) c0
 have zN : ∀ o,(w.alloc o).cell? ⟨e,2,none⟩ = some (.iface 82 (.agg #[])) := fun o => ag (ab (Below.refl _ _) o) c2
 have vF : ∀ o o2,((w.alloc o).alloc o2).cell? ⟨e,0,none⟩ = some (.iface 56 (.pointer (some ⟨b,0,none⟩))) := fun o o2 => ag (ab (Below.refl _ _) o2) (gi o)
 have i' := fun W : World => dL 8 (by omega) #[.int .u8 0,.int .u8 0,.int .u8 0,.int .u8 0,.int .u8 0,.int .u8 0,.int .u8 0,.int .u8 0] (by kernel_rfl) 8 rfl W
 have zI := Iy
 have jZ := dS b
 have jY := cR b
 have iZ := dM
 have HC := U.mk HW
 clear he HW
 go_enter Tryz.func65,Tryz.ntmps65
 go_wp2_with (first | (go_at_call 145; refine (Ca m _).mono ?_; rintro e w2 ⟨rfl,rfl⟩) | (go_at_call 128; refine (HC.out _ (ab (ab (Below.refl _ _) _) _) _ 5 (Nat.le_refl _) (by rw [heap_alloc_old _ _ (by simp)]; exact heap_alloc_new _ _)).mono ?_; rintro e w3 ⟨rfl,hq⟩; have HQ := U.mk hq; clear hq))
 go_region_with (first | (go_at_call 145; refine (Ca m w.drew).mono ?_; rintro e w2 ⟨rfl,rfl⟩))
 all_goals
  have c0c : ∀ o o2,((w.drew.alloc o).alloc o2).cell? ⟨e,0,none⟩ = some (.iface 56 (.pointer (some ⟨b,0,none⟩))) := fun o o2 => vF o o2
  go_wp2_with (go_at_call 128; refine (HC.out _ (ab (ab (ak (Below.refl _ _)) _) _) w.heap.size 5 (Nat.le_refl _) (by rw [heap_alloc_old _ _ (by simp)]; exact heap_alloc_new w.drew _)).mono ?_; rintro e w3 ⟨rfl,hq⟩; have HQ := U.mk hq; clear hq)
  go_end0
  exact ⟨rfl,HQ.out⟩
end Go.Proofs.YtkdebhgccpfkiaaGreatDoor.au
namespace Go.Proofs.YtkdebhgccpfkiaaGreatDoor.au
open Go.RowKit Go.Proofs.aa.az Go.Proofs.aa.aM Go.Proofs.aa.aU
attribute [local go_sem] ba bh
set_option linter.unusedVariables false
set_option linter.unusedSimpArgs false
structure EN (w : World) (B e b : Nat) (r : Option Nat) (pos m : Nat) (ord : Value) : Prop where
 en : w.heap[e]? = some (.cells #[.iface 56 (.pointer (some ⟨b,0,none⟩)),.slice none 0 0,ord,.int .i64 (pos : Int)] 79 (0,0))
 bf : Bf w b r m
 ne : e ≠ b
 he : B ≤ e
 hb : B ≤ b
 hr : ∀ g,r = some g → B ≤ g
 hw : B ≤ w.heap.size
 lp : pos ≤ 200000000000
 lm : m ≤ 200000000000
def EX (e b : Nat) (r : Option Nat) : Nat → Prop := fun k => k = e ∨ k = b ∨ r = some k
theorem EN.re {w : World} {B e b : Nat} {r : Option Nat} {pos m : Nat} {ord : Value} (h : EN w B e b r pos m ord) : r ≠ some e := by
 intro hr
 rcases h.bf with ⟨h1,_⟩ | ⟨g,cap,cur,lr,h1,_,_,h4,_⟩
 · rw [hr] at h1; cases h1
 · rw [hr] at h1
   obtain rfl := Option.some.inj h1
   rw [h.en] at h4
   injection h4 with h4
   injection h4 with _ h4
   exact absurd h4 (by decide)
theorem EN.S8 {w : World} {B e b : Nat} {r : Option Nat} {pos m : Nat} {ord : Value} (h : EN w B e b r pos m ord) : e < w.heap.size := (Array.getElem?_eq_some_iff.1 h.en).1
theorem EX.ge {w : World} {B e b : Nat} {r : Option Nat} {pos m : Nat} {ord : Value} (h : EN w B e b r pos m ord) : ∀ k,EX e b r k → B ≤ k := by
 rintro k (rfl | rfl | hk)
 · exact h.he
 · exact h.hb
 · exact h.hr k hk
theorem Rn.trans {w w1 : World} {r r1 r2 : Option Nat} (h : Rn w r r1) (k : Rn w1 r1 r2) (hs : w.heap.size ≤ w1.heap.size) : Rn w r r2 := by
 rcases k with rfl | ⟨g,rfl,hg⟩
 · exact h
 · exact .inr ⟨g,rfl,Nat.le_trans hs hg⟩
theorem EN.move {w w' : World} {B e b : Nat} {r : Option Nat} {pos m : Nat} {ord : Value} (h : EN w B e b r pos m ord) (hs : w.heap.size ≤ w'.heap.size) (hk : ∀ k,EX e b r k → w'.heap[k]? = w.heap[k]?) : EN w' B e b r pos m ord:=
 ⟨(hk e (.inl rfl)).trans h.en,h.bf.move (hk b (.inr (.inl rfl))) (fun g hg => hk g (.inr (.inr hg))),h.ne,h.he,h.hb,h.hr,Nat.le_trans h.hw hs,h.lp,h.lm⟩
theorem EN.lt {w : World} {B e b : Nat} {r : Option Nat} {pos m : Nat} {ord : Value} (h : EN w B e b r pos m ord) : ∀ k,EX e b r k → k < w.heap.size := by
 rintro k (rfl | rfl | hk)
 · exact h.S8
 · exact h.bf.lt
 · exact (h.bf.Ng hk).1
theorem EN.up {w w' : World} {B e b : Nat} {r : Option Nat} {pos m : Nat} {ord : Value} (h : EN w B e b r pos m ord) (hb : Below w.heap.size w w') : EN w' B e b r pos m ord:=
 h.move hb.size (fun k hk => hb.block k (h.lt k hk))
def WQ (w : World) (b : Nat) (r : Option Nat) (m k : Nat) (w' : World) : Prop := ∃ r', Bf w' b r' (m + k) ∧ Rn w r r' ∧ Fr w w' (BX b r)
theorem WQ.en {w w' : World} {B e b : Nat} {r : Option Nat} {pos m k : Nat} {ord : Value} (h : EN w B e b r pos m ord) (hq : WQ w b r m k w') (hk : k ≤ 1000000000) (hm : m + k ≤ 200000000000) : ∃ r', EN w' B e b r' pos (m + k) ord ∧ Rn w r r' ∧ Fr w w' (EX e b r) := by
 obtain ⟨r', h1,h2,h3⟩ := hq
 refine ⟨r', ⟨(h3.keep e h.S8 (fun hx => hx.elim h.ne (h.re))).trans h.en,h1,h.ne,h.he,h.hb,fun g hg => ?_,Nat.le_trans h.hw h3.size,h.lp,hm⟩,h2,h3.more (fun k _ hx => hx.elim (fun h => .inr (.inl h)) (fun h => .inr (.inr h)))⟩
 rcases h2 with rfl | ⟨g', rfl,hg'⟩
 · exact h.hr g hg
 · obtain rfl := Option.some.inj hg
   exact Nat.le_trans h.hw hg'
theorem gZ {w : World} {b : Nat} {r : Option Nat} {m : Nat} (h : Bf w b r m) (k : Nat) (hk : 1 ≤ k) (gL : m + k ≤ 1000000000000) (cs : List Value) (hl : cs.length = k) (h1 : ∀ v ∈ cs,jC v) :
 ∀ W1,Below w.heap.size w W1 → ∀ (a : Nat) (T : TypeId),w.heap.size ≤ a → W1.heap[a]? = some (.cells cs.toArray T (0,0)) → Calls Tryz.prog 128 #[.pointer (some ⟨b,0,none⟩),.slice (some ⟨a,0,none⟩) k k] W1 fun e w' => e = .returned (.tuple #[.int .i64 (k : Int),.nilIface]) ∧ WQ w b r m k w' := by
 intro W1 hb a T ha hc
 have Dk := h.lt
 have hB : Bf W1 b r m := h.move (hb.block b Dk) (fun g hg => hb.block g (h.Ng hg).1)
 have hla := (Array.getElem?_eq_some_iff.1 hc).1
 have Jv : ∀ j,((⟨a,0,none⟩ : Addr).add j).block = a := fun j => by rw [Lib.addr_add]
 refine (P0 W1 b r m k k cs ⟨a,0,none⟩ hB hk gL hl (fun j v hj => Lib.cells_of_row hc cs.length j v (by simpa using hj)) (fun j v _ => by rw [Jv]; exact ⟨hla,by omega⟩) (by show a ≠ b; omega) h1).mono ?_
 rintro e w' ⟨he,r', h2,h3,h4⟩
 refine ⟨he,r', h2,?_,?_⟩
 · rcases h3 with rfl | ⟨g,rfl,hg⟩
   · exact .inl rfl
   · exact .inr ⟨g,rfl,Nat.le_trans hb.size hg⟩
 · exact (Fr.iW hb (BX b r)).trans h4 (fun k _ hx => hx)
structure St (w : World) (B e b : Nat) (r0 : Option Nat) (ord V S : Value) (W : World) (r : Option Nat) (pos m : Nat) : Prop where
 en : EN W B e b r pos m ord
 box : W.heap[w.heap.size]? = some (.cells #[V,S] 86 (0,0))
 fr : Fr w W (EX e b r0)
 rn : Rn w r0 r
theorem St.start {w : World} {B e b : Nat} {r0 : Option Nat} {ord : Value} {pos m : Nat} (V S : Value) (h : EN w B e b r0 pos m ord) : St w B e b r0 ord V S (w.alloc (.cells #[V,S] 86)) r0 pos m:=
 ⟨h.up (ab (Below.refl _ _) _),heap_alloc_new _ _,Fr.iW (ab (Below.refl _ _) _) _,.inl rfl⟩
theorem St.lt {w W : World} {B e b : Nat} {r0 r : Option Nat} {ord V S : Value} {pos m : Nat} (h : St w B e b r0 ord V S W r pos m) : w.heap.size < W.heap.size := (Array.getElem?_eq_some_iff.1 h.box).1
theorem St.up {w W W' : World} {B e b : Nat} {r0 r : Option Nat} {ord V S : Value} {pos m : Nat} (h : St w B e b r0 ord V S W r pos m) (hb : Below W.heap.size W W') : St w B e b r0 ord V S W' r pos m:=
 ⟨h.en.up hb,(hb.block _ h.lt).trans h.box,h.fr.trans (Fr.iW hb (EX e b r0)) (fun _ _ h => h),h.rn⟩
theorem St.ex {w W : World} {B e b : Nat} {r0 r : Option Nat} {ord V S : Value} {pos m : Nat} (h : St w B e b r0 ord V S W r pos m) : ∀ k,k < w.heap.size → EX e b r k → EX e b r0 k := by
 rintro k hk (rfl | rfl | hx)
 · exact .inl rfl
 · exact .inr (.inl rfl)
 · rcases h.rn with rfl | ⟨g,rfl,hg⟩
   · exact .inr (.inr hx)
   · obtain rfl := Option.some.inj hx
     omega
theorem St.step {w W W' : World} {B e b : Nat} {r0 r r' : Option Nat} {ord V S : Value} {pos m pos' m' : Nat} (h : St w B e b r0 ord V S W r pos m) (he : EN W' B e b r' pos' m' ord) (hf : Fr W W' (EX e b r)) (hr : Rn W r r') (hbx : ¬ EX e b r w.heap.size) : St w B e b r0 ord V S W' r' pos' m' :=
 ⟨he,(hf.keep _ h.lt hbx).trans h.box,h.fr.trans hf h.ex,h.rn.trans hr h.fr.size⟩
theorem St.iX {w W : World} {B e b : Nat} {r0 r : Option Nat} {ord V S : Value} {p0 m0 pos m : Nat} (h0 : EN w B e b r0 p0 m0 ord) (h : St w B e b r0 ord V S W r pos m) : ¬ EX e b r w.heap.size := by
 rintro (h1 | h1 | h1)
 · have := h0.S8; omega
 · have := h0.bf.lt; omega
 · rcases h.en.bf with ⟨h2,_⟩ | ⟨g,cap,cur,lr,h2,_,_,h4,_⟩
   · rw [h1] at h2; cases h2
   · rw [h1] at h2
     obtain rfl := Option.some.inj h2
     have hbx := h.box
     rw [h4] at hbx
     injection hbx with hbx
     injection hbx with _ hbx
     exact absurd hbx (by decide)
theorem St.x0 {w W : World} {B e b : Nat} {r0 r : Option Nat} {ord V S : Value} {pos m : Nat} (h : St w B e b r0 ord V S W r pos m) : W.cell? ⟨w.heap.size,0,none⟩ = some V := (cell_of_row W _ 0 _ 86 (0,0) h.box).trans rfl
theorem St.x1 {w W : World} {B e b : Nat} {r0 r : Option Nat} {ord V S : Value} {pos m : Nat} (h : St w B e b r0 ord V S W r pos m) : W.cell? ⟨w.heap.size,1,none⟩ = some S := (cell_of_row W _ 1 _ 86 (0,0) h.box).trans rfl
theorem EN.c0 {w : World} {B e b : Nat} {r : Option Nat} {pos m : Nat} {ord : Value} (h : EN w B e b r pos m ord) : w.cell? ⟨e,0,none⟩ = some (.iface 56 (.pointer (some ⟨b,0,none⟩))) := (cell_of_row w e 0 _ 79 (0,0) h.en).trans rfl
theorem EN.c1 {w : World} {B e b : Nat} {r : Option Nat} {pos m : Nat} {ord : Value} (h : EN w B e b r pos m ord) : w.cell? ⟨e,1,none⟩ = some (.slice none 0 0) := (cell_of_row w e 1 _ 79 (0,0) h.en).trans rfl
theorem EN.c3 {w : World} {B e b : Nat} {r : Option Nat} {pos m : Nat} {ord : Value} (h : EN w B e b r pos m ord) : w.cell? ⟨e,3,none⟩ = some (.int .i64 (pos : Int)) := (cell_of_row w e 3 _ 79 (0,0) h.en).trans rfl
theorem EN.f {w : World} {B e b : Nat} {r : Option Nat} {pos m : Nat} {ord : Value} (h : EN w B e b r pos m ord) (i : Nat) : w.frozen? ⟨e,i,none⟩ = false := frozen_of_row w e i _ 79 h.en
theorem EN.pos {w : World} {B e b : Nat} {r : Option Nat} {pos m : Nat} {ord : Value} (h : EN w B e b r pos m ord) (p : Nat) (hp : p ≤ 200000000000) : EN (w.setCell ⟨e,3,none⟩ (.int .i64 (p : Int))) B e b r p m ord ∧ Fr w (w.setCell ⟨e,3,none⟩ (.int .i64 (p : Int))) (EX e b r):=
 ⟨⟨heap_setCell_same w e 3 _ 79 _ h.en,h.bf.move (Below.heap_setCell w ⟨e,3,none⟩ _ b (Ne.symm h.ne)) (fun g hg => Below.heap_setCell w ⟨e,3,none⟩ _ g (fun q => h.re (by rw [← (show g = e from q)]; exact hg))),h.ne,h.he,h.hb,h.hr,by rw [World.size_setCell]; exact h.hw,hp,h.lm⟩,(Fr.refl w _).set _ _ (.inl (.inl rfl))⟩
theorem kO {w : World} {B e b : Nat} {r : Option Nat} {pos m : Nat} {ord : Value} (h : EN w B e b r pos m ord) (off a : Nat) (ha : a = 1 ∨ a = 2 ∨ a = 4 ∨ a = 8) (ho : off ≤ 1000000) :
 Calls Tryz.prog 73 #[.pointer (some ⟨e,0,none⟩),.int .i64 (off : Int),.int .i64 (a : Int)] w fun e w' => e = .returned (.int .i64 (pd (pos + off) a : Nat)) ∧ w' = w := by
 have hp := h.lp
 rcases ha with rfl | rfl | rfl | rfl
 · exact acN w e _ _ _ pos off h.en (by omega) (by omega)
 · exact acM w e _ _ _ pos off h.en (by omega) (by omega)
 · exact acL w e _ _ _ pos off h.en (by omega) (by omega)
 · exact acK w e _ _ _ pos off h.en (by omega) (by omega)
theorem dZ {x a : Nat} (ha : a = 1 ∨ a = 2 ∨ a = 4 ∨ a = 8) : pd x a ≤ 7 := by
 rcases ha with rfl | rfl | rfl | rfl <;> unfold pd <;> omega
theorem b7 {w : World} {B e b : Nat} {r : Option Nat} {pos m : Nat} {ord : Value} (h : EN w B e b r pos m ord) (a : Nat) (ha : a = 1 ∨ a = 2 ∨ a = 4 ∨ a = 8) (hp : pos + 10 ≤ 200000000000) (hm : m + 10 ≤ 200000000000) :
 Calls Tryz.prog 59 #[.pointer (some ⟨e,0,none⟩),.int .i64 (a : Int)] w fun e' w' => e' = .returned (.tuple #[]) ∧ ∃ r', EN w' B e b r' (pos + pd pos a) (m + pd pos a) ord ∧ Fr w w' (EX e b r) ∧ Rn w r r' := by
 have I' := kO h 0 a ha (by omega)
 rw [Nat.add_zero] at I'
 have h7 := dZ (x := pos) ha
 obtain ⟨p,Zh⟩ : ∃ p,pd pos a = p := ⟨_,rfl⟩
 rw [Zh] at I' h7 ⊢
 have HP := U.mk I'
 have HE := U.mk h
 by_cases h0 : p = 0
 · subst h0
   clear I' h Zh ha
   go_enter Tryz.func59,Tryz.ntmps59
   go_wp2_with (go_at_call 73; refine HP.out.mono ?_; rintro e1 w1 ⟨rfl,rfl⟩)
   go_end0
   exact ⟨rfl,r,HE.out,Fr.refl _ _,.inl rfl⟩
 · have hd : decide ((0 : Int) < (p : Int)) = true := by simp; omega
   have i' := fun W : World => dL p (by omega) _ rfl (p : Int) rfl W
   have c0 := h.c0
   have gi := fun o => ag (ab (Below.refl w.heap.size w) o) c0
   have jZ := dS b
   have jY := cR b
   have LZ := Fz p
   have HW := U.mk (gZ h.bf p (by omega) (by omega) (madeCells (Value.int .u8 0).cells p).toList (by rw [Array.length_toList]; exact LZ.1) LZ.2)
   clear I' h Zh ha LZ
   go_enter Tryz.func59,Tryz.ntmps59
   go_wp2_with (first | (go_at_call 73; refine HP.out.mono ?_; rintro e1 w1 ⟨rfl,rfl⟩) | fail)
   refine (HW.out _ (ab (Below.refl _ _) _) _ 5 (Nat.le_refl _) (by rw [Array.toArray_toList]; exact heap_alloc_new _ _)).mono ?_
   rintro e2 w2 ⟨rfl,hq⟩
   obtain ⟨r', bJ,bY,bX⟩ := hq.en HE.out (by omega) (by omega)
   have d3 := bJ.c3
   have g3 := bJ.f 3
   have jN : IntKind.i64.wrap ((pos : Int) + (p : Int)) = ((pos + p : Nat) : Int) := by rw [IntKind.wrap_i64]; omega
   have HN := U.mk (And.intro bJ (And.intro bY bX))
   clear hq bJ bY bX c0 gi
   go_wp2
   go_end0
   obtain ⟨bJ,bY,bX⟩ := HN.out
   have Jb := bJ.pos (pos + p) (by omega)
   exact ⟨rfl,r', Jb.1,bX.trans Jb.2 (fun k hk hx => by
    rcases hx with rfl | rfl | hx
    · exact .inl rfl
    · exact .inr (.inl rfl)
    · rcases bY with rfl | ⟨g,rfl,hg⟩
      · exact .inr (.inr hx)
      · obtain rfl := Option.some.inj hx
        omega),bY⟩
def iP (ord : Value) : Prop := ord = .iface 81 (.agg #[]) ∨ ord = .iface 82 (.agg #[])
def ER (w : World) (B e b : Nat) (r : Option Nat) (pos m : Nat) (ord : Value) (K : Nat) (w' : World) : Prop := ∃ r' p,EN w' B e b r' (pos + p) (m + p) ord ∧ Fr w w' (EX e b r) ∧ Rn w r r' ∧ p ≤ K
theorem St.out {w W : World} {B e b : Nat} {r0 r : Option Nat} {ord V S : Value} {pos m pos' m' K : Nat} (h : St w B e b r0 ord V S W r pos' m') (hp : ∃ p,pos' = pos + p ∧ m' = m + p ∧ p ≤ K) : ER w B e b r0 pos m ord K W := by
 obtain ⟨p,rfl,rfl,hK⟩ := hp
 exact ⟨r,p,h.en,h.fr,h.rn,hK⟩
theorem St.wr {w W W' : World} {B e b : Nat} {r0 r : Option Nat} {ord V S : Value} {pos m k p0 m0 : Nat} (h0 : EN w B e b r0 p0 m0 ord) (h : St w B e b r0 ord V S W r pos m) (hq : WQ W b r m k W') (hk : k ≤ 1000000000) (hm : m + k ≤ 200000000000) : ∃ r', St w B e b r0 ord V S W' r' pos (m + k) := by
 obtain ⟨r', h1,h2,h3⟩ := hq.en h.en hk hm
 exact ⟨r', h.step h1 h3 h2 (h.iX h0)⟩
theorem St.pos {w W : World} {B e b : Nat} {r0 r : Option Nat} {ord V S : Value} {pos m p0 m0 : Nat} (h0 : EN w B e b r0 p0 m0 ord) (h : St w B e b r0 ord V S W r pos m) (p : Nat) (hp : p ≤ 200000000000) : St w B e b r0 ord V S (W.setCell ⟨e,3,none⟩ (.int .i64 (p : Int))) r p m:=
 h.step (h.en.pos p hp).1 (h.en.pos p hp).2 (.inl rfl) (h.iX h0)
theorem adj (x : Int) {w : World} {B e b : Nat} {r : Option Nat} {pos m : Nat} {ord : Value} (h : EN w B e b r pos m ord) (ho : iP ord) : Calls Tryz.prog 65 #[.pointer (some ⟨e,0,none⟩),.iface 71 (.int .i16 x)] w fun e' w' => e' = .returned (.tuple #[]) ∧ WQ w b r m 2 w' := by
 have hm := h.lm
 have Gt : IntKind.u16.wrap x = ((IntKind.u16.wrap x).toNat : Int) := by rw [IntKind.wrap_u16]; omega
 rcases ho with rfl | rfl
 · exact aa7 x _ Gt w e b pos h.en (WQ w b r m 2) (gZ h.bf 2 (by omega) (by omega) [.int .u8 (((IntKind.u16.wrap x).toNat : Int) / 256 % 256),.int .u8 (((IntKind.u16.wrap x).toNat : Int) % 256)] rfl (by intro v hv; simp at hv; rcases hv with rfl | rfl <;> exact fp _ (by omega)))
 · exact aa6 x _ Gt w e b pos h.en (WQ w b r m 2) (gZ h.bf 2 (by omega) (by omega) [.int .u8 (((IntKind.u16.wrap x).toNat : Int) % 256),.int .u8 (((IntKind.u16.wrap x).toNat : Int) / 256 % 256)] rfl (by intro v hv; simp at hv; rcases hv with rfl | rfl <;> exact fp _ (by omega)))
theorem adi (x : Nat) {w : World} {B e b : Nat} {r : Option Nat} {pos m : Nat} {ord : Value} (h : EN w B e b r pos m ord) (ho : iP ord) : Calls Tryz.prog 65 #[.pointer (some ⟨e,0,none⟩),.iface 120 (.int .u16 (x : Int))] w fun e' w' => e' = .returned (.tuple #[]) ∧ WQ w b r m 2 w' := by
 have hm := h.lm
 rcases ho with rfl | rfl
 · exact aa5 x w e b pos h.en (WQ w b r m 2) (gZ h.bf 2 (by omega) (by omega) [.int .u8 ((x : Int) / 256 % 256),.int .u8 ((x : Int) % 256)] rfl (by intro v hv; simp at hv; rcases hv with rfl | rfl <;> exact fp _ (by omega)))
 · exact aa4 x w e b pos h.en (WQ w b r m 2) (gZ h.bf 2 (by omega) (by omega) [.int .u8 ((x : Int) % 256),.int .u8 ((x : Int) / 256 % 256)] rfl (by intro v hv; simp at hv; rcases hv with rfl | rfl <;> exact fp _ (by omega)))
theorem adk (x : Int) {w : World} {B e b : Nat} {r : Option Nat} {pos m : Nat} {ord : Value} (h : EN w B e b r pos m ord) (ho : iP ord) : Calls Tryz.prog 65 #[.pointer (some ⟨e,0,none⟩),.iface 21 (.int .i32 x)] w fun e' w' => e' = .returned (.tuple #[]) ∧ WQ w b r m 4 w' := by
 have hm := h.lm
 have Gt : IntKind.u32.wrap x = ((IntKind.u32.wrap x).toNat : Int) := by rw [IntKind.wrap_u32]; omega
 rcases ho with rfl | rfl
 · exact aa9 x _ Gt w e b pos h.en (WQ w b r m 4) (gZ h.bf 4 (by omega) (by omega) [.int .u8 (((IntKind.u32.wrap x).toNat : Int) / 16777216 % 256),.int .u8 (((IntKind.u32.wrap x).toNat : Int) / 65536 % 256),.int .u8 (((IntKind.u32.wrap x).toNat : Int) / 256 % 256),.int .u8 (((IntKind.u32.wrap x).toNat : Int) % 256)] rfl (by intro v hv; simp at hv; rcases hv with rfl | rfl | rfl | rfl <;> exact fp _ (by omega)))
 · exact aa8 x _ Gt w e b pos h.en (WQ w b r m 4) (gZ h.bf 4 (by omega) (by omega) [.int .u8 (((IntKind.u32.wrap x).toNat : Int) % 256),.int .u8 (((IntKind.u32.wrap x).toNat : Int) / 256 % 256),.int .u8 (((IntKind.u32.wrap x).toNat : Int) / 65536 % 256),.int .u8 (((IntKind.u32.wrap x).toNat : Int) / 16777216 % 256)] rfl (by intro v hv; simp at hv; rcases hv with rfl | rfl | rfl | rfl <;> exact fp _ (by omega)))
theorem TV (x : Nat) {w : World} {B e b : Nat} {r : Option Nat} {pos m : Nat} {ord : Value} (h : EN w B e b r pos m ord) (ho : iP ord) : Calls Tryz.prog 65 #[.pointer (some ⟨e,0,none⟩),.iface 117 (.int .u32 (x : Int))] w fun e' w' => e' = .returned (.tuple #[]) ∧ WQ w b r m 4 w' := by
 have hm := h.lm
 rcases ho with rfl | rfl
 · exact aa1 x w e b pos h.en (WQ w b r m 4) (gZ h.bf 4 (by omega) (by omega) [.int .u8 ((x : Int) / 16777216 % 256),.int .u8 ((x : Int) / 65536 % 256),.int .u8 ((x : Int) / 256 % 256),.int .u8 ((x : Int) % 256)] rfl (by intro v hv; simp at hv; rcases hv with rfl | rfl | rfl | rfl <;> exact fp _ (by omega)))
 · exact aa0 x w e b pos h.en (WQ w b r m 4) (gZ h.bf 4 (by omega) (by omega) [.int .u8 ((x : Int) % 256),.int .u8 ((x : Int) / 256 % 256),.int .u8 ((x : Int) / 65536 % 256),.int .u8 ((x : Int) / 16777216 % 256)] rfl (by intro v hv; simp at hv; rcases hv with rfl | rfl | rfl | rfl <;> exact fp _ (by omega)))
theorem adg (x : Int) {w : World} {B e b : Nat} {r : Option Nat} {pos m : Nat} {ord : Value} (h : EN w B e b r pos m ord) (ho : iP ord) : Calls Tryz.prog 65 #[.pointer (some ⟨e,0,none⟩),.iface 2 (.int .i64 x)] w fun e' w' => e' = .returned (.tuple #[]) ∧ WQ w b r m 8 w' := by
 have hm := h.lm
 have Gt : IntKind.u64.wrap x = ((IntKind.u64.wrap x).toNat : Int) := by rw [IntKind.wrap_u64]; omega
 rcases ho with rfl | rfl
 · exact aaZ x _ Gt w e b pos h.en (WQ w b r m 8) (gZ h.bf 8 (by omega) (by omega) [.int .u8 (((IntKind.u64.wrap x).toNat : Int) / 72057594037927936 % 256),.int .u8 (((IntKind.u64.wrap x).toNat : Int) / 281474976710656 % 256),.int .u8 (((IntKind.u64.wrap x).toNat : Int) / 1099511627776 % 256),.int .u8 (((IntKind.u64.wrap x).toNat : Int) / 4294967296 % 256),.int .u8 (((IntKind.u64.wrap x).toNat : Int) / 16777216 % 256),.int .u8 (((IntKind.u64.wrap x).toNat : Int) / 65536 % 256),.int .u8 (((IntKind.u64.wrap x).toNat : Int) / 256 % 256),.int .u8 (((IntKind.u64.wrap x).toNat : Int) % 256)] rfl (by intro v hv; simp at hv; rcases hv with rfl | rfl | rfl | rfl | rfl | rfl | rfl | rfl <;> exact fp _ (by omega)))
 · exact aaY x _ Gt w e b pos h.en (WQ w b r m 8) (gZ h.bf 8 (by omega) (by omega) [.int .u8 (((IntKind.u64.wrap x).toNat : Int) % 256),.int .u8 (((IntKind.u64.wrap x).toNat : Int) / 256 % 256),.int .u8 (((IntKind.u64.wrap x).toNat : Int) / 65536 % 256),.int .u8 (((IntKind.u64.wrap x).toNat : Int) / 16777216 % 256),.int .u8 (((IntKind.u64.wrap x).toNat : Int) / 4294967296 % 256),.int .u8 (((IntKind.u64.wrap x).toNat : Int) / 1099511627776 % 256),.int .u8 (((IntKind.u64.wrap x).toNat : Int) / 281474976710656 % 256),.int .u8 (((IntKind.u64.wrap x).toNat : Int) / 72057594037927936 % 256)] rfl (by intro v hv; simp at hv; rcases hv with rfl | rfl | rfl | rfl | rfl | rfl | rfl | rfl <;> exact fp _ (by omega)))
theorem adh (x : Nat) {w : World} {B e b : Nat} {r : Option Nat} {pos m : Nat} {ord : Value} (h : EN w B e b r pos m ord) (ho : iP ord) : Calls Tryz.prog 65 #[.pointer (some ⟨e,0,none⟩),.iface 22 (.int .u64 (x : Int))] w fun e' w' => e' = .returned (.tuple #[]) ∧ WQ w b r m 8 w' := by
 have hm := h.lm
 rcases ho with rfl | rfl
 · exact aa3 x w e b pos h.en (WQ w b r m 8) (gZ h.bf 8 (by omega) (by omega) [.int .u8 ((x : Int) / 72057594037927936 % 256),.int .u8 ((x : Int) / 281474976710656 % 256),.int .u8 ((x : Int) / 1099511627776 % 256),.int .u8 ((x : Int) / 4294967296 % 256),.int .u8 ((x : Int) / 16777216 % 256),.int .u8 ((x : Int) / 65536 % 256),.int .u8 ((x : Int) / 256 % 256),.int .u8 ((x : Int) % 256)] rfl (by intro v hv; simp at hv; rcases hv with rfl | rfl | rfl | rfl | rfl | rfl | rfl | rfl <;> exact fp _ (by omega)))
 · exact aa2 x w e b pos h.en (WQ w b r m 8) (gZ h.bf 8 (by omega) (by omega) [.int .u8 ((x : Int) % 256),.int .u8 ((x : Int) / 256 % 256),.int .u8 ((x : Int) / 65536 % 256),.int .u8 ((x : Int) / 16777216 % 256),.int .u8 ((x : Int) / 4294967296 % 256),.int .u8 ((x : Int) / 1099511627776 % 256),.int .u8 ((x : Int) / 281474976710656 % 256),.int .u8 ((x : Int) / 72057594037927936 % 256)] rfl (by intro v hv; simp at hv; rcases hv with rfl | rfl | rfl | rfl | rfl | rfl | rfl | rfl <;> exact fp _ (by omega)))
theorem adl (x : Nat) {w : World} {B e b : Nat} {r : Option Nat} {pos m : Nat} {ord : Value} (h : EN w B e b r pos m ord) (ho : iP ord) : Calls Tryz.prog 65 #[.pointer (some ⟨e,0,none⟩),.iface 121 (.float .f64 x)] w fun e' w' => e' = .returned (.tuple #[]) ∧ WQ w b r m 8 w' := by
 have hm := h.lm
 rcases ho with rfl | rfl
 · exact aba x w e b pos h.en (WQ w b r m 8) (gZ h.bf 8 (by omega) (by omega) [.int .u8 ((x : Int) / 72057594037927936 % 256),.int .u8 ((x : Int) / 281474976710656 % 256),.int .u8 ((x : Int) / 1099511627776 % 256),.int .u8 ((x : Int) / 4294967296 % 256),.int .u8 ((x : Int) / 16777216 % 256),.int .u8 ((x : Int) / 65536 % 256),.int .u8 ((x : Int) / 256 % 256),.int .u8 ((x : Int) % 256)] rfl (by intro v hv; simp at hv; rcases hv with rfl | rfl | rfl | rfl | rfl | rfl | rfl | rfl <;> exact fp _ (by omega)))
 · exact aa' x w e b pos h.en (WQ w b r m 8) (gZ h.bf 8 (by omega) (by omega) [.int .u8 ((x : Int) % 256),.int .u8 ((x : Int) / 256 % 256),.int .u8 ((x : Int) / 65536 % 256),.int .u8 ((x : Int) / 16777216 % 256),.int .u8 ((x : Int) / 4294967296 % 256),.int .u8 ((x : Int) / 1099511627776 % 256),.int .u8 ((x : Int) / 281474976710656 % 256),.int .u8 ((x : Int) / 72057594037927936 % 256)] rfl (by intro v hv; simp at hv; rcases hv with rfl | rfl | rfl | rfl | rfl | rfl | rfl | rfl <;> exact fp _ (by omega)))
theorem jB (v : Value) (w : World) : (Instr.typeAssert (.iface 4 v) 20 4 false).run Tryz.prog w = .ok v w := by kernel_rfl
theorem kK (v : Value) (w : World) : (Instr.typeAssert (.iface 9 v) 20 9 true).run Tryz.prog w = .ok (.tuple #[v,.bool true]) w := by kernel_rfl
theorem iy (v : Value) (w : World) : (Instr.typeAssert (.iface 123 v) 20 9 true).run Tryz.prog w = .ok (.tuple #[.string ByteArray.empty,.bool false]) w := by kernel_rfl
theorem fW (v : Value) (w : World) : (Instr.typeAssert (.iface 123 v) 20 123 true).run Tryz.prog w = .ok (.tuple #[v,.bool true]) w := by kernel_rfl
theorem fV (v : Value) (w : World) : (Instr.typeAssert (.iface 131 v) 20 131 true).run Tryz.prog w = .ok (.tuple #[v,.bool true]) w := by kernel_rfl
theorem fw (v : Value) (w : World) : (Instr.typeAssert (.iface 133 v) 20 133 false).run Tryz.prog w = .ok v w := by kernel_rfl
theorem fU (v : Value) (w : World) : (Instr.typeAssert (.iface 150 v) 20 131 true).run Tryz.prog w = .ok (.tuple #[.agg #[.string ByteArray.empty],.bool false]) w := by kernel_rfl
theorem fT (v : Value) (w : World) : (Instr.typeAssert (.iface 150 v) 20 150 true).run Tryz.prog w = .ok (.tuple #[v,.bool true]) w := by kernel_rfl
attribute [local go_sem] jB kK iy fW fV fw fU fT
theorem YU (w : World) : Calls Tryz.prog 50 #[(.string ⟨#[98]⟩)] w fun e w' => e = .returned (.int .i64 1) ∧ w' = w := by
 go_enter Tryz.func50,Tryz.ntmps50
 go_wp2
 go_ret
 exact ⟨rfl,rfl⟩
theorem afQ (w : World) : Calls Tryz.prog 60 #[(.string ⟨#[98]⟩)] w fun e w' => e = .returned (.int .i64 1) ∧ w' = w := by
 go_enter Tryz.func60,Tryz.ntmps60
 go_wp2_with (go_at_call 50; refine (YU _).mono ?_; rintro e w2 ⟨rfl,rfl⟩)
 go_ret
 exact ⟨rfl,rfl⟩
theorem aek (v : Value) (hv : v.oneCell' = true) (w : World) : Calls Tryz.prog 62 #[.agg #[v,(.string ⟨#[98]⟩)]] w fun e w' => e = .returned (.int .i64 1) ∧ Below w.heap.size w w' := by
 go_enter Tryz.func62,Tryz.ntmps62
 go_wp2_with (go_at_call 50; refine (YU _).mono ?_; rintro e w2 ⟨rfl,rfl⟩)
 go_ret
 exact ⟨rfl,ab (Below.refl _ _) _⟩
theorem YM (w : World) : Calls Tryz.prog 50 #[(.string ⟨#[115]⟩)] w fun e w' => e = .returned (.int .i64 17) ∧ w' = w := by
 go_enter Tryz.func50,Tryz.ntmps50
 go_wp2
 go_ret
 exact ⟨rfl,rfl⟩
theorem afI (w : World) : Calls Tryz.prog 60 #[(.string ⟨#[115]⟩)] w fun e w' => e = .returned (.int .i64 4) ∧ w' = w := by
 go_enter Tryz.func60,Tryz.ntmps60
 go_wp2_with (go_at_call 50; refine (YM _).mono ?_; rintro e w2 ⟨rfl,rfl⟩)
 go_ret
 exact ⟨rfl,rfl⟩
theorem aec (v : Value) (hv : v.oneCell' = true) (w : World) : Calls Tryz.prog 62 #[.agg #[v,(.string ⟨#[115]⟩)]] w fun e w' => e = .returned (.int .i64 17) ∧ Below w.heap.size w w' := by
 go_enter Tryz.func62,Tryz.ntmps62
 go_wp2_with (go_at_call 50; refine (YM _).mono ?_; rintro e w2 ⟨rfl,rfl⟩)
 go_ret
 exact ⟨rfl,ab (Below.refl _ _) _⟩
theorem YO (w : World) : Calls Tryz.prog 50 #[(.string ⟨#[111]⟩)] w fun e w' => e = .returned (.int .i64 17) ∧ w' = w := by
 go_enter Tryz.func50,Tryz.ntmps50
 go_wp2
 go_ret
 exact ⟨rfl,rfl⟩
theorem afK (w : World) : Calls Tryz.prog 60 #[(.string ⟨#[111]⟩)] w fun e w' => e = .returned (.int .i64 4) ∧ w' = w := by
 go_enter Tryz.func60,Tryz.ntmps60
 go_wp2_with (go_at_call 50; refine (YO _).mono ?_; rintro e w2 ⟨rfl,rfl⟩)
 go_ret
 exact ⟨rfl,rfl⟩
theorem aee (v : Value) (hv : v.oneCell' = true) (w : World) : Calls Tryz.prog 62 #[.agg #[v,(.string ⟨#[111]⟩)]] w fun e w' => e = .returned (.int .i64 17) ∧ Below w.heap.size w w' := by
 go_enter Tryz.func62,Tryz.ntmps62
 go_wp2_with (go_at_call 50; refine (YO _).mono ?_; rintro e w2 ⟨rfl,rfl⟩)
 go_ret
 exact ⟨rfl,ab (Below.refl _ _) _⟩
theorem YS (w : World) : Calls Tryz.prog 50 #[(.string ⟨#[103]⟩)] w fun e w' => e = .returned (.int .i64 18) ∧ w' = w := by
 go_enter Tryz.func50,Tryz.ntmps50
 go_wp2
 go_ret
 exact ⟨rfl,rfl⟩
theorem afO (w : World) : Calls Tryz.prog 60 #[(.string ⟨#[103]⟩)] w fun e w' => e = .returned (.int .i64 1) ∧ w' = w := by
 go_enter Tryz.func60,Tryz.ntmps60
 go_wp2_with (go_at_call 50; refine (YS _).mono ?_; rintro e w2 ⟨rfl,rfl⟩)
 go_ret
 exact ⟨rfl,rfl⟩
theorem aei (v : Value) (hv : v.oneCell' = true) (w : World) : Calls Tryz.prog 62 #[.agg #[v,(.string ⟨#[103]⟩)]] w fun e w' => e = .returned (.int .i64 18) ∧ Below w.heap.size w w' := by
 go_enter Tryz.func62,Tryz.ntmps62
 go_wp2_with (go_at_call 50; refine (YS _).mono ?_; rintro e w2 ⟨rfl,rfl⟩)
 go_ret
 exact ⟨rfl,ab (Below.refl _ _) _⟩
theorem YJ (w : World) : Calls Tryz.prog 50 #[(.string ⟨#[118]⟩)] w fun e w' => e = .returned (.int .i64 18) ∧ w' = w := by
 go_enter Tryz.func50,Tryz.ntmps50
 go_wp2
 go_ret
 exact ⟨rfl,rfl⟩
theorem afF (w : World) : Calls Tryz.prog 60 #[(.string ⟨#[118]⟩)] w fun e w' => e = .returned (.int .i64 1) ∧ w' = w := by
 go_enter Tryz.func60,Tryz.ntmps60
 go_wp2_with (go_at_call 50; refine (YJ _).mono ?_; rintro e w2 ⟨rfl,rfl⟩)
 go_ret
 exact ⟨rfl,rfl⟩
theorem ad9 (v : Value) (hv : v.oneCell' = true) (w : World) : Calls Tryz.prog 62 #[.agg #[v,(.string ⟨#[118]⟩)]] w fun e w' => e = .returned (.int .i64 18) ∧ Below w.heap.size w w' := by
 go_enter Tryz.func62,Tryz.ntmps62
 go_wp2_with (go_at_call 50; refine (YJ _).mono ?_; rintro e w2 ⟨rfl,rfl⟩)
 go_ret
 exact ⟨rfl,ab (Below.refl _ _) _⟩
theorem Ro (x : Bool) (s : ByteArray) (w : World) : Calls Tryz.prog 64 #[.agg #[.iface 4 (.bool x),.string s]] w fun e w' => e = .returned (.bool x) ∧ Below w.heap.size w w' := by
 go_enter Tryz.func64,Tryz.ntmps64
 go_wp2
 go_ret
 exact ⟨rfl,ab (Below.refl _ _) _⟩
theorem Yk (x : ByteArray) (s : ByteArray) (w : World) : Calls Tryz.prog 68 #[.agg #[.iface 9 (.string x),.string s]] w fun e w' => e = .returned (.string x) ∧ Below w.heap.size w w' := by
 go_enter Tryz.func68,Tryz.ntmps68
 go_wp2
 go_ret
 exact ⟨rfl,ab (Below.refl _ _) _⟩
theorem Qz (x : ByteArray) (s : ByteArray) (w : World) : Calls Tryz.prog 71 #[.agg #[.iface 9 (.string x),.string s]] w fun e w' => e = .returned (.int .i64 (x.size : Int)) ∧ Below w.heap.size w w' := by
 go_enter Tryz.func71,Tryz.ntmps71
 go_wp2
 go_ret
 exact ⟨rfl,ab (Below.refl _ _) _⟩
theorem Yl (x : ByteArray) (s : ByteArray) (w : World) : Calls Tryz.prog 68 #[.agg #[.iface 123 (.string x),.string s]] w fun e w' => e = .returned (.string x) ∧ Below w.heap.size w w' := by
 go_enter Tryz.func68,Tryz.ntmps68
 go_wp2
 go_ret
 exact ⟨rfl,ab (Below.refl _ _) _⟩
theorem YA (x : ByteArray) (s : ByteArray) (w : World) : Calls Tryz.prog 71 #[.agg #[.iface 123 (.string x),.string s]] w fun e w' => e = .returned (.int .i64 (x.size : Int)) ∧ Below w.heap.size w w' := by
 go_enter Tryz.func71,Tryz.ntmps71
 go_wp2
 go_ret
 exact ⟨rfl,ab (Below.refl _ _) _⟩
end Go.Proofs.YtkdebhgccpfkiaaGreatDoor.au
