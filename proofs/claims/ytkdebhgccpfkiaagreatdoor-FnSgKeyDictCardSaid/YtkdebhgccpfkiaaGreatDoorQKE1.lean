import Derived.Test.YtkdebhgccpfkiaaGreatDoorQKX1
import Derived.RowKit3
import Derived.ProofKit
import Derived.Test.YtkdebhgccpfkiaaGreatDoorQKX2
import Derived.Test.YtkdebhgccpfkiaaGreatDoorQKX6
import Derived.Test.YtkdebhgccpfkiaaGreatDoorQKX3
import Derived.Test.YtkdebhgccpfkiaaGreatDoorQKX4
import Derived.Shelf.Unicode.ValidAny
import Derived.Shelf.Small.Strs
import Derived.Shelf.LaysM
import Derived.Shelf.Bytes.Len
import Derived.Shelf.Bytes.TryGrow
import Derived.Shelf.Bytes.GrowSliceCatch
import Derived.Shelf.Bytes.GrowSlice
import Derived.Shelf.Bytes.String
import Derived.Shelf.Bytes.Reset
import Derived.Shelf.Strings.Search1
import Derived.Shelf.Bytes.GrowRow0Own
import Derived.Shelf.Bytes.GrowRowOwn
import Derived.Shelf.Bytes.GrowNilOwn
import Derived.Shelf.Bytes.GrowOwn
import Derived.Shelf.Bytes.WriteAny
import Derived.Test.YtkdebhgccpfkiaaGreatDoorProg
import Derived.Laws.IdiomCopy
import Derived.Lib.BufferOld
import Derived.Lib.BufferOwn
import Derived.Lib.Walk
set_option maxRecDepth 100000
set_option maxHeartbeats 16000000
namespace Go.Proofs.YtkdebhgccpfkiaaGreatDoor.au
open Go.RowKit Go.Proofs.aa.az Go.Proofs.aa.aM Go.Proofs.aa.aU
attribute [local go_sem] ba bh
set_option linter.unusedVariables false
set_option linter.unusedSimpArgs false
theorem Hv (v : Value) (w : World) : (Instr.typeAssert (.iface 2 v) 20 2 true).run Tryz.prog w = .ok (.tuple #[v,.bool true]) w := by kernel_rfl
theorem EZ (v : Value) (w : World) : (Instr.typeAssert (.iface 2 v) 20 21 true).run Tryz.prog w = .ok (.tuple #[.int .i32 0,.bool false]) w := by kernel_rfl
theorem EY (v : Value) (w : World) : (Instr.typeAssert (.iface 2 v) 20 71 true).run Tryz.prog w = .ok (.tuple #[.int .i16 0,.bool false]) w := by kernel_rfl
theorem EW (v : Value) (w : World) : (Instr.typeAssert (.iface 2 v) 20 117 true).run Tryz.prog w = .ok (.tuple #[.int .u32 0,.bool false]) w := by kernel_rfl
theorem EU (v : Value) (w : World) : (Instr.typeAssert (.iface 2 v) 20 120 true).run Tryz.prog w = .ok (.tuple #[.int .u16 0,.bool false]) w := by kernel_rfl
theorem Hu (v : Value) (w : World) : (Instr.typeAssert (.iface 5 v) 20 5 true).run Tryz.prog w = .ok (.tuple #[v,.bool true]) w := by kernel_rfl
theorem CN (v : Value) (w : World) : (Instr.typeAssert (.iface 21 v) 20 21 true).run Tryz.prog w = .ok (.tuple #[v,.bool true]) w := by kernel_rfl
theorem CM (v : Value) (w : World) : (Instr.typeAssert (.iface 21 v) 20 71 true).run Tryz.prog w = .ok (.tuple #[.int .i16 0,.bool false]) w := by kernel_rfl
theorem CL (v : Value) (w : World) : (Instr.typeAssert (.iface 21 v) 20 120 true).run Tryz.prog w = .ok (.tuple #[.int .u16 0,.bool false]) w := by kernel_rfl
theorem E3 (v : Value) (w : World) : (Instr.typeAssert (.iface 22 v) 20 2 true).run Tryz.prog w = .ok (.tuple #[.int .i64 0,.bool false]) w := by kernel_rfl
theorem E0 (v : Value) (w : World) : (Instr.typeAssert (.iface 22 v) 20 5 true).run Tryz.prog w = .ok (.tuple #[.int .u8 0,.bool false]) w := by kernel_rfl
theorem CK (v : Value) (w : World) : (Instr.typeAssert (.iface 22 v) 20 21 true).run Tryz.prog w = .ok (.tuple #[.int .i32 0,.bool false]) w := by kernel_rfl
theorem CJ (v : Value) (w : World) : (Instr.typeAssert (.iface 22 v) 20 22 true).run Tryz.prog w = .ok (.tuple #[v,.bool true]) w := by kernel_rfl
theorem CI (v : Value) (w : World) : (Instr.typeAssert (.iface 22 v) 20 71 true).run Tryz.prog w = .ok (.tuple #[.int .i16 0,.bool false]) w := by kernel_rfl
theorem CH (v : Value) (w : World) : (Instr.typeAssert (.iface 22 v) 20 117 true).run Tryz.prog w = .ok (.tuple #[.int .u32 0,.bool false]) w := by kernel_rfl
theorem CG (v : Value) (w : World) : (Instr.typeAssert (.iface 22 v) 20 120 true).run Tryz.prog w = .ok (.tuple #[.int .u16 0,.bool false]) w := by kernel_rfl
theorem Am (v : Value) (w : World) : (Instr.typeAssert (.iface 22 v) 20 160 true).run Tryz.prog w = .ok (.tuple #[.int .u8 0,.bool false]) w := by kernel_rfl
theorem Al (v : Value) (w : World) : (Instr.typeAssert (.iface 22 v) 20 161 true).run Tryz.prog w = .ok (.tuple #[.int .u8 0,.bool false]) w := by kernel_rfl
theorem Aj (v : Value) (w : World) : (Instr.typeAssert (.iface 22 v) 20 162 true).run Tryz.prog w = .ok (.tuple #[.int .u8 0,.bool false]) w := by kernel_rfl
theorem CF (v : Value) (w : World) : (Instr.typeAssert (.iface 71 v) 20 71 true).run Tryz.prog w = .ok (.tuple #[v,.bool true]) w := by kernel_rfl
theorem ET (v : Value) (w : World) : (Instr.typeAssert (.iface 117 v) 20 4 true).run Tryz.prog w = .ok (.tuple #[.bool false,.bool false]) w := by kernel_rfl
theorem ES (v : Value) (w : World) : (Instr.typeAssert (.iface 117 v) 20 5 true).run Tryz.prog w = .ok (.tuple #[.int .u8 0,.bool false]) w := by kernel_rfl
theorem CE (v : Value) (w : World) : (Instr.typeAssert (.iface 117 v) 20 21 true).run Tryz.prog w = .ok (.tuple #[.int .i32 0,.bool false]) w := by kernel_rfl
theorem CD (v : Value) (w : World) : (Instr.typeAssert (.iface 117 v) 20 71 true).run Tryz.prog w = .ok (.tuple #[.int .i16 0,.bool false]) w := by kernel_rfl
theorem CC (v : Value) (w : World) : (Instr.typeAssert (.iface 117 v) 20 117 true).run Tryz.prog w = .ok (.tuple #[v,.bool true]) w := by kernel_rfl
theorem CB (v : Value) (w : World) : (Instr.typeAssert (.iface 117 v) 20 120 true).run Tryz.prog w = .ok (.tuple #[.int .u16 0,.bool false]) w := by kernel_rfl
theorem Ai (v : Value) (w : World) : (Instr.typeAssert (.iface 117 v) 20 160 true).run Tryz.prog w = .ok (.tuple #[.int .u8 0,.bool false]) w := by kernel_rfl
theorem Ah (v : Value) (w : World) : (Instr.typeAssert (.iface 117 v) 20 161 true).run Tryz.prog w = .ok (.tuple #[.int .u8 0,.bool false]) w := by kernel_rfl
theorem Ag (v : Value) (w : World) : (Instr.typeAssert (.iface 117 v) 20 162 true).run Tryz.prog w = .ok (.tuple #[.int .u8 0,.bool false]) w := by kernel_rfl
theorem EP (v : Value) (w : World) : (Instr.typeAssert (.iface 120 v) 20 5 true).run Tryz.prog w = .ok (.tuple #[.int .u8 0,.bool false]) w := by kernel_rfl
theorem CA (v : Value) (w : World) : (Instr.typeAssert (.iface 120 v) 20 71 true).run Tryz.prog w = .ok (.tuple #[.int .i16 0,.bool false]) w := by kernel_rfl
theorem Cz (v : Value) (w : World) : (Instr.typeAssert (.iface 120 v) 20 120 true).run Tryz.prog w = .ok (.tuple #[v,.bool true]) w := by kernel_rfl
theorem Af (v : Value) (w : World) : (Instr.typeAssert (.iface 120 v) 20 160 true).run Tryz.prog w = .ok (.tuple #[.int .u8 0,.bool false]) w := by kernel_rfl
theorem Ae (v : Value) (w : World) : (Instr.typeAssert (.iface 120 v) 20 161 true).run Tryz.prog w = .ok (.tuple #[.int .u8 0,.bool false]) w := by kernel_rfl
theorem Ad (v : Value) (w : World) : (Instr.typeAssert (.iface 120 v) 20 162 true).run Tryz.prog w = .ok (.tuple #[.int .u8 0,.bool false]) w := by kernel_rfl
theorem EO (v : Value) (w : World) : (Instr.typeAssert (.iface 121 v) 20 2 true).run Tryz.prog w = .ok (.tuple #[.int .i64 0,.bool false]) w := by kernel_rfl
theorem Cy (v : Value) (w : World) : (Instr.typeAssert (.iface 121 v) 20 21 true).run Tryz.prog w = .ok (.tuple #[.int .i32 0,.bool false]) w := by kernel_rfl
theorem Cx (v : Value) (w : World) : (Instr.typeAssert (.iface 121 v) 20 22 true).run Tryz.prog w = .ok (.tuple #[.int .u64 0,.bool false]) w := by kernel_rfl
theorem Cw (v : Value) (w : World) : (Instr.typeAssert (.iface 121 v) 20 71 true).run Tryz.prog w = .ok (.tuple #[.int .i16 0,.bool false]) w := by kernel_rfl
theorem Cv (v : Value) (w : World) : (Instr.typeAssert (.iface 121 v) 20 117 true).run Tryz.prog w = .ok (.tuple #[.int .u32 0,.bool false]) w := by kernel_rfl
theorem Cu (v : Value) (w : World) : (Instr.typeAssert (.iface 121 v) 20 120 true).run Tryz.prog w = .ok (.tuple #[.int .u16 0,.bool false]) w := by kernel_rfl
theorem Ct (v : Value) (w : World) : (Instr.typeAssert (.iface 121 v) 20 121 true).run Tryz.prog w = .ok (.tuple #[v,.bool true]) w := by kernel_rfl
theorem CP (v : Value) (w : World) : (Instr.typeAssert (.iface 148 v) 20 5 true).run Tryz.prog w = .ok (.tuple #[.int .u8 0,.bool false]) w := by kernel_rfl
theorem At (v : Value) (w : World) : (Instr.typeAssert (.iface 148 v) 20 22 true).run Tryz.prog w = .ok (.tuple #[.int .u64 0,.bool false]) w := by kernel_rfl
theorem As (v : Value) (w : World) : (Instr.typeAssert (.iface 148 v) 20 117 true).run Tryz.prog w = .ok (.tuple #[.int .u32 0,.bool false]) w := by kernel_rfl
theorem Ar (v : Value) (w : World) : (Instr.typeAssert (.iface 148 v) 20 120 true).run Tryz.prog w = .ok (.tuple #[.int .u16 0,.bool false]) w := by kernel_rfl
theorem xQ (v : Value) (w : World) : (Instr.typeAssert (.iface 148 v) 20 148 true).run Tryz.prog w = .ok (.tuple #[v,.bool true]) w := by kernel_rfl
theorem xP (v : Value) (w : World) : (Instr.typeAssert (.iface 148 v) 20 160 true).run Tryz.prog w = .ok (.tuple #[.int .u8 0,.bool false]) w := by kernel_rfl
theorem xO (v : Value) (w : World) : (Instr.typeAssert (.iface 148 v) 20 161 true).run Tryz.prog w = .ok (.tuple #[.int .u8 0,.bool false]) w := by kernel_rfl
theorem xN (v : Value) (w : World) : (Instr.typeAssert (.iface 148 v) 20 162 true).run Tryz.prog w = .ok (.tuple #[.int .u8 0,.bool false]) w := by kernel_rfl
theorem CO (v : Value) (w : World) : (Instr.typeAssert (.iface 153 v) 20 9 true).run Tryz.prog w = .ok (.tuple #[.string ByteArray.empty,.bool false]) w := by kernel_rfl
theorem Aq (v : Value) (w : World) : (Instr.typeAssert (.iface 153 v) 20 36 true).run Tryz.prog w = .ok (.tuple #[.slice none 0 0,.bool false]) w := by kernel_rfl
theorem Ap (v : Value) (w : World) : (Instr.typeAssert (.iface 153 v) 20 61 true).run Tryz.prog w = .ok (.tuple #[.slice none 0 0,.bool false]) w := by kernel_rfl
theorem Ao (v : Value) (w : World) : (Instr.typeAssert (.iface 153 v) 20 123 true).run Tryz.prog w = .ok (.tuple #[.string ByteArray.empty,.bool false]) w := by kernel_rfl
theorem xM (v : Value) (w : World) : (Instr.typeAssert (.iface 153 v) 20 153 true).run Tryz.prog w = .ok (.tuple #[v,.bool true]) w := by kernel_rfl
theorem xL (v : Value) (w : World) : (Instr.typeAssert (.iface 153 v) 20 170 true).run Tryz.prog w = .ok (.tuple #[.pointer none,.bool false]) w := by kernel_rfl
theorem Ac (v : Value) (w : World) : (Instr.typeAssert (.iface 121 v) 20 121 false).run Tryz.prog w = .ok v w := by kernel_rfl
attribute [local go_sem] Hv EZ EY EW EU Hu CN CM CL E3 E0 CK CJ CI CH CG Am Al Aj CF ET ES CE CD CC CB Ai Ah Ag EP CA Cz Af Ae Ad EO Cy Cx Cw Cv Cu Ct CP At As Ar xQ xP xO xN CO Aq Ap Ao xM xL Ac
theorem Te : (Tryz.prog.info? 86).map (·.size) = some 2 := by kernel_rfl
theorem adX (x : Int) (w : World) : Calls Tryz.prog 87 #[(.iface 5 (.int .u8 x))] w fun e w' => e = .returned (.string ⟨#[121]⟩) ∧ w' = w := by
 go_enter Tryz.func87,Tryz.ntmps87
 go_wp2
 go_ret
 exact ⟨rfl,rfl⟩
theorem adW (x : Int) (w : World) : Calls Tryz.prog 48 #[(.iface 5 (.int .u8 x))] w fun e w' => e = .returned (.agg #[(.iface 5 (.int .u8 x)),(.string ⟨#[121]⟩)]) ∧ Below w.heap.size w w' := by
 go_enter Tryz.func48,Tryz.ntmps48
 go_wp2_with (go_at_call 87; refine (adX x _).mono ?_; rintro e w2 ⟨rfl,rfl⟩)
 refine bodyPost_ret (results_cell_row rfl _ _ w.heap.size 86 _ (0,0) _ rfl (heap_alloc_new _ _) Tryz.underlying86 rfl Te) rfl ?_
 exact ⟨rfl,ab (Below.refl _ _) _⟩
theorem YH (w : World) : Calls Tryz.prog 50 #[(.string ⟨#[121]⟩)] w fun e w' => e = .returned (.int .i64 7) ∧ w' = w := by
 go_enter Tryz.func50,Tryz.ntmps50
 go_wp2
 go_ret
 exact ⟨rfl,rfl⟩
theorem afD (w : World) : Calls Tryz.prog 60 #[(.string ⟨#[121]⟩)] w fun e w' => e = .returned (.int .i64 1) ∧ w' = w := by
 go_enter Tryz.func60,Tryz.ntmps60
 go_wp2_with (go_at_call 50; refine (YH _).mono ?_; rintro e w2 ⟨rfl,rfl⟩)
 go_ret
 exact ⟨rfl,rfl⟩
theorem ad7 (v : Value) (hv : v.oneCell' = true) (w : World) : Calls Tryz.prog 62 #[.agg #[v,(.string ⟨#[121]⟩)]] w fun e w' => e = .returned (.int .i64 7) ∧ Below w.heap.size w w' := by
 go_enter Tryz.func62,Tryz.ntmps62
 go_wp2_with (go_at_call 50; refine (YH _).mono ?_; rintro e w2 ⟨rfl,rfl⟩)
 go_ret
 exact ⟨rfl,ab (Below.refl _ _) _⟩
theorem aey (x : Int) (h0 : 0 ≤ x) (h1 : x < 256) (w : World) : Calls Tryz.prog 63 #[.agg #[(.iface 5 (.int .u8 x)),(.string ⟨#[121]⟩)]] w fun e w' => e = .returned (.int .u64 x) ∧ Below w.heap.size w w' := by
 have hw : IntKind.u64.wrap x = x := by rw [IntKind.wrap_u64]; omega
 go_enter Tryz.func63,Tryz.ntmps63
 go_wp2
 go_ret
 exact ⟨by simp [hw],ab (Below.refl _ _) _⟩
theorem YP (w : World) : Calls Tryz.prog 50 #[(.string ⟨#[110]⟩)] w fun e w' => e = .returned (.int .i64 3) ∧ w' = w := by
 go_enter Tryz.func50,Tryz.ntmps50
 go_wp2
 go_ret
 exact ⟨rfl,rfl⟩
theorem afL (w : World) : Calls Tryz.prog 60 #[(.string ⟨#[110]⟩)] w fun e w' => e = .returned (.int .i64 2) ∧ w' = w := by
 go_enter Tryz.func60,Tryz.ntmps60
 go_wp2_with (go_at_call 50; refine (YP _).mono ?_; rintro e w2 ⟨rfl,rfl⟩)
 go_ret
 exact ⟨rfl,rfl⟩
theorem aef (v : Value) (hv : v.oneCell' = true) (w : World) : Calls Tryz.prog 62 #[.agg #[v,(.string ⟨#[110]⟩)]] w fun e w' => e = .returned (.int .i64 3) ∧ Below w.heap.size w w' := by
 go_enter Tryz.func62,Tryz.ntmps62
 go_wp2_with (go_at_call 50; refine (YP _).mono ?_; rintro e w2 ⟨rfl,rfl⟩)
 go_ret
 exact ⟨rfl,ab (Below.refl _ _) _⟩
theorem aeD (x : Int) (h0 : -32768 ≤ x) (h1 : x < 32768) (w : World) : Calls Tryz.prog 66 #[.agg #[(.iface 71 (.int .i16 x)),(.string ⟨#[110]⟩)]] w fun e w' => e = .returned (.int .i64 x) ∧ Below w.heap.size w w' := by
 have hw : IntKind.i64.wrap x = x := by rw [IntKind.wrap_i64]; omega
 go_enter Tryz.func66,Tryz.ntmps66
 go_wp2
 go_ret
 exact ⟨by simp [hw],ab (Below.refl _ _) _⟩
theorem YN (w : World) : Calls Tryz.prog 50 #[(.string ⟨#[113]⟩)] w fun e w' => e = .returned (.int .i64 8) ∧ w' = w := by
 go_enter Tryz.func50,Tryz.ntmps50
 go_wp2
 go_ret
 exact ⟨rfl,rfl⟩
theorem afJ (w : World) : Calls Tryz.prog 60 #[(.string ⟨#[113]⟩)] w fun e w' => e = .returned (.int .i64 2) ∧ w' = w := by
 go_enter Tryz.func60,Tryz.ntmps60
 go_wp2_with (go_at_call 50; refine (YN _).mono ?_; rintro e w2 ⟨rfl,rfl⟩)
 go_ret
 exact ⟨rfl,rfl⟩
theorem aed (v : Value) (hv : v.oneCell' = true) (w : World) : Calls Tryz.prog 62 #[.agg #[v,(.string ⟨#[113]⟩)]] w fun e w' => e = .returned (.int .i64 8) ∧ Below w.heap.size w w' := by
 go_enter Tryz.func62,Tryz.ntmps62
 go_wp2_with (go_at_call 50; refine (YN _).mono ?_; rintro e w2 ⟨rfl,rfl⟩)
 go_ret
 exact ⟨rfl,ab (Below.refl _ _) _⟩
theorem aeC (x : Int) (h0 : 0 ≤ x) (h1 : x < 65536) (w : World) : Calls Tryz.prog 63 #[.agg #[(.iface 120 (.int .u16 x)),(.string ⟨#[113]⟩)]] w fun e w' => e = .returned (.int .u64 x) ∧ Below w.heap.size w w' := by
 have hw : IntKind.u64.wrap x = x := by rw [IntKind.wrap_u64]; omega
 go_enter Tryz.func63,Tryz.ntmps63
 go_wp2
 go_ret
 exact ⟨by simp [hw],ab (Below.refl _ _) _⟩
theorem YQ (w : World) : Calls Tryz.prog 50 #[(.string ⟨#[105]⟩)] w fun e w' => e = .returned (.int .i64 4) ∧ w' = w := by
 go_enter Tryz.func50,Tryz.ntmps50
 go_wp2
 go_ret
 exact ⟨rfl,rfl⟩
theorem afM (w : World) : Calls Tryz.prog 60 #[(.string ⟨#[105]⟩)] w fun e w' => e = .returned (.int .i64 4) ∧ w' = w := by
 go_enter Tryz.func60,Tryz.ntmps60
 go_wp2_with (go_at_call 50; refine (YQ _).mono ?_; rintro e w2 ⟨rfl,rfl⟩)
 go_ret
 exact ⟨rfl,rfl⟩
theorem aeg (v : Value) (hv : v.oneCell' = true) (w : World) : Calls Tryz.prog 62 #[.agg #[v,(.string ⟨#[105]⟩)]] w fun e w' => e = .returned (.int .i64 4) ∧ Below w.heap.size w w' := by
 go_enter Tryz.func62,Tryz.ntmps62
 go_wp2_with (go_at_call 50; refine (YQ _).mono ?_; rintro e w2 ⟨rfl,rfl⟩)
 go_ret
 exact ⟨rfl,ab (Below.refl _ _) _⟩
theorem aeE (x : Int) (h0 : -2147483648 ≤ x) (h1 : x < 2147483648) (w : World) : Calls Tryz.prog 66 #[.agg #[(.iface 21 (.int .i32 x)),(.string ⟨#[105]⟩)]] w fun e w' => e = .returned (.int .i64 x) ∧ Below w.heap.size w w' := by
 have hw : IntKind.i64.wrap x = x := by rw [IntKind.wrap_i64]; omega
 go_enter Tryz.func66,Tryz.ntmps66
 go_wp2
 go_ret
 exact ⟨by simp [hw],ab (Below.refl _ _) _⟩
theorem adY (x : Int) (w : World) : Calls Tryz.prog 87 #[(.iface 117 (.int .u32 x))] w fun e w' => e = .returned (.string ⟨#[117]⟩) ∧ w' = w := by
 go_enter Tryz.func87,Tryz.ntmps87
 go_wp2
 go_ret
 exact ⟨rfl,rfl⟩
theorem Hz (x : Int) (w : World) : Calls Tryz.prog 48 #[(.iface 117 (.int .u32 x))] w fun e w' => e = .returned (.agg #[(.iface 117 (.int .u32 x)),(.string ⟨#[117]⟩)]) ∧ Below w.heap.size w w' := by
 go_enter Tryz.func48,Tryz.ntmps48
 go_wp2_with (go_at_call 87; refine (adY x _).mono ?_; rintro e w2 ⟨rfl,rfl⟩)
 refine bodyPost_ret (results_cell_row rfl _ _ w.heap.size 86 _ (0,0) _ rfl (heap_alloc_new _ _) Tryz.underlying86 rfl Te) rfl ?_
 exact ⟨rfl,ab (Below.refl _ _) _⟩
theorem YK (w : World) : Calls Tryz.prog 50 #[(.string ⟨#[117]⟩)] w fun e w' => e = .returned (.int .i64 9) ∧ w' = w := by
 go_enter Tryz.func50,Tryz.ntmps50
 go_wp2
 go_ret
 exact ⟨rfl,rfl⟩
theorem afG (w : World) : Calls Tryz.prog 60 #[(.string ⟨#[117]⟩)] w fun e w' => e = .returned (.int .i64 4) ∧ w' = w := by
 go_enter Tryz.func60,Tryz.ntmps60
 go_wp2_with (go_at_call 50; refine (YK _).mono ?_; rintro e w2 ⟨rfl,rfl⟩)
 go_ret
 exact ⟨rfl,rfl⟩
theorem aea (v : Value) (hv : v.oneCell' = true) (w : World) : Calls Tryz.prog 62 #[.agg #[v,(.string ⟨#[117]⟩)]] w fun e w' => e = .returned (.int .i64 9) ∧ Below w.heap.size w w' := by
 go_enter Tryz.func62,Tryz.ntmps62
 go_wp2_with (go_at_call 50; refine (YK _).mono ?_; rintro e w2 ⟨rfl,rfl⟩)
 go_ret
 exact ⟨rfl,ab (Below.refl _ _) _⟩
theorem aeA (x : Int) (h0 : 0 ≤ x) (h1 : x < 4294967296) (w : World) : Calls Tryz.prog 63 #[.agg #[(.iface 117 (.int .u32 x)),(.string ⟨#[117]⟩)]] w fun e w' => e = .returned (.int .u64 x) ∧ Below w.heap.size w w' := by
 have hw : IntKind.u64.wrap x = x := by rw [IntKind.wrap_u64]; omega
 go_enter Tryz.func63,Tryz.ntmps63
 go_wp2
 go_ret
 exact ⟨by simp [hw],ab (Below.refl _ _) _⟩
theorem YI (w : World) : Calls Tryz.prog 50 #[(.string ⟨#[120]⟩)] w fun e w' => e = .returned (.int .i64 5) ∧ w' = w := by
 go_enter Tryz.func50,Tryz.ntmps50
 go_wp2
 go_ret
 exact ⟨rfl,rfl⟩
theorem afE (w : World) : Calls Tryz.prog 60 #[(.string ⟨#[120]⟩)] w fun e w' => e = .returned (.int .i64 8) ∧ w' = w := by
 go_enter Tryz.func60,Tryz.ntmps60
 go_wp2_with (go_at_call 50; refine (YI _).mono ?_; rintro e w2 ⟨rfl,rfl⟩)
 go_ret
 exact ⟨rfl,rfl⟩
theorem ad8 (v : Value) (hv : v.oneCell' = true) (w : World) : Calls Tryz.prog 62 #[.agg #[v,(.string ⟨#[120]⟩)]] w fun e w' => e = .returned (.int .i64 5) ∧ Below w.heap.size w w' := by
 go_enter Tryz.func62,Tryz.ntmps62
 go_wp2_with (go_at_call 50; refine (YI _).mono ?_; rintro e w2 ⟨rfl,rfl⟩)
 go_ret
 exact ⟨rfl,ab (Below.refl _ _) _⟩
theorem aez (x : Int) (h0 : -9223372036854775808 ≤ x) (h1 : x < 9223372036854775808) (w : World) : Calls Tryz.prog 66 #[.agg #[(.iface 2 (.int .i64 x)),(.string ⟨#[120]⟩)]] w fun e w' => e = .returned (.int .i64 x) ∧ Below w.heap.size w w' := by
 have hw : IntKind.i64.wrap x = x := by rw [IntKind.wrap_i64]; omega
 go_enter Tryz.func66,Tryz.ntmps66
 go_wp2
 go_ret
 exact ⟨by simp [hw],ab (Below.refl _ _) _⟩
theorem YL (w : World) : Calls Tryz.prog 50 #[(.string ⟨#[116]⟩)] w fun e w' => e = .returned (.int .i64 10) ∧ w' = w := by
 go_enter Tryz.func50,Tryz.ntmps50
 go_wp2
 go_ret
 exact ⟨rfl,rfl⟩
theorem afH (w : World) : Calls Tryz.prog 60 #[(.string ⟨#[116]⟩)] w fun e w' => e = .returned (.int .i64 8) ∧ w' = w := by
 go_enter Tryz.func60,Tryz.ntmps60
 go_wp2_with (go_at_call 50; refine (YL _).mono ?_; rintro e w2 ⟨rfl,rfl⟩)
 go_ret
 exact ⟨rfl,rfl⟩
theorem aeb (v : Value) (hv : v.oneCell' = true) (w : World) : Calls Tryz.prog 62 #[.agg #[v,(.string ⟨#[116]⟩)]] w fun e w' => e = .returned (.int .i64 10) ∧ Below w.heap.size w w' := by
 go_enter Tryz.func62,Tryz.ntmps62
 go_wp2_with (go_at_call 50; refine (YL _).mono ?_; rintro e w2 ⟨rfl,rfl⟩)
 go_ret
 exact ⟨rfl,ab (Below.refl _ _) _⟩
theorem aeB (x : Int) (h0 : 0 ≤ x) (h1 : x < 18446744073709551616) (w : World) : Calls Tryz.prog 63 #[.agg #[(.iface 22 (.int .u64 x)),(.string ⟨#[116]⟩)]] w fun e w' => e = .returned (.int .u64 x) ∧ Below w.heap.size w w' := by
 have hw : IntKind.u64.wrap x = x := by rw [IntKind.wrap_u64]; omega
 go_enter Tryz.func63,Tryz.ntmps63
 go_wp2
 go_ret
 exact ⟨by simp [hw],ab (Below.refl _ _) _⟩
theorem YT (w : World) : Calls Tryz.prog 50 #[(.string ⟨#[100]⟩)] w fun e w' => e = .returned (.int .i64 11) ∧ w' = w := by
 go_enter Tryz.func50,Tryz.ntmps50
 go_wp2
 go_ret
 exact ⟨rfl,rfl⟩
theorem afP (w : World) : Calls Tryz.prog 60 #[(.string ⟨#[100]⟩)] w fun e w' => e = .returned (.int .i64 8) ∧ w' = w := by
 go_enter Tryz.func60,Tryz.ntmps60
 go_wp2_with (go_at_call 50; refine (YT _).mono ?_; rintro e w2 ⟨rfl,rfl⟩)
 go_ret
 exact ⟨rfl,rfl⟩
theorem aej (v : Value) (hv : v.oneCell' = true) (w : World) : Calls Tryz.prog 62 #[.agg #[v,(.string ⟨#[100]⟩)]] w fun e w' => e = .returned (.int .i64 11) ∧ Below w.heap.size w w' := by
 go_enter Tryz.func62,Tryz.ntmps62
 go_wp2_with (go_at_call 50; refine (YT _).mono ?_; rintro e w2 ⟨rfl,rfl⟩)
 go_ret
 exact ⟨rfl,ab (Below.refl _ _) _⟩
theorem aeG (x : Nat) (w : World) : Calls Tryz.prog 67 #[.agg #[(.iface 121 (.float .f64 x)),(.string ⟨#[100]⟩)]] w fun e w' => e = .returned (.float .f64 x) ∧ Below w.heap.size w w' := by
 go_enter Tryz.func67,Tryz.ntmps67
 go_wp2
 go_ret
 exact ⟨rfl,ab (Below.refl _ _) _⟩
theorem YR (w : World) : Calls Tryz.prog 50 #[(.string ⟨#[104]⟩)] w fun e w' => e = .returned (.int .i64 9) ∧ w' = w := by
 go_enter Tryz.func50,Tryz.ntmps50
 go_wp2
 go_ret
 exact ⟨rfl,rfl⟩
theorem afN (w : World) : Calls Tryz.prog 60 #[(.string ⟨#[104]⟩)] w fun e w' => e = .returned (.int .i64 4) ∧ w' = w := by
 go_enter Tryz.func60,Tryz.ntmps60
 go_wp2_with (go_at_call 50; refine (YR _).mono ?_; rintro e w2 ⟨rfl,rfl⟩)
 go_ret
 exact ⟨rfl,rfl⟩
theorem aeh (v : Value) (hv : v.oneCell' = true) (w : World) : Calls Tryz.prog 62 #[.agg #[v,(.string ⟨#[104]⟩)]] w fun e w' => e = .returned (.int .i64 9) ∧ Below w.heap.size w w' := by
 go_enter Tryz.func62,Tryz.ntmps62
 go_wp2_with (go_at_call 50; refine (YR _).mono ?_; rintro e w2 ⟨rfl,rfl⟩)
 go_ret
 exact ⟨rfl,ab (Below.refl _ _) _⟩
theorem aeF (x : Int) (h0 : 0 ≤ x) (h1 : x < 4294967296) (w : World) : Calls Tryz.prog 63 #[.agg #[(.iface 148 (.int .u32 x)),(.string ⟨#[104]⟩)]] w fun e w' => e = .returned (.int .u64 x) ∧ Below w.heap.size w w' := by
 have hw : IntKind.u64.wrap x = x := by rw [IntKind.wrap_u64]; omega
 go_enter Tryz.func63,Tryz.ntmps63
 go_wp2
 go_ret
 exact ⟨by simp [hw],ab (Below.refl _ _) _⟩
theorem bC (v : Value) (hv : v.oneCell' = true) (s : ByteArray) (w : World) : Calls Tryz.prog 61 #[.agg #[v,.string s]] w fun e w' => e = .returned (.string s) ∧ Below w.heap.size w w' := by
 go_enter Tryz.func61,Tryz.ntmps61
 go_wp2
 go_ret
 exact ⟨rfl,ab (Below.refl _ _) _⟩
end Go.Proofs.YtkdebhgccpfkiaaGreatDoor.au
namespace Go.Proofs
open Go.Shelf
def Tryz.J' : Go.Shelf.Ren := ⟨fun | 137 => 69 | 217 => 99 | 266 => 108 | n => n,fun | 9 => 9 | 5 => 5 | 3 => 3 | n => n,fun | n => n⟩
theorem Tryz.UO : Go.Proofs.Lays.n137 Tryz.prog Tryz.J' := {
 mixed := by kernel_rfl
 f137 := Tryz.func69.trans (congrArg some (by kernel_rfl))
 f217 := Tryz.func99.trans (congrArg some (by kernel_rfl))
 f266 := Tryz.func108.trans (congrArg some (by kernel_rfl))
 t3 := Tryz.underlying3
 a3 := Tryz.isAgg3
 z3 := Tryz.sizeOf3
 v3 := Tryz.zeroValue3
 t5 := Tryz.underlying5
 a5 := Tryz.isAgg5
 z5 := Tryz.sizeOf5
 v5 := Tryz.zeroValue5
 t9 := Tryz.underlying9
 a9 := Tryz.isAgg9
 z9 := Tryz.sizeOf9
 v9 := Tryz.zeroValue9 }
open Go.RowKit in
theorem Tryz.strings_IndexByte (s : ByteArray) (c : Int) (w : World) :
 Calls Tryz.prog 69 #[.string s,.int .u8 c] w fun e w' => e = .returned (.int .i64 (Lib.indexByte s.data.toList c.toNat.toUInt8)) ∧ w' = w := Any.strings_IndexByte Tryz.UO s c w
def Tryz.II : Go.Shelf.Ren := ⟨fun | 181 => 76 | n => n,fun | 130 => 56 | 3 => 3 | 0 => 0 | 93 => 53 | 37 => 36 | 91 => 51 | 5 => 5 | n => n,fun | n => n⟩
theorem Tryz.QC : Go.Proofs.LaysM.n181 Tryz.prog Tryz.II := {
 mixed := by kernel_rfl
 f181 := Tryz.func76.trans (congrArg some (by kernel_rfl))
 t0 := Tryz.underlying0
 a0 := Tryz.isAgg0
 z0 := Tryz.sizeOf0
 v0 := Tryz.zeroValue0
 t3 := Tryz.underlying3
 a3 := Tryz.isAgg3
 z3 := Tryz.sizeOf3
 v3 := Tryz.zeroValue3
 t37 := Tryz.underlying36
 a37 := Tryz.isAgg36
 z37 := Tryz.sizeOf36
 v37 := Tryz.zeroValue36
 t93 := Tryz.underlying53
 a93 := Tryz.isAgg53
 z93 := Tryz.sizeOf53
 v93 := Tryz.zeroValue53
 t130 := Tryz.underlying56
 a130 := Tryz.isAgg56
 z130 := Tryz.sizeOf56
 v130 := Tryz.zeroValue56
 t5 := Tryz.underlying5
 a5 := Tryz.isAgg5
 z5 := Tryz.sizeOf5
 v5 := Tryz.zeroValue5
 t91 := Tryz.underlying51
 a91 := Tryz.isAgg51
 z91 := Tryz.sizeOf51
 v91 := Tryz.zeroValue51
 i0 := by kernel_rfl
 i3 := by kernel_rfl
 i5 := by kernel_rfl
 i37 := by kernel_rfl
 i91 := by kernel_rfl
 i93 := by kernel_rfl
 i130 := by kernel_rfl }
open Go.RowKit in
theorem Tryz.Buffer_Len (B b : Nat) (bs : List Value) (w : World) (h : Lib.IsBuffer 53 5 B b bs w) :
 Calls Tryz.prog 76 #[.pointer (some ⟨b,0,none⟩)] w fun e w' => e = .returned (.int .i64 bs.length) ∧ ∃ n,w' = w.drewN n := Any.Buffer_Len Tryz.QC B b bs w h
def Tryz.IE : Go.Shelf.Ren := ⟨fun | 251 => 129 | n => n,fun | 130 => 56 | 3 => 3 | 4 => 4 | 0 => 0 | 93 => 53 | 37 => 36 | 91 => 51 | 5 => 5 | n => n,fun | n => n⟩
theorem Tryz.IF : Go.Proofs.LaysM.n251 Tryz.prog Tryz.IE := {
 mixed := by kernel_rfl
 f251 := Tryz.func129.trans (congrArg some (by kernel_rfl))
 t0 := Tryz.underlying0
 a0 := Tryz.isAgg0
 z0 := Tryz.sizeOf0
 v0 := Tryz.zeroValue0
 t3 := Tryz.underlying3
 a3 := Tryz.isAgg3
 z3 := Tryz.sizeOf3
 v3 := Tryz.zeroValue3
 t4 := Tryz.underlying4
 a4 := Tryz.isAgg4
 z4 := Tryz.sizeOf4
 v4 := Tryz.zeroValue4
 t37 := Tryz.underlying36
 a37 := Tryz.isAgg36
 z37 := Tryz.sizeOf36
 v37 := Tryz.zeroValue36
 t93 := Tryz.underlying53
 a93 := Tryz.isAgg53
 z93 := Tryz.sizeOf53
 v93 := Tryz.zeroValue53
 t130 := Tryz.underlying56
 a130 := Tryz.isAgg56
 z130 := Tryz.sizeOf56
 v130 := Tryz.zeroValue56
 t5 := Tryz.underlying5
 a5 := Tryz.isAgg5
 z5 := Tryz.sizeOf5
 v5 := Tryz.zeroValue5
 t91 := Tryz.underlying51
 a91 := Tryz.isAgg51
 z91 := Tryz.sizeOf51
 v91 := Tryz.zeroValue51
 i0 := by kernel_rfl
 i3 := by kernel_rfl
 i4 := by kernel_rfl
 i5 := by kernel_rfl
 i37 := by kernel_rfl
 i91 := by kernel_rfl
 i93 := by kernel_rfl
 i130 := by kernel_rfl }
open Go.RowKit in
theorem Tryz.Buffer_tryGrow_room (b : Nat) (ao : Option Addr) (l cap n : Nat) (w : World) (c0 : w.cell? ⟨b,0,none⟩ = some (.slice ao l cap)) (f0 : w.frozen? ⟨b,0,none⟩ = false) (hlc : l ≤ cap) (FV : cap ≤ maxLen) (hn : n ≤ cap - l) :
 Calls Tryz.prog 129 #[.pointer (some ⟨b,0,none⟩),.int .i64 n] w fun e w' => e = .returned (.tuple #[.int .i64 l,.bool true]) ∧ w' = w.setCell ⟨b,0,none⟩ (.slice ao (l + n) cap) := Any.Buffer_tryGrow_room Tryz.IF b ao l cap n w c0 f0 hlc FV hn
open Go.RowKit in
theorem Tryz.Buffer_tryGrow_none (b : Nat) (ao : Option Addr) (l cap n : Nat) (w : World) (c0 : w.cell? ⟨b,0,none⟩ = some (.slice ao l cap)) (hlc : l ≤ cap) (FV : cap ≤ maxLen) (hn : cap - l < n) :
 Calls Tryz.prog 129 #[.pointer (some ⟨b,0,none⟩),.int .i64 n] w fun e w' => e = .returned (.tuple #[.int .i64 0,.bool false]) ∧ w' = w := Any.Buffer_tryGrow_none Tryz.IF b ao l cap n w c0 hlc FV hn
def Tryz.YB : Go.Shelf.Ren := ⟨fun | 324 => 132 | n => n,fun | 20 => 20 | 4 => 4 | 75 => 38 | 0 => 0 | 80 => 63 | 9 => 9 | n => n,fun | 14 => 8 | n => n⟩
def Tryz.IA : Go.Shelf.Ren := ⟨fun | 290 => 131 | 324 => 132 | n => n,fun | 37 => 36 | 3 => 3 | 0 => 0 | 4 => 4 | 20 => 20 | 75 => 38 | 5 => 5 | 80 => 63 | 9 => 9 | n => n,fun | 14 => 8 | n => n⟩
theorem Tryz.IB : Go.Proofs.LaysM.n290 Tryz.prog Tryz.IA := {
 mixed := by kernel_rfl
 f290 := Tryz.func131.trans (congrArg some (by kernel_rfl))
 f324 := Tryz.func132.trans (congrArg some (by kernel_rfl))
 t0 := Tryz.underlying0
 a0 := Tryz.isAgg0
 z0 := Tryz.sizeOf0
 v0 := Tryz.zeroValue0
 t3 := Tryz.underlying3
 a3 := Tryz.isAgg3
 z3 := Tryz.sizeOf3
 v3 := Tryz.zeroValue3
 t4 := Tryz.underlying4
 a4 := Tryz.isAgg4
 z4 := Tryz.sizeOf4
 v4 := Tryz.zeroValue4
 t20 := Tryz.underlying20
 a20 := Tryz.isAgg20
 z20 := Tryz.sizeOf20
 v20 := Tryz.zeroValue20
 t37 := Tryz.underlying36
 a37 := Tryz.isAgg36
 z37 := Tryz.sizeOf36
 v37 := Tryz.zeroValue36
 t75 := Tryz.underlying38
 a75 := Tryz.isAgg38
 z75 := Tryz.sizeOf38
 v75 := Tryz.zeroValue38
 g14 := by kernel_rfl
 t5 := Tryz.underlying5
 a5 := Tryz.isAgg5
 z5 := Tryz.sizeOf5
 v5 := Tryz.zeroValue5
 t9 := Tryz.underlying9
 a9 := Tryz.isAgg9
 z9 := Tryz.sizeOf9
 v9 := Tryz.zeroValue9
 t80 := Tryz.underlying63
 a80 := Tryz.isAgg63
 z80 := Tryz.sizeOf63
 v80 := Tryz.zeroValue63
 i0 := by kernel_rfl
 i3 := by kernel_rfl
 i4 := by kernel_rfl
 i5 := by kernel_rfl
 i9 := by kernel_rfl
 i20 := by kernel_rfl
 i37 := by kernel_rfl
 i75 := by kernel_rfl
 i80 := by kernel_rfl
 m14 := by kernel_rfl }
open Go.RowKit in
theorem Tryz.bytes_growSlice_row (g l c n : Nat) (cur : Array Value) (w : World) (hg : w.heap[g]? = some (.cells cur 5 (0,0))) (hcs : cur.size = c) (hlc : l ≤ c) (hn : 1 ≤ n) (gL : l + n ≤ 140737488355328) (Dj : c ≤ 140737488355328) (h1 : ∀ v ∈ cur.toList.take l,v.oneCell' = true) :
 Calls Tryz.prog 131 #[.slice (some ⟨g,0,none⟩) l c,.int .i64 n] w fun e w' => ∃ kz cells,e = .returned (.slice (some ⟨w.heap.size,0,none⟩) l kz) ∧ w'.heap[w.heap.size]? = some (.cells cells 5 (0,0)) ∧
  cells.size = kz ∧ cells.toList.take l = cur.toList.take l ∧ l + n ≤ kz ∧ kz ≤ maxLen ∧ Below w.heap.size w w' := Any.bytes_growSlice_row Tryz.IB g l c n cur w hg hcs hlc hn gL Dj h1
open Go.RowKit in
theorem Tryz.bytes_growSlice_nil (n : Nat) (w : World) (hn : 1 ≤ n) (gL : n ≤ 140737488355328) :
 Calls Tryz.prog 131 #[.slice none 0 0,.int .i64 n] w fun e w' => ∃ kz cells,e = .returned (.slice (some ⟨w.heap.size,0,none⟩) 0 kz) ∧ w'.heap[w.heap.size]? = some (.cells cells 5 (0,0)) ∧
  cells.size = kz ∧ n ≤ kz ∧ kz ≤ maxLen ∧ Below w.heap.size w w' := Any.bytes_growSlice_nil Tryz.IB n w hn gL
def Tryz.IG : Go.Shelf.Ren := ⟨fun | 182 => 35 | n => n,fun | 130 => 56 | 9 => 9 | 4 => 4 | 0 => 0 | 93 => 53 | 37 => 36 | 3 => 3 | 91 => 51 | 5 => 5 | n => n,fun | n => n⟩
theorem Tryz.QA : Go.Proofs.LaysM.n182 Tryz.prog Tryz.IG := {
 mixed := by kernel_rfl
 f182 := Tryz.func35.trans (congrArg some (by kernel_rfl))
 t0 := Tryz.underlying0
 a0 := Tryz.isAgg0
 z0 := Tryz.sizeOf0
 v0 := Tryz.zeroValue0
 t3 := Tryz.underlying3
 a3 := Tryz.isAgg3
 z3 := Tryz.sizeOf3
 v3 := Tryz.zeroValue3
 t4 := Tryz.underlying4
 a4 := Tryz.isAgg4
 z4 := Tryz.sizeOf4
 v4 := Tryz.zeroValue4
 t9 := Tryz.underlying9
 a9 := Tryz.isAgg9
 z9 := Tryz.sizeOf9
 v9 := Tryz.zeroValue9
 t37 := Tryz.underlying36
 a37 := Tryz.isAgg36
 z37 := Tryz.sizeOf36
 v37 := Tryz.zeroValue36
 t93 := Tryz.underlying53
 a93 := Tryz.isAgg53
 z93 := Tryz.sizeOf53
 v93 := Tryz.zeroValue53
 t130 := Tryz.underlying56
 a130 := Tryz.isAgg56
 z130 := Tryz.sizeOf56
 v130 := Tryz.zeroValue56
 t5 := Tryz.underlying5
 a5 := Tryz.isAgg5
 z5 := Tryz.sizeOf5
 v5 := Tryz.zeroValue5
 t91 := Tryz.underlying51
 a91 := Tryz.isAgg51
 z91 := Tryz.sizeOf51
 v91 := Tryz.zeroValue51
 i0 := by kernel_rfl
 i3 := by kernel_rfl
 i4 := by kernel_rfl
 i5 := by kernel_rfl
 i9 := by kernel_rfl
 i37 := by kernel_rfl
 i91 := by kernel_rfl
 i93 := by kernel_rfl
 i130 := by kernel_rfl }
open Go.RowKit in
theorem Tryz.Buffer_String (B b : Nat) (l : List UInt8) (w : World) (h : Lib.IsBuffer 53 5 B b (Lib.byteCells l) w) :
 Calls Tryz.prog 35 #[.pointer (some ⟨b,0,none⟩)] w fun e w' => e = .returned (.string ⟨l.toArray⟩) ∧ ∃ n,w' = w.drewN n := Any.Buffer_String Tryz.QA B b l w h
def Tryz.YC : Go.Shelf.Ren := ⟨fun | 184 => 103 | n => n,fun | 130 => 56 | 0 => 0 | 93 => 53 | 37 => 36 | 3 => 3 | 91 => 51 | 5 => 5 | n => n,fun | n => n⟩
open Go.RowKit in
def Tryz.acp : Go.Shelf.Ren := ⟨fun | 217 => 99 | 266 => 108 | n => n,fun | 9 => 9 | 5 => 5 | 3 => 3 | n => n,fun | n => n⟩
open Go.RowKit Go.Lib in
def Tryz.IC : Go.Shelf.Ren := ⟨fun | 252 => 130 | 181 => 76 | 184 => 103 | 251 => 129 | 290 => 131 | 324 => 132 | n => n,fun | 130 => 56 | 3 => 3 | 4 => 4 | 0 => 0 | 93 => 53 | 131 => 196 | 37 => 36 | 75 => 38 | 91 => 51 | 20 => 20 | 5 => 5 | 80 => 63 | 9 => 9 | n => n,fun | 14 => 8 | n => n⟩
theorem Tryz.ID : Go.Proofs.LaysM.n252 Tryz.prog Tryz.IC := {
 mixed := by kernel_rfl
 f181 := Tryz.func76.trans (congrArg some (by kernel_rfl))
 f184 := Tryz.func103.trans (congrArg some (by kernel_rfl))
 f251 := Tryz.func129.trans (congrArg some (by kernel_rfl))
 f252 := Tryz.func130.trans (congrArg some (by kernel_rfl))
 f290 := Tryz.func131.trans (congrArg some (by kernel_rfl))
 f324 := Tryz.func132.trans (congrArg some (by kernel_rfl))
 t0 := Tryz.underlying0
 a0 := Tryz.isAgg0
 z0 := Tryz.sizeOf0
 v0 := Tryz.zeroValue0
 t3 := Tryz.underlying3
 a3 := Tryz.isAgg3
 z3 := Tryz.sizeOf3
 v3 := Tryz.zeroValue3
 t4 := Tryz.underlying4
 a4 := Tryz.isAgg4
 z4 := Tryz.sizeOf4
 v4 := Tryz.zeroValue4
 t20 := Tryz.underlying20
 a20 := Tryz.isAgg20
 z20 := Tryz.sizeOf20
 v20 := Tryz.zeroValue20
 t37 := Tryz.underlying36
 a37 := Tryz.isAgg36
 z37 := Tryz.sizeOf36
 v37 := Tryz.zeroValue36
 t75 := Tryz.underlying38
 a75 := Tryz.isAgg38
 z75 := Tryz.sizeOf38
 v75 := Tryz.zeroValue38
 t91 := Tryz.underlying51
 a91 := Tryz.isAgg51
 z91 := Tryz.sizeOf51
 v91 := Tryz.zeroValue51
 t93 := Tryz.underlying53
 a93 := Tryz.isAgg53
 z93 := Tryz.sizeOf53
 v93 := Tryz.zeroValue53
 t130 := Tryz.underlying56
 a130 := Tryz.isAgg56
 z130 := Tryz.sizeOf56
 v130 := Tryz.zeroValue56
 t131 := Tryz.underlying196
 a131 := Tryz.isAgg196
 z131 := Tryz.sizeOf196
 v131 := Tryz.zeroValue196
 g14 := by kernel_rfl
 t5 := Tryz.underlying5
 a5 := Tryz.isAgg5
 z5 := Tryz.sizeOf5
 v5 := Tryz.zeroValue5
 t9 := Tryz.underlying9
 a9 := Tryz.isAgg9
 z9 := Tryz.sizeOf9
 v9 := Tryz.zeroValue9
 t80 := Tryz.underlying63
 a80 := Tryz.isAgg63
 z80 := Tryz.sizeOf63
 v80 := Tryz.zeroValue63
 i0 := by kernel_rfl
 i3 := by kernel_rfl
 i4 := by kernel_rfl
 i5 := by kernel_rfl
 i9 := by kernel_rfl
 i20 := by kernel_rfl
 i37 := by kernel_rfl
 i75 := by kernel_rfl
 i80 := by kernel_rfl
 i91 := by kernel_rfl
 i93 := by kernel_rfl
 i130 := by kernel_rfl
 i131 := by kernel_rfl
 m14 := by kernel_rfl }
open Go.RowKit in
open Go.RowKit in
open Go.RowKit in
open Go.RowKit in
open Go.RowKit in
open Go.RowKit in
def Tryz.YD : Go.Shelf.Ren := ⟨fun | 180 => 128 | 251 => 129 | 252 => 130 | 181 => 76 | 184 => 103 | 290 => 131 | 324 => 132 | n => n,fun | 130 => 56 | 37 => 36 | 3 => 3 | 75 => 38 | 0 => 0 | 93 => 53 | 91 => 51 | 131 => 196 | 4 => 4 | 20 => 20 | 5 => 5 | 80 => 63 | 9 => 9 | n => n,fun | 14 => 8 | n => n⟩
open Go.RowKit in
def Tryz.De : Go.Shelf.Ren := ⟨fun | 196 => 41 | 259 => 57 | n => n,fun | 9 => 9 | 4 => 4 | 3 => 3 | 5 => 5 | 12 => 12 | 119 => 103 | 0 => 0 | 46 => 107 | 139 => 106 | 138 => 105 | 53 => 22 | n => n,fun | 3 => 3 | 4 => 4 | n => n⟩
theorem Tryz.Cc : Go.Proofs.Lays.n196 Tryz.prog Tryz.De := {
 mixed := by kernel_rfl
 f196 := Tryz.func41.trans (congrArg some (by kernel_rfl))
 f259 := Tryz.func57.trans (congrArg some (by kernel_rfl))
 t0 := Tryz.underlying0
 a0 := Tryz.isAgg0
 z0 := Tryz.sizeOf0
 v0 := Tryz.zeroValue0
 t3 := Tryz.underlying3
 a3 := Tryz.isAgg3
 z3 := Tryz.sizeOf3
 v3 := Tryz.zeroValue3
 t4 := Tryz.underlying4
 a4 := Tryz.isAgg4
 z4 := Tryz.sizeOf4
 v4 := Tryz.zeroValue4
 t5 := Tryz.underlying5
 a5 := Tryz.isAgg5
 z5 := Tryz.sizeOf5
 v5 := Tryz.zeroValue5
 t9 := Tryz.underlying9
 a9 := Tryz.isAgg9
 z9 := Tryz.sizeOf9
 v9 := Tryz.zeroValue9
 t12 := Tryz.underlying12
 a12 := Tryz.isAgg12
 z12 := Tryz.sizeOf12
 v12 := Tryz.zeroValue12
 t46 := Tryz.underlying107
 a46 := Tryz.isAgg107
 z46 := Tryz.sizeOf107
 v46 := Tryz.zeroValue107
 t53 := Tryz.underlying22
 a53 := Tryz.isAgg22
 z53 := Tryz.sizeOf22
 v53 := Tryz.zeroValue22
 t119 := Tryz.underlying103
 a119 := Tryz.isAgg103
 z119 := Tryz.sizeOf103
 t138 := Tryz.underlying105
 a138 := Tryz.isAgg105
 z138 := Tryz.sizeOf105
 v138 := Tryz.zeroValue105
 t139 := Tryz.underlying106
 a139 := Tryz.isAgg106
 z139 := Tryz.sizeOf106
 v139 := Tryz.zeroValue106
 g3 := by kernel_rfl
 g4 := by kernel_rfl }
end Go.Proofs
namespace Go.Proofs.YtkdebhgccpfkiaaGreatDoor.au
open Go.RowKit Go.Proofs.aa.az Go.Proofs.aa.aM Go.Proofs.aa.aU
attribute [local go_sem] ba bh
set_option linter.unusedVariables false
set_option linter.unusedSimpArgs false
structure Fr (w w' : World) (X : Nat → Prop) : Prop where
 os : w'.os = w.os
 tape : w'.tape = w.tape
 output : w'.output = w.output
 size : w.heap.size ≤ w'.heap.size
 keep : ∀ k,k < w.heap.size → ¬ X k → w'.heap[k]? = w.heap[k]?
theorem Fr.refl (w : World) (X : Nat → Prop) : Fr w w X := ⟨rfl,rfl,rfl,Nat.le_refl _,fun _ _ _ => rfl⟩
theorem Fr.trans {w w1 w2 : World} {X Y : Nat → Prop} (h : Fr w w1 X) (k : Fr w1 w2 Y) (hY : ∀ k,k < w.heap.size → Y k → X k) : Fr w w2 X:=
 ⟨k.os.trans h.os,k.tape.trans h.tape,k.output.trans h.output,Nat.le_trans h.size k.size,fun i hi hx => (k.keep i (Nat.lt_of_lt_of_le hi h.size) (fun hy => hx (hY i hi hy))).trans (h.keep i hi hx)⟩
theorem Fr.more {w w1 : World} {X Y : Nat → Prop} (h : Fr w w1 X) (hY : ∀ k,k < w.heap.size → X k → Y k) : Fr w w1 Y:=
 ⟨h.os,h.tape,h.output,h.size,fun i hi hx => h.keep i hi (fun hy => hx (hY i hi hy))⟩
theorem Fr.iW {w w' : World} (h : Below w.heap.size w w') (X : Nat → Prop) : Fr w w' X := ⟨h.os,h.tape,h.output,h.size,fun k hk _ => h.block k hk⟩
theorem Fr.below {w w' : World} {X : Nat → Prop} (h : Fr w w' X) {B : Nat} (hB : B ≤ w.heap.size) (hX : ∀ k,X k → B ≤ k) : Below B w w' :=
 ⟨h.os,h.tape,h.output,h.size,fun k hk => h.keep k (Nat.lt_of_lt_of_le hk hB) (fun hx => by have := hX k hx; omega)⟩
theorem Fr.Qs {w w' : World} {b : Nat} (h : w.grownBy w' (some b)) {X : Nat → Prop} (hX : X b) : Fr w w' X := ⟨h.os,h.tape,h.output,h.size,fun k hk hx => h.block k hk (fun e => hx (by injection e with e; subst e; exact hX))⟩
theorem Fr.set {w w' : World} {X : Nat → Prop} (h : Fr w w' X) (p : Addr) (v : Value) (hp : X p.block ∨ w.heap.size ≤ p.block) : Fr w (w'.setCell p v) X:=
 ⟨h.os,h.tape,h.output,by rw [World.size_setCell]; exact h.size,fun k hk hx => (Below.heap_setCell w' p v k (fun e => by subst e; rcases hp with hp | hp; exact hx hp; omega)).trans (h.keep k hk hx)⟩
theorem Fr.row {w w' : World} {X : Nat → Prop} (h : Fr w w' X) (g : Nat) (cs : Array Value) (hp : X g ∨ w.heap.size ≤ g) : Fr w (w'.setRow g cs) X:=
 ⟨h.os,h.tape,h.output,by simpa [World.setRow] using h.size,fun k hk hx => (setRow_other _ _ _ _ (fun e => by subst e; rcases hp with hp | hp; exact hx hp; omega)).trans (h.keep k hk hx)⟩
theorem Fr.heap {w w' : World} {X : Nat → Prop} (h : Fr w w' X) {k : Nat} {o : Obj} (hk : w.heap[k]? = some o) (hx : ¬ X k) : w'.heap[k]? = some o := (h.keep k (Array.getElem?_eq_some_iff.1 hk).1 hx).trans hk
def jC (v : Value) : Prop := ∃ n : UInt8,v = .int .u8 (n.toNat : Int)
theorem jC.one {v : Value} (h : jC v) : v.oneCell' = true := by obtain ⟨n,rfl⟩ := h; rfl
theorem fp (n : Int) (h : 0 ≤ n ∧ n < 256) : jC (.int .u8 n) := ⟨UInt8.ofNat n.toNat,by
 have e : (UInt8.ofNat n.toNat).toNat = n.toNat := by simp; omega
 rw [e,show ((n.toNat : Nat) : Int) = n by omega]⟩
theorem JN : ∀ bs : List Value,(∀ x ∈ bs,jC x) → ∃ l : List UInt8,bs = Lib.byteCells l
 | [],_ => ⟨[],rfl⟩
 | v :: r,h => by
   obtain ⟨n,rfl⟩ := h v List.mem_cons_self
   obtain ⟨l,rfl⟩ := JN r (fun x hx => h x (List.mem_cons_of_mem _ hx))
   exact ⟨n :: l,rfl⟩
def Bf (w : World) (b : Nat) (r : Option Nat) (m : Nat) : Prop:=
 (r = none ∧ m = 0 ∧ ∃ lr,w.heap[b]? = some (.cells #[.slice none 0 0,.int .i64 0,.int .i8 lr] 53 (0,0))) ∨
 ∃ (g cap : Nat) (cur : Array Value) (lr : Int),r = some g ∧ g ≠ b ∧ w.heap[b]? = some (.cells #[.slice (some ⟨g,0,none⟩) m cap,.int .i64 0,.int .i8 lr] 53 (0,0)) ∧ w.heap[g]? = some (.cells cur 5 (0,0)) ∧ m ≤ cap ∧ cap ≤ maxLen ∧ cur.size = cap ∧ 1 ≤ m ∧ ∀ x ∈ cur.toList.take m,jC x
theorem Bf.is {w : World} {b : Nat} {r : Option Nat} {m : Nat} (h : Bf w b r m) : ∃ bs : List Value,bs.length = m ∧ Lib.IsBuffer 53 5 0 b bs w := by
 rcases h with ⟨_,rfl,lr,hb⟩ | ⟨g,cap,cur,lr,_,iL,hb,hg,hm,hcm,hcs,_,h1⟩
 · exact ⟨[],rfl,Nat.zero_le _,.slice none 0 0,lr,hb,World.ownsRow_nil _ _ _ _,by simp [Value.ownBlock]⟩
 · have hl : (cur.toList.take m).length = m := by rw [List.length_take,Array.length_toList]; omega
   refine ⟨cur.toList.take m,hl,Nat.zero_le _,.slice (some ⟨g,0,none⟩) m cap,lr,hb,⟨by rw [Nat.mul_one],.inr ⟨g,cap,cur,by rw [hl],Nat.zero_le _,hg,by rw [hl]; exact hm,hcm,by rw [Nat.mul_one]; exact hcs,by rw [hl,Nat.mul_one]⟩⟩,?_⟩
   simp only [Value.ownBlock,ne_eq,Option.some.injEq]
   exact iL
theorem Bf.str {w : World} {b : Nat} {r : Option Nat} {m : Nat} (h : Bf w b r m) : ∃ l : List UInt8,Lib.IsBuffer 53 5 0 b (Lib.byteCells l) w := by
 rcases h with ⟨_,rfl,lr,hb⟩ | ⟨g,cap,cur,lr,_,iL,hb,hg,hm,hcm,hcs,_,h1⟩
 · exact ⟨[],Nat.zero_le _,.slice none 0 0,lr,hb,World.ownsRow_nil _ _ _ _,by simp [Value.ownBlock]⟩
 · have hl : (cur.toList.take m).length = m := by rw [List.length_take,Array.length_toList]; omega
   obtain ⟨l,hlb⟩ := JN _ h1
   refine ⟨l,?_⟩
   rw [← hlb]
   refine ⟨Nat.zero_le _,.slice (some ⟨g,0,none⟩) m cap,lr,hb,⟨by rw [Nat.mul_one],.inr ⟨g,cap,cur,by rw [hl],Nat.zero_le _,hg,by rw [hl]; exact hm,hcm,by rw [Nat.mul_one]; exact hcs,by rw [hl,Nat.mul_one]⟩⟩,?_⟩
   simp only [Value.ownBlock,ne_eq,Option.some.injEq]
   exact iL
theorem Bf.lt {w : World} {b : Nat} {r : Option Nat} {m : Nat} (h : Bf w b r m) : b < w.heap.size := by
 rcases h with ⟨_,_,lr,hb⟩ | ⟨g,cap,cur,lr,_,_,hb,_⟩
 · exact (Array.getElem?_eq_some_iff.1 hb).1
 · exact (Array.getElem?_eq_some_iff.1 hb).1
theorem Bf.move {w w' : World} {b : Nat} {r : Option Nat} {m : Nat} (h : Bf w b r m) (hb : w'.heap[b]? = w.heap[b]?) (hr : ∀ g,r = some g → w'.heap[g]? = w.heap[g]?) : Bf w' b r m := by
 rcases h with ⟨h1,h2,lr,h3⟩ | ⟨g,cap,cur,lr,h1,h2,h3,h4,h5⟩
 · exact .inl ⟨h1,h2,lr,hb.trans h3⟩
 · exact .inr ⟨g,cap,cur,lr,h1,h2,hb.trans h3,(hr g h1).trans h4,h5⟩
theorem Bf.Ng {w : World} {b : Nat} {r : Option Nat} {m : Nat} (h : Bf w b r m) {g : Nat} (hr : r = some g) : g < w.heap.size ∧ g ≠ b := by
 rcases h with ⟨h1,_⟩ | ⟨g', cap,cur,lr,h1,h2,h3,h4,_⟩
 · rw [hr] at h1; cases h1
 · rw [hr] at h1
   obtain rfl := Option.some.inj h1
   exact ⟨(Array.getElem?_eq_some_iff.1 h4).1,h2⟩
def Gr (w w' : World) (b m n : Nat) (old : List Value) : Prop := ∃ (g cap : Nat) (cur : Array Value) (lr : Int),w.heap.size ≤ g ∧ w'.heap[b]? = some (.cells #[.slice (some ⟨g,0,none⟩) (m + n) cap,.int .i64 0,.int .i8 lr] 53 (0,0)) ∧ w'.heap[g]? = some (.cells cur 5 (0,0)) ∧ cur.size = cap ∧ m + n ≤ cap ∧ cap ≤ maxLen ∧ cur.toList.take m = old ∧ w.grownBy w' (some b)
theorem IX : (Tryz.prog.info? 5).map (fun i => (i.zero,i.size,i.bytes)) = some (some (.int .u8 0),1,1) := by kernel_rfl
theorem aeH (W : World) (n : Nat) (hn : n ≤ 64) : (Instr.makeSlice 36 (.int .i64 (n : Int)) (.int .i64 64)).run Tryz.prog W = .ok (.slice (some ⟨W.heap.size,0,none⟩) n 64) (W.alloc (.cells (madeCells (Value.int .u8 0).cells 64) 5)) := by
 obtain ⟨i,hi,hz⟩ := Option.map_eq_some_iff.1 IX
 simp only [Prod.mk.injEq] at hz
 have h := run_make (P := Tryz.prog) W 36 5 i (.int .u8 0) Tryz.underlying36 hi hz.1 .i64 .i64 (n : Int) 64 (by omega) (by omega) (by rw [hz.2.2]; omega) (by omega)
 simpa [hz.2.1] using h
theorem Rc (w : World) (b n : Nat) (lr : Int) (iK : 1 ≤ n) (hn : n ≤ 64) (hb : w.heap[b]? = some (.cells #[.slice none 0 0,.int .i64 0,.int .i8 lr] 53 (0,0))) :
 Calls Tryz.prog 130 #[.pointer (some ⟨b,0,none⟩),.int .i64 (n : Int)] w fun e w' => e = .returned (.int .i64 0) ∧ Gr w w' b 0 n [] := by
 have HL : U (Calls Tryz.prog 76 #[.pointer (some ⟨b,0,none⟩)] w fun e w' => e = .returned (.int .i64 0) ∧ ∃ n,w' = w.drewN n) := ⟨Tryz.Buffer_Len b b [] w ⟨Nat.le_refl _,.slice none 0 0,lr,hb,World.ownsRow_nil _ _ _ _,by simp [Value.ownBlock]⟩⟩
 have c0 : ∀ k,(w.drewN k).cell? ⟨b,0,none⟩ = some (.slice none 0 0) := fun k => (cell_of_row w b 0 _ 53 (0,0) hb).trans rfl
 have c1 : ∀ k,(w.drewN k).cell? ⟨b,1,none⟩ = some (.int .i64 0) := fun k => (cell_of_row w b 1 _ 53 (0,0) hb).trans rfl
 have f0 : ∀ k,(w.drewN k).frozen? ⟨b,0,none⟩ = false := fun k => frozen_of_row w b 0 _ 53 hb
 have gi : ∀ k o,((w.drewN k).alloc o).cell? ⟨b,0,none⟩ = some (.slice none 0 0) := fun k o => ag (ab (Below.refl _ _) o) (c0 k)
 have f0a : ∀ k o,((w.drewN k).alloc o).frozen? ⟨b,0,none⟩ = false := fun k o => frozen_of_row _ b 0 _ 53 ((heap_alloc_old _ _ (Array.getElem?_eq_some_iff.1 hb).1).trans hb)
 have i' := fun W => aeH W n hn
 have hd : decide ((n : Int) ≤ 64) = true := by simp; omega
 have heq : ∀ W : World,(binOp .eql 36 (.slice none 0 0) (.slice none 0 0)).run Tryz.prog W = .ok (.bool true) W := fun _ => by kernel_rfl
 have HB := U.mk hb
 clear hb
 go_enter Tryz.func130,Tryz.ntmps130
 go_wp2_with (first | (go_at_call 76; refine HL.out.mono ?_; rintro e w2 ⟨rfl,k,rfl⟩; have c0k := c0 k; have c1k := c1 k) | (go_at_call 129; refine (Tryz.Buffer_tryGrow_none b none 0 0 n _ c0k (by omega) (by unfold maxLen; omega) (by omega)).mono ?_; rintro e w3 ⟨rfl,rfl⟩))
 go_ret
 refine ⟨rfl,?_⟩
 have hlt : b < w.heap.size := (Array.getElem?_eq_some_iff.1 HB.out).1
 have cN : (w.drewN k).heap.size = w.heap.size := rfl
 refine ⟨w.heap.size,64,madeCells (Value.int .u8 0).cells 64,lr,Nat.le_refl _,?_,?_,by kernel_rfl,by omega,by unfold maxLen; omega,rfl,?_⟩
 · rw [Nat.zero_add]; exact heap_setCell_same _ b 0 _ 53 _ ((heap_alloc_old (w.drewN k) _ hlt).trans HB.out)
 · rw [Below.heap_setCell _ ⟨b,0,none⟩ _ _ (by show w.heap.size ≠ b; omega)]
   exact heap_alloc_new (w.drewN k) _
 · have g : w.grownBy (w.drewN k) (some b) := ⟨rfl,rfl,rfl,Nat.le_refl _,fun _ _ _ => rfl⟩
   exact Lib.grownBy_setB (Lib.grownBy_allocR g _) 0 _
theorem aai (w : World) (b n : Nat) (lr : Int) (iK : 64 < n) (hn : n ≤ 1000000000000) (hb : w.heap[b]? = some (.cells #[.slice none 0 0,.int .i64 0,.int .i8 lr] 53 (0,0))) :
 Calls Tryz.prog 130 #[.pointer (some ⟨b,0,none⟩),.int .i64 (n : Int)] w fun e w' => e = .returned (.int .i64 0) ∧ Gr w w' b 0 n [] := by
 have HL : U (Calls Tryz.prog 76 #[.pointer (some ⟨b,0,none⟩)] w fun e w' => e = .returned (.int .i64 0) ∧ ∃ n,w' = w.drewN n) := ⟨Tryz.Buffer_Len b b [] w ⟨Nat.le_refl _,.slice none 0 0,lr,hb,World.ownsRow_nil _ _ _ _,by simp [Value.ownBlock]⟩⟩
 have L3 : ∀ W : World,(binOp .eql 36 (.slice none 0 0) (.slice none 0 0)).run Tryz.prog W = .ok (.bool true) W := fun _ => by kernel_rfl
 have HB := U.mk hb
 have mixed := Tryz.ID.mixed
 clear hb
 go_enter Tryz.func130,Tryz.ntmps130
 go_wp2_with (go_at_call 76; refine HL.out.mono ?_)
 rintro e W0 ⟨rfl,k,GA⟩
 have ky : W0.heap[b]? = some (.cells #[.slice none 0 0,.int .i64 0,.int .i8 lr] 53 (0,0)) := by rw [GA]; exact HB.out
 have c0 : W0.cell? ⟨b,0,none⟩ = some (.slice none 0 0) := (cell_of_row W0 b 0 _ 53 (0,0) ky).trans rfl
 have c1 : W0.cell? ⟨b,1,none⟩ = some (.int .i64 0) := (cell_of_row W0 b 1 _ 53 (0,0) ky).trans rfl
 have f0 := frozen_of_row W0 b 0 _ 53 ky
 have f1 := frozen_of_row W0 b 1 _ 53 ky
 have PD := U.mk GA
 have G0 := U.mk ky
 clear GA HL ky
 go_wp2_with (go_at_call 129; refine (Tryz.Buffer_tryGrow_none b _ 0 0 n _ c0 (Nat.le_refl _) (Nat.zero_le _) (by omega)).mono ?_; rintro e w' ⟨rfl,rfl⟩)
 have ZK : b < w'.heap.size := (Array.getElem?_eq_some_iff.1 G0.out).1
 have hwn : IntKind.i64.wrap (n : Int) = n := by rw [IntKind.wrap_i64]; omega
 go_region_with_o (
  go_at_call 131
  refine (Tryz.bytes_growSlice_nil n _ (by omega) (by omega)).mono ?_
  rintro e w2 ⟨kz,cells,rfl,hN,Q7,Ts,Q8,Jx⟩
  have vD : w2.heap[b]? = some (.cells #[.slice none 0 0,.int .i64 0,.int .i8 lr] 53 (0,0)) := (Jx.block b ZK).trans G0.out
  have d0 : w2.cell? ⟨b,0,none⟩ = some (.slice none 0 0) := (cell_of_row w2 b 0 _ 53 (0,0) vD).trans rfl
  have d1 : w2.cell? ⟨b,1,none⟩ = some (.int .i64 0) := (cell_of_row w2 b 1 _ 53 (0,0) vD).trans rfl
  have e0 : w2.frozen? ⟨b,0,none⟩ = false := frozen_of_row w2 b 0 _ 53 vD
  have e1 : w2.frozen? ⟨b,1,none⟩ = false := frozen_of_row w2 b 1 _ 53 vD)
 all_goals (
  go_wp2
  go_ret
  have lD : w.grownBy w2 (some b) := Lib.grownBy_below (w := w'.drew) (by rw [PD.out]; exact ⟨rfl,rfl,rfl,Nat.le_refl _,fun _ _ _ => rfl⟩) Jx
  have cN : w'.heap.size = w.heap.size := by rw [PD.out]; rfl
  refine ⟨rfl,_,kz,cells,lr,Nat.le_of_eq cN.symm,?_,?_,Q7,by omega,Q8,rfl,Lib.grownBy_setB (Lib.grownBy_setB (Lib.grownBy_setB lD 0 _) 1 _) 0 _⟩
  · rw [Nat.zero_add]
    exact heap_setCell_same _ b 0 _ 53 _ (heap_setCell_same _ b 1 _ 53 _ (heap_setCell_same w2 b 0 _ 53 _ vD))
  · have hne : w'.heap.size ≠ b := by omega
    rw [Below.heap_setCell _ ⟨b,0,none⟩ _ _ hne,Below.heap_setCell _ ⟨b,1,none⟩ _ _ hne,Below.heap_setCell _ ⟨b,0,none⟩ _ _ hne]
    exact hN)
theorem aah (w : World) (b g l cap n : Nat) (cur : Array Value) (lr : Int) (Er : 1 ≤ l) (iK : 1 ≤ n) (gL : l + n ≤ 1000000000000) (hcm : cap ≤ maxLen) (hlc : l ≤ cap) (hcs : cur.size = cap) (iL : g ≠ b) (Cg : cap - l < n) (h1 : ∀ x ∈ cur.toList.take l,jC x)
 (hb : w.heap[b]? = some (.cells #[.slice (some ⟨g,0,none⟩) l cap,.int .i64 0,.int .i8 lr] 53 (0,0))) (hg : w.heap[g]? = some (.cells cur 5 (0,0))) :
 Calls Tryz.prog 130 #[.pointer (some ⟨b,0,none⟩),.int .i64 (n : Int)] w fun e w' => e = .returned (.int .i64 (l : Int)) ∧ Gr w w' b l n (cur.toList.take l) := by
 have xE : Bf w b (some g) l := .inr ⟨g,cap,cur,lr,rfl,iL,hb,hg,hlc,hcm,hcs,Er,h1⟩
 obtain ⟨bs,Dk,hIs⟩ := xE.is
 have HL : U (Calls Tryz.prog 76 #[.pointer (some ⟨b,0,none⟩)] w fun e w' => e = .returned (.int .i64 (l : Int)) ∧ ∃ n,w' = w.drewN n) := ⟨by have h := Tryz.Buffer_Len 0 b bs w hIs; rw [Dk] at h; exact h⟩
 have L3 : ∀ W : World,(binOp .eql 36 (.slice (some ⟨g,0,none⟩) l cap) (.slice none 0 0)).run Tryz.prog W = .ok (.bool false) W := fun _ => by kernel_rfl
 have HB := U.mk hb
 have HG := U.mk hg
 have H1 := U.mk h1
 have mixed := Tryz.ID.mixed
 clear hb hg xE hIs h1 Dk
 have aeX := hcm
 unfold maxLen at aeX
 go_enter Tryz.func130,Tryz.ntmps130
 go_wp2_with (go_at_call 76; refine HL.out.mono ?_)
 rintro e W0 ⟨rfl,k,GA⟩
 have ky : W0.heap[b]? = some (.cells #[.slice (some ⟨g,0,none⟩) l cap,.int .i64 0,.int .i8 lr] 53 (0,0)) := by rw [GA]; exact HB.out
 have La : W0.heap[g]? = some (.cells cur 5 (0,0)) := by rw [GA]; exact HG.out
 have c0 : W0.cell? ⟨b,0,none⟩ = some (.slice (some ⟨g,0,none⟩) l cap) := (cell_of_row W0 b 0 _ 53 (0,0) ky).trans rfl
 have c1 : W0.cell? ⟨b,1,none⟩ = some (.int .i64 0) := (cell_of_row W0 b 1 _ 53 (0,0) ky).trans rfl
 have f0 := frozen_of_row W0 b 0 _ 53 ky
 have f1 := frozen_of_row W0 b 1 _ 53 ky
 have PD := U.mk GA
 have G0 := U.mk ky
 have HG0 := U.mk La
 clear GA HL ky La
 go_wp2_with (go_at_call 129; refine (Tryz.Buffer_tryGrow_none b _ l cap n _ c0 hlc hcm Cg).mono ?_; rintro e w' ⟨rfl,rfl⟩)
 have ZK : b < w'.heap.size := (Array.getElem?_eq_some_iff.1 G0.out).1
 have hwn : IntKind.i64.wrap (n : Int) = n := by rw [IntKind.wrap_i64]; omega
 go_region_with_o (
  go_at_call 131
  refine (Tryz.bytes_growSlice_row g l cap n cur _ ?_ hcs hlc iK (by omega) (by omega) (fun x hx => (H1.out x hx).one)).mono ?_
  exact HG0.out
  rintro e w2 ⟨kz,cells,rfl,hN,Q7,I1,Ts,Q8,Jx⟩
  have vD : w2.heap[b]? = some (.cells #[.slice (some ⟨g,0,none⟩) l cap,.int .i64 0,.int .i8 lr] 53 (0,0)) := (Jx.block b ZK).trans G0.out
  have d0 : w2.cell? ⟨b,0,none⟩ = some (.slice (some ⟨g,0,none⟩) l cap) := (cell_of_row w2 b 0 _ 53 (0,0) vD).trans rfl
  have d1 : w2.cell? ⟨b,1,none⟩ = some (.int .i64 0) := (cell_of_row w2 b 1 _ 53 (0,0) vD).trans rfl
  have e0 : w2.frozen? ⟨b,0,none⟩ = false := frozen_of_row w2 b 0 _ 53 vD
  have e1 : w2.frozen? ⟨b,1,none⟩ = false := frozen_of_row w2 b 1 _ 53 vD)
 all_goals (
  go_wp2
  go_ret
  have lD : w.grownBy w2 (some b) := Lib.grownBy_below (w := w'.drew) (by rw [PD.out]; exact ⟨rfl,rfl,rfl,Nat.le_refl _,fun _ _ _ => rfl⟩) Jx
  have cN : w'.heap.size = w.heap.size := by rw [PD.out]; rfl
  refine ⟨rfl,_,kz,cells,lr,Nat.le_of_eq cN.symm,?_,?_,Q7,Ts,Q8,I1,Lib.grownBy_setB (Lib.grownBy_setB (Lib.grownBy_setB lD 0 _) 1 _) 0 _⟩
  · exact heap_setCell_same _ b 0 _ 53 _ (heap_setCell_same _ b 1 _ 53 _ (heap_setCell_same w2 b 0 _ 53 _ vD))
  · have hne : w'.heap.size ≠ b := by omega
    rw [Below.heap_setCell _ ⟨b,0,none⟩ _ _ hne,Below.heap_setCell _ ⟨b,1,none⟩ _ _ hne,Below.heap_setCell _ ⟨b,0,none⟩ _ _ hne]
    exact hN)
def BX (b : Nat) (r : Option Nat) : Nat → Prop := fun k => k = b ∨ r = some k
def Rn (w : World) (r r' : Option Nat) : Prop := r' = r ∨ ∃ g,r' = some g ∧ w.heap.size ≤ g
theorem Ck : (Tryz.prog.info? 5).map (·.size) = some 1 := by kernel_rfl
theorem Iu {cur : Array Value} {m : Nat} {cs : List Value} (hm : (cur.toList.take m).length = m) (h0 : ∀ x ∈ cur.toList.take m,jC x) (h1 : ∀ x ∈ cs,jC x) (rest : List Value) : ∀ x ∈ (cur.toList.take m ++ cs ++ rest).toArray.toList.take (m + cs.length),jC x := by
 intro x hx
 rw [List.toList_toArray,List.take_append_of_le_length (by rw [List.length_append,hm]; exact Nat.le_refl _),List.take_of_length_le (by rw [List.length_append,hm]; exact Nat.le_refl _)] at hx
 rcases List.mem_append.1 hx with h | h
 · exact h0 x h
 · exact h1 x h
theorem Kl (w : World) (b m n c0l FZ Ds : Nat) (ao : Option Addr) (lr : Int) (old cs : List Value) (a : Addr) (iK : 1 ≤ n) (gL : m + n ≤ 1000000000000) (hlc : m ≤ FZ) (acZ : FZ ≤ maxLen) (Cg : FZ - m < n)
 (hb : w.heap[b]? = some (.cells #[.slice ao m FZ,.int .i64 0,.int .i8 lr] 53 (0,0))) (hold : old.length = m) (jn : ∀ x ∈ old,jC x)
 (hG : Calls Tryz.prog 130 #[.pointer (some ⟨b,0,none⟩),.int .i64 (n : Int)] (w.setCell ⟨b,2,none⟩ (.int .i8 0)) fun e w' => e = .returned (.int .i64 (m : Int)) ∧ Gr (w.setCell ⟨b,2,none⟩ (.int .i8 0)) w' b m n old)
 (Dl : a.block ≠ b) (hl : cs.length = n) (zX : ∀ j v,cs[j]? = some v → w.cell? (a.add j) = some v) (lz : ∀ j v,cs[j]? = some v → (a.add j).block < w.heap.size ∧ (a.add j).block ≠ b) (h1 : ∀ v ∈ cs,jC v) :
 Calls Tryz.prog 128 #[.pointer (some ⟨b,0,none⟩),.slice (some a) n Ds] w fun e w' => e = .returned (.tuple #[.int .i64 (n : Int),.nilIface]) ∧ ∃ r', Bf w' b r' (m + n) ∧ (∃ g,r' = some g ∧ w.heap.size ≤ g) ∧ Fr w w' (fun k => k = b) := by
 have c2 : w.cell? ⟨b,2,none⟩ = some (.int .i8 lr) := (cell_of_row w b 2 _ 53 (0,0) hb).trans rfl
 have f2 : w.frozen? ⟨b,2,none⟩ = false := frozen_of_row w b 2 _ 53 hb
 have hb2 := heap_setCell_same w b 2 _ 53 (.int .i8 0) hb
 have cN : (w.setCell ⟨b,2,none⟩ (.int .i8 0)).heap.size = w.heap.size := by simp [World.setCell]
 have H0 := U.mk ((Fr.refl w (fun k => k = b)).set ⟨b,2,none⟩ (.int .i8 0) (.inl rfl))
 have c0 : (w.setCell ⟨b,2,none⟩ (.int .i8 0)).cell? ⟨b,0,none⟩ = some (.slice ao m FZ) := (cell_of_row _ b 0 _ 53 (0,0) hb2).trans rfl
 have HG := U.mk hG
 have HS := U.mk cN
 have SA := U.mk (And.intro zX lz)
 have Us : U (b < w.heap.size) := ⟨(Array.getElem?_eq_some_iff.1 hb).1⟩
 clear hb hb2 cN hG zX lz
 go_enter Tryz.func128,Tryz.ntmps128
 go_wp2_with (first | (go_at_call 129; refine (Tryz.Buffer_tryGrow_none b ao m FZ n _ c0 hlc acZ Cg).mono ?_; rintro e w3 ⟨rfl,rfl⟩) | fail)
 refine HG.out.mono ?_
 rintro e w4 ⟨rfl,g,cap,cur,lr4,La,q1,q2,q3,q4,q5,q6,q7⟩
 rw [HS.out] at La
 have iL : g ≠ b := by have := Us.out; omega
 have F4 := U.mk (H0.out.trans (Fr.Qs q7 (X := fun k => k = b) rfl) (fun k _ h => h))
 have En : ∀ j v,cs[j]? = some v → w4.cell? (a.add j) = some v := fun j v hj => by
  rw [World.cell?_of_block (w := w) (F4.out.keep _ (SA.out.2 j v hj).1 (SA.out.2 j v hj).2)]
  exact SA.out.1 j v hj
 have d0 : w4.cell? ⟨b,0,none⟩ = some (.slice (some ⟨g,0,none⟩) (m + n) cap) := (cell_of_row _ b 0 _ 53 (0,0) q1).trans rfl
 have zJ := run_copy_row (P := Tryz.prog) w4 36 36 3 5 g m n (cap - m) a n Ds cur 5 cs Tryz.underlying36 Ck q2 (by rw [hl]; exact (Nat.min_self n).symm) En (by rw [q3,hl]; exact q4) (fun v hv => (h1 v hv).one)
 have hne : ¬ cap = m := by omega
 have Q1 := U.mk q1
 have Q2 := U.mk q2
 have Q6 := U.mk q6
 have HL := U.mk hl
 clear q1 q2 q6 q7 En c0
 rw [hl] at zJ
 go_wp2
 go_ret2
 refine ⟨rfl,some g,.inr ⟨g,cap,_,lr4,rfl,iL,?_,setRow_heap w4 g cur _ 5 (0,0) Q2.out,by omega,q5,?_,by omega,?_⟩,⟨g,rfl,La⟩,F4.out.row g _ (.inr La)⟩
 · rw [setRow_other _ _ _ _ (Ne.symm iL)]
   exact Q1.out
 · have Di : cur.toList.length = cur.size := Array.length_toList
   simp only [List.size_toArray,List.length_append,List.length_take,List.length_drop,HL.out]
   omega
 · have Di : cur.toList.length = cur.size := Array.length_toList
   have := Iu (cur := cur) (m := m) (cs := cs) (by rw [List.length_take]; omega) (by rw [Q6.out]; exact jn) h1 (cur.toList.drop (m + n))
   rw [HL.out,List.append_assoc] at this
   exact this
theorem UF (w : World) (b g m cap n Ds : Nat) (cur : Array Value) (lr : Int) (cs : List Value) (a : Addr) (km : 1 ≤ m) (hb : w.heap[b]? = some (.cells #[.slice (some ⟨g,0,none⟩) m cap,.int .i64 0,.int .i8 lr] 53 (0,0))) (hg : w.heap[g]? = some (.cells cur 5 (0,0))) (iL : g ≠ b) (hcs : cur.size = cap) (hcm : cap ≤ maxLen) (hmn : m + n ≤ cap) (iK : 1 ≤ n) (gL : m + n ≤ 1000000000000) (jn : ∀ x ∈ cur.toList.take m,jC x)
 (Dl : a.block ≠ b) (hl : cs.length = n) (zX : ∀ j v,cs[j]? = some v → w.cell? (a.add j) = some v) (lz : ∀ j v,cs[j]? = some v → (a.add j).block < w.heap.size ∧ (a.add j).block ≠ b) (h1 : ∀ v ∈ cs,jC v) :
 Calls Tryz.prog 128 #[.pointer (some ⟨b,0,none⟩),.slice (some a) n Ds] w fun e w' => e = .returned (.tuple #[.int .i64 (n : Int),.nilIface]) ∧ Bf w' b (some g) (m + n) ∧ Fr w w' (BX b (some g)) := by
 have c2 : w.cell? ⟨b,2,none⟩ = some (.int .i8 lr) := (cell_of_row w b 2 _ 53 (0,0) hb).trans rfl
 have f2 : w.frozen? ⟨b,2,none⟩ = false := frozen_of_row w b 2 _ 53 hb
 have hb2 : (w.setCell ⟨b,2,none⟩ (.int .i8 0)).heap[b]? = some (.cells #[.slice (some ⟨g,0,none⟩) m cap,.int .i64 0,.int .i8 0] 53 (0,0)) := heap_setCell_same w b 2 _ 53 (.int .i8 0) hb
 have c0 : (w.setCell ⟨b,2,none⟩ (.int .i8 0)).cell? ⟨b,0,none⟩ = some (.slice (some ⟨g,0,none⟩) m cap) := (cell_of_row _ b 0 _ 53 (0,0) hb2).trans rfl
 have f0 : (w.setCell ⟨b,2,none⟩ (.int .i8 0)).frozen? ⟨b,0,none⟩ = false := frozen_of_row _ b 0 _ 53 hb2
 have HT := U.mk (Tryz.Buffer_tryGrow_room b (some ⟨g,0,none⟩) m cap n _ c0 f0 (by omega) hcm (by omega))
 have fY := heap_setCell_same _ b 0 _ 53 (.slice (some ⟨g,0,none⟩) (m + n) cap) hb2
 have hF : Fr w ((w.setCell ⟨b,2,none⟩ (.int .i8 0)).setCell ⟨b,0,none⟩ (.slice (some ⟨g,0,none⟩) (m + n) cap)) (fun k => k = b) := ((Fr.refl w (fun k => k = b)).set ⟨b,2,none⟩ _ (.inl rfl)).set ⟨b,0,none⟩ _ (.inl rfl)
 generalize hW : (w.setCell ⟨b,2,none⟩ (.int .i8 0)).setCell ⟨b,0,none⟩ (.slice (some ⟨g,0,none⟩) (m + n) cap) = W at *
 have fM := hF.heap hg iL
 have En : ∀ j v,cs[j]? = some v → W.cell? (a.add j) = some v := fun j v hj => by
  rw [World.cell?_of_block (w := w) (hF.keep _ (lz j v hj).1 (lz j v hj).2)]
  exact zX j v hj
 have d0 : W.cell? ⟨b,0,none⟩ = some (.slice (some ⟨g,0,none⟩) (m + n) cap) := (cell_of_row _ b 0 _ 53 (0,0) fY).trans rfl
 have zJ := run_copy_row (P := Tryz.prog) W 36 36 3 5 g m n (cap - m) a n Ds cur 5 cs Tryz.underlying36 Ck fM (by rw [hl]; exact (Nat.min_self n).symm) En (by rw [hcs,hl]; omega) (fun v hv => (h1 v hv).one)
 have HL := U.mk hl
 rw [hl] at zJ
 have hne : ¬ cap = m := by omega
 have HB := U.mk fY
 have HG := U.mk fM
 have HF := U.mk hF
 have HO := U.mk jn
 have H1 := U.mk h1
 clear hb hg hb2 c0 f0 fY hF fM zX En lz hW h1 jn hl
 go_enter Tryz.func128,Tryz.ntmps128
 go_wp2_with (first | (go_at_call 129; refine HT.out.mono ?_; rintro e w3 ⟨rfl,rfl⟩))
 all_goals
  go_ret2
  refine ⟨rfl,.inr ⟨g,cap,_,0,rfl,iL,?_,setRow_heap _ g cur _ 5 (0,0) HG.out,by omega,hcm,?_,by omega,?_⟩,(HF.out.more (fun k _ h => .inl h)).row g _ (.inl (.inr rfl))⟩
  · rw [setRow_other _ _ _ _ (Ne.symm iL)]
    exact HB.out
  · have Di : cur.toList.length = cur.size := Array.length_toList
    simp only [List.size_toArray,List.length_append,List.length_take,List.length_drop,HL.out]
    omega
  · have Di : cur.toList.length = cur.size := Array.length_toList
    have := Iu (cur := cur) (m := m) (cs := cs) (by rw [List.length_take]; omega) HO.out H1.out (cur.toList.drop (m + n))
    rw [HL.out,List.append_assoc] at this
    exact this
theorem P0 (w : World) (b : Nat) (r : Option Nat) (m n Ds : Nat) (cs : List Value) (a : Addr) (h : Bf w b r m) (iK : 1 ≤ n) (gL : m + n ≤ 1000000000000) (hl : cs.length = n) (zX : ∀ j v,cs[j]? = some v → w.cell? (a.add j) = some v) (lz : ∀ j v,cs[j]? = some v → (a.add j).block < w.heap.size ∧ (a.add j).block ≠ b) (Dl : a.block ≠ b) (h1 : ∀ v ∈ cs,jC v) :
 Calls Tryz.prog 128 #[.pointer (some ⟨b,0,none⟩),.slice (some a) n Ds] w fun e w' => e = .returned (.tuple #[.int .i64 (n : Int),.nilIface]) ∧ ∃ r', Bf w' b r' (m + n) ∧ Rn w r r' ∧ Fr w w' (BX b r) := by
 have up : ∀ (r0 : Option Nat) (w' : World),Fr w w' (fun k => k = b) → Fr w w' (BX b r0) := fun r0 w' hf => hf.more (fun k _ h => .inl h)
 rcases h with ⟨rfl,rfl,lr,hb⟩ | ⟨g,cap,cur,lr,rfl,iL,hb,hg,hm,hcm,hcs,km,ho⟩
 · have hb2 := heap_setCell_same w b 2 _ 53 (.int .i8 0) hb
   have hG : Calls Tryz.prog 130 #[.pointer (some ⟨b,0,none⟩),.int .i64 (n : Int)] (w.setCell ⟨b,2,none⟩ (.int .i8 0)) fun e w' => e = .returned (.int .i64 ((0 : Nat) : Int)) ∧ Gr (w.setCell ⟨b,2,none⟩ (.int .i8 0)) w' b 0 n [] := by
    by_cases Ty : n ≤ 64
    · exact Rc _ b n 0 iK Ty hb2
    · exact aai _ b n 0 (by omega) (by omega) hb2
   refine (Kl w b 0 n 0 0 Ds none lr [] cs a iK (by omega) (Nat.le_refl _) (Nat.zero_le _) (by omega) hb rfl (by simp) hG Dl hl zX lz h1).mono ?_
   rintro e w' ⟨he,r', hB,⟨g,hr,hg⟩,hF⟩
   exact ⟨he,r', hB,.inr ⟨g,hr,hg⟩,up _ _ hF⟩
 · by_cases Cg : cap - m < n
   · have hb2 := heap_setCell_same w b 2 _ 53 (.int .i8 0) hb
     have lD : (w.setCell ⟨b,2,none⟩ (.int .i8 0)).heap[g]? = some (.cells cur 5 (0,0)) := (Below.heap_setCell w ⟨b,2,none⟩ _ g iL).trans hg
     have Di : cur.toList.length = cur.size := Array.length_toList
     refine (Kl w b m n 0 cap Ds (some ⟨g,0,none⟩) lr (cur.toList.take m) cs a iK gL hm hcm Cg hb (by rw [List.length_take]; omega) ho (aah _ b g m cap n cur 0 km iK gL hcm hm hcs iL Cg ho hb2 lD) Dl hl zX lz h1).mono ?_
     rintro e w' ⟨he,r', hB,⟨g', hr,hg'⟩,hF⟩
     exact ⟨he,r', hB,.inr ⟨g', hr,hg'⟩,up _ _ hF⟩
   · refine (UF w b g m cap n Ds cur lr cs a km hb hg iL hcs hcm (by omega) iK gL ho Dl hl zX lz h1).mono ?_
     rintro e w' ⟨he,hB,hF⟩
     exact ⟨he,_,hB,.inl rfl,hF⟩
def pd (x a : Nat) : Nat := (a - x % a) % a
theorem Sw (x j : Nat) (hj : j ≤ 64) (hx : x < 2 ^ 64) : x &&& ((2 ^ (64 - j) - 1) <<< j) = (x >>> j) <<< j := by
 apply Nat.eq_of_testBit_eq
 intro i
 simp only [Nat.testBit_and,Nat.testBit_shiftLeft,Nat.testBit_two_pow_sub_one,Nat.testBit_shiftRight]
 by_cases h : j ≤ i
 · have e : j + (i - j) = i := by omega
   rw [e]
   by_cases h2 : i < 64
   · simp [h]; omega
   · have : x.testBit i = false := Nat.testBit_lt_two_pow (Nat.lt_of_lt_of_le hx (Nat.pow_le_pow_right (by decide) (by omega)))
     simp [this]
 · simp [h]
theorem BL (x : Nat) (hx : x < 2 ^ 62) (j M : Nat) (hj : j ≤ 64) (hM : (BitVec.ofInt 64 (Go.bits BinOp.xor IntKind.i64 (-1) (M : Int))).toNat = (2 ^ (64 - j) - 1) <<< j) : Go.bits BinOp.and IntKind.i64 (x : Int) (Go.bits BinOp.xor IntKind.i64 (-1) (M : Int)) = (((x >>> j) <<< j : Nat) : Int) := by
 have Ty : x < 2 ^ 64 := Nat.lt_trans hx (by decide)
 have hle : (x >>> j) <<< j ≤ x := by
  rw [Nat.shiftLeft_eq,Nat.shiftRight_eq_div_pow]; exact Nat.div_mul_le_self _ _
 have e : (BitVec.ofInt 64 (x : Int) &&& BitVec.ofInt 64 (Go.bits BinOp.xor IntKind.i64 (-1) (M : Int))).toNat = (x >>> j) <<< j := by
  rw [BitVec.toNat_and,hM,BitVec.ofInt_natCast,BitVec.toNat_ofNat,Nat.mod_eq_of_lt Ty,Sw x j hj Ty]
 show IntKind.i64.wrap ((BitVec.ofInt 64 (x : Int) &&& BitVec.ofInt 64 (Go.bits BinOp.xor IntKind.i64 (-1) (M : Int))).toNat : Int) = _
 rw [e,IntKind.wrap_i64]
 have h62 : (2 : Nat) ^ 62 = 4611686018427387904 := by decide
 omega
theorem aaQ (x : Nat) (hx : x < 2 ^ 62) : Go.bits BinOp.and IntKind.i64 (x : Int) (Go.bits BinOp.xor IntKind.i64 (-1) 1) = ((x / 2 * 2 : Nat) : Int) := by
 have h := BL x hx 1 1 (by omega) (by decide +kernel)
 rw [Nat.shiftLeft_eq,Nat.shiftRight_eq_div_pow] at h
 exact h
theorem aaP (x : Nat) (hx : x < 2 ^ 62) : Go.bits BinOp.and IntKind.i64 (x : Int) (Go.bits BinOp.xor IntKind.i64 (-1) 3) = ((x / 4 * 4 : Nat) : Int) := by
 have h := BL x hx 2 3 (by omega) (by decide +kernel)
 rw [Nat.shiftLeft_eq,Nat.shiftRight_eq_div_pow] at h
 exact h
theorem aaO (x : Nat) (hx : x < 2 ^ 62) : Go.bits BinOp.and IntKind.i64 (x : Int) (Go.bits BinOp.xor IntKind.i64 (-1) 7) = ((x / 8 * 8 : Nat) : Int) := by
 have h := BL x hx 3 7 (by omega) (by decide +kernel)
 rw [Nat.shiftLeft_eq,Nat.shiftRight_eq_div_pow] at h
 exact h
theorem acN (w : World) (e : Nat) (c0 c1 c2 : Value) (pos off : Nat) (he : w.heap[e]? = some (.cells #[c0,c1,c2,.int .i64 (pos : Int)] 79 (0,0))) (hp : pos ≤ 1000000000000) (ho : off ≤ 1000000000000) :
 Calls Tryz.prog 73 #[.pointer (some ⟨e,0,none⟩),.int .i64 (off : Int),.int .i64 1] w fun e w' => e = .returned (.int .i64 (pd (pos + off) 1 : Nat)) ∧ w' = w := by
 have c3 : w.cell? ⟨e,3,none⟩ = some (.int .i64 (pos : Int)) := (cell_of_row w e 3 _ 79 (0,0) he).trans rfl
 obtain ⟨x,hx⟩ : ∃ x,pos + off = x := ⟨_,rfl⟩
 rw [hx]
 have hw : IntKind.i64.wrap ((pos : Int) + (off : Int)) = (x : Int) := by rw [IntKind.wrap_i64]; omega
 have xw : x ≤ 2000000000000 := by omega
 clear he hp ho
 by_cases hr : x % 1 = 0
 · have jW : ((x : Int).tmod 1) = 0 := by rw [Int.tmod_eq_emod_of_nonneg (by omega)]; omega
   have I9 : pd x 1 = 0 := by unfold pd; omega
   rw [I9]
   go_enter Tryz.func73,Tryz.ntmps73
   go_wp2
   go_ret
   exact ⟨rfl,rfl⟩
 · omega
theorem acM (w : World) (e : Nat) (c0 c1 c2 : Value) (pos off : Nat) (he : w.heap[e]? = some (.cells #[c0,c1,c2,.int .i64 (pos : Int)] 79 (0,0))) (hp : pos ≤ 1000000000000) (ho : off ≤ 1000000000000) :
 Calls Tryz.prog 73 #[.pointer (some ⟨e,0,none⟩),.int .i64 (off : Int),.int .i64 2] w fun e w' => e = .returned (.int .i64 (pd (pos + off) 2 : Nat)) ∧ w' = w := by
 have c3 : w.cell? ⟨e,3,none⟩ = some (.int .i64 (pos : Int)) := (cell_of_row w e 3 _ 79 (0,0) he).trans rfl
 obtain ⟨x,hx⟩ : ∃ x,pos + off = x := ⟨_,rfl⟩
 rw [hx]
 have hw : IntKind.i64.wrap ((pos : Int) + (off : Int)) = (x : Int) := by rw [IntKind.wrap_i64]; omega
 have xw : x ≤ 2000000000000 := by omega
 clear he hp ho
 by_cases hr : x % 2 = 0
 · have jW : ((x : Int).tmod 2) = 0 := by rw [Int.tmod_eq_emod_of_nonneg (by omega)]; omega
   have I9 : pd x 2 = 0 := by unfold pd; omega
   rw [I9]
   go_enter Tryz.func73,Tryz.ntmps73
   go_wp2
   go_ret
   exact ⟨rfl,rfl⟩
 · have jW : ((x : Int).tmod 2 != 0) = true := by
    rw [Int.tmod_eq_emod_of_nonneg (by omega)]
    simp only [bne_iff_ne,ne_eq]
    omega
   have Oi : wrap64 (Go.bits BinOp.and IntKind.i64 ((x : Int) + 2 - 1) (Go.bits BinOp.xor IntKind.i64 (-1) 1) - (x : Int)) = ((pd x 2 : Nat) : Int) := by
    have e1 : (x : Int) + 2 - 1 = ((x + 1 : Nat) : Int) := by omega
    rw [e1,aaQ (x + 1) (by omega)]
    unfold wrap64 pd
    omega
   go_enter Tryz.func73,Tryz.ntmps73
   go_wp2
   go_ret
   exact ⟨by rw [← Oi]; rfl,rfl⟩
theorem acL (w : World) (e : Nat) (c0 c1 c2 : Value) (pos off : Nat) (he : w.heap[e]? = some (.cells #[c0,c1,c2,.int .i64 (pos : Int)] 79 (0,0))) (hp : pos ≤ 1000000000000) (ho : off ≤ 1000000000000) :
 Calls Tryz.prog 73 #[.pointer (some ⟨e,0,none⟩),.int .i64 (off : Int),.int .i64 4] w fun e w' => e = .returned (.int .i64 (pd (pos + off) 4 : Nat)) ∧ w' = w := by
 have c3 : w.cell? ⟨e,3,none⟩ = some (.int .i64 (pos : Int)) := (cell_of_row w e 3 _ 79 (0,0) he).trans rfl
 obtain ⟨x,hx⟩ : ∃ x,pos + off = x := ⟨_,rfl⟩
 rw [hx]
 have hw : IntKind.i64.wrap ((pos : Int) + (off : Int)) = (x : Int) := by rw [IntKind.wrap_i64]; omega
 have xw : x ≤ 2000000000000 := by omega
 clear he hp ho
 by_cases hr : x % 4 = 0
 · have jW : ((x : Int).tmod 4) = 0 := by rw [Int.tmod_eq_emod_of_nonneg (by omega)]; omega
   have I9 : pd x 4 = 0 := by unfold pd; omega
   rw [I9]
   go_enter Tryz.func73,Tryz.ntmps73
   go_wp2
   go_ret
   exact ⟨rfl,rfl⟩
 · have jW : ((x : Int).tmod 4 != 0) = true := by
    rw [Int.tmod_eq_emod_of_nonneg (by omega)]
    simp only [bne_iff_ne,ne_eq]
    omega
   have Oi : wrap64 (Go.bits BinOp.and IntKind.i64 ((x : Int) + 4 - 1) (Go.bits BinOp.xor IntKind.i64 (-1) 3) - (x : Int)) = ((pd x 4 : Nat) : Int) := by
    have e1 : (x : Int) + 4 - 1 = ((x + 3 : Nat) : Int) := by omega
    rw [e1,aaP (x + 3) (by omega)]
    unfold wrap64 pd
    omega
   go_enter Tryz.func73,Tryz.ntmps73
   go_wp2
   go_ret
   exact ⟨by rw [← Oi]; rfl,rfl⟩
theorem acK (w : World) (e : Nat) (c0 c1 c2 : Value) (pos off : Nat) (he : w.heap[e]? = some (.cells #[c0,c1,c2,.int .i64 (pos : Int)] 79 (0,0))) (hp : pos ≤ 1000000000000) (ho : off ≤ 1000000000000) :
 Calls Tryz.prog 73 #[.pointer (some ⟨e,0,none⟩),.int .i64 (off : Int),.int .i64 8] w fun e w' => e = .returned (.int .i64 (pd (pos + off) 8 : Nat)) ∧ w' = w := by
 have c3 : w.cell? ⟨e,3,none⟩ = some (.int .i64 (pos : Int)) := (cell_of_row w e 3 _ 79 (0,0) he).trans rfl
 obtain ⟨x,hx⟩ : ∃ x,pos + off = x := ⟨_,rfl⟩
 rw [hx]
 have hw : IntKind.i64.wrap ((pos : Int) + (off : Int)) = (x : Int) := by rw [IntKind.wrap_i64]; omega
 have xw : x ≤ 2000000000000 := by omega
 clear he hp ho
 by_cases hr : x % 8 = 0
 · have jW : ((x : Int).tmod 8) = 0 := by rw [Int.tmod_eq_emod_of_nonneg (by omega)]; omega
   have I9 : pd x 8 = 0 := by unfold pd; omega
   rw [I9]
   go_enter Tryz.func73,Tryz.ntmps73
   go_wp2
   go_ret
   exact ⟨rfl,rfl⟩
 · have jW : ((x : Int).tmod 8 != 0) = true := by
    rw [Int.tmod_eq_emod_of_nonneg (by omega)]
    simp only [bne_iff_ne,ne_eq]
    omega
   have Oi : wrap64 (Go.bits BinOp.and IntKind.i64 ((x : Int) + 8 - 1) (Go.bits BinOp.xor IntKind.i64 (-1) 7) - (x : Int)) = ((pd x 8 : Nat) : Int) := by
    have e1 : (x : Int) + 8 - 1 = ((x + 7 : Nat) : Int) := by omega
    rw [e1,aaO (x + 7) (by omega)]
    unfold wrap64 pd
    omega
   go_enter Tryz.func73,Tryz.ntmps73
   go_wp2
   go_ret
   exact ⟨by rw [← Oi]; rfl,rfl⟩
end Go.Proofs.YtkdebhgccpfkiaaGreatDoor.au
