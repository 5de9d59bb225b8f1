import Derived.Test.YtkdebhgccpfkiaaGreatDoorQKS1
set_option maxRecDepth 100000
set_option maxHeartbeats 16000000
namespace Go.Proofs.YtkdebhgccpfkiaaGreatDoor.au
open Go.RowKit Go.Proofs.aa.az Go.Proofs.aa.aM Go.Proofs.aa.aU
attribute [local go_sem] ba bh
set_option linter.unusedVariables false
set_option linter.unusedSimpArgs false
open Go.Proofs.YtkdebhgccpfkiaaGreatDoor.fD Go.Proofs.YtkdebhgccpfkiaaGreatDoor.fO Go.Proofs.YtkdebhgccpfkiaaGreatDoor.gw
theorem adv (v : Value) (w : World) : (Instr.typeAssert (.iface 5 v) 20 5 true).run Tryz.prog w = .ok (.tuple #[v,.bool true]) w := by kernel_rfl
theorem adw (v : Value) (w : World) : (Instr.typeAssert (.iface 4 v) 20 5 true).run Tryz.prog w = .ok (.tuple #[.int .u8 0,.bool false]) w := by kernel_rfl
theorem abH (v : Value) (w : World) : (Instr.typeAssert (.iface 4 v) 20 160 true).run Tryz.prog w = .ok (.tuple #[.int .u8 0,.bool false]) w := by kernel_rfl
theorem abG (v : Value) (w : World) : (Instr.typeAssert (.iface 4 v) 20 161 true).run Tryz.prog w = .ok (.tuple #[.int .u8 0,.bool false]) w := by kernel_rfl
theorem abF (v : Value) (w : World) : (Instr.typeAssert (.iface 4 v) 20 162 true).run Tryz.prog w = .ok (.tuple #[.int .u8 0,.bool false]) w := by kernel_rfl
theorem adx (v : Value) (w : World) : (Instr.typeAssert (.iface 4 v) 20 4 true).run Tryz.prog w = .ok (.tuple #[v,.bool true]) w := by kernel_rfl
theorem abD (v : Value) (w : World) : (Instr.typeAssert (.iface 71 v) 20 5 true).run Tryz.prog w = .ok (.tuple #[.int .u8 0,.bool false]) w := by kernel_rfl
theorem VZ (v : Value) (w : World) : (Instr.typeAssert (.iface 71 v) 20 160 true).run Tryz.prog w = .ok (.tuple #[.int .u8 0,.bool false]) w := by kernel_rfl
theorem VY (v : Value) (w : World) : (Instr.typeAssert (.iface 71 v) 20 161 true).run Tryz.prog w = .ok (.tuple #[.int .u8 0,.bool false]) w := by kernel_rfl
theorem VX (v : Value) (w : World) : (Instr.typeAssert (.iface 71 v) 20 162 true).run Tryz.prog w = .ok (.tuple #[.int .u8 0,.bool false]) w := by kernel_rfl
theorem abE (v : Value) (w : World) : (Instr.typeAssert (.iface 71 v) 20 4 true).run Tryz.prog w = .ok (.tuple #[.bool false,.bool false]) w := by kernel_rfl
theorem V0 (v : Value) (w : World) : (Instr.typeAssert (.iface 71 v) 20 71 true).run Tryz.prog w = .ok (.tuple #[v,.bool true]) w := by kernel_rfl
theorem abB (v : Value) (w : World) : (Instr.typeAssert (.iface 120 v) 20 5 true).run Tryz.prog w = .ok (.tuple #[.int .u8 0,.bool false]) w := by kernel_rfl
theorem VV (v : Value) (w : World) : (Instr.typeAssert (.iface 120 v) 20 160 true).run Tryz.prog w = .ok (.tuple #[.int .u8 0,.bool false]) w := by kernel_rfl
theorem VU (v : Value) (w : World) : (Instr.typeAssert (.iface 120 v) 20 161 true).run Tryz.prog w = .ok (.tuple #[.int .u8 0,.bool false]) w := by kernel_rfl
theorem VT (v : Value) (w : World) : (Instr.typeAssert (.iface 120 v) 20 162 true).run Tryz.prog w = .ok (.tuple #[.int .u8 0,.bool false]) w := by kernel_rfl
theorem abC (v : Value) (w : World) : (Instr.typeAssert (.iface 120 v) 20 4 true).run Tryz.prog w = .ok (.tuple #[.bool false,.bool false]) w := by kernel_rfl
theorem VW (v : Value) (w : World) : (Instr.typeAssert (.iface 120 v) 20 71 true).run Tryz.prog w = .ok (.tuple #[.int .i16 0,.bool false]) w := by kernel_rfl
theorem VS (v : Value) (w : World) : (Instr.typeAssert (.iface 120 v) 20 120 true).run Tryz.prog w = .ok (.tuple #[v,.bool true]) w := by kernel_rfl
theorem abW (v : Value) (w : World) : (Instr.typeAssert (.iface 21 v) 20 5 true).run Tryz.prog w = .ok (.tuple #[.int .u8 0,.bool false]) w := by kernel_rfl
theorem Wn (v : Value) (w : World) : (Instr.typeAssert (.iface 21 v) 20 160 true).run Tryz.prog w = .ok (.tuple #[.int .u8 0,.bool false]) w := by kernel_rfl
theorem Wm (v : Value) (w : World) : (Instr.typeAssert (.iface 21 v) 20 161 true).run Tryz.prog w = .ok (.tuple #[.int .u8 0,.bool false]) w := by kernel_rfl
theorem Wl (v : Value) (w : World) : (Instr.typeAssert (.iface 21 v) 20 162 true).run Tryz.prog w = .ok (.tuple #[.int .u8 0,.bool false]) w := by kernel_rfl
theorem abX (v : Value) (w : World) : (Instr.typeAssert (.iface 21 v) 20 4 true).run Tryz.prog w = .ok (.tuple #[.bool false,.bool false]) w := by kernel_rfl
theorem Wo (v : Value) (w : World) : (Instr.typeAssert (.iface 21 v) 20 71 true).run Tryz.prog w = .ok (.tuple #[.int .i16 0,.bool false]) w := by kernel_rfl
theorem Wk (v : Value) (w : World) : (Instr.typeAssert (.iface 21 v) 20 120 true).run Tryz.prog w = .ok (.tuple #[.int .u16 0,.bool false]) w := by kernel_rfl
theorem Wp (v : Value) (w : World) : (Instr.typeAssert (.iface 21 v) 20 21 true).run Tryz.prog w = .ok (.tuple #[v,.bool true]) w := by kernel_rfl
theorem abz (v : Value) (w : World) : (Instr.typeAssert (.iface 117 v) 20 5 true).run Tryz.prog w = .ok (.tuple #[.int .u8 0,.bool false]) w := by kernel_rfl
theorem VP (v : Value) (w : World) : (Instr.typeAssert (.iface 117 v) 20 160 true).run Tryz.prog w = .ok (.tuple #[.int .u8 0,.bool false]) w := by kernel_rfl
theorem VO (v : Value) (w : World) : (Instr.typeAssert (.iface 117 v) 20 161 true).run Tryz.prog w = .ok (.tuple #[.int .u8 0,.bool false]) w := by kernel_rfl
theorem VN (v : Value) (w : World) : (Instr.typeAssert (.iface 117 v) 20 162 true).run Tryz.prog w = .ok (.tuple #[.int .u8 0,.bool false]) w := by kernel_rfl
theorem abA (v : Value) (w : World) : (Instr.typeAssert (.iface 117 v) 20 4 true).run Tryz.prog w = .ok (.tuple #[.bool false,.bool false]) w := by kernel_rfl
theorem VQ (v : Value) (w : World) : (Instr.typeAssert (.iface 117 v) 20 71 true).run Tryz.prog w = .ok (.tuple #[.int .i16 0,.bool false]) w := by kernel_rfl
theorem VM (v : Value) (w : World) : (Instr.typeAssert (.iface 117 v) 20 120 true).run Tryz.prog w = .ok (.tuple #[.int .u16 0,.bool false]) w := by kernel_rfl
theorem VR (v : Value) (w : World) : (Instr.typeAssert (.iface 117 v) 20 21 true).run Tryz.prog w = .ok (.tuple #[.int .i32 0,.bool false]) w := by kernel_rfl
theorem VL (v : Value) (w : World) : (Instr.typeAssert (.iface 117 v) 20 117 true).run Tryz.prog w = .ok (.tuple #[v,.bool true]) w := by kernel_rfl
theorem ady (v : Value) (w : World) : (Instr.typeAssert (.iface 2 v) 20 5 true).run Tryz.prog w = .ok (.tuple #[.int .u8 0,.bool false]) w := by kernel_rfl
theorem abQ (v : Value) (w : World) : (Instr.typeAssert (.iface 2 v) 20 160 true).run Tryz.prog w = .ok (.tuple #[.int .u8 0,.bool false]) w := by kernel_rfl
theorem abP (v : Value) (w : World) : (Instr.typeAssert (.iface 2 v) 20 161 true).run Tryz.prog w = .ok (.tuple #[.int .u8 0,.bool false]) w := by kernel_rfl
theorem abO (v : Value) (w : World) : (Instr.typeAssert (.iface 2 v) 20 162 true).run Tryz.prog w = .ok (.tuple #[.int .u8 0,.bool false]) w := by kernel_rfl
theorem adA (v : Value) (w : World) : (Instr.typeAssert (.iface 2 v) 20 4 true).run Tryz.prog w = .ok (.tuple #[.bool false,.bool false]) w := by kernel_rfl
theorem abR (v : Value) (w : World) : (Instr.typeAssert (.iface 2 v) 20 71 true).run Tryz.prog w = .ok (.tuple #[.int .i16 0,.bool false]) w := by kernel_rfl
theorem abN (v : Value) (w : World) : (Instr.typeAssert (.iface 2 v) 20 120 true).run Tryz.prog w = .ok (.tuple #[.int .u16 0,.bool false]) w := by kernel_rfl
theorem abS (v : Value) (w : World) : (Instr.typeAssert (.iface 2 v) 20 21 true).run Tryz.prog w = .ok (.tuple #[.int .i32 0,.bool false]) w := by kernel_rfl
theorem abM (v : Value) (w : World) : (Instr.typeAssert (.iface 2 v) 20 117 true).run Tryz.prog w = .ok (.tuple #[.int .u32 0,.bool false]) w := by kernel_rfl
theorem adB (v : Value) (w : World) : (Instr.typeAssert (.iface 2 v) 20 2 true).run Tryz.prog w = .ok (.tuple #[v,.bool true]) w := by kernel_rfl
theorem abT (v : Value) (w : World) : (Instr.typeAssert (.iface 22 v) 20 5 true).run Tryz.prog w = .ok (.tuple #[.int .u8 0,.bool false]) w := by kernel_rfl
theorem Wg (v : Value) (w : World) : (Instr.typeAssert (.iface 22 v) 20 160 true).run Tryz.prog w = .ok (.tuple #[.int .u8 0,.bool false]) w := by kernel_rfl
theorem Wf (v : Value) (w : World) : (Instr.typeAssert (.iface 22 v) 20 161 true).run Tryz.prog w = .ok (.tuple #[.int .u8 0,.bool false]) w := by kernel_rfl
theorem We (v : Value) (w : World) : (Instr.typeAssert (.iface 22 v) 20 162 true).run Tryz.prog w = .ok (.tuple #[.int .u8 0,.bool false]) w := by kernel_rfl
theorem abU (v : Value) (w : World) : (Instr.typeAssert (.iface 22 v) 20 4 true).run Tryz.prog w = .ok (.tuple #[.bool false,.bool false]) w := by kernel_rfl
theorem Wh (v : Value) (w : World) : (Instr.typeAssert (.iface 22 v) 20 71 true).run Tryz.prog w = .ok (.tuple #[.int .i16 0,.bool false]) w := by kernel_rfl
theorem Wd (v : Value) (w : World) : (Instr.typeAssert (.iface 22 v) 20 120 true).run Tryz.prog w = .ok (.tuple #[.int .u16 0,.bool false]) w := by kernel_rfl
theorem Wj (v : Value) (w : World) : (Instr.typeAssert (.iface 22 v) 20 21 true).run Tryz.prog w = .ok (.tuple #[.int .i32 0,.bool false]) w := by kernel_rfl
theorem Wc (v : Value) (w : World) : (Instr.typeAssert (.iface 22 v) 20 117 true).run Tryz.prog w = .ok (.tuple #[.int .u32 0,.bool false]) w := by kernel_rfl
theorem abV (v : Value) (w : World) : (Instr.typeAssert (.iface 22 v) 20 2 true).run Tryz.prog w = .ok (.tuple #[.int .i64 0,.bool false]) w := by kernel_rfl
theorem Wi (v : Value) (w : World) : (Instr.typeAssert (.iface 22 v) 20 22 true).run Tryz.prog w = .ok (.tuple #[v,.bool true]) w := by kernel_rfl
theorem abw (v : Value) (w : World) : (Instr.typeAssert (.iface 121 v) 20 5 true).run Tryz.prog w = .ok (.tuple #[.int .u8 0,.bool false]) w := by kernel_rfl
theorem VH (v : Value) (w : World) : (Instr.typeAssert (.iface 121 v) 20 160 true).run Tryz.prog w = .ok (.tuple #[.int .u8 0,.bool false]) w := by kernel_rfl
theorem VG (v : Value) (w : World) : (Instr.typeAssert (.iface 121 v) 20 161 true).run Tryz.prog w = .ok (.tuple #[.int .u8 0,.bool false]) w := by kernel_rfl
theorem VF (v : Value) (w : World) : (Instr.typeAssert (.iface 121 v) 20 162 true).run Tryz.prog w = .ok (.tuple #[.int .u8 0,.bool false]) w := by kernel_rfl
theorem abx (v : Value) (w : World) : (Instr.typeAssert (.iface 121 v) 20 4 true).run Tryz.prog w = .ok (.tuple #[.bool false,.bool false]) w := by kernel_rfl
theorem VI (v : Value) (w : World) : (Instr.typeAssert (.iface 121 v) 20 71 true).run Tryz.prog w = .ok (.tuple #[.int .i16 0,.bool false]) w := by kernel_rfl
theorem VD (v : Value) (w : World) : (Instr.typeAssert (.iface 121 v) 20 120 true).run Tryz.prog w = .ok (.tuple #[.int .u16 0,.bool false]) w := by kernel_rfl
theorem VK (v : Value) (w : World) : (Instr.typeAssert (.iface 121 v) 20 21 true).run Tryz.prog w = .ok (.tuple #[.int .i32 0,.bool false]) w := by kernel_rfl
theorem VC (v : Value) (w : World) : (Instr.typeAssert (.iface 121 v) 20 117 true).run Tryz.prog w = .ok (.tuple #[.int .u32 0,.bool false]) w := by kernel_rfl
theorem aby (v : Value) (w : World) : (Instr.typeAssert (.iface 121 v) 20 2 true).run Tryz.prog w = .ok (.tuple #[.int .i64 0,.bool false]) w := by kernel_rfl
theorem VJ (v : Value) (w : World) : (Instr.typeAssert (.iface 121 v) 20 22 true).run Tryz.prog w = .ok (.tuple #[.int .u64 0,.bool false]) w := by kernel_rfl
theorem VB (v : Value) (w : World) : (Instr.typeAssert (.iface 121 v) 20 121 true).run Tryz.prog w = .ok (.tuple #[v,.bool true]) w := by kernel_rfl
theorem ads (v : Value) (w : World) : (Instr.typeAssert (.iface 9 v) 20 5 true).run Tryz.prog w = .ok (.tuple #[.int .u8 0,.bool false]) w := by kernel_rfl
theorem abj (v : Value) (w : World) : (Instr.typeAssert (.iface 9 v) 20 160 true).run Tryz.prog w = .ok (.tuple #[.int .u8 0,.bool false]) w := by kernel_rfl
theorem abi (v : Value) (w : World) : (Instr.typeAssert (.iface 9 v) 20 161 true).run Tryz.prog w = .ok (.tuple #[.int .u8 0,.bool false]) w := by kernel_rfl
theorem abh (v : Value) (w : World) : (Instr.typeAssert (.iface 9 v) 20 162 true).run Tryz.prog w = .ok (.tuple #[.int .u8 0,.bool false]) w := by kernel_rfl
theorem adt (v : Value) (w : World) : (Instr.typeAssert (.iface 9 v) 20 4 true).run Tryz.prog w = .ok (.tuple #[.bool false,.bool false]) w := by kernel_rfl
theorem abk (v : Value) (w : World) : (Instr.typeAssert (.iface 9 v) 20 71 true).run Tryz.prog w = .ok (.tuple #[.int .i16 0,.bool false]) w := by kernel_rfl
theorem abg (v : Value) (w : World) : (Instr.typeAssert (.iface 9 v) 20 120 true).run Tryz.prog w = .ok (.tuple #[.int .u16 0,.bool false]) w := by kernel_rfl
theorem abm (v : Value) (w : World) : (Instr.typeAssert (.iface 9 v) 20 21 true).run Tryz.prog w = .ok (.tuple #[.int .i32 0,.bool false]) w := by kernel_rfl
theorem abf (v : Value) (w : World) : (Instr.typeAssert (.iface 9 v) 20 117 true).run Tryz.prog w = .ok (.tuple #[.int .u32 0,.bool false]) w := by kernel_rfl
theorem adu (v : Value) (w : World) : (Instr.typeAssert (.iface 9 v) 20 2 true).run Tryz.prog w = .ok (.tuple #[.int .i64 0,.bool false]) w := by kernel_rfl
theorem abl (v : Value) (w : World) : (Instr.typeAssert (.iface 9 v) 20 22 true).run Tryz.prog w = .ok (.tuple #[.int .u64 0,.bool false]) w := by kernel_rfl
theorem abe (v : Value) (w : World) : (Instr.typeAssert (.iface 9 v) 20 121 true).run Tryz.prog w = .ok (.tuple #[.float .f64 0,.bool false]) w := by kernel_rfl
theorem adr (v : Value) (w : World) : (Instr.typeAssert (.iface 9 v) 20 9 true).run Tryz.prog w = .ok (.tuple #[v,.bool true]) w := by kernel_rfl
theorem abt (v : Value) (w : World) : (Instr.typeAssert (.iface 123 v) 20 5 true).run Tryz.prog w = .ok (.tuple #[.int .u8 0,.bool false]) w := by kernel_rfl
theorem Vx (v : Value) (w : World) : (Instr.typeAssert (.iface 123 v) 20 160 true).run Tryz.prog w = .ok (.tuple #[.int .u8 0,.bool false]) w := by kernel_rfl
theorem Vw (v : Value) (w : World) : (Instr.typeAssert (.iface 123 v) 20 161 true).run Tryz.prog w = .ok (.tuple #[.int .u8 0,.bool false]) w := by kernel_rfl
theorem Vv (v : Value) (w : World) : (Instr.typeAssert (.iface 123 v) 20 162 true).run Tryz.prog w = .ok (.tuple #[.int .u8 0,.bool false]) w := by kernel_rfl
theorem abu (v : Value) (w : World) : (Instr.typeAssert (.iface 123 v) 20 4 true).run Tryz.prog w = .ok (.tuple #[.bool false,.bool false]) w := by kernel_rfl
theorem Vy (v : Value) (w : World) : (Instr.typeAssert (.iface 123 v) 20 71 true).run Tryz.prog w = .ok (.tuple #[.int .i16 0,.bool false]) w := by kernel_rfl
theorem Vu (v : Value) (w : World) : (Instr.typeAssert (.iface 123 v) 20 120 true).run Tryz.prog w = .ok (.tuple #[.int .u16 0,.bool false]) w := by kernel_rfl
theorem VA (v : Value) (w : World) : (Instr.typeAssert (.iface 123 v) 20 21 true).run Tryz.prog w = .ok (.tuple #[.int .i32 0,.bool false]) w := by kernel_rfl
theorem Vt (v : Value) (w : World) : (Instr.typeAssert (.iface 123 v) 20 117 true).run Tryz.prog w = .ok (.tuple #[.int .u32 0,.bool false]) w := by kernel_rfl
theorem abv (v : Value) (w : World) : (Instr.typeAssert (.iface 123 v) 20 2 true).run Tryz.prog w = .ok (.tuple #[.int .i64 0,.bool false]) w := by kernel_rfl
theorem Vz (v : Value) (w : World) : (Instr.typeAssert (.iface 123 v) 20 22 true).run Tryz.prog w = .ok (.tuple #[.int .u64 0,.bool false]) w := by kernel_rfl
theorem Vs (v : Value) (w : World) : (Instr.typeAssert (.iface 123 v) 20 121 true).run Tryz.prog w = .ok (.tuple #[.float .f64 0,.bool false]) w := by kernel_rfl
theorem abr (v : Value) (w : World) : (Instr.typeAssert (.iface 123 v) 20 9 true).run Tryz.prog w = .ok (.tuple #[.string ByteArray.empty,.bool false]) w := by kernel_rfl
theorem Vr (v : Value) (w : World) : (Instr.typeAssert (.iface 123 v) 20 123 true).run Tryz.prog w = .ok (.tuple #[v,.bool true]) w := by kernel_rfl
theorem abJ (v : Value) (w : World) : (Instr.typeAssert (.iface 131 v) 20 5 true).run Tryz.prog w = .ok (.tuple #[.int .u8 0,.bool false]) w := by kernel_rfl
theorem V8 (v : Value) (w : World) : (Instr.typeAssert (.iface 131 v) 20 160 true).run Tryz.prog w = .ok (.tuple #[.int .u8 0,.bool false]) w := by kernel_rfl
theorem V7 (v : Value) (w : World) : (Instr.typeAssert (.iface 131 v) 20 161 true).run Tryz.prog w = .ok (.tuple #[.int .u8 0,.bool false]) w := by kernel_rfl
theorem V5 (v : Value) (w : World) : (Instr.typeAssert (.iface 131 v) 20 162 true).run Tryz.prog w = .ok (.tuple #[.int .u8 0,.bool false]) w := by kernel_rfl
theorem abK (v : Value) (w : World) : (Instr.typeAssert (.iface 131 v) 20 4 true).run Tryz.prog w = .ok (.tuple #[.bool false,.bool false]) w := by kernel_rfl
theorem V9 (v : Value) (w : World) : (Instr.typeAssert (.iface 131 v) 20 71 true).run Tryz.prog w = .ok (.tuple #[.int .i16 0,.bool false]) w := by kernel_rfl
theorem V4 (v : Value) (w : World) : (Instr.typeAssert (.iface 131 v) 20 120 true).run Tryz.prog w = .ok (.tuple #[.int .u16 0,.bool false]) w := by kernel_rfl
theorem Wb (v : Value) (w : World) : (Instr.typeAssert (.iface 131 v) 20 21 true).run Tryz.prog w = .ok (.tuple #[.int .i32 0,.bool false]) w := by kernel_rfl
theorem V3 (v : Value) (w : World) : (Instr.typeAssert (.iface 131 v) 20 117 true).run Tryz.prog w = .ok (.tuple #[.int .u32 0,.bool false]) w := by kernel_rfl
theorem abL (v : Value) (w : World) : (Instr.typeAssert (.iface 131 v) 20 2 true).run Tryz.prog w = .ok (.tuple #[.int .i64 0,.bool false]) w := by kernel_rfl
theorem Wa (v : Value) (w : World) : (Instr.typeAssert (.iface 131 v) 20 22 true).run Tryz.prog w = .ok (.tuple #[.int .u64 0,.bool false]) w := by kernel_rfl
theorem V2 (v : Value) (w : World) : (Instr.typeAssert (.iface 131 v) 20 121 true).run Tryz.prog w = .ok (.tuple #[.float .f64 0,.bool false]) w := by kernel_rfl
theorem abI (v : Value) (w : World) : (Instr.typeAssert (.iface 131 v) 20 9 true).run Tryz.prog w = .ok (.tuple #[.string ByteArray.empty,.bool false]) w := by kernel_rfl
theorem V1 (v : Value) (w : World) : (Instr.typeAssert (.iface 131 v) 20 123 true).run Tryz.prog w = .ok (.tuple #[.string ByteArray.empty,.bool false]) w := by kernel_rfl
theorem V' (v : Value) (w : World) : (Instr.typeAssert (.iface 131 v) 20 131 true).run Tryz.prog w = .ok (.tuple #[v,.bool true]) w := by kernel_rfl
theorem WD (v : Value) (w : World) : (Instr.typeAssert (.iface 148 v) 20 5 true).run Tryz.prog w = .ok (.tuple #[.int .u8 0,.bool false]) w := by kernel_rfl
theorem Sq (v : Value) (w : World) : (Instr.typeAssert (.iface 148 v) 20 160 true).run Tryz.prog w = .ok (.tuple #[.int .u8 0,.bool false]) w := by kernel_rfl
theorem Sp (v : Value) (w : World) : (Instr.typeAssert (.iface 148 v) 20 161 true).run Tryz.prog w = .ok (.tuple #[.int .u8 0,.bool false]) w := by kernel_rfl
theorem So (v : Value) (w : World) : (Instr.typeAssert (.iface 148 v) 20 162 true).run Tryz.prog w = .ok (.tuple #[.int .u8 0,.bool false]) w := by kernel_rfl
theorem WE (v : Value) (w : World) : (Instr.typeAssert (.iface 148 v) 20 4 true).run Tryz.prog w = .ok (.tuple #[.bool false,.bool false]) w := by kernel_rfl
theorem Sr (v : Value) (w : World) : (Instr.typeAssert (.iface 148 v) 20 71 true).run Tryz.prog w = .ok (.tuple #[.int .i16 0,.bool false]) w := by kernel_rfl
theorem Sn (v : Value) (w : World) : (Instr.typeAssert (.iface 148 v) 20 120 true).run Tryz.prog w = .ok (.tuple #[.int .u16 0,.bool false]) w := by kernel_rfl
theorem Sv (v : Value) (w : World) : (Instr.typeAssert (.iface 148 v) 20 21 true).run Tryz.prog w = .ok (.tuple #[.int .i32 0,.bool false]) w := by kernel_rfl
theorem Sm (v : Value) (w : World) : (Instr.typeAssert (.iface 148 v) 20 117 true).run Tryz.prog w = .ok (.tuple #[.int .u32 0,.bool false]) w := by kernel_rfl
theorem WG (v : Value) (w : World) : (Instr.typeAssert (.iface 148 v) 20 2 true).run Tryz.prog w = .ok (.tuple #[.int .i64 0,.bool false]) w := by kernel_rfl
theorem Su (v : Value) (w : World) : (Instr.typeAssert (.iface 148 v) 20 22 true).run Tryz.prog w = .ok (.tuple #[.int .u64 0,.bool false]) w := by kernel_rfl
theorem Sl (v : Value) (w : World) : (Instr.typeAssert (.iface 148 v) 20 121 true).run Tryz.prog w = .ok (.tuple #[.float .f64 0,.bool false]) w := by kernel_rfl
theorem WC (v : Value) (w : World) : (Instr.typeAssert (.iface 148 v) 20 9 true).run Tryz.prog w = .ok (.tuple #[.string ByteArray.empty,.bool false]) w := by kernel_rfl
theorem Sk (v : Value) (w : World) : (Instr.typeAssert (.iface 148 v) 20 123 true).run Tryz.prog w = .ok (.tuple #[.string ByteArray.empty,.bool false]) w := by kernel_rfl
theorem Ss (v : Value) (w : World) : (Instr.typeAssert (.iface 148 v) 20 131 true).run Tryz.prog w = .ok (.tuple #[.agg #[.string ByteArray.empty],.bool false]) w := by kernel_rfl
theorem Sj (v : Value) (w : World) : (Instr.typeAssert (.iface 148 v) 20 133 true).run Tryz.prog w = .ok (.tuple #[.agg #[.string ByteArray.empty,.nilIface],.bool false]) w := by kernel_rfl
theorem Si (v : Value) (w : World) : (Instr.typeAssert (.iface 148 v) 20 167 true).run Tryz.prog w = .ok (.tuple #[.int .i32 0,.bool false]) w := by kernel_rfl
theorem Po (v : Value) (w : World) : (Instr.typeAssert (.iface 148 v) 20 148 true).run Tryz.prog w = .ok (.tuple #[v,.bool true]) w := by kernel_rfl
theorem abo (v : Value) (w : World) : (Instr.typeAssert (.iface 133 v) 20 5 true).run Tryz.prog w = .ok (.tuple #[.int .u8 0,.bool false]) w := by kernel_rfl
theorem Vm (v : Value) (w : World) : (Instr.typeAssert (.iface 133 v) 20 160 true).run Tryz.prog w = .ok (.tuple #[.int .u8 0,.bool false]) w := by kernel_rfl
theorem Vl (v : Value) (w : World) : (Instr.typeAssert (.iface 133 v) 20 161 true).run Tryz.prog w = .ok (.tuple #[.int .u8 0,.bool false]) w := by kernel_rfl
theorem Vk (v : Value) (w : World) : (Instr.typeAssert (.iface 133 v) 20 162 true).run Tryz.prog w = .ok (.tuple #[.int .u8 0,.bool false]) w := by kernel_rfl
theorem abp (v : Value) (w : World) : (Instr.typeAssert (.iface 133 v) 20 4 true).run Tryz.prog w = .ok (.tuple #[.bool false,.bool false]) w := by kernel_rfl
theorem Vn (v : Value) (w : World) : (Instr.typeAssert (.iface 133 v) 20 71 true).run Tryz.prog w = .ok (.tuple #[.int .i16 0,.bool false]) w := by kernel_rfl
theorem Vj (v : Value) (w : World) : (Instr.typeAssert (.iface 133 v) 20 120 true).run Tryz.prog w = .ok (.tuple #[.int .u16 0,.bool false]) w := by kernel_rfl
theorem Vq (v : Value) (w : World) : (Instr.typeAssert (.iface 133 v) 20 21 true).run Tryz.prog w = .ok (.tuple #[.int .i32 0,.bool false]) w := by kernel_rfl
theorem Vi (v : Value) (w : World) : (Instr.typeAssert (.iface 133 v) 20 117 true).run Tryz.prog w = .ok (.tuple #[.int .u32 0,.bool false]) w := by kernel_rfl
theorem abq (v : Value) (w : World) : (Instr.typeAssert (.iface 133 v) 20 2 true).run Tryz.prog w = .ok (.tuple #[.int .i64 0,.bool false]) w := by kernel_rfl
theorem Vp (v : Value) (w : World) : (Instr.typeAssert (.iface 133 v) 20 22 true).run Tryz.prog w = .ok (.tuple #[.int .u64 0,.bool false]) w := by kernel_rfl
theorem Vh (v : Value) (w : World) : (Instr.typeAssert (.iface 133 v) 20 121 true).run Tryz.prog w = .ok (.tuple #[.float .f64 0,.bool false]) w := by kernel_rfl
theorem abn (v : Value) (w : World) : (Instr.typeAssert (.iface 133 v) 20 9 true).run Tryz.prog w = .ok (.tuple #[.string ByteArray.empty,.bool false]) w := by kernel_rfl
theorem Vg (v : Value) (w : World) : (Instr.typeAssert (.iface 133 v) 20 123 true).run Tryz.prog w = .ok (.tuple #[.string ByteArray.empty,.bool false]) w := by kernel_rfl
theorem Vo (v : Value) (w : World) : (Instr.typeAssert (.iface 133 v) 20 131 true).run Tryz.prog w = .ok (.tuple #[.agg #[.string ByteArray.empty],.bool false]) w := by kernel_rfl
theorem Vf (v : Value) (w : World) : (Instr.typeAssert (.iface 133 v) 20 133 true).run Tryz.prog w = .ok (.tuple #[v,.bool true]) w := by kernel_rfl
theorem Wz (v : Value) (w : World) : (Instr.typeAssert (.iface 153 v) 20 5 true).run Tryz.prog w = .ok (.tuple #[.int .u8 0,.bool false]) w := by kernel_rfl
theorem R9 (v : Value) (w : World) : (Instr.typeAssert (.iface 153 v) 20 160 true).run Tryz.prog w = .ok (.tuple #[.int .u8 0,.bool false]) w := by kernel_rfl
theorem R8 (v : Value) (w : World) : (Instr.typeAssert (.iface 153 v) 20 161 true).run Tryz.prog w = .ok (.tuple #[.int .u8 0,.bool false]) w := by kernel_rfl
theorem R7 (v : Value) (w : World) : (Instr.typeAssert (.iface 153 v) 20 162 true).run Tryz.prog w = .ok (.tuple #[.int .u8 0,.bool false]) w := by kernel_rfl
theorem WA (v : Value) (w : World) : (Instr.typeAssert (.iface 153 v) 20 4 true).run Tryz.prog w = .ok (.tuple #[.bool false,.bool false]) w := by kernel_rfl
theorem Sa (v : Value) (w : World) : (Instr.typeAssert (.iface 153 v) 20 71 true).run Tryz.prog w = .ok (.tuple #[.int .i16 0,.bool false]) w := by kernel_rfl
theorem R6 (v : Value) (w : World) : (Instr.typeAssert (.iface 153 v) 20 120 true).run Tryz.prog w = .ok (.tuple #[.int .u16 0,.bool false]) w := by kernel_rfl
theorem Sg (v : Value) (w : World) : (Instr.typeAssert (.iface 153 v) 20 21 true).run Tryz.prog w = .ok (.tuple #[.int .i32 0,.bool false]) w := by kernel_rfl
theorem R5 (v : Value) (w : World) : (Instr.typeAssert (.iface 153 v) 20 117 true).run Tryz.prog w = .ok (.tuple #[.int .u32 0,.bool false]) w := by kernel_rfl
theorem WB (v : Value) (w : World) : (Instr.typeAssert (.iface 153 v) 20 2 true).run Tryz.prog w = .ok (.tuple #[.int .i64 0,.bool false]) w := by kernel_rfl
theorem Se (v : Value) (w : World) : (Instr.typeAssert (.iface 153 v) 20 22 true).run Tryz.prog w = .ok (.tuple #[.int .u64 0,.bool false]) w := by kernel_rfl
theorem R4 (v : Value) (w : World) : (Instr.typeAssert (.iface 153 v) 20 121 true).run Tryz.prog w = .ok (.tuple #[.float .f64 0,.bool false]) w := by kernel_rfl
theorem Wy (v : Value) (w : World) : (Instr.typeAssert (.iface 153 v) 20 9 true).run Tryz.prog w = .ok (.tuple #[.string ByteArray.empty,.bool false]) w := by kernel_rfl
theorem R0 (v : Value) (w : World) : (Instr.typeAssert (.iface 153 v) 20 123 true).run Tryz.prog w = .ok (.tuple #[.string ByteArray.empty,.bool false]) w := by kernel_rfl
theorem Sd (v : Value) (w : World) : (Instr.typeAssert (.iface 153 v) 20 131 true).run Tryz.prog w = .ok (.tuple #[.agg #[.string ByteArray.empty],.bool false]) w := by kernel_rfl
theorem RZ (v : Value) (w : World) : (Instr.typeAssert (.iface 153 v) 20 133 true).run Tryz.prog w = .ok (.tuple #[.agg #[.string ByteArray.empty,.nilIface],.bool false]) w := by kernel_rfl
theorem RY (v : Value) (w : World) : (Instr.typeAssert (.iface 153 v) 20 167 true).run Tryz.prog w = .ok (.tuple #[.int .i32 0,.bool false]) w := by kernel_rfl
theorem Pn (v : Value) (w : World) : (Instr.typeAssert (.iface 153 v) 20 148 true).run Tryz.prog w = .ok (.tuple #[.int .u32 0,.bool false]) w := by kernel_rfl
theorem Sc (v : Value) (w : World) : (Instr.typeAssert (.iface 153 v) 20 61 true).run Tryz.prog w = .ok (.tuple #[.slice none 0 0,.bool false]) w := by kernel_rfl
theorem Sb (v : Value) (w : World) : (Instr.typeAssert (.iface 153 v) 20 36 true).run Tryz.prog w = .ok (.tuple #[.slice none 0 0,.bool false]) w := by kernel_rfl
theorem Pm (v : Value) (w : World) : (Instr.typeAssert (.iface 153 v) 20 153 true).run Tryz.prog w = .ok (.tuple #[v,.bool true]) w := by kernel_rfl
theorem Wv (v : Value) (w : World) : (Instr.typeAssert (.iface 170 v) 20 5 true).run Tryz.prog w = .ok (.tuple #[.int .u8 0,.bool false]) w := by kernel_rfl
theorem RR (v : Value) (w : World) : (Instr.typeAssert (.iface 170 v) 20 160 true).run Tryz.prog w = .ok (.tuple #[.int .u8 0,.bool false]) w := by kernel_rfl
theorem RP (v : Value) (w : World) : (Instr.typeAssert (.iface 170 v) 20 161 true).run Tryz.prog w = .ok (.tuple #[.int .u8 0,.bool false]) w := by kernel_rfl
theorem RO (v : Value) (w : World) : (Instr.typeAssert (.iface 170 v) 20 162 true).run Tryz.prog w = .ok (.tuple #[.int .u8 0,.bool false]) w := by kernel_rfl
theorem Ww (v : Value) (w : World) : (Instr.typeAssert (.iface 170 v) 20 4 true).run Tryz.prog w = .ok (.tuple #[.bool false,.bool false]) w := by kernel_rfl
theorem RS (v : Value) (w : World) : (Instr.typeAssert (.iface 170 v) 20 71 true).run Tryz.prog w = .ok (.tuple #[.int .i16 0,.bool false]) w := by kernel_rfl
theorem RN (v : Value) (w : World) : (Instr.typeAssert (.iface 170 v) 20 120 true).run Tryz.prog w = .ok (.tuple #[.int .u16 0,.bool false]) w := by kernel_rfl
theorem RX (v : Value) (w : World) : (Instr.typeAssert (.iface 170 v) 20 21 true).run Tryz.prog w = .ok (.tuple #[.int .i32 0,.bool false]) w := by kernel_rfl
theorem RM (v : Value) (w : World) : (Instr.typeAssert (.iface 170 v) 20 117 true).run Tryz.prog w = .ok (.tuple #[.int .u32 0,.bool false]) w := by kernel_rfl
theorem Wx (v : Value) (w : World) : (Instr.typeAssert (.iface 170 v) 20 2 true).run Tryz.prog w = .ok (.tuple #[.int .i64 0,.bool false]) w := by kernel_rfl
theorem RW (v : Value) (w : World) : (Instr.typeAssert (.iface 170 v) 20 22 true).run Tryz.prog w = .ok (.tuple #[.int .u64 0,.bool false]) w := by kernel_rfl
theorem RL (v : Value) (w : World) : (Instr.typeAssert (.iface 170 v) 20 121 true).run Tryz.prog w = .ok (.tuple #[.float .f64 0,.bool false]) w := by kernel_rfl
theorem Wu (v : Value) (w : World) : (Instr.typeAssert (.iface 170 v) 20 9 true).run Tryz.prog w = .ok (.tuple #[.string ByteArray.empty,.bool false]) w := by kernel_rfl
theorem RJ (v : Value) (w : World) : (Instr.typeAssert (.iface 170 v) 20 123 true).run Tryz.prog w = .ok (.tuple #[.string ByteArray.empty,.bool false]) w := by kernel_rfl
theorem RV (v : Value) (w : World) : (Instr.typeAssert (.iface 170 v) 20 131 true).run Tryz.prog w = .ok (.tuple #[.agg #[.string ByteArray.empty],.bool false]) w := by kernel_rfl
theorem RI (v : Value) (w : World) : (Instr.typeAssert (.iface 170 v) 20 133 true).run Tryz.prog w = .ok (.tuple #[.agg #[.string ByteArray.empty,.nilIface],.bool false]) w := by kernel_rfl
theorem RH (v : Value) (w : World) : (Instr.typeAssert (.iface 170 v) 20 167 true).run Tryz.prog w = .ok (.tuple #[.int .i32 0,.bool false]) w := by kernel_rfl
theorem Pl (v : Value) (w : World) : (Instr.typeAssert (.iface 170 v) 20 148 true).run Tryz.prog w = .ok (.tuple #[.int .u32 0,.bool false]) w := by kernel_rfl
theorem RU (v : Value) (w : World) : (Instr.typeAssert (.iface 170 v) 20 61 true).run Tryz.prog w = .ok (.tuple #[.slice none 0 0,.bool false]) w := by kernel_rfl
theorem RT (v : Value) (w : World) : (Instr.typeAssert (.iface 170 v) 20 36 true).run Tryz.prog w = .ok (.tuple #[.slice none 0 0,.bool false]) w := by kernel_rfl
theorem Pk (v : Value) (w : World) : (Instr.typeAssert (.iface 170 v) 20 153 true).run Tryz.prog w = .ok (.tuple #[.pointer none,.bool false]) w := by kernel_rfl
theorem Pj (v : Value) (w : World) : (Instr.typeAssert (.iface 170 v) 20 170 true).run Tryz.prog w = .ok (.tuple #[v,.bool true]) w := by kernel_rfl
theorem Wr (v : Value) (w : World) : (Instr.typeAssert (.iface 150 v) 20 5 true).run Tryz.prog w = .ok (.tuple #[.int .u8 0,.bool false]) w := by kernel_rfl
theorem Rz (v : Value) (w : World) : (Instr.typeAssert (.iface 150 v) 20 160 true).run Tryz.prog w = .ok (.tuple #[.int .u8 0,.bool false]) w := by kernel_rfl
theorem Ry (v : Value) (w : World) : (Instr.typeAssert (.iface 150 v) 20 161 true).run Tryz.prog w = .ok (.tuple #[.int .u8 0,.bool false]) w := by kernel_rfl
theorem Rx (v : Value) (w : World) : (Instr.typeAssert (.iface 150 v) 20 162 true).run Tryz.prog w = .ok (.tuple #[.int .u8 0,.bool false]) w := by kernel_rfl
theorem Ws (v : Value) (w : World) : (Instr.typeAssert (.iface 150 v) 20 4 true).run Tryz.prog w = .ok (.tuple #[.bool false,.bool false]) w := by kernel_rfl
theorem RA (v : Value) (w : World) : (Instr.typeAssert (.iface 150 v) 20 71 true).run Tryz.prog w = .ok (.tuple #[.int .i16 0,.bool false]) w := by kernel_rfl
theorem Rw (v : Value) (w : World) : (Instr.typeAssert (.iface 150 v) 20 120 true).run Tryz.prog w = .ok (.tuple #[.int .u16 0,.bool false]) w := by kernel_rfl
theorem RF (v : Value) (w : World) : (Instr.typeAssert (.iface 150 v) 20 21 true).run Tryz.prog w = .ok (.tuple #[.int .i32 0,.bool false]) w := by kernel_rfl
theorem Rv (v : Value) (w : World) : (Instr.typeAssert (.iface 150 v) 20 117 true).run Tryz.prog w = .ok (.tuple #[.int .u32 0,.bool false]) w := by kernel_rfl
theorem Wt (v : Value) (w : World) : (Instr.typeAssert (.iface 150 v) 20 2 true).run Tryz.prog w = .ok (.tuple #[.int .i64 0,.bool false]) w := by kernel_rfl
theorem RE (v : Value) (w : World) : (Instr.typeAssert (.iface 150 v) 20 22 true).run Tryz.prog w = .ok (.tuple #[.int .u64 0,.bool false]) w := by kernel_rfl
theorem Ru (v : Value) (w : World) : (Instr.typeAssert (.iface 150 v) 20 121 true).run Tryz.prog w = .ok (.tuple #[.float .f64 0,.bool false]) w := by kernel_rfl
theorem Wq (v : Value) (w : World) : (Instr.typeAssert (.iface 150 v) 20 9 true).run Tryz.prog w = .ok (.tuple #[.string ByteArray.empty,.bool false]) w := by kernel_rfl
theorem Rt (v : Value) (w : World) : (Instr.typeAssert (.iface 150 v) 20 123 true).run Tryz.prog w = .ok (.tuple #[.string ByteArray.empty,.bool false]) w := by kernel_rfl
theorem RD (v : Value) (w : World) : (Instr.typeAssert (.iface 150 v) 20 131 true).run Tryz.prog w = .ok (.tuple #[.agg #[.string ByteArray.empty],.bool false]) w := by kernel_rfl
theorem Rs (v : Value) (w : World) : (Instr.typeAssert (.iface 150 v) 20 133 true).run Tryz.prog w = .ok (.tuple #[.agg #[.string ByteArray.empty,.nilIface],.bool false]) w := by kernel_rfl
theorem Rr (v : Value) (w : World) : (Instr.typeAssert (.iface 150 v) 20 167 true).run Tryz.prog w = .ok (.tuple #[.int .i32 0,.bool false]) w := by kernel_rfl
theorem Ph (v : Value) (w : World) : (Instr.typeAssert (.iface 150 v) 20 148 true).run Tryz.prog w = .ok (.tuple #[.int .u32 0,.bool false]) w := by kernel_rfl
theorem RC (v : Value) (w : World) : (Instr.typeAssert (.iface 150 v) 20 61 true).run Tryz.prog w = .ok (.tuple #[.slice none 0 0,.bool false]) w := by kernel_rfl
theorem RB (v : Value) (w : World) : (Instr.typeAssert (.iface 150 v) 20 36 true).run Tryz.prog w = .ok (.tuple #[.slice none 0 0,.bool false]) w := by kernel_rfl
theorem Pg (v : Value) (w : World) : (Instr.typeAssert (.iface 150 v) 20 153 true).run Tryz.prog w = .ok (.tuple #[.pointer none,.bool false]) w := by kernel_rfl
theorem Pf (v : Value) (w : World) : (Instr.typeAssert (.iface 150 v) 20 170 true).run Tryz.prog w = .ok (.tuple #[.pointer none,.bool false]) w := by kernel_rfl
theorem Pe (v : Value) (w : World) : (Instr.typeAssert (.iface 150 v) 20 150 true).run Tryz.prog w = .ok (.tuple #[v,.bool true]) w := by kernel_rfl
attribute [local go_sem] adv adw abH abG abF adx abD VZ VY VX abE V0 abB VV VU VT abC VW VS abW Wn Wm Wl abX Wo Wk Wp abz VP VO VN abA VQ VM VR VL ady abQ abP abO adA abR abN abS abM adB abT Wg Wf We abU Wh Wd Wj Wc abV Wi abw VH VG VF abx VI VD VK VC aby VJ VB ads abj abi abh adt abk abg abm abf adu abl abe adr abt Vx Vw Vv abu Vy Vu VA Vt abv Vz Vs abr Vr abJ V8 V7 V5 abK V9 V4 Wb V3 abL Wa V2 abI V1 V' WD Sq Sp So WE Sr Sn Sv Sm WG Su Sl WC Sk Ss Sj Si Po abo Vm Vl Vk abp Vn Vj Vq Vi abq Vp Vh abn Vg Vo Vf Wz R9 R8 R7 WA Sa R6 Sg R5 WB Se R4 Wy R0 Sd RZ RY Pn Sc Sb Pm Wv RR RP RO Ww RS RN RX RM Wx RW RL Wu RJ RV RI RH Pl RU RT Pk Pj Wr Rz Ry Rx Ws RA Rw RF Rv Wt RE Ru Wq Rt RD Rs Rr Ph RC RB Pg Pf Pe
def fi (w : World) (v : Value) (t : List UInt8) : Prop := ∀ W,Below w.heap.size w W → Calls Tryz.prog 87 #[v] W fun e w' => e = .returned (.string (Bs t)) ∧ Below W.heap.size W w'
theorem fi.up {w w' : World} {v : Value} {t : List UInt8} (h : fi w v t) (hb : Below w.heap.size w w') : fi w' v t := fun W hW => h W (aw hb hW)
theorem WS (x : Int) (w : World) : fi w (.iface 5 (.int .u8 x)) [121] := by
 intro W _
 have hr : (Bs [121]) = ⟨#[121]⟩ := rfl
 rw [hr]
 go_enter Tryz.func87,Tryz.ntmps87
 go_wp2
 go_ret
 exact ⟨rfl,by first | exact Below.refl _ _ | exact ab (Below.refl _ _) _⟩
theorem acq (x : Bool) (w : World) : fi w (.iface 4 (.bool x)) [98] := by
 intro W _
 have hr : (Bs [98]) = ⟨#[98]⟩ := rfl
 rw [hr]
 go_enter Tryz.func87,Tryz.ntmps87
 go_wp2
 go_ret
 exact ⟨rfl,by first | exact Below.refl _ _ | exact ab (Below.refl _ _) _⟩
theorem W8 (x : Int) (w : World) : fi w (.iface 71 (.int .i16 x)) [110] := by
 intro W _
 have hr : (Bs [110]) = ⟨#[110]⟩ := rfl
 rw [hr]
 go_enter Tryz.func87,Tryz.ntmps87
 go_wp2
 go_ret
 exact ⟨rfl,by first | exact Below.refl _ _ | exact ab (Below.refl _ _) _⟩
theorem WY (x : Int) (w : World) : fi w (.iface 120 (.int .u16 x)) [113] := by
 intro W _
 have hr : (Bs [113]) = ⟨#[113]⟩ := rfl
 rw [hr]
 go_enter Tryz.func87,Tryz.ntmps87
 go_wp2
 go_ret
 exact ⟨rfl,by first | exact Below.refl _ _ | exact ab (Below.refl _ _) _⟩
theorem Xa (x : Int) (w : World) : fi w (.iface 21 (.int .i32 x)) [105] := by
 intro W _
 have hr : (Bs [105]) = ⟨#[105]⟩ := rfl
 rw [hr]
 go_enter Tryz.func87,Tryz.ntmps87
 go_wp2
 go_ret
 exact ⟨rfl,by first | exact Below.refl _ _ | exact ab (Below.refl _ _) _⟩
theorem WW (x : Int) (w : World) : fi w (.iface 117 (.int .u32 x)) [117] := by
 intro W _
 have hr : (Bs [117]) = ⟨#[117]⟩ := rfl
 rw [hr]
 go_enter Tryz.func87,Tryz.ntmps87
 go_wp2
 go_ret
 exact ⟨rfl,by first | exact Below.refl _ _ | exact ab (Below.refl _ _) _⟩
theorem WU (x : Int) (w : World) : fi w (.iface 2 (.int .i64 x)) [120] := by
 intro W _
 have hr : (Bs [120]) = ⟨#[120]⟩ := rfl
 rw [hr]
 go_enter Tryz.func87,Tryz.ntmps87
 go_wp2
 go_ret
 exact ⟨rfl,by first | exact Below.refl _ _ | exact ab (Below.refl _ _) _⟩
theorem WX (x : Int) (w : World) : fi w (.iface 22 (.int .u64 x)) [116] := by
 intro W _
 have hr : (Bs [116]) = ⟨#[116]⟩ := rfl
 rw [hr]
 go_enter Tryz.func87,Tryz.ntmps87
 go_wp2
 go_ret
 exact ⟨rfl,by first | exact Below.refl _ _ | exact ab (Below.refl _ _) _⟩
theorem Xc (x : Nat) (w : World) : fi w (.iface 121 (.float .f64 x)) [100] := by
 intro W _
 have hr : (Bs [100]) = ⟨#[100]⟩ := rfl
 rw [hr]
 go_enter Tryz.func87,Tryz.ntmps87
 go_wp2
 go_ret
 exact ⟨rfl,by first | exact Below.refl _ _ | exact ab (Below.refl _ _) _⟩
theorem MG (x : ByteArray) (w : World) : fi w (.iface 9 (.string x)) [115] := by
 intro W _
 have hr : (Bs [115]) = ⟨#[115]⟩ := rfl
 rw [hr]
 go_enter Tryz.func87,Tryz.ntmps87
 go_wp2
 go_ret
 exact ⟨rfl,by first | exact Below.refl _ _ | exact ab (Below.refl _ _) _⟩
theorem WZ (x : ByteArray) (w : World) : fi w (.iface 123 (.string x)) [111] := by
 intro W _
 have hr : (Bs [111]) = ⟨#[111]⟩ := rfl
 rw [hr]
 go_enter Tryz.func87,Tryz.ntmps87
 go_wp2
 go_ret
 exact ⟨rfl,by first | exact Below.refl _ _ | exact ab (Below.refl _ _) _⟩
theorem MH (x : ByteArray) (w : World) : fi w (.iface 131 (.agg #[.string x])) [103] := by
 intro W _
 have hr : (Bs [103]) = ⟨#[103]⟩ := rfl
 rw [hr]
 go_enter Tryz.func87,Tryz.ntmps87
 go_wp2
 go_ret
 exact ⟨rfl,by first | exact Below.refl _ _ | exact ab (Below.refl _ _) _⟩
theorem Xb (x : Int) (w : World) : fi w (.iface 148 (.int .u32 x)) [104] := by
 intro W _
 have hr : (Bs [104]) = ⟨#[104]⟩ := rfl
 rw [hr]
 go_enter Tryz.func87,Tryz.ntmps87
 go_wp2
 go_ret
 exact ⟨rfl,by first | exact Below.refl _ _ | exact ab (Below.refl _ _) _⟩
theorem WV (x : ByteArray) (d : TypeId) (u : Value) (w : World) : fi w (.iface 133 (.agg #[.string x,.iface d u])) [118] := by
 intro W _
 have hr : (Bs [118]) = ⟨#[118]⟩ := rfl
 rw [hr]
 go_enter Tryz.func87,Tryz.ntmps87
 go_wp2
 go_ret
 exact ⟨rfl,by first | exact Below.refl _ _ | exact ab (Below.refl _ _) _⟩
theorem UA (w : World) (L : Nat) (E : List UInt8) (v : Value) (hE : E.length ≤ 100000) (h : w.heap[L]? = some (.cells #[.string (Bs E),v] 155 (0,0))) : fi w (.iface 153 (.pointer (some ⟨L,0,none⟩))) (91 :: E) := by
 intro W hW
 have h2 := aQ hW h
 have c0 : W.cell? ⟨L,0,none⟩ = some (.string (Bs E)) := (cell_of_row W L 0 _ 155 (0,0) h2).trans rfl
 have hs : ef.f (Bs E) = some (Bs (91 :: E)) := by
  unfold ef.f
  rw [if_pos (by rw [aZ]; omega)]
  exact congrArg some (fc [91] E)
 clear h h2 hW
 go_enter Tryz.func87,Tryz.ntmps87
 go_wp2_with fail
 refine (ef.calls _ _ _ hs).mono ?_
 rintro e1 w2 ⟨rfl,k1,rfl⟩
 go_wp2
 go_ret
 exact ⟨rfl,ai (Below.refl _ _) _⟩
theorem UB (w : World) (L : Nat) (c : UInt8) (E : List UInt8) (v2 v3 : Value) (hE : E.length ≤ 100000) (h : w.heap[L]? = some (.cells #[.string (Bs [c]),.string (Bs E),v2,v3] 172 (0,0))) : fi w (.iface 170 (.pointer (some ⟨L,0,none⟩))) (123 :: c :: E) := by
 intro W hW
 have h2 := aQ hW h
 have c0 : W.cell? ⟨L,0,none⟩ = some (.string (Bs [c])) := (cell_of_row W L 0 _ 172 (0,0) h2).trans rfl
 have c1 : W.cell? ⟨L,1,none⟩ = some (.string (Bs E)) := (cell_of_row W L 1 _ 172 (0,0) h2).trans rfl
 have hs : eY.f (Bs [c]) (Bs E) = some (Bs (123 :: c :: E)) := by
  unfold eY.f
  rw [if_pos (by rw [aZ]; simp only [List.length_singleton]; omega)]
  have e1 : (⟨#[123]⟩ : ByteArray) ++ Bs [c] = Bs [123,c] := fc [123] [c]
  rw [e1,if_pos (by rw [aZ,aZ]; simp only [List.length_cons,List.length_nil]; omega),fc]
  rfl
 have HS := U.mk hs
 clear h h2 hW hs
 go_enter Tryz.func87,Tryz.ntmps87
 go_wp2_with fail
 go_region_with (go_at_call 54; refine (eY.calls _ _ _ _ HS.out).mono ?_; rintro e1 w2 ⟨rfl,k1,rfl⟩)
 all_goals
  go_wp2
  go_ret
  exact ⟨rfl,by repeat (first | exact Below.refl _ _ | apply ai | apply ak)⟩
theorem WR (w : World) (A : Option Addr) (n c : Nat) (vs : List Value) (ts : List (List UInt8)) (hn : vs.length = n) (ht : ts.length = n) (gD : n ≤ 1000) (hl : ts.flatten.length ≤ 100000) (hA : ∀ j v,vs[j]? = some v → ∃ ad,A = some ad ∧ w.cell? (ad.add j) = some v) (hT : ∀ (j : Nat) v t,vs[j]? = some v → ts[j]? = some t → fi w v t) : fi w (.iface 150 (.agg #[.slice A n c])) (40 :: (ts.flatten ++ [41])) := by
 intro W hW
 have HA := U.mk hA
 have HT := U.mk hT
 have HW := U.mk hW
 clear hA hT hW
 go_enter Tryz.func87,Tryz.ntmps87
 go_wp2_with fail
 go_loopg [24,116] n (fun kq v24 aen wr => ∃ (i : Nat),v24 = .string (Bs (40 :: (ts.take i).flatten)) ∧ aen = .int .i64 (i : Int) ∧ i ≤ n ∧ U (kq = n - i ∧ Below W.heap.size W wr))
 case atStart => exact ⟨0,by first | rfl | simp,rfl,by omega,⟨rfl,ab (Below.refl _ _) _⟩⟩
 case round=>
  obtain ⟨i,rfl,rfl,hi,HI⟩ := hrel
  have fP := U.mk HI.out.1
  by_cases hlt : i < n
  · have hd : decide ((i : Int) < (n : Int)) = true := by simpa using hlt
    have iI : IntKind.i64.wrap ((i : Int) + 1) = ((i + 1 : Nat) : Int) := by rw [IntKind.wrap_i64]; omega
    obtain ⟨v,hv⟩ : ∃ v,vs[i]? = some v := ⟨vs[i],List.getElem?_eq_getElem (by omega)⟩
    obtain ⟨t,Ze⟩ : ∃ t,ts[i]? = some t := ⟨ts[i],List.getElem?_eq_getElem (by omega)⟩
    obtain ⟨ad,rfl,hc⟩ := HA.out i v hv
    replace hc := ag (aw HW.out HI.out.2) hc
    have HTi := U.mk (HT.out i v t hv Ze)
    have vA : (ts.take (i + 1)).flatten = (ts.take i).flatten ++ t := by rw [List.take_add_one,Ze]; simp
    have yQ : Bs (40 :: (ts.take i).flatten) ++ Bs t = Bs (40 :: (ts.take (i + 1)).flatten) := by rw [fc,vA]; rfl
    have hle : (ts.take (i + 1)).flatten.length ≤ 100000 := by
     have h1 : (ts.take (i + 1)).flatten.length ≤ ts.flatten.length := by
      conv => rhs; rw [← List.take_append_drop (i + 1) ts]
      rw [List.flatten_append,List.length_append]; omega
     omega
    have cN : (9223372036854775807 < (Bs (40 :: (ts.take i).flatten)).size + (Bs t).size) = False := eq_false (by
     rw [vA,List.length_append] at hle
     rw [aZ,aZ,List.length_cons]; omega)
    clear hv Ze vA hle
    go_wp2_with fail
    refine (HTi.out _ (aw HW.out HI.out.2)).mono ?_
    rintro e1 w2 ⟨rfl,hb⟩
    have cO := U.mk (aw HI.out.2 hb)
    clear hb
    go_wp2_with fail
    go_roundg (n - (i + 1))
    case measure => have := fP.out; omega
    case rel => exact ⟨i + 1,by first | rfl | simp,by first | rfl | simp,by omega,⟨rfl,cO.out⟩⟩
  · have hd : decide ((i : Int) < (n : Int)) = false := by simpa using hlt
    have vz : ts.take i = ts := List.take_of_length_le (by omega)
    rw [vz]
    have yQ : Bs (40 :: ts.flatten) ++ (⟨#[41]⟩ : ByteArray) = Bs (40 :: (ts.flatten ++ [41])) := fc (40 :: ts.flatten) [41]
    have cN : (9223372036854775807 < (Bs (40 :: ts.flatten)).size + 1) = False := eq_false (by rw [aZ,List.length_cons]; omega)
    clear vz
    go_wp2_with fail
    go_ret
    exact ⟨rfl,HI.out.2⟩
theorem OS (c : UInt8) (hc : cj c = true) (a s d : Int) (ha : a ≤ 32) (hs : s ≤ 32) (hd : d ≤ 32) : GS [c] [c] a s d := by
 intro g w h
 simp only [cj,dy,Bool.or_eq_true,beq_iff_eq] at hc
 rcases hc with (((((((((((((hc | hc) | hc) | hc) | hc) | hc) | hc) | hc) | hc) | hc) | hc) | hc) | hc) | hc) <;> subst hc
 · exact Z5 g a s d w h ha hs hd
 · exact ac1 g a s d w h ha hs hd
 · exact aac g a s d w h ha hs hd
 · exact aaa g a s d w h ha hs hd
 · exact aad g a s d w h ha hs hd
 · exact Z8 g a s d w h ha hs hd
 · exact Z6 g a s d w h ha hs hd
 · exact Z9 g a s d w h ha hs hd
 · exact aag g a s d w h ha hs hd
 · exact Z' g a s d w h ha hs hd
 · exact aab g a s d w h ha hs hd
 · exact aaf g a s d w h ha hs hd
 · exact aae g a s d w h ha hs hd
 · exact Z7 g a s d w h ha hs hd
theorem FC {c : UInt8} (h : fJ c = true) : cj c = true := by
 simp only [fJ,Bool.and_eq_true] at h
 simp [cj,h.1.1]
theorem Kr (zs : List (List UInt8 × List UInt8)) (z : List UInt8 × List UInt8) (h : z ∈ zs) : z.1.length ≤ (zs.map Prod.fst).flatten.length := by
 induction zs with
 | nil => cases h
 | cons y ys ih=>
   rw [List.map_cons,List.flatten_cons,List.length_append]
   rcases List.mem_cons.1 h with rfl | h
   · omega
   · have := ih h; omega
theorem KG {A B E : Int} (zs : List (List UInt8 × List UInt8)) (h : ∀ z ∈ zs,Z A B E z.1 z.2) : zs.length ≤ (zs.map Prod.fst).flatten.length ∧ (zs.map Prod.snd).flatten.length ≤ (zs.map Prod.fst).flatten.length := by
 induction zs with
 | nil => simp
 | cons y ys ih=>
   have h1 := (h y List.mem_cons_self).len
   have h2 := ih fun z hz => h z (List.mem_cons_of_mem _ hz)
   simp only [List.map_cons,List.flatten_cons,List.length_append,List.length_cons]
   omega
theorem ae5 {A B E : Int} {l t : List UInt8} (z : Z A B E l t) : ∀ a s d : Int,A = 32 - a → B = 32 - s → E = 32 - d → 0 ≤ a → 0 ≤ s → 0 ≤ d → l.length ≤ 255 → GS l t a s d := by
 refine Z.ind (P := fun A B E l t => ∀ a s d : Int,A = 32 - a → B = 32 - s → E = 32 - d → 0 ≤ a → 0 ≤ s → 0 ≤ d → l.length ≤ 255 → GS l t a s d) ?_ ?_ ?_ ?_ z
 · intro A B E c h1 h2 h3 hc a s d e1 e2 e3 ha hs hd _
   exact OS c hc a s d (by omega) (by omega) (by omega)
 · intro A B E x y h1 h2 h3 hz ih a s d e1 e2 e3 ha hs hd hl
   rw [List.length_cons] at hl
   exact Z4 x y a s d ha hs hd (by omega) (by omega) (by omega) (by omega) (ih (a + 1) s d (by omega) (by omega) (by omega) (by omega) hs hd (by omega))
 · intro A B E c x y h1 h2 h3 hc hz ih a s d e1 e2 e3 ha hs hd hl
   simp only [List.length_cons,List.length_append,List.length_nil] at hl
   have hp := hz.pos
   exact U2 c hc x y a s d ha hs hd (by omega) (by omega) (by omega) (by omega) (OS c (FC hc) _ _ _ (by omega) (by omega) (by omega)) (ih (a + 1) s (d + 1) (by omega) (by omega) (by omega) (by omega) hs (by omega) (by omega))
 · intro A B E zs h1 h2 h3 hn hz ih a s d e1 e2 e3 ha hs hd hl
   simp only [List.length_cons,List.length_append,List.length_nil] at hl
   have KR := KG zs hz
   have h0 : 0 < zs.length := List.length_pos_iff.2 hn
   obtain ⟨K,hK⟩ := Kf zs hz (by omega)
   refine Z3 zs (by omega) _ ⟨K,hK K (Nat.le_refl _)⟩ a s d ha hs hd (by omega) (by omega) (by omega) (by omega) (by omega) fun z xv => ?_
   have := Kr zs z xv
   exact ih z xv a (s + 1) d (by omega) (by omega) (by omega) ha (by omega) hd (by omega)
theorem acT : (Tryz.prog.info? 131).map (·.size) = some 1 := by kernel_rfl
theorem Td : (Tryz.prog.info? 133).map (·.size) = some 2 := by kernel_rfl
theorem NW : (Tryz.prog.info? 86).map (·.size) = some 2 := by kernel_rfl
def Vals (w : World) (A : Option Addr) (vs : List Value) : Prop := ∀ j v,vs[j]? = some v → ∃ ad,A = some ad ∧ w.cell? (ad.add j) = some v
theorem P9 (w : World) (A : Option Addr) (n cp : Nat) (vs : List Value) (zs : List (List UInt8 × List UInt8)) (hn : vs.length = n) (hzn : zs.length = n) (gD : n ≤ 100000) (hl : (zs.map Prod.fst).flatten.length ≤ 100000) (hA : Vals w A vs) (hT : ∀ (j : Nat) v z,vs[j]? = some v → zs[j]? = some z → fi w v z.2) (hz : ∀ z ∈ zs,Z 32 32 32 z.1 z.2 ∧ z.1.length ≤ 255) :
 Calls Tryz.prog 106 #[.slice A n cp] w fun e w' => e = .returned (.agg #[.string (Bs (zs.map Prod.fst).flatten)]) ∧ Below w.heap.size w w' := by
 have HA := U.mk hA
 have HT := U.mk hT
 have HZ := U.mk hz
 have k0 := heap_alloc_new w (.cells #[.string ⟨#[]⟩] 131)
 have hB := ab (Below.refl w.heap.size w) (.cells #[.string ⟨#[]⟩] 131)
 clear hA hT hz
 go_enter Tryz.func106,Tryz.ntmps106
 go_wp2_with fail
 generalize w.alloc (.cells #[.string ⟨#[]⟩] 131) = W at *
 have HB := U.mk hB
 have K0 := U.mk k0
 clear hB k0
 go_loopg [3,8] n (fun kq v3 v8 wr => ∃ (i : Nat),v3 = .string (Bs (List.take i (zs.map Prod.fst)).flatten) ∧ v8 = .int .i64 (i : Int) ∧ i ≤ n ∧ U (kq = n - i ∧ Below W.heap.size W wr))
 case atStart => exact ⟨0,by first | rfl | simp,rfl,by omega,⟨rfl,Below.refl _ _⟩⟩
 case round=>
  obtain ⟨i,rfl,rfl,hi,HI⟩ := hrel
  have fP := U.mk HI.out.1
  by_cases hlt : i < n
  · have hd : decide ((i : Int) < (n : Int)) = true := by simpa using hlt
    have iI : IntKind.i64.wrap ((i : Int) + 1) = ((i + 1 : Nat) : Int) := by rw [IntKind.wrap_i64]; omega
    obtain ⟨v,hv⟩ : ∃ v,vs[i]? = some v := ⟨vs[i],List.getElem?_eq_getElem (by omega)⟩
    obtain ⟨z,Oc⟩ : ∃ z,zs[i]? = some z := ⟨zs[i],List.getElem?_eq_getElem (by omega)⟩
    obtain ⟨ad,rfl,hc⟩ := HA.out i v hv
    have eK := aw HB.out HI.out.2
    replace hc := ag eK hc
    have HTi := U.mk (HT.out i v z hv Oc)
    have HZi := U.mk (HZ.out z (List.mem_of_getElem? Oc))
    have yQ : Bs (List.take i (zs.map Prod.fst)).flatten ++ Bs z.1 = Bs (List.take (i + 1) (zs.map Prod.fst)).flatten := by rw [fc,xI zs i z Oc]
    have cN : (9223372036854775807 < (Bs (List.take i (zs.map Prod.fst)).flatten).size + (Bs z.1).size) = False := eq_false (by
     have h1 := Lj zs (i + 1)
     rw [xI zs i z Oc,List.length_append] at h1
     rw [aZ,aZ]; omega)
    have jo := U.mk eK
    clear hv Oc eK
    go_wp2_with fail
    refine (HTi.out _ jo.out).mono ?_
    rintro e1 w2 ⟨rfl,hb⟩
    have Up := U.mk (aw HI.out.2 hb)
    clear hb
    go_wp2_with fail
    refine (ae5 HZi.out.1 0 0 0 (by omega) (by omega) (by omega) (by omega) (by omega) (by omega) HZi.out.2 _ _ (by refine ⟨?_,?_,?_⟩ <;> simp)).mono ?_
    rintro e1 w3 ⟨rfl,hb⟩
    have HI3 := U.mk (aw (ab Up.out _) hb)
    clear hb
    go_wp2_with fail
    go_roundg (n - (i + 1))
    case measure => have := fP.out; omega
    case rel => exact ⟨i + 1,by first | rfl | simp,by first | rfl | simp,by omega,⟨rfl,HI3.out⟩⟩
  · have hd : decide ((i : Int) < (n : Int)) = false := by simpa using hlt
    have vz : List.take i (zs.map Prod.fst) = zs.map Prod.fst := List.take_of_length_le (by rw [List.length_map]; omega)
    rw [vz]
    have k4 := aQ HI.out.2 K0.out
    have c4 : wr.cell? ⟨w.heap.size,0,none⟩ = some (.string ⟨#[]⟩) := (cell_of_row wr w.heap.size 0 _ 131 (0,0) k4).trans rfl
    have z4 := frozen_of_row wr w.heap.size 0 _ 131 k4
    have gy := U.mk (aw HB.out HI.out.2)
    have K4 := U.mk k4
    clear vz k4
    go_wp2_with fail
    refine bodyPost_ret (results_cell_row rfl _ _ w.heap.size 131 _ (0,0) _ rfl (heap_setCell_same _ _ 0 _ _ _ K4.out) Tryz.underlying131 rfl acT) rfl ?_
    exact ⟨rfl,gy.out.setCell (Nat.le_refl _) _⟩
theorem Nx (d : TypeId) (u : Value) (l : ByteArray) (w : World) : Calls Tryz.prog 105 #[.iface d u,.agg #[.string l]] w fun e w' => e = .returned (.agg #[.string l,.iface d u]) ∧ Below w.heap.size w w' := by
 have k1 := heap_alloc_new (w.alloc (.cells #[.string l] 131)) (.cells #[.string l,.iface d u] 133)
 rw [World.size_alloc] at k1
 go_enter Tryz.func105,Tryz.ntmps105
 go_wp2
 refine bodyPost_ret (results_cell_row rfl _ _ (w.heap.size + 1) 133 _ (0,0) _ rfl k1 Tryz.underlying133 rfl Td) rfl ?_
 exact ⟨rfl,ab (ab (Below.refl _ _) _) _⟩
theorem Qv (d : TypeId) (u : Value) (l t : List UInt8) (hz : Z 32 32 32 l t) (hl : l.length ≤ 255) (w : World) (hT : fi w (.iface d u) t) : Calls Tryz.prog 86 #[.iface d u] w fun e w' => e = .returned (.agg #[.string (Bs l),.iface d u]) ∧ Below w.heap.size w w' := by
 have k0 := heap_alloc_new w (.cells #[.string ⟨#[]⟩,.nilIface] 133)
 have hB := ab (Below.refl w.heap.size w) (.cells #[.string ⟨#[]⟩,.nilIface] 133)
 have EA := hT.up hB
 clear hT
 go_enter Tryz.func86,Tryz.ntmps86
 go_wp2_with fail
 have hWs : (w.alloc (.cells #[.string ⟨#[]⟩,.nilIface] 133)).heap.size = w.heap.size + 1 := by simp
 generalize w.alloc (.cells #[.string ⟨#[]⟩,.nilIface] 133) = W at *
 have k1 := heap_alloc_new W (.cells #[.iface d u] 20)
 rw [hWs] at k1
 have hb1 := ab (Below.refl W.heap.size W) (.cells #[.iface d u] 20)
 have hT3 := EA.up hb1
 have k01 := aQ hb1 k0
 have Li := aw hB hb1
 generalize W.alloc (.cells #[.iface d u] 20) = W1 at *
 have Ez := (cell_of_row W1 (w.heap.size + 1) 0 _ 20 (0,0) k1).trans rfl
 have Zg := P9 W1 (some ⟨w.heap.size + 1,0,none⟩) 1 1 [.iface d u] [(l,t)] rfl rfl (by omega) (by simp; omega) (fun j v hv => by
  cases j with
  | zero=>
    have : v = .iface d u := by simpa using hv.symm
    subst this
    exact ⟨_,rfl,Ez⟩
  | succ j => simp at hv) (fun j v z hv Y7 => by
  cases j with
  | zero=>
    have h1 : v = .iface d u := by simpa using hv.symm
    have h2 : z = (l,t) := by simpa using Y7.symm
    subst h1 h2
    exact hT3
  | succ j => simp at hv) (fun z xv => by
  have h2 : z = (l,t) := by simpa using xv
  subst h2
  exact ⟨hz,hl⟩)
 have hbs : Bs ((([(l,t)] : List (List UInt8 × List UInt8)).map Prod.fst).flatten) = Bs l := by simp
 rw [hbs] at Zg
 refine Zg.mono ?_
 rintro e1 w2 ⟨rfl,hb2⟩
 have k02 := aQ hb2 k01
 have cO := U.mk (aw Li hb2)
 have K02 := U.mk k02
 clear hb2 k02 k01 k0 k1 hB Li EA hT3 Zg hb1
 go_wp2_with fail
 refine (Nx d u (Bs l) _).mono ?_
 rintro e1 w3 ⟨rfl,fY⟩
 have k3 := aQ fY K02.out
 have c0 : w3.cell? ⟨w.heap.size,0,none⟩ = some (.string ⟨#[]⟩) := (cell_of_row w3 w.heap.size 0 _ 133 (0,0) k3).trans rfl
 have c1 : w3.cell? ⟨w.heap.size,1,none⟩ = some .nilIface := (cell_of_row w3 w.heap.size 1 _ 133 (0,0) k3).trans rfl
 have z0 := frozen_of_row w3 w.heap.size 0 _ 133 k3
 have z1 := frozen_of_row w3 w.heap.size 1 _ 133 k3
 have h1 := heap_setCell_same _ _ 1 _ _ (.iface d u) (heap_setCell_same _ _ 0 _ _ (.string (Bs l)) k3)
 have H1 := U.mk h1
 have bU := U.mk (aw cO.out fY)
 clear fY k3 h1
 go_wp2_with fail
 refine bodyPost_ret (results_cell_row rfl _ _ w.heap.size 133 _ (0,0) _ rfl H1.out Tryz.underlying133 rfl Td) rfl ?_
 exact ⟨rfl,(bU.out.setCell (Nat.le_refl _) _).setCell (Nat.le_refl _) _⟩
theorem jE (d : TypeId) (u : Value) (t : List UInt8) (w : World) (hT : fi w (.iface d u) t) : Calls Tryz.prog 48 #[.iface d u] w fun e w' => e = .returned (.agg #[.iface d u,.string (Bs t)]) ∧ Below w.heap.size w w' := by
 have k0 := heap_alloc_new w (.cells #[.nilIface,.string ⟨#[]⟩] 86)
 have hB := ab (Below.refl w.heap.size w) (.cells #[.nilIface,.string ⟨#[]⟩] 86)
 have HT := U.mk hT
 clear hT
 go_enter Tryz.func48,Tryz.ntmps48
 go_wp2_with fail
 generalize w.alloc (.cells #[.nilIface,.string ⟨#[]⟩] 86) = W at *
 refine (HT.out _ hB).mono ?_
 rintro e1 w3 ⟨rfl,fY⟩
 have k3 := aQ fY k0
 have c0 : w3.cell? ⟨w.heap.size,0,none⟩ = some .nilIface := (cell_of_row w3 w.heap.size 0 _ 86 (0,0) k3).trans rfl
 have c1 : w3.cell? ⟨w.heap.size,1,none⟩ = some (.string ⟨#[]⟩) := (cell_of_row w3 w.heap.size 1 _ 86 (0,0) k3).trans rfl
 have z0 := frozen_of_row w3 w.heap.size 0 _ 86 k3
 have z1 := frozen_of_row w3 w.heap.size 1 _ 86 k3
 have h1 := heap_setCell_same _ _ 1 _ _ (.string (Bs t)) (heap_setCell_same _ _ 0 _ _ (.iface d u) k3)
 have H1 := U.mk h1
 have bU := U.mk (aw hB fY)
 clear fY k3 h1 hB k0
 go_wp2_with fail
 refine bodyPost_ret (results_cell_row rfl _ _ w.heap.size 86 _ (0,0) _ rfl H1.out Tryz.underlying86 rfl NW) rfl ?_
 exact ⟨rfl,(bU.out.setCell (Nat.le_refl _) _).setCell (Nat.le_refl _) _⟩
theorem IZ (d : TypeId) (u : Value) (t : ByteArray) (w : World) : Calls Tryz.prog 79 #[.agg #[.iface d u,.string t]] w fun e w' => e = .returned (.iface d u) ∧ Below w.heap.size w w' := by
 go_enter Tryz.func79,Tryz.ntmps79
 go_wp2
 go_ret
 exact ⟨rfl,ab (Below.refl _ _) _⟩
theorem Qw (c : UInt8) (y : List UInt8) (w : World) : Calls Tryz.prog 89 #[.string (Bs (123 :: c :: y))] w fun e w' => ∃ L,e = .returned (.agg #[.iface 170 (.pointer (some ⟨L,0,none⟩)),.string (Bs (123 :: c :: y))]) ∧ w.heap.size ≤ L ∧ w'.heap[L]? = some (.cells #[.string (Bs [c]),.string (Bs y),.slice none 0 0,.slice none 0 0] 172 (0,0)) ∧ Below w.heap.size w w' := by
 have k0 := heap_alloc_new w (.cells #[.nilIface,.string ⟨#[]⟩] 86)
 have hB := ab (Below.refl w.heap.size w) (.cells #[.nilIface,.string ⟨#[]⟩] 86)
 go_enter Tryz.func89,Tryz.ntmps89
 go_wp2_with fail
 generalize w.alloc (.cells #[.nilIface,.string ⟨#[]⟩] 86) = W at *
 refine (aq.calls 9 _ 14 _ (ij 123 (c :: y) 14 (by kernel_rfl))).mono ?_
 rintro e1 w3 ⟨rfl,k1,rfl⟩
 replace k0 : (W.drewN k1).heap[w.heap.size]? = some (.cells #[.nilIface,.string ⟨#[]⟩] 86 (0,0)) := k0
 replace hB := ai hB k1
 generalize W.drewN k1 = W1 at *
 go_wp2_with fail
 refine (du.calls _ _ _ (Dz c y)).mono ?_
 rintro e1 w3 ⟨rfl,k2,rfl⟩
 replace k0 : (W1.drewN k2).heap[w.heap.size]? = some (.cells #[.nilIface,.string ⟨#[]⟩] 86 (0,0)) := k0
 replace hB := ai hB k2
 generalize W1.drewN k2 = W2 at *
 go_wp2_with fail
 refine (b8.calls 9 _ (Bs y) _ (GJ c y)).mono ?_
 rintro e1 w3 ⟨rfl,k3,rfl⟩
 replace k0 : (W2.drewN k3).heap[w.heap.size]? = some (.cells #[.nilIface,.string ⟨#[]⟩] 86 (0,0)) := k0
 replace hB := ai hB k3
 generalize W2.drewN k3 = W3 at *
 have hlt := (Array.getElem?_eq_some_iff.1 k0).1
 have c0 : W3.cell? ⟨w.heap.size,0,none⟩ = some .nilIface := (cell_of_row W3 w.heap.size 0 _ 86 (0,0) k0).trans rfl
 have c1 : W3.cell? ⟨w.heap.size,1,none⟩ = some (.string ⟨#[]⟩) := (cell_of_row W3 w.heap.size 1 _ 86 (0,0) k0).trans rfl
 have z0 := frozen_of_row W3 w.heap.size 0 _ 86 k0
 have z1 := frozen_of_row W3 w.heap.size 1 _ 86 k0
 have h1 := heap_setCell_same _ _ 1 _ _ (.string (Bs (123 :: c :: y))) (heap_setCell_same W3 w.heap.size 0 _ _ (.iface 170 (.pointer (some ⟨W3.heap.size,0,none⟩))) k0)
 have hbS := (hB.setCell (p := ⟨w.heap.size,0,none⟩) (Nat.le_refl _) (.iface 170 (.pointer (some ⟨W3.heap.size,0,none⟩)))).setCell (p := ⟨w.heap.size,1,none⟩) (Nat.le_refl _) (.string (Bs (123 :: c :: y)))
 have hL := heap_alloc_new ((W3.setCell ⟨w.heap.size,0,none⟩ (.iface 170 (.pointer (some ⟨W3.heap.size,0,none⟩)))).setCell ⟨w.heap.size,1,none⟩ (.string (Bs (123 :: c :: y)))) (.cells #[.string (Bs [c]),.string (Bs y),.slice none 0 0,.slice none 0 0] 172)
 simp only [World.size_setCell] at hL
 have HH := U.mk (And.intro (aQ (ab (Below.refl _ _) (.cells #[.string (Bs [c]),.string (Bs y),.slice none 0 0,.slice none 0 0] 172)) h1) (And.intro hL (ab hbS (.cells #[.string (Bs [c]),.string (Bs y),.slice none 0 0,.slice none 0 0] 172))))
 clear h1 hL hbS hB k0
 go_wp2_with fail
 refine bodyPost_ret (results_cell_row rfl _ _ w.heap.size 86 _ (0,0) _ rfl HH.out.1 Tryz.underlying86 rfl NW) rfl ?_
 exact ⟨W3.heap.size,rfl,by omega,HH.out.2.1,HH.out.2.2⟩
theorem IY : (Tryz.prog.info? 20).map (fun i => (i.zero,i.size,i.bytes)) = some (some .nilIface,1,16) := by kernel_rfl
theorem F3 (v : Value) (w : World) : (Instr.typeAssert (.iface 170 v) 20 170 false).run Tryz.prog w = .ok v w := by kernel_rfl
attribute [local go_sem] F3
theorem lL {ops : Array Oper} {o : Oper} {a : Act} {Q : Exit → Act → World → Prop} {K : Act → World → Prop} {E : Prop} {W : World} (base : Nat) (hw : Region.wanted o (yielded ops a.tmps) = true) (s x : Operand)
 (ho : o.op = .call { callee := .builtin .append,args := #[s,x],argTypes := #[61,61] }) (v : Value) (n : Nat) (xs : List Value) (u : Value) (ad : Addr) (hs : a.eval s = v) (hx : a.eval x = .slice (some ad) 1 1) (hc : W.cell? ad = some u) (h1 : u.oneCell' = true)
 (HO : W.ownsRow base 20 1 v n xs) (j6 : base ≤ W.heap.size) (hl : n ≤ 1000000)
 (h : ∀ v1 w1,w1.ownsRow base 20 1 v1 (n + 1) (xs ++ [u]) → W.grownBy w1 v.ownBlock → (v1.ownBlock = v.ownBlock ∨ ∃ b,v1.ownBlock = some b ∧ W.heap.size ≤ b) → K (a.put o.dst v1) w1) :
 if Region.wanted o (yielded ops a.tmps) = true then Oper.wp Tryz.prog o a W K Q else E := by
 obtain ⟨i0,hi,gr⟩ := Option.map_eq_some_iff.1 IY
 simp only [Prod.mk.injEq] at gr
 obtain ⟨il,vu,zE⟩ := gr
 rw [if_pos hw]
 have hadd : ad.add 0 = ad := by unfold Addr.add; split <;> simp_all
 obtain ⟨v1,w1,hr,hown,hg,_,cM⟩ := run_append_own_at (P := Tryz.prog) W base 61 o.type 20 i0 .nilIface 1 16 Tryz.underlying61 hi il vu zE rfl (by omega) v n xs HO ad 1 1 [u] rfl
  (by intro j q hq; cases j with
    | zero => obtain rfl : u = q := by simpa using hq
              rw [hadd]; exact hc
    | succ j => simp at hq) (by intro q hq; rw [List.mem_singleton.1 hq]; exact h1) (by simp only [maxLen]; omega) (by omega) j6
 unfold Oper.wp execOp
 simp only [ho,resolve,invoke,builtin,Sem.run_bind,Sem.run_pure,Result.andThen_ok,List.map_toArray,List.map_cons,List.map_nil,hs,hx,hr]
 refine h v1 w1 hown hg ?_
 rcases cM with cM | cM
 · exact .inl cM
 · exact .inr ⟨_,cM,Nat.le_refl _⟩
structure DI (w : World) (L : Nat) (E1 E2 : ByteArray) (ks vs : Value) (n : Nat) (kl vl : List Value) : Prop where
 row : w.heap[L]? = some (.cells #[.string E1,.string E2,ks,vs] 172 (0,0))
 k : w.ownsRow (L + 1) 20 1 ks n kl
 v : w.ownsRow (L + 1) 20 1 vs n vl
 ap : ∀ q,ks.ownBlock = some q → vs.ownBlock ≠ some q
theorem hJ {w : World} {base n cp : Nat} {A : Option Addr} {xs : List Value} (h : w.ownsRow base 20 1 (.slice A n cp) n xs) (j : Nat) (v : Value) (hv : xs[j]? = some v) : ∃ g,A = some ⟨g,0,none⟩ ∧ base ≤ g ∧ w.cell? ⟨g,j,none⟩ = some v := by
 have hl : xs.length = n := by simpa using h.1
 have hj := (List.getElem?_eq_some_iff.1 hv).1
 rcases h.2 with ⟨e,h0⟩ | ⟨g,cap,cur,e,hg,r⟩
 · omega
 · injection e with e1 _ _
   refine ⟨g,e1,hg,?_⟩
   have hc := h.cells (g := g) (by rw [e1]; rfl) j v hv
   have ha : (⟨g,0,none⟩ : Addr).add j = ⟨g,j,none⟩ := by unfold Addr.add; split <;> simp_all
   rwa [ha] at hc
theorem UL {w : World} {base n cp g j : Nat} {xs : List Value} (h : w.ownsRow base 20 1 (.slice (some ⟨g,0,none⟩) n cp) n xs) (hj : j < n) (u : Value) : (w.setCell ⟨g,j,none⟩ u).ownsRow base 20 1 (.slice (some ⟨g,0,none⟩) n cp) n (xs.set j u) := by
 obtain ⟨h1,h2⟩ := h
 refine ⟨by rw [List.length_set]; exact h1,?_⟩
 rcases h2 with ⟨e,h0⟩ | ⟨g', cap,cur,e,hg,hh,hn,hm,hs,ht⟩
 · omega
 · injection e with e1 _ e3
   injection e1 with e1
   injection e1 with e1
   subst e1 e3
   refine .inr ⟨g,cp,cur.setIfInBounds j u,rfl,hg,heap_setCell_same w g j cur 20 u hh,hn,hm,by rw [Array.size_setIfInBounds]; exact hs,?_⟩
   rw [Array.toList_setIfInBounds,List.take_set,ht]
theorem DI.put {W : World} {L : Nat} {E1 E2 : ByteArray} {ks : Value} {g n cp : Nat} {kl vl : List Value} (h : DI W L E1 E2 ks (.slice (some ⟨g,0,none⟩) n cp) n kl vl) {i : Nat} (hi : i < n) (hgL : g ≠ L) (u : Value) (nn : Nat) : DI ((W.drewN nn).setCell ⟨g,i,none⟩ u) L E1 E2 ks (.slice (some ⟨g,0,none⟩) n cp) n kl (vl.set i u):=
 have h2 : DI (W.drewN nn) L E1 E2 ks (.slice (some ⟨g,0,none⟩) n cp) n kl vl := ⟨h.row,h.k,h.v,h.ap⟩
 ⟨(Below.heap_setCell _ ⟨g,i,none⟩ u L (Ne.symm hgL)).trans h2.row,gC h2.k (p := ⟨g,i,none⟩) (fun e => h2.ap g e.symm rfl) u,UL h2.v hi u,h2.ap⟩
theorem eq_5 (x y : Int) (w : World) : (Op.equal 20 (.iface 5 (.int .u8 x)) (.iface 5 (.int .u8 y))).run Tryz.prog w = .ok (x == y) w := by kernel_rfl
theorem TH (x y : Int) (w : World) : (Op.equal 20 (.iface 71 (.int .i16 x)) (.iface 71 (.int .i16 y))).run Tryz.prog w = .ok (x == y) w := by kernel_rfl
theorem TG (x y : Int) (w : World) : (Op.equal 20 (.iface 120 (.int .u16 x)) (.iface 120 (.int .u16 y))).run Tryz.prog w = .ok (x == y) w := by kernel_rfl
theorem eq_21 (x y : Int) (w : World) : (Op.equal 20 (.iface 21 (.int .i32 x)) (.iface 21 (.int .i32 y))).run Tryz.prog w = .ok (x == y) w := by kernel_rfl
theorem TE (x y : Int) (w : World) : (Op.equal 20 (.iface 117 (.int .u32 x)) (.iface 117 (.int .u32 y))).run Tryz.prog w = .ok (x == y) w := by kernel_rfl
theorem eq_2 (x y : Int) (w : World) : (Op.equal 20 (.iface 2 (.int .i64 x)) (.iface 2 (.int .i64 y))).run Tryz.prog w = .ok (x == y) w := by kernel_rfl
theorem eq_29 (x y : Int) (w : World) : (Op.equal 20 (.iface 22 (.int .u64 x)) (.iface 22 (.int .u64 y))).run Tryz.prog w = .ok (x == y) w := by kernel_rfl
theorem ac5 (x y : Nat) (w : World) : (Op.equal 20 (.iface 121 (.float .f64 x)) (.iface 121 (.float .f64 y))).run Tryz.prog w = .ok (Op.floatEq .f64 x y) w := by kernel_rfl
theorem eq_9 (x y : ByteArray) (w : World) : (Op.equal 20 (.iface 9 (.string x)) (.iface 9 (.string y))).run Tryz.prog w = .ok (x == y) w := by kernel_rfl
theorem TC (x y : ByteArray) (w : World) : (Op.equal 20 (.iface 123 (.string x)) (.iface 123 (.string y))).run Tryz.prog w = .ok (x == y) w := by kernel_rfl
theorem OZ (x y : Int) (w : World) : (Op.equal 20 (.iface 148 (.int .u32 x)) (.iface 148 (.int .u32 y))).run Tryz.prog w = .ok (x == y) w := by kernel_rfl
def BV (c : UInt8) (v : Value) : Prop := (c = 121 ∧ ∃ x,v = .iface 5 (.int .u8 x)) ∨ (c = 110 ∧ ∃ x,v = .iface 71 (.int .i16 x)) ∨ (c = 113 ∧ ∃ x,v = .iface 120 (.int .u16 x)) ∨ (c = 105 ∧ ∃ x,v = .iface 21 (.int .i32 x)) ∨ (c = 117 ∧ ∃ x,v = .iface 117 (.int .u32 x)) ∨ (c = 120 ∧ ∃ x,v = .iface 2 (.int .i64 x)) ∨ (c = 116 ∧ ∃ x,v = .iface 22 (.int .u64 x)) ∨ (c = 100 ∧ ∃ x,v = .iface 121 (.float .f64 x)) ∨ (c = 115 ∧ ∃ x,v = .iface 9 (.string x)) ∨ (c = 111 ∧ ∃ x,v = .iface 123 (.string x)) ∨ (c = 104 ∧ ∃ x,v = .iface 148 (.int .u32 x))
theorem ado {c : UInt8} {u v : Value} (h1 : BV c u) (h2 : BV c v) : ∃ b,∀ w,(Op.equal 20 u v).run Tryz.prog w = .ok b w := by
 unfold BV at h1 h2
 rcases h1 with ⟨e1,x,rfl⟩ | ⟨e1,x,rfl⟩ | ⟨e1,x,rfl⟩ | ⟨e1,x,rfl⟩ | ⟨e1,x,rfl⟩ | ⟨e1,x,rfl⟩ | ⟨e1,x,rfl⟩ | ⟨e1,x,rfl⟩ | ⟨e1,x,rfl⟩ | ⟨e1,x,rfl⟩ | ⟨e1,x,rfl⟩
 all_goals rcases h2 with ⟨e2,y,rfl⟩ | ⟨e2,y,rfl⟩ | ⟨e2,y,rfl⟩ | ⟨e2,y,rfl⟩ | ⟨e2,y,rfl⟩ | ⟨e2,y,rfl⟩ | ⟨e2,y,rfl⟩ | ⟨e2,y,rfl⟩ | ⟨e2,y,rfl⟩ | ⟨e2,y,rfl⟩ | ⟨e2,y,rfl⟩
 all_goals first
  | (rw [e1] at e2; exact absurd e2 (by decide))
  | exact ⟨_,fun w => eq_5 x y w⟩
  | exact ⟨_,fun w => TH x y w⟩
  | exact ⟨_,fun w => TG x y w⟩
  | exact ⟨_,fun w => eq_21 x y w⟩
  | exact ⟨_,fun w => TE x y w⟩
  | exact ⟨_,fun w => eq_2 x y w⟩
  | exact ⟨_,fun w => eq_29 x y w⟩
  | exact ⟨_,fun w => ac5 x y w⟩
  | exact ⟨_,fun w => eq_9 x y w⟩
  | exact ⟨_,fun w => TC x y w⟩
  | exact ⟨_,fun w => OZ x y w⟩
theorem adn {c : UInt8} {v : Value} (h : BV c v) : ∃ d u,v = .iface d u := by
 unfold BV at h
 rcases h with ⟨_,x,rfl⟩ | ⟨_,x,rfl⟩ | ⟨_,x,rfl⟩ | ⟨_,x,rfl⟩ | ⟨_,x,rfl⟩ | ⟨_,x,rfl⟩ | ⟨_,x,rfl⟩ | ⟨_,x,rfl⟩ | ⟨_,x,rfl⟩ | ⟨_,x,rfl⟩ | ⟨_,x,rfl⟩ <;> exact ⟨_,_,rfl⟩
theorem abb {c : UInt8} {d1 d2 : TypeId} {u1 u2 : Value} (h1 : BV c (.iface d1 u1)) (h2 : BV c (.iface d2 u2)) : ∃ b,∀ w,(binOp BinOp.eql 20 (.iface d1 u1) (.iface d2 u2)).run Tryz.prog w = .ok (.bool b) w := by
 obtain ⟨b,hb⟩ := ado h1 h2
 refine ⟨b,fun w => ?_⟩
 show ((do pure (.bool (← Op.equal 20 (.iface d1 u1) (.iface d2 u2))) : Sem Value).run Tryz.prog w) = _
 simp [Sem.run_bind,hb]
end Go.Proofs.YtkdebhgccpfkiaaGreatDoor.au
namespace Go.Proofs.YtkdebhgccpfkiaaGreatDoor.au
open Go.RowKit Go.Proofs.aa.az Go.Proofs.aa.aM Go.Proofs.aa.aU
attribute [local go_sem] ba bh
set_option linter.unusedVariables false
set_option linter.unusedSimpArgs false
open Go.Proofs.YtkdebhgccpfkiaaGreatDoor.fD Go.Proofs.YtkdebhgccpfkiaaGreatDoor.fO Go.Proofs.YtkdebhgccpfkiaaGreatDoor.gw
structure Pre (w X : World) (L : Nat) (E1 E2 : ByteArray) (ks vs : Value) (n : Nat) (kl vl : List Value) (k x : Value) (t2 t3 : ByteArray) : Prop where
 di : DI X L E1 E2 ks vs n kl vl
 r2 : X.heap[w.heap.size + 1]? = some (.cells #[k,.string t2] 86 (0,0))
 r3 : X.heap[w.heap.size + 1 + 1]? = some (.cells #[x,.string t3] 86 (0,0))
 lk : ∀ q,ks.ownBlock = some q → q < w.heap.size
 lv : ∀ q,vs.ownBlock = some q → q < w.heap.size
 lw : L < w.heap.size
 sz : w.heap.size + 2 < X.heap.size
 be : Below L w X
 fr : ∀ q,q < w.heap.size → q ≠ L → ks.ownBlock ≠ some q → vs.ownBlock ≠ some q → X.heap[q]? = w.heap[q]?
variable {w X : World} {L : Nat} {E1 E2 : ByteArray} {ks vs : Value} {n : Nat} {kl vl : List Value} {k x : Value} {t2 t3 : ByteArray}
structure Mid (w X : World) (L : Nat) (E1 E2 : ByteArray) (ks v1 vs : Value) (n : Nat) (kl vl : List Value) (k x : Value) (t2 t3 : ByteArray) : Prop where
 row : X.heap[L]? = some (.cells #[.string E1,.string E2,ks,vs] 172 (0,0))
 kr : X.ownsRow (L + 1) 20 1 v1 (n + 1) (kl ++ [k])
 vr : X.ownsRow (L + 1) 20 1 vs n vl
 ap : ∀ q,v1.ownBlock = some q → vs.ownBlock ≠ some q
 r2 : X.heap[w.heap.size + 1]? = some (.cells #[k,.string t2] 86 (0,0))
 r3 : X.heap[w.heap.size + 1 + 1]? = some (.cells #[x,.string t3] 86 (0,0))
 lv : ∀ q,vs.ownBlock = some q → q < w.heap.size
 lw : L < w.heap.size
 sz : w.heap.size + 2 < X.heap.size
 be : Below L w X
 fr : ∀ q,q < w.heap.size → q ≠ L → ks.ownBlock ≠ some q → vs.ownBlock ≠ some q → X.heap[q]? = w.heap[q]?
theorem gu {W W' : World} {b : Option Nat} (hg : W.grownBy W' b) {g : Nat} (hn : b ≠ some g) {o : Obj} (h : W.heap[g]? = some o) : W'.heap[g]? = some o:=
 (hg.block g (Array.getElem?_eq_some_iff.1 h).1 (fun e => hn e.symm)).trans h
theorem yR {W W' : World} {b : Option Nat} {L : Nat} (hg : W.grownBy W' b) (hn : ∀ q,b = some q → L ≤ q) (hL : L ≤ W.heap.size) : Below L W W' :=
 ⟨hg.os,hg.tape,hg.output,hg.size,fun q hq => hg.block q (by omega) (fun e => by have := hn q e.symm; omega)⟩
structure Post (w X : World) (L : Nat) (E1 E2 : ByteArray) (ks v1 vs v2 : Value) (n : Nat) (kl vl : List Value) (k x : Value) (t2 t3 : ByteArray) : Prop where
 row : X.heap[L]? = some (.cells #[.string E1,.string E2,ks,vs] 172 (0,0))
 kr : X.ownsRow (L + 1) 20 1 v1 (n + 1) (kl ++ [k])
 vr : X.ownsRow (L + 1) 20 1 v2 (n + 1) (vl ++ [x])
 ap : ∀ q,v1.ownBlock = some q → v2.ownBlock ≠ some q
 r2 : X.heap[w.heap.size + 1]? = some (.cells #[k,.string t2] 86 (0,0))
 r3 : X.heap[w.heap.size + 1 + 1]? = some (.cells #[x,.string t3] 86 (0,0))
 be : Below L w X
 lw : L < w.heap.size
 fr : ∀ q,q < w.heap.size → q ≠ L → ks.ownBlock ≠ some q → vs.ownBlock ≠ some q → X.heap[q]? = w.heap[q]?
def SL (L b2 b3 : Nat) (ks vs k x : Value) (w' : World) : Prop := w'.cell? ⟨L,2,none⟩ = some ks ∧ w'.cell? ⟨L,3,none⟩ = some vs ∧ w'.cell? ⟨b2,0,none⟩ = some k ∧ w'.cell? ⟨b3,0,none⟩ = some x
theorem ga {E1 E2 : ByteArray} (h : X.heap[L]? = some (.cells #[.string E1,.string E2,ks,vs] 172 (0,0))) (h2 : X.heap[w.heap.size + 1]? = some (.cells #[k,.string t2] 86 (0,0))) (h3 : X.heap[w.heap.size + 1 + 1]? = some (.cells #[x,.string t3] 86 (0,0))) :
 X.cell? ⟨L,2,none⟩ = some ks ∧ X.cell? ⟨L,3,none⟩ = some vs ∧ X.cell? ⟨w.heap.size + 1,0,none⟩ = some k ∧ X.cell? ⟨w.heap.size + 1 + 1,0,none⟩ = some x:=
 ⟨(cell_of_row X L 2 _ 172 (0,0) h).trans rfl,(cell_of_row X L 3 _ 172 (0,0) h).trans rfl,(cell_of_row X _ 0 _ 86 (0,0) h2).trans rfl,(cell_of_row X _ 0 _ 86 (0,0) h3).trans rfl⟩
section
variable {P : Program} {ops : Array Oper} {Q : Exit → Act → World → Prop} {md : Region.Mode} {S : World → Prop} {ds : List Nat}
theorem cX {i : Nat} {oi : Oper} {v : Value} {fuel : Nat} {listed : Array Bool} {a : Act} {w : World} (hi : ops[i]? = some oi) (hs : Region.noSelect ops = true) (hf : Region.free md ops listed i = true) (hr : (Region.ready md ops listed).contains i = true)
 (hQ : ∀ c a w,Q (.panic c) (a.put oi.dst v) w → Q (.panic c) a w) (hy : Yields P ops oi v a)
 (h : bA P md ops Q S ds fuel (listed.setIfInBounds i true) (a.put oi.dst v) w) : bA P md ops Q S ds (fuel + 1) listed a w:=
 AA hi (Region.noSelect_spec hs) hQ fuel listed a w (Region.free_spec hi hf) (by simpa using hr) hy h
end
theorem F0 {c : UInt8} {kl : List Value} {k : Value} (h : ∀ v ∈ kl,BV c v) (hk : BV c k) : ∀ v ∈ kl ++ [k],BV c v := by
 intro v hv
 rcases List.mem_append.1 hv with hv | hv
 · exact h v hv
 · rw [List.mem_singleton.1 hv]; exact hk
theorem Hd (tmps : Array Value) (w : World) : (results Tryz.f91 tmps).run Tryz.prog w = .ok (.tuple #[]) w := by simp [results,Tryz.results91,go_sem]
theorem bodyPost_end {P : Program} {fn : Func} {R : Ending → World → Prop} {a : Act} {w : World} {v : Value} (h1 : (results fn a.tmps).run P w = .ok v w) (h2 : a.defers = []) (h : R (.returned v) w) : bodyPost P fn R .normal a w := ⟨h2,v,h1,h⟩
end Go.Proofs.YtkdebhgccpfkiaaGreatDoor.au
namespace Go.Proofs.YtkdebhgccpfkiaaGreatDoor.au
open Go.RowKit Go.Proofs.aa.az Go.Proofs.aa.aM Go.Proofs.aa.aU
attribute [local go_sem] ba bh
set_option linter.unusedVariables false
set_option linter.unusedSimpArgs false
open Go.Proofs.YtkdebhgccpfkiaaGreatDoor.fD Go.Proofs.YtkdebhgccpfkiaaGreatDoor.fO Go.Proofs.YtkdebhgccpfkiaaGreatDoor.gw
attribute [local go_sem] F3
attribute [-go_sem] Builtin.append_
end Go.Proofs.YtkdebhgccpfkiaaGreatDoor.au
