-- Texts of this session, several in one.
import Derived.Test.YtboioihppjhjcaaDoorQB02
namespace Go.Proofs.YtboioihppjhjcaaDoor.MFnSgOf
open Go.RowKit Go.Proofs.YtboioihppjhjcaaDoorW.PrintWords Go.Proofs.YtboioihppjhjcaaDoorW.PrintLast Go.Proofs.YtboioihppjhjcaaDoorW.PrintMore
attribute [local go_sem] max2_int min2_int max_two min_two max_three min_three max_four min_four
set_option linter.unusedVariables false
set_option linter.unusedSimpArgs false

open Go.Proofs.YtboioihppjhjcaaDoor.Hlp Go.Proofs.YtboioihppjhjcaaDoor.SgT Go.Proofs.YtboioihppjhjcaaDoor.SgZ
theorem as5_5 (v : Value) (w : World) : (Instr.typeAssert (.iface 5 v) 20 5 true).run Tryd.prog w = .ok (.tuple #[v, .bool true]) w := by kernel_rfl
theorem as4_5 (v : Value) (w : World) : (Instr.typeAssert (.iface 4 v) 20 5 true).run Tryd.prog w = .ok (.tuple #[.int .u8 0, .bool false]) w := by kernel_rfl
theorem as4_90 (v : Value) (w : World) : (Instr.typeAssert (.iface 4 v) 20 90 true).run Tryd.prog w = .ok (.tuple #[.int .u8 0, .bool false]) w := by kernel_rfl
theorem as4_91 (v : Value) (w : World) : (Instr.typeAssert (.iface 4 v) 20 91 true).run Tryd.prog w = .ok (.tuple #[.int .u8 0, .bool false]) w := by kernel_rfl
theorem as4_92 (v : Value) (w : World) : (Instr.typeAssert (.iface 4 v) 20 92 true).run Tryd.prog w = .ok (.tuple #[.int .u8 0, .bool false]) w := by kernel_rfl
theorem as4_4 (v : Value) (w : World) : (Instr.typeAssert (.iface 4 v) 20 4 true).run Tryd.prog w = .ok (.tuple #[v, .bool true]) w := by kernel_rfl
theorem as77_5 (v : Value) (w : World) : (Instr.typeAssert (.iface 77 v) 20 5 true).run Tryd.prog w = .ok (.tuple #[.int .u8 0, .bool false]) w := by kernel_rfl
theorem as77_90 (v : Value) (w : World) : (Instr.typeAssert (.iface 77 v) 20 90 true).run Tryd.prog w = .ok (.tuple #[.int .u8 0, .bool false]) w := by kernel_rfl
theorem as77_91 (v : Value) (w : World) : (Instr.typeAssert (.iface 77 v) 20 91 true).run Tryd.prog w = .ok (.tuple #[.int .u8 0, .bool false]) w := by kernel_rfl
theorem as77_92 (v : Value) (w : World) : (Instr.typeAssert (.iface 77 v) 20 92 true).run Tryd.prog w = .ok (.tuple #[.int .u8 0, .bool false]) w := by kernel_rfl
theorem as77_4 (v : Value) (w : World) : (Instr.typeAssert (.iface 77 v) 20 4 true).run Tryd.prog w = .ok (.tuple #[.bool false, .bool false]) w := by kernel_rfl
theorem as77_77 (v : Value) (w : World) : (Instr.typeAssert (.iface 77 v) 20 77 true).run Tryd.prog w = .ok (.tuple #[v, .bool true]) w := by kernel_rfl
theorem as93_5 (v : Value) (w : World) : (Instr.typeAssert (.iface 93 v) 20 5 true).run Tryd.prog w = .ok (.tuple #[.int .u8 0, .bool false]) w := by kernel_rfl
theorem as93_90 (v : Value) (w : World) : (Instr.typeAssert (.iface 93 v) 20 90 true).run Tryd.prog w = .ok (.tuple #[.int .u8 0, .bool false]) w := by kernel_rfl
theorem as93_91 (v : Value) (w : World) : (Instr.typeAssert (.iface 93 v) 20 91 true).run Tryd.prog w = .ok (.tuple #[.int .u8 0, .bool false]) w := by kernel_rfl
theorem as93_92 (v : Value) (w : World) : (Instr.typeAssert (.iface 93 v) 20 92 true).run Tryd.prog w = .ok (.tuple #[.int .u8 0, .bool false]) w := by kernel_rfl
theorem as93_4 (v : Value) (w : World) : (Instr.typeAssert (.iface 93 v) 20 4 true).run Tryd.prog w = .ok (.tuple #[.bool false, .bool false]) w := by kernel_rfl
theorem as93_77 (v : Value) (w : World) : (Instr.typeAssert (.iface 93 v) 20 77 true).run Tryd.prog w = .ok (.tuple #[.int .i16 0, .bool false]) w := by kernel_rfl
theorem as93_93 (v : Value) (w : World) : (Instr.typeAssert (.iface 93 v) 20 93 true).run Tryd.prog w = .ok (.tuple #[v, .bool true]) w := by kernel_rfl
theorem as21_5 (v : Value) (w : World) : (Instr.typeAssert (.iface 21 v) 20 5 true).run Tryd.prog w = .ok (.tuple #[.int .u8 0, .bool false]) w := by kernel_rfl
theorem as21_90 (v : Value) (w : World) : (Instr.typeAssert (.iface 21 v) 20 90 true).run Tryd.prog w = .ok (.tuple #[.int .u8 0, .bool false]) w := by kernel_rfl
theorem as21_91 (v : Value) (w : World) : (Instr.typeAssert (.iface 21 v) 20 91 true).run Tryd.prog w = .ok (.tuple #[.int .u8 0, .bool false]) w := by kernel_rfl
theorem as21_92 (v : Value) (w : World) : (Instr.typeAssert (.iface 21 v) 20 92 true).run Tryd.prog w = .ok (.tuple #[.int .u8 0, .bool false]) w := by kernel_rfl
theorem as21_4 (v : Value) (w : World) : (Instr.typeAssert (.iface 21 v) 20 4 true).run Tryd.prog w = .ok (.tuple #[.bool false, .bool false]) w := by kernel_rfl
theorem as21_77 (v : Value) (w : World) : (Instr.typeAssert (.iface 21 v) 20 77 true).run Tryd.prog w = .ok (.tuple #[.int .i16 0, .bool false]) w := by kernel_rfl
theorem as21_93 (v : Value) (w : World) : (Instr.typeAssert (.iface 21 v) 20 93 true).run Tryd.prog w = .ok (.tuple #[.int .u16 0, .bool false]) w := by kernel_rfl
theorem as21_21 (v : Value) (w : World) : (Instr.typeAssert (.iface 21 v) 20 21 true).run Tryd.prog w = .ok (.tuple #[v, .bool true]) w := by kernel_rfl
theorem as94_5 (v : Value) (w : World) : (Instr.typeAssert (.iface 94 v) 20 5 true).run Tryd.prog w = .ok (.tuple #[.int .u8 0, .bool false]) w := by kernel_rfl
theorem as94_90 (v : Value) (w : World) : (Instr.typeAssert (.iface 94 v) 20 90 true).run Tryd.prog w = .ok (.tuple #[.int .u8 0, .bool false]) w := by kernel_rfl
theorem as94_91 (v : Value) (w : World) : (Instr.typeAssert (.iface 94 v) 20 91 true).run Tryd.prog w = .ok (.tuple #[.int .u8 0, .bool false]) w := by kernel_rfl
theorem as94_92 (v : Value) (w : World) : (Instr.typeAssert (.iface 94 v) 20 92 true).run Tryd.prog w = .ok (.tuple #[.int .u8 0, .bool false]) w := by kernel_rfl
theorem as94_4 (v : Value) (w : World) : (Instr.typeAssert (.iface 94 v) 20 4 true).run Tryd.prog w = .ok (.tuple #[.bool false, .bool false]) w := by kernel_rfl
theorem as94_77 (v : Value) (w : World) : (Instr.typeAssert (.iface 94 v) 20 77 true).run Tryd.prog w = .ok (.tuple #[.int .i16 0, .bool false]) w := by kernel_rfl
theorem as94_93 (v : Value) (w : World) : (Instr.typeAssert (.iface 94 v) 20 93 true).run Tryd.prog w = .ok (.tuple #[.int .u16 0, .bool false]) w := by kernel_rfl
theorem as94_21 (v : Value) (w : World) : (Instr.typeAssert (.iface 94 v) 20 21 true).run Tryd.prog w = .ok (.tuple #[.int .i32 0, .bool false]) w := by kernel_rfl
theorem as94_94 (v : Value) (w : World) : (Instr.typeAssert (.iface 94 v) 20 94 true).run Tryd.prog w = .ok (.tuple #[v, .bool true]) w := by kernel_rfl
theorem as2_5 (v : Value) (w : World) : (Instr.typeAssert (.iface 2 v) 20 5 true).run Tryd.prog w = .ok (.tuple #[.int .u8 0, .bool false]) w := by kernel_rfl
theorem as2_90 (v : Value) (w : World) : (Instr.typeAssert (.iface 2 v) 20 90 true).run Tryd.prog w = .ok (.tuple #[.int .u8 0, .bool false]) w := by kernel_rfl
theorem as2_91 (v : Value) (w : World) : (Instr.typeAssert (.iface 2 v) 20 91 true).run Tryd.prog w = .ok (.tuple #[.int .u8 0, .bool false]) w := by kernel_rfl
theorem as2_92 (v : Value) (w : World) : (Instr.typeAssert (.iface 2 v) 20 92 true).run Tryd.prog w = .ok (.tuple #[.int .u8 0, .bool false]) w := by kernel_rfl
theorem as2_4 (v : Value) (w : World) : (Instr.typeAssert (.iface 2 v) 20 4 true).run Tryd.prog w = .ok (.tuple #[.bool false, .bool false]) w := by kernel_rfl
theorem as2_77 (v : Value) (w : World) : (Instr.typeAssert (.iface 2 v) 20 77 true).run Tryd.prog w = .ok (.tuple #[.int .i16 0, .bool false]) w := by kernel_rfl
theorem as2_93 (v : Value) (w : World) : (Instr.typeAssert (.iface 2 v) 20 93 true).run Tryd.prog w = .ok (.tuple #[.int .u16 0, .bool false]) w := by kernel_rfl
theorem as2_21 (v : Value) (w : World) : (Instr.typeAssert (.iface 2 v) 20 21 true).run Tryd.prog w = .ok (.tuple #[.int .i32 0, .bool false]) w := by kernel_rfl
theorem as2_94 (v : Value) (w : World) : (Instr.typeAssert (.iface 2 v) 20 94 true).run Tryd.prog w = .ok (.tuple #[.int .u32 0, .bool false]) w := by kernel_rfl
theorem as2_2 (v : Value) (w : World) : (Instr.typeAssert (.iface 2 v) 20 2 true).run Tryd.prog w = .ok (.tuple #[v, .bool true]) w := by kernel_rfl
theorem as29_5 (v : Value) (w : World) : (Instr.typeAssert (.iface 29 v) 20 5 true).run Tryd.prog w = .ok (.tuple #[.int .u8 0, .bool false]) w := by kernel_rfl
theorem as29_90 (v : Value) (w : World) : (Instr.typeAssert (.iface 29 v) 20 90 true).run Tryd.prog w = .ok (.tuple #[.int .u8 0, .bool false]) w := by kernel_rfl
theorem as29_91 (v : Value) (w : World) : (Instr.typeAssert (.iface 29 v) 20 91 true).run Tryd.prog w = .ok (.tuple #[.int .u8 0, .bool false]) w := by kernel_rfl
theorem as29_92 (v : Value) (w : World) : (Instr.typeAssert (.iface 29 v) 20 92 true).run Tryd.prog w = .ok (.tuple #[.int .u8 0, .bool false]) w := by kernel_rfl
theorem as29_4 (v : Value) (w : World) : (Instr.typeAssert (.iface 29 v) 20 4 true).run Tryd.prog w = .ok (.tuple #[.bool false, .bool false]) w := by kernel_rfl
theorem as29_77 (v : Value) (w : World) : (Instr.typeAssert (.iface 29 v) 20 77 true).run Tryd.prog w = .ok (.tuple #[.int .i16 0, .bool false]) w := by kernel_rfl
theorem as29_93 (v : Value) (w : World) : (Instr.typeAssert (.iface 29 v) 20 93 true).run Tryd.prog w = .ok (.tuple #[.int .u16 0, .bool false]) w := by kernel_rfl
theorem as29_21 (v : Value) (w : World) : (Instr.typeAssert (.iface 29 v) 20 21 true).run Tryd.prog w = .ok (.tuple #[.int .i32 0, .bool false]) w := by kernel_rfl
theorem as29_94 (v : Value) (w : World) : (Instr.typeAssert (.iface 29 v) 20 94 true).run Tryd.prog w = .ok (.tuple #[.int .u32 0, .bool false]) w := by kernel_rfl
theorem as29_2 (v : Value) (w : World) : (Instr.typeAssert (.iface 29 v) 20 2 true).run Tryd.prog w = .ok (.tuple #[.int .i64 0, .bool false]) w := by kernel_rfl
theorem as29_29 (v : Value) (w : World) : (Instr.typeAssert (.iface 29 v) 20 29 true).run Tryd.prog w = .ok (.tuple #[v, .bool true]) w := by kernel_rfl
theorem as95_5 (v : Value) (w : World) : (Instr.typeAssert (.iface 95 v) 20 5 true).run Tryd.prog w = .ok (.tuple #[.int .u8 0, .bool false]) w := by kernel_rfl
theorem as95_90 (v : Value) (w : World) : (Instr.typeAssert (.iface 95 v) 20 90 true).run Tryd.prog w = .ok (.tuple #[.int .u8 0, .bool false]) w := by kernel_rfl
theorem as95_91 (v : Value) (w : World) : (Instr.typeAssert (.iface 95 v) 20 91 true).run Tryd.prog w = .ok (.tuple #[.int .u8 0, .bool false]) w := by kernel_rfl
theorem as95_92 (v : Value) (w : World) : (Instr.typeAssert (.iface 95 v) 20 92 true).run Tryd.prog w = .ok (.tuple #[.int .u8 0, .bool false]) w := by kernel_rfl
theorem as95_4 (v : Value) (w : World) : (Instr.typeAssert (.iface 95 v) 20 4 true).run Tryd.prog w = .ok (.tuple #[.bool false, .bool false]) w := by kernel_rfl
theorem as95_77 (v : Value) (w : World) : (Instr.typeAssert (.iface 95 v) 20 77 true).run Tryd.prog w = .ok (.tuple #[.int .i16 0, .bool false]) w := by kernel_rfl
theorem as95_93 (v : Value) (w : World) : (Instr.typeAssert (.iface 95 v) 20 93 true).run Tryd.prog w = .ok (.tuple #[.int .u16 0, .bool false]) w := by kernel_rfl
theorem as95_21 (v : Value) (w : World) : (Instr.typeAssert (.iface 95 v) 20 21 true).run Tryd.prog w = .ok (.tuple #[.int .i32 0, .bool false]) w := by kernel_rfl
theorem as95_94 (v : Value) (w : World) : (Instr.typeAssert (.iface 95 v) 20 94 true).run Tryd.prog w = .ok (.tuple #[.int .u32 0, .bool false]) w := by kernel_rfl
theorem as95_2 (v : Value) (w : World) : (Instr.typeAssert (.iface 95 v) 20 2 true).run Tryd.prog w = .ok (.tuple #[.int .i64 0, .bool false]) w := by kernel_rfl
theorem as95_29 (v : Value) (w : World) : (Instr.typeAssert (.iface 95 v) 20 29 true).run Tryd.prog w = .ok (.tuple #[.int .u64 0, .bool false]) w := by kernel_rfl
theorem as95_95 (v : Value) (w : World) : (Instr.typeAssert (.iface 95 v) 20 95 true).run Tryd.prog w = .ok (.tuple #[v, .bool true]) w := by kernel_rfl
theorem as9_5 (v : Value) (w : World) : (Instr.typeAssert (.iface 9 v) 20 5 true).run Tryd.prog w = .ok (.tuple #[.int .u8 0, .bool false]) w := by kernel_rfl
theorem as9_90 (v : Value) (w : World) : (Instr.typeAssert (.iface 9 v) 20 90 true).run Tryd.prog w = .ok (.tuple #[.int .u8 0, .bool false]) w := by kernel_rfl
theorem as9_91 (v : Value) (w : World) : (Instr.typeAssert (.iface 9 v) 20 91 true).run Tryd.prog w = .ok (.tuple #[.int .u8 0, .bool false]) w := by kernel_rfl
theorem as9_92 (v : Value) (w : World) : (Instr.typeAssert (.iface 9 v) 20 92 true).run Tryd.prog w = .ok (.tuple #[.int .u8 0, .bool false]) w := by kernel_rfl
theorem as9_4 (v : Value) (w : World) : (Instr.typeAssert (.iface 9 v) 20 4 true).run Tryd.prog w = .ok (.tuple #[.bool false, .bool false]) w := by kernel_rfl
theorem as9_77 (v : Value) (w : World) : (Instr.typeAssert (.iface 9 v) 20 77 true).run Tryd.prog w = .ok (.tuple #[.int .i16 0, .bool false]) w := by kernel_rfl
theorem as9_93 (v : Value) (w : World) : (Instr.typeAssert (.iface 9 v) 20 93 true).run Tryd.prog w = .ok (.tuple #[.int .u16 0, .bool false]) w := by kernel_rfl
theorem as9_21 (v : Value) (w : World) : (Instr.typeAssert (.iface 9 v) 20 21 true).run Tryd.prog w = .ok (.tuple #[.int .i32 0, .bool false]) w := by kernel_rfl
theorem as9_94 (v : Value) (w : World) : (Instr.typeAssert (.iface 9 v) 20 94 true).run Tryd.prog w = .ok (.tuple #[.int .u32 0, .bool false]) w := by kernel_rfl
theorem as9_2 (v : Value) (w : World) : (Instr.typeAssert (.iface 9 v) 20 2 true).run Tryd.prog w = .ok (.tuple #[.int .i64 0, .bool false]) w := by kernel_rfl
theorem as9_29 (v : Value) (w : World) : (Instr.typeAssert (.iface 9 v) 20 29 true).run Tryd.prog w = .ok (.tuple #[.int .u64 0, .bool false]) w := by kernel_rfl
theorem as9_95 (v : Value) (w : World) : (Instr.typeAssert (.iface 9 v) 20 95 true).run Tryd.prog w = .ok (.tuple #[.float .f64 0, .bool false]) w := by kernel_rfl
theorem as9_9 (v : Value) (w : World) : (Instr.typeAssert (.iface 9 v) 20 9 true).run Tryd.prog w = .ok (.tuple #[v, .bool true]) w := by kernel_rfl
theorem as96_5 (v : Value) (w : World) : (Instr.typeAssert (.iface 96 v) 20 5 true).run Tryd.prog w = .ok (.tuple #[.int .u8 0, .bool false]) w := by kernel_rfl
theorem as96_90 (v : Value) (w : World) : (Instr.typeAssert (.iface 96 v) 20 90 true).run Tryd.prog w = .ok (.tuple #[.int .u8 0, .bool false]) w := by kernel_rfl
theorem as96_91 (v : Value) (w : World) : (Instr.typeAssert (.iface 96 v) 20 91 true).run Tryd.prog w = .ok (.tuple #[.int .u8 0, .bool false]) w := by kernel_rfl
theorem as96_92 (v : Value) (w : World) : (Instr.typeAssert (.iface 96 v) 20 92 true).run Tryd.prog w = .ok (.tuple #[.int .u8 0, .bool false]) w := by kernel_rfl
theorem as96_4 (v : Value) (w : World) : (Instr.typeAssert (.iface 96 v) 20 4 true).run Tryd.prog w = .ok (.tuple #[.bool false, .bool false]) w := by kernel_rfl
theorem as96_77 (v : Value) (w : World) : (Instr.typeAssert (.iface 96 v) 20 77 true).run Tryd.prog w = .ok (.tuple #[.int .i16 0, .bool false]) w := by kernel_rfl
theorem as96_93 (v : Value) (w : World) : (Instr.typeAssert (.iface 96 v) 20 93 true).run Tryd.prog w = .ok (.tuple #[.int .u16 0, .bool false]) w := by kernel_rfl
theorem as96_21 (v : Value) (w : World) : (Instr.typeAssert (.iface 96 v) 20 21 true).run Tryd.prog w = .ok (.tuple #[.int .i32 0, .bool false]) w := by kernel_rfl
theorem as96_94 (v : Value) (w : World) : (Instr.typeAssert (.iface 96 v) 20 94 true).run Tryd.prog w = .ok (.tuple #[.int .u32 0, .bool false]) w := by kernel_rfl
theorem as96_2 (v : Value) (w : World) : (Instr.typeAssert (.iface 96 v) 20 2 true).run Tryd.prog w = .ok (.tuple #[.int .i64 0, .bool false]) w := by kernel_rfl
theorem as96_29 (v : Value) (w : World) : (Instr.typeAssert (.iface 96 v) 20 29 true).run Tryd.prog w = .ok (.tuple #[.int .u64 0, .bool false]) w := by kernel_rfl
theorem as96_95 (v : Value) (w : World) : (Instr.typeAssert (.iface 96 v) 20 95 true).run Tryd.prog w = .ok (.tuple #[.float .f64 0, .bool false]) w := by kernel_rfl
theorem as96_9 (v : Value) (w : World) : (Instr.typeAssert (.iface 96 v) 20 9 true).run Tryd.prog w = .ok (.tuple #[.string ByteArray.empty, .bool false]) w := by kernel_rfl
theorem as96_96 (v : Value) (w : World) : (Instr.typeAssert (.iface 96 v) 20 96 true).run Tryd.prog w = .ok (.tuple #[v, .bool true]) w := by kernel_rfl
theorem as43_5 (v : Value) (w : World) : (Instr.typeAssert (.iface 43 v) 20 5 true).run Tryd.prog w = .ok (.tuple #[.int .u8 0, .bool false]) w := by kernel_rfl
theorem as43_90 (v : Value) (w : World) : (Instr.typeAssert (.iface 43 v) 20 90 true).run Tryd.prog w = .ok (.tuple #[.int .u8 0, .bool false]) w := by kernel_rfl
theorem as43_91 (v : Value) (w : World) : (Instr.typeAssert (.iface 43 v) 20 91 true).run Tryd.prog w = .ok (.tuple #[.int .u8 0, .bool false]) w := by kernel_rfl
theorem as43_92 (v : Value) (w : World) : (Instr.typeAssert (.iface 43 v) 20 92 true).run Tryd.prog w = .ok (.tuple #[.int .u8 0, .bool false]) w := by kernel_rfl
theorem as43_4 (v : Value) (w : World) : (Instr.typeAssert (.iface 43 v) 20 4 true).run Tryd.prog w = .ok (.tuple #[.bool false, .bool false]) w := by kernel_rfl
theorem as43_77 (v : Value) (w : World) : (Instr.typeAssert (.iface 43 v) 20 77 true).run Tryd.prog w = .ok (.tuple #[.int .i16 0, .bool false]) w := by kernel_rfl
theorem as43_93 (v : Value) (w : World) : (Instr.typeAssert (.iface 43 v) 20 93 true).run Tryd.prog w = .ok (.tuple #[.int .u16 0, .bool false]) w := by kernel_rfl
theorem as43_21 (v : Value) (w : World) : (Instr.typeAssert (.iface 43 v) 20 21 true).run Tryd.prog w = .ok (.tuple #[.int .i32 0, .bool false]) w := by kernel_rfl
theorem as43_94 (v : Value) (w : World) : (Instr.typeAssert (.iface 43 v) 20 94 true).run Tryd.prog w = .ok (.tuple #[.int .u32 0, .bool false]) w := by kernel_rfl
theorem as43_2 (v : Value) (w : World) : (Instr.typeAssert (.iface 43 v) 20 2 true).run Tryd.prog w = .ok (.tuple #[.int .i64 0, .bool false]) w := by kernel_rfl
theorem as43_29 (v : Value) (w : World) : (Instr.typeAssert (.iface 43 v) 20 29 true).run Tryd.prog w = .ok (.tuple #[.int .u64 0, .bool false]) w := by kernel_rfl
theorem as43_95 (v : Value) (w : World) : (Instr.typeAssert (.iface 43 v) 20 95 true).run Tryd.prog w = .ok (.tuple #[.float .f64 0, .bool false]) w := by kernel_rfl
theorem as43_9 (v : Value) (w : World) : (Instr.typeAssert (.iface 43 v) 20 9 true).run Tryd.prog w = .ok (.tuple #[.string ByteArray.empty, .bool false]) w := by kernel_rfl
theorem as43_96 (v : Value) (w : World) : (Instr.typeAssert (.iface 43 v) 20 96 true).run Tryd.prog w = .ok (.tuple #[.string ByteArray.empty, .bool false]) w := by kernel_rfl
theorem as43_43 (v : Value) (w : World) : (Instr.typeAssert (.iface 43 v) 20 43 true).run Tryd.prog w = .ok (.tuple #[v, .bool true]) w := by kernel_rfl
theorem as100_5 (v : Value) (w : World) : (Instr.typeAssert (.iface 100 v) 20 5 true).run Tryd.prog w = .ok (.tuple #[.int .u8 0, .bool false]) w := by kernel_rfl
theorem as100_90 (v : Value) (w : World) : (Instr.typeAssert (.iface 100 v) 20 90 true).run Tryd.prog w = .ok (.tuple #[.int .u8 0, .bool false]) w := by kernel_rfl
theorem as100_91 (v : Value) (w : World) : (Instr.typeAssert (.iface 100 v) 20 91 true).run Tryd.prog w = .ok (.tuple #[.int .u8 0, .bool false]) w := by kernel_rfl
theorem as100_92 (v : Value) (w : World) : (Instr.typeAssert (.iface 100 v) 20 92 true).run Tryd.prog w = .ok (.tuple #[.int .u8 0, .bool false]) w := by kernel_rfl
theorem as100_4 (v : Value) (w : World) : (Instr.typeAssert (.iface 100 v) 20 4 true).run Tryd.prog w = .ok (.tuple #[.bool false, .bool false]) w := by kernel_rfl
theorem as100_77 (v : Value) (w : World) : (Instr.typeAssert (.iface 100 v) 20 77 true).run Tryd.prog w = .ok (.tuple #[.int .i16 0, .bool false]) w := by kernel_rfl
theorem as100_93 (v : Value) (w : World) : (Instr.typeAssert (.iface 100 v) 20 93 true).run Tryd.prog w = .ok (.tuple #[.int .u16 0, .bool false]) w := by kernel_rfl
theorem as100_21 (v : Value) (w : World) : (Instr.typeAssert (.iface 100 v) 20 21 true).run Tryd.prog w = .ok (.tuple #[.int .i32 0, .bool false]) w := by kernel_rfl
theorem as100_94 (v : Value) (w : World) : (Instr.typeAssert (.iface 100 v) 20 94 true).run Tryd.prog w = .ok (.tuple #[.int .u32 0, .bool false]) w := by kernel_rfl
theorem as100_2 (v : Value) (w : World) : (Instr.typeAssert (.iface 100 v) 20 2 true).run Tryd.prog w = .ok (.tuple #[.int .i64 0, .bool false]) w := by kernel_rfl
theorem as100_29 (v : Value) (w : World) : (Instr.typeAssert (.iface 100 v) 20 29 true).run Tryd.prog w = .ok (.tuple #[.int .u64 0, .bool false]) w := by kernel_rfl
theorem as100_95 (v : Value) (w : World) : (Instr.typeAssert (.iface 100 v) 20 95 true).run Tryd.prog w = .ok (.tuple #[.float .f64 0, .bool false]) w := by kernel_rfl
theorem as100_9 (v : Value) (w : World) : (Instr.typeAssert (.iface 100 v) 20 9 true).run Tryd.prog w = .ok (.tuple #[.string ByteArray.empty, .bool false]) w := by kernel_rfl
theorem as100_96 (v : Value) (w : World) : (Instr.typeAssert (.iface 100 v) 20 96 true).run Tryd.prog w = .ok (.tuple #[.string ByteArray.empty, .bool false]) w := by kernel_rfl
theorem as100_43 (v : Value) (w : World) : (Instr.typeAssert (.iface 100 v) 20 43 true).run Tryd.prog w = .ok (.tuple #[.agg #[.string ByteArray.empty], .bool false]) w := by kernel_rfl
theorem as100_98 (v : Value) (w : World) : (Instr.typeAssert (.iface 100 v) 20 98 true).run Tryd.prog w = .ok (.tuple #[.agg #[.string ByteArray.empty, .nilIface], .bool false]) w := by kernel_rfl
theorem as100_99 (v : Value) (w : World) : (Instr.typeAssert (.iface 100 v) 20 99 true).run Tryd.prog w = .ok (.tuple #[.int .i32 0, .bool false]) w := by kernel_rfl
theorem as100_100 (v : Value) (w : World) : (Instr.typeAssert (.iface 100 v) 20 100 true).run Tryd.prog w = .ok (.tuple #[v, .bool true]) w := by kernel_rfl
theorem as98_5 (v : Value) (w : World) : (Instr.typeAssert (.iface 98 v) 20 5 true).run Tryd.prog w = .ok (.tuple #[.int .u8 0, .bool false]) w := by kernel_rfl
theorem as98_90 (v : Value) (w : World) : (Instr.typeAssert (.iface 98 v) 20 90 true).run Tryd.prog w = .ok (.tuple #[.int .u8 0, .bool false]) w := by kernel_rfl
theorem as98_91 (v : Value) (w : World) : (Instr.typeAssert (.iface 98 v) 20 91 true).run Tryd.prog w = .ok (.tuple #[.int .u8 0, .bool false]) w := by kernel_rfl
theorem as98_92 (v : Value) (w : World) : (Instr.typeAssert (.iface 98 v) 20 92 true).run Tryd.prog w = .ok (.tuple #[.int .u8 0, .bool false]) w := by kernel_rfl
theorem as98_4 (v : Value) (w : World) : (Instr.typeAssert (.iface 98 v) 20 4 true).run Tryd.prog w = .ok (.tuple #[.bool false, .bool false]) w := by kernel_rfl
theorem as98_77 (v : Value) (w : World) : (Instr.typeAssert (.iface 98 v) 20 77 true).run Tryd.prog w = .ok (.tuple #[.int .i16 0, .bool false]) w := by kernel_rfl
theorem as98_93 (v : Value) (w : World) : (Instr.typeAssert (.iface 98 v) 20 93 true).run Tryd.prog w = .ok (.tuple #[.int .u16 0, .bool false]) w := by kernel_rfl
theorem as98_21 (v : Value) (w : World) : (Instr.typeAssert (.iface 98 v) 20 21 true).run Tryd.prog w = .ok (.tuple #[.int .i32 0, .bool false]) w := by kernel_rfl
theorem as98_94 (v : Value) (w : World) : (Instr.typeAssert (.iface 98 v) 20 94 true).run Tryd.prog w = .ok (.tuple #[.int .u32 0, .bool false]) w := by kernel_rfl
theorem as98_2 (v : Value) (w : World) : (Instr.typeAssert (.iface 98 v) 20 2 true).run Tryd.prog w = .ok (.tuple #[.int .i64 0, .bool false]) w := by kernel_rfl
theorem as98_29 (v : Value) (w : World) : (Instr.typeAssert (.iface 98 v) 20 29 true).run Tryd.prog w = .ok (.tuple #[.int .u64 0, .bool false]) w := by kernel_rfl
theorem as98_95 (v : Value) (w : World) : (Instr.typeAssert (.iface 98 v) 20 95 true).run Tryd.prog w = .ok (.tuple #[.float .f64 0, .bool false]) w := by kernel_rfl
theorem as98_9 (v : Value) (w : World) : (Instr.typeAssert (.iface 98 v) 20 9 true).run Tryd.prog w = .ok (.tuple #[.string ByteArray.empty, .bool false]) w := by kernel_rfl
theorem as98_96 (v : Value) (w : World) : (Instr.typeAssert (.iface 98 v) 20 96 true).run Tryd.prog w = .ok (.tuple #[.string ByteArray.empty, .bool false]) w := by kernel_rfl
theorem as98_43 (v : Value) (w : World) : (Instr.typeAssert (.iface 98 v) 20 43 true).run Tryd.prog w = .ok (.tuple #[.agg #[.string ByteArray.empty], .bool false]) w := by kernel_rfl
theorem as98_98 (v : Value) (w : World) : (Instr.typeAssert (.iface 98 v) 20 98 true).run Tryd.prog w = .ok (.tuple #[v, .bool true]) w := by kernel_rfl
theorem as101_5 (v : Value) (w : World) : (Instr.typeAssert (.iface 101 v) 20 5 true).run Tryd.prog w = .ok (.tuple #[.int .u8 0, .bool false]) w := by kernel_rfl
theorem as101_90 (v : Value) (w : World) : (Instr.typeAssert (.iface 101 v) 20 90 true).run Tryd.prog w = .ok (.tuple #[.int .u8 0, .bool false]) w := by kernel_rfl
theorem as101_91 (v : Value) (w : World) : (Instr.typeAssert (.iface 101 v) 20 91 true).run Tryd.prog w = .ok (.tuple #[.int .u8 0, .bool false]) w := by kernel_rfl
theorem as101_92 (v : Value) (w : World) : (Instr.typeAssert (.iface 101 v) 20 92 true).run Tryd.prog w = .ok (.tuple #[.int .u8 0, .bool false]) w := by kernel_rfl
theorem as101_4 (v : Value) (w : World) : (Instr.typeAssert (.iface 101 v) 20 4 true).run Tryd.prog w = .ok (.tuple #[.bool false, .bool false]) w := by kernel_rfl
theorem as101_77 (v : Value) (w : World) : (Instr.typeAssert (.iface 101 v) 20 77 true).run Tryd.prog w = .ok (.tuple #[.int .i16 0, .bool false]) w := by kernel_rfl
theorem as101_93 (v : Value) (w : World) : (Instr.typeAssert (.iface 101 v) 20 93 true).run Tryd.prog w = .ok (.tuple #[.int .u16 0, .bool false]) w := by kernel_rfl
theorem as101_21 (v : Value) (w : World) : (Instr.typeAssert (.iface 101 v) 20 21 true).run Tryd.prog w = .ok (.tuple #[.int .i32 0, .bool false]) w := by kernel_rfl
theorem as101_94 (v : Value) (w : World) : (Instr.typeAssert (.iface 101 v) 20 94 true).run Tryd.prog w = .ok (.tuple #[.int .u32 0, .bool false]) w := by kernel_rfl
theorem as101_2 (v : Value) (w : World) : (Instr.typeAssert (.iface 101 v) 20 2 true).run Tryd.prog w = .ok (.tuple #[.int .i64 0, .bool false]) w := by kernel_rfl
theorem as101_29 (v : Value) (w : World) : (Instr.typeAssert (.iface 101 v) 20 29 true).run Tryd.prog w = .ok (.tuple #[.int .u64 0, .bool false]) w := by kernel_rfl
theorem as101_95 (v : Value) (w : World) : (Instr.typeAssert (.iface 101 v) 20 95 true).run Tryd.prog w = .ok (.tuple #[.float .f64 0, .bool false]) w := by kernel_rfl
theorem as101_9 (v : Value) (w : World) : (Instr.typeAssert (.iface 101 v) 20 9 true).run Tryd.prog w = .ok (.tuple #[.string ByteArray.empty, .bool false]) w := by kernel_rfl
theorem as101_96 (v : Value) (w : World) : (Instr.typeAssert (.iface 101 v) 20 96 true).run Tryd.prog w = .ok (.tuple #[.string ByteArray.empty, .bool false]) w := by kernel_rfl
theorem as101_43 (v : Value) (w : World) : (Instr.typeAssert (.iface 101 v) 20 43 true).run Tryd.prog w = .ok (.tuple #[.agg #[.string ByteArray.empty], .bool false]) w := by kernel_rfl
theorem as101_98 (v : Value) (w : World) : (Instr.typeAssert (.iface 101 v) 20 98 true).run Tryd.prog w = .ok (.tuple #[.agg #[.string ByteArray.empty, .nilIface], .bool false]) w := by kernel_rfl
theorem as101_99 (v : Value) (w : World) : (Instr.typeAssert (.iface 101 v) 20 99 true).run Tryd.prog w = .ok (.tuple #[.int .i32 0, .bool false]) w := by kernel_rfl
theorem as101_100 (v : Value) (w : World) : (Instr.typeAssert (.iface 101 v) 20 100 true).run Tryd.prog w = .ok (.tuple #[.int .u32 0, .bool false]) w := by kernel_rfl
theorem as101_50 (v : Value) (w : World) : (Instr.typeAssert (.iface 101 v) 20 50 true).run Tryd.prog w = .ok (.tuple #[.slice none 0 0, .bool false]) w := by kernel_rfl
theorem as101_55 (v : Value) (w : World) : (Instr.typeAssert (.iface 101 v) 20 55 true).run Tryd.prog w = .ok (.tuple #[.slice none 0 0, .bool false]) w := by kernel_rfl
theorem as101_101 (v : Value) (w : World) : (Instr.typeAssert (.iface 101 v) 20 101 true).run Tryd.prog w = .ok (.tuple #[v, .bool true]) w := by kernel_rfl
theorem as105_5 (v : Value) (w : World) : (Instr.typeAssert (.iface 105 v) 20 5 true).run Tryd.prog w = .ok (.tuple #[.int .u8 0, .bool false]) w := by kernel_rfl
theorem as105_90 (v : Value) (w : World) : (Instr.typeAssert (.iface 105 v) 20 90 true).run Tryd.prog w = .ok (.tuple #[.int .u8 0, .bool false]) w := by kernel_rfl
theorem as105_91 (v : Value) (w : World) : (Instr.typeAssert (.iface 105 v) 20 91 true).run Tryd.prog w = .ok (.tuple #[.int .u8 0, .bool false]) w := by kernel_rfl
theorem as105_92 (v : Value) (w : World) : (Instr.typeAssert (.iface 105 v) 20 92 true).run Tryd.prog w = .ok (.tuple #[.int .u8 0, .bool false]) w := by kernel_rfl
theorem as105_4 (v : Value) (w : World) : (Instr.typeAssert (.iface 105 v) 20 4 true).run Tryd.prog w = .ok (.tuple #[.bool false, .bool false]) w := by kernel_rfl
theorem as105_77 (v : Value) (w : World) : (Instr.typeAssert (.iface 105 v) 20 77 true).run Tryd.prog w = .ok (.tuple #[.int .i16 0, .bool false]) w := by kernel_rfl
theorem as105_93 (v : Value) (w : World) : (Instr.typeAssert (.iface 105 v) 20 93 true).run Tryd.prog w = .ok (.tuple #[.int .u16 0, .bool false]) w := by kernel_rfl
theorem as105_21 (v : Value) (w : World) : (Instr.typeAssert (.iface 105 v) 20 21 true).run Tryd.prog w = .ok (.tuple #[.int .i32 0, .bool false]) w := by kernel_rfl
theorem as105_94 (v : Value) (w : World) : (Instr.typeAssert (.iface 105 v) 20 94 true).run Tryd.prog w = .ok (.tuple #[.int .u32 0, .bool false]) w := by kernel_rfl
theorem as105_2 (v : Value) (w : World) : (Instr.typeAssert (.iface 105 v) 20 2 true).run Tryd.prog w = .ok (.tuple #[.int .i64 0, .bool false]) w := by kernel_rfl
theorem as105_29 (v : Value) (w : World) : (Instr.typeAssert (.iface 105 v) 20 29 true).run Tryd.prog w = .ok (.tuple #[.int .u64 0, .bool false]) w := by kernel_rfl
theorem as105_95 (v : Value) (w : World) : (Instr.typeAssert (.iface 105 v) 20 95 true).run Tryd.prog w = .ok (.tuple #[.float .f64 0, .bool false]) w := by kernel_rfl
theorem as105_9 (v : Value) (w : World) : (Instr.typeAssert (.iface 105 v) 20 9 true).run Tryd.prog w = .ok (.tuple #[.string ByteArray.empty, .bool false]) w := by kernel_rfl
theorem as105_96 (v : Value) (w : World) : (Instr.typeAssert (.iface 105 v) 20 96 true).run Tryd.prog w = .ok (.tuple #[.string ByteArray.empty, .bool false]) w := by kernel_rfl
theorem as105_43 (v : Value) (w : World) : (Instr.typeAssert (.iface 105 v) 20 43 true).run Tryd.prog w = .ok (.tuple #[.agg #[.string ByteArray.empty], .bool false]) w := by kernel_rfl
theorem as105_98 (v : Value) (w : World) : (Instr.typeAssert (.iface 105 v) 20 98 true).run Tryd.prog w = .ok (.tuple #[.agg #[.string ByteArray.empty, .nilIface], .bool false]) w := by kernel_rfl
theorem as105_99 (v : Value) (w : World) : (Instr.typeAssert (.iface 105 v) 20 99 true).run Tryd.prog w = .ok (.tuple #[.int .i32 0, .bool false]) w := by kernel_rfl
theorem as105_100 (v : Value) (w : World) : (Instr.typeAssert (.iface 105 v) 20 100 true).run Tryd.prog w = .ok (.tuple #[.int .u32 0, .bool false]) w := by kernel_rfl
theorem as105_50 (v : Value) (w : World) : (Instr.typeAssert (.iface 105 v) 20 50 true).run Tryd.prog w = .ok (.tuple #[.slice none 0 0, .bool false]) w := by kernel_rfl
theorem as105_55 (v : Value) (w : World) : (Instr.typeAssert (.iface 105 v) 20 55 true).run Tryd.prog w = .ok (.tuple #[.slice none 0 0, .bool false]) w := by kernel_rfl
theorem as105_101 (v : Value) (w : World) : (Instr.typeAssert (.iface 105 v) 20 101 true).run Tryd.prog w = .ok (.tuple #[.pointer none, .bool false]) w := by kernel_rfl
theorem as105_105 (v : Value) (w : World) : (Instr.typeAssert (.iface 105 v) 20 105 true).run Tryd.prog w = .ok (.tuple #[v, .bool true]) w := by kernel_rfl
theorem as110_5 (v : Value) (w : World) : (Instr.typeAssert (.iface 110 v) 20 5 true).run Tryd.prog w = .ok (.tuple #[.int .u8 0, .bool false]) w := by kernel_rfl
theorem as110_90 (v : Value) (w : World) : (Instr.typeAssert (.iface 110 v) 20 90 true).run Tryd.prog w = .ok (.tuple #[.int .u8 0, .bool false]) w := by kernel_rfl
theorem as110_91 (v : Value) (w : World) : (Instr.typeAssert (.iface 110 v) 20 91 true).run Tryd.prog w = .ok (.tuple #[.int .u8 0, .bool false]) w := by kernel_rfl
theorem as110_92 (v : Value) (w : World) : (Instr.typeAssert (.iface 110 v) 20 92 true).run Tryd.prog w = .ok (.tuple #[.int .u8 0, .bool false]) w := by kernel_rfl
theorem as110_4 (v : Value) (w : World) : (Instr.typeAssert (.iface 110 v) 20 4 true).run Tryd.prog w = .ok (.tuple #[.bool false, .bool false]) w := by kernel_rfl
theorem as110_77 (v : Value) (w : World) : (Instr.typeAssert (.iface 110 v) 20 77 true).run Tryd.prog w = .ok (.tuple #[.int .i16 0, .bool false]) w := by kernel_rfl
theorem as110_93 (v : Value) (w : World) : (Instr.typeAssert (.iface 110 v) 20 93 true).run Tryd.prog w = .ok (.tuple #[.int .u16 0, .bool false]) w := by kernel_rfl
theorem as110_21 (v : Value) (w : World) : (Instr.typeAssert (.iface 110 v) 20 21 true).run Tryd.prog w = .ok (.tuple #[.int .i32 0, .bool false]) w := by kernel_rfl
theorem as110_94 (v : Value) (w : World) : (Instr.typeAssert (.iface 110 v) 20 94 true).run Tryd.prog w = .ok (.tuple #[.int .u32 0, .bool false]) w := by kernel_rfl
theorem as110_2 (v : Value) (w : World) : (Instr.typeAssert (.iface 110 v) 20 2 true).run Tryd.prog w = .ok (.tuple #[.int .i64 0, .bool false]) w := by kernel_rfl
theorem as110_29 (v : Value) (w : World) : (Instr.typeAssert (.iface 110 v) 20 29 true).run Tryd.prog w = .ok (.tuple #[.int .u64 0, .bool false]) w := by kernel_rfl
theorem as110_95 (v : Value) (w : World) : (Instr.typeAssert (.iface 110 v) 20 95 true).run Tryd.prog w = .ok (.tuple #[.float .f64 0, .bool false]) w := by kernel_rfl
theorem as110_9 (v : Value) (w : World) : (Instr.typeAssert (.iface 110 v) 20 9 true).run Tryd.prog w = .ok (.tuple #[.string ByteArray.empty, .bool false]) w := by kernel_rfl
theorem as110_96 (v : Value) (w : World) : (Instr.typeAssert (.iface 110 v) 20 96 true).run Tryd.prog w = .ok (.tuple #[.string ByteArray.empty, .bool false]) w := by kernel_rfl
theorem as110_43 (v : Value) (w : World) : (Instr.typeAssert (.iface 110 v) 20 43 true).run Tryd.prog w = .ok (.tuple #[.agg #[.string ByteArray.empty], .bool false]) w := by kernel_rfl
theorem as110_98 (v : Value) (w : World) : (Instr.typeAssert (.iface 110 v) 20 98 true).run Tryd.prog w = .ok (.tuple #[.agg #[.string ByteArray.empty, .nilIface], .bool false]) w := by kernel_rfl
theorem as110_99 (v : Value) (w : World) : (Instr.typeAssert (.iface 110 v) 20 99 true).run Tryd.prog w = .ok (.tuple #[.int .i32 0, .bool false]) w := by kernel_rfl
theorem as110_100 (v : Value) (w : World) : (Instr.typeAssert (.iface 110 v) 20 100 true).run Tryd.prog w = .ok (.tuple #[.int .u32 0, .bool false]) w := by kernel_rfl
theorem as110_50 (v : Value) (w : World) : (Instr.typeAssert (.iface 110 v) 20 50 true).run Tryd.prog w = .ok (.tuple #[.slice none 0 0, .bool false]) w := by kernel_rfl
theorem as110_55 (v : Value) (w : World) : (Instr.typeAssert (.iface 110 v) 20 55 true).run Tryd.prog w = .ok (.tuple #[.slice none 0 0, .bool false]) w := by kernel_rfl
theorem as110_101 (v : Value) (w : World) : (Instr.typeAssert (.iface 110 v) 20 101 true).run Tryd.prog w = .ok (.tuple #[.pointer none, .bool false]) w := by kernel_rfl
theorem as110_105 (v : Value) (w : World) : (Instr.typeAssert (.iface 110 v) 20 105 true).run Tryd.prog w = .ok (.tuple #[.pointer none, .bool false]) w := by kernel_rfl
theorem as110_110 (v : Value) (w : World) : (Instr.typeAssert (.iface 110 v) 20 110 true).run Tryd.prog w = .ok (.tuple #[v, .bool true]) w := by kernel_rfl
theorem as105_105f (v : Value) (w : World) : (Instr.typeAssert (.iface 105 v) 20 105 false).run Tryd.prog w = .ok v w := by kernel_rfl
attribute [local go_sem] as5_5 as4_5 as4_90 as4_91 as4_92 as4_4 as77_5 as77_90 as77_91 as77_92 as77_4 as77_77 as93_5 as93_90 as93_91 as93_92 as93_4 as93_77 as93_93 as21_5 as21_90 as21_91 as21_92 as21_4 as21_77 as21_93 as21_21 as94_5 as94_90 as94_91 as94_92 as94_4 as94_77 as94_93 as94_21 as94_94 as2_5 as2_90 as2_91 as2_92 as2_4 as2_77 as2_93 as2_21 as2_94 as2_2 as29_5 as29_90 as29_91 as29_92 as29_4 as29_77 as29_93 as29_21 as29_94 as29_2 as29_29 as95_5 as95_90 as95_91 as95_92 as95_4 as95_77 as95_93 as95_21 as95_94 as95_2 as95_29 as95_95 as9_5 as9_90 as9_91 as9_92 as9_4 as9_77 as9_93 as9_21 as9_94 as9_2 as9_29 as9_95 as9_9 as96_5 as96_90 as96_91 as96_92 as96_4 as96_77 as96_93 as96_21 as96_94 as96_2 as96_29 as96_95 as96_9 as96_96 as43_5 as43_90 as43_91 as43_92 as43_4 as43_77 as43_93 as43_21 as43_94 as43_2 as43_29 as43_95 as43_9 as43_96 as43_43 as100_5 as100_90 as100_91 as100_92 as100_4 as100_77 as100_93 as100_21 as100_94 as100_2 as100_29 as100_95 as100_9 as100_96 as100_43 as100_98 as100_99 as100_100 as98_5 as98_90 as98_91 as98_92 as98_4 as98_77 as98_93 as98_21 as98_94 as98_2 as98_29 as98_95 as98_9 as98_96 as98_43 as98_98 as101_5 as101_90 as101_91 as101_92 as101_4 as101_77 as101_93 as101_21 as101_94 as101_2 as101_29 as101_95 as101_9 as101_96 as101_43 as101_98 as101_99 as101_100 as101_50 as101_55 as101_101 as105_5 as105_90 as105_91 as105_92 as105_4 as105_77 as105_93 as105_21 as105_94 as105_2 as105_29 as105_95 as105_9 as105_96 as105_43 as105_98 as105_99 as105_100 as105_50 as105_55 as105_101 as105_105 as110_5 as110_90 as110_91 as110_92 as110_4 as110_77 as110_93 as110_21 as110_94 as110_2 as110_29 as110_95 as110_9 as110_96 as110_43 as110_98 as110_99 as110_100 as110_50 as110_55 as110_101 as110_105 as110_110 as105_105f
/-- A value whose type's text is t, from w on. -/
def TyIs (w : World) (v : Value) (t : List UInt8) : Prop := ∀ W, Below w.heap.size w W → Calls Tryd.prog 36 #[v] W fun e w' => e = .returned (.string (Bs t)) ∧ Below W.heap.size W w'
theorem TyIs.up {w w' : World} {v : Value} {t : List UInt8} (h : TyIs w v t) (hb : Below w.heap.size w w') : TyIs w' v t := fun W hW => h W (below_step hb hW)
set_option maxRecDepth 100000 in
set_option maxHeartbeats 4000000 in
theorem zt_121 (x : Int) (w : World) : TyIs w (.iface 5 (.int .u8 x)) [121] := by
  intro W _
  have hr : (Bs [121]) = ⟨#[121]⟩ := rfl
  rw [hr]
  go_enter Tryd.func36, Tryd.ntmps36
  go_wp2
  go_ret
  exact ⟨rfl, by first | exact Below.refl _ _ | exact below_alloc (Below.refl _ _) _⟩
set_option maxRecDepth 100000 in
set_option maxHeartbeats 4000000 in
theorem zt_98 (x : Bool) (w : World) : TyIs w (.iface 4 (.bool x)) [98] := by
  intro W _
  have hr : (Bs [98]) = ⟨#[98]⟩ := rfl
  rw [hr]
  go_enter Tryd.func36, Tryd.ntmps36
  go_wp2
  go_ret
  exact ⟨rfl, by first | exact Below.refl _ _ | exact below_alloc (Below.refl _ _) _⟩
set_option maxRecDepth 100000 in
set_option maxHeartbeats 4000000 in
theorem zt_110 (x : Int) (w : World) : TyIs w (.iface 77 (.int .i16 x)) [110] := by
  intro W _
  have hr : (Bs [110]) = ⟨#[110]⟩ := rfl
  rw [hr]
  go_enter Tryd.func36, Tryd.ntmps36
  go_wp2
  go_ret
  exact ⟨rfl, by first | exact Below.refl _ _ | exact below_alloc (Below.refl _ _) _⟩
set_option maxRecDepth 100000 in
set_option maxHeartbeats 4000000 in
theorem zt_113 (x : Int) (w : World) : TyIs w (.iface 93 (.int .u16 x)) [113] := by
  intro W _
  have hr : (Bs [113]) = ⟨#[113]⟩ := rfl
  rw [hr]
  go_enter Tryd.func36, Tryd.ntmps36
  go_wp2
  go_ret
  exact ⟨rfl, by first | exact Below.refl _ _ | exact below_alloc (Below.refl _ _) _⟩
set_option maxRecDepth 100000 in
set_option maxHeartbeats 4000000 in
theorem zt_105 (x : Int) (w : World) : TyIs w (.iface 21 (.int .i32 x)) [105] := by
  intro W _
  have hr : (Bs [105]) = ⟨#[105]⟩ := rfl
  rw [hr]
  go_enter Tryd.func36, Tryd.ntmps36
  go_wp2
  go_ret
  exact ⟨rfl, by first | exact Below.refl _ _ | exact below_alloc (Below.refl _ _) _⟩
set_option maxRecDepth 100000 in
set_option maxHeartbeats 4000000 in
theorem zt_117 (x : Int) (w : World) : TyIs w (.iface 94 (.int .u32 x)) [117] := by
  intro W _
  have hr : (Bs [117]) = ⟨#[117]⟩ := rfl
  rw [hr]
  go_enter Tryd.func36, Tryd.ntmps36
  go_wp2
  go_ret
  exact ⟨rfl, by first | exact Below.refl _ _ | exact below_alloc (Below.refl _ _) _⟩
set_option maxRecDepth 100000 in
set_option maxHeartbeats 4000000 in
theorem zt_120 (x : Int) (w : World) : TyIs w (.iface 2 (.int .i64 x)) [120] := by
  intro W _
  have hr : (Bs [120]) = ⟨#[120]⟩ := rfl
  rw [hr]
  go_enter Tryd.func36, Tryd.ntmps36
  go_wp2
  go_ret
  exact ⟨rfl, by first | exact Below.refl _ _ | exact below_alloc (Below.refl _ _) _⟩
set_option maxRecDepth 100000 in
set_option maxHeartbeats 4000000 in
theorem zt_116 (x : Int) (w : World) : TyIs w (.iface 29 (.int .u64 x)) [116] := by
  intro W _
  have hr : (Bs [116]) = ⟨#[116]⟩ := rfl
  rw [hr]
  go_enter Tryd.func36, Tryd.ntmps36
  go_wp2
  go_ret
  exact ⟨rfl, by first | exact Below.refl _ _ | exact below_alloc (Below.refl _ _) _⟩
set_option maxRecDepth 100000 in
set_option maxHeartbeats 4000000 in
theorem zt_100 (x : Nat) (w : World) : TyIs w (.iface 95 (.float .f64 x)) [100] := by
  intro W _
  have hr : (Bs [100]) = ⟨#[100]⟩ := rfl
  rw [hr]
  go_enter Tryd.func36, Tryd.ntmps36
  go_wp2
  go_ret
  exact ⟨rfl, by first | exact Below.refl _ _ | exact below_alloc (Below.refl _ _) _⟩
set_option maxRecDepth 100000 in
set_option maxHeartbeats 4000000 in
theorem zt_115 (x : ByteArray) (w : World) : TyIs w (.iface 9 (.string x)) [115] := by
  intro W _
  have hr : (Bs [115]) = ⟨#[115]⟩ := rfl
  rw [hr]
  go_enter Tryd.func36, Tryd.ntmps36
  go_wp2
  go_ret
  exact ⟨rfl, by first | exact Below.refl _ _ | exact below_alloc (Below.refl _ _) _⟩
set_option maxRecDepth 100000 in
set_option maxHeartbeats 4000000 in
theorem zt_111 (x : ByteArray) (w : World) : TyIs w (.iface 96 (.string x)) [111] := by
  intro W _
  have hr : (Bs [111]) = ⟨#[111]⟩ := rfl
  rw [hr]
  go_enter Tryd.func36, Tryd.ntmps36
  go_wp2
  go_ret
  exact ⟨rfl, by first | exact Below.refl _ _ | exact below_alloc (Below.refl _ _) _⟩
set_option maxRecDepth 100000 in
set_option maxHeartbeats 4000000 in
theorem zt_103 (x : ByteArray) (w : World) : TyIs w (.iface 43 (.agg #[.string x])) [103] := by
  intro W _
  have hr : (Bs [103]) = ⟨#[103]⟩ := rfl
  rw [hr]
  go_enter Tryd.func36, Tryd.ntmps36
  go_wp2
  go_ret
  exact ⟨rfl, by first | exact Below.refl _ _ | exact below_alloc (Below.refl _ _) _⟩
set_option maxRecDepth 100000 in
set_option maxHeartbeats 4000000 in
theorem zt_104 (x : Int) (w : World) : TyIs w (.iface 100 (.int .u32 x)) [104] := by
  intro W _
  have hr : (Bs [104]) = ⟨#[104]⟩ := rfl
  rw [hr]
  go_enter Tryd.func36, Tryd.ntmps36
  go_wp2
  go_ret
  exact ⟨rfl, by first | exact Below.refl _ _ | exact below_alloc (Below.refl _ _) _⟩
set_option maxRecDepth 100000 in
set_option maxHeartbeats 4000000 in
theorem zt_118 (x : ByteArray) (d : TypeId) (u : Value) (w : World) : TyIs w (.iface 98 (.agg #[.string x, .iface d u])) [118] := by
  intro W _
  have hr : (Bs [118]) = ⟨#[118]⟩ := rfl
  rw [hr]
  go_enter Tryd.func36, Tryd.ntmps36
  go_wp2
  go_ret
  exact ⟨rfl, by first | exact Below.refl _ _ | exact below_alloc (Below.refl _ _) _⟩
set_option maxRecDepth 100000 in
set_option maxHeartbeats 4000000 in
theorem zt_list (w : World) (L : Nat) (E : List UInt8) (v : Value) (hE : E.length ≤ 100000) (h : w.heap[L]? = some (.cells #[.string (Bs E), v] 104 (0, 0))) : TyIs w (.iface 101 (.pointer (some ⟨L, 0, none⟩))) (91 :: E) := by
  intro W hW
  have h2 := up_heap2 hW h
  have c0 : W.cell? ⟨L, 0, none⟩ = some (.string (Bs E)) := (cell_of_row W L 0 _ 104 (0, 0) h2).trans rfl
  have hs : dbus_zzSliceOf.f (Bs E) = some (Bs (91 :: E)) := by
    unfold dbus_zzSliceOf.f
    rw [if_pos (by rw [Bs_size]; omega)]
    exact congrArg some (Bs_app [91] E)
  clear h h2 hW
  go_enter Tryd.func36, Tryd.ntmps36
  go_wp2_with fail
  refine (dbus_zzSliceOf.calls _ _ _ hs).mono ?_
  rintro e1 w2 ⟨rfl, k1, rfl⟩
  go_wp2
  go_ret
  exact ⟨rfl, pw_below_drewN (Below.refl _ _) _⟩
set_option maxRecDepth 100000 in
set_option maxHeartbeats 4000000 in
theorem zt_dict (w : World) (L : Nat) (c : UInt8) (E : List UInt8) (v2 v3 : Value) (hE : E.length ≤ 100000) (h : w.heap[L]? = some (.cells #[.string (Bs [c]), .string (Bs E), v2, v3] 108 (0, 0))) : TyIs w (.iface 105 (.pointer (some ⟨L, 0, none⟩))) (123 :: c :: E) := by
  intro W hW
  have h2 := up_heap2 hW h
  have c0 : W.cell? ⟨L, 0, none⟩ = some (.string (Bs [c])) := (cell_of_row W L 0 _ 108 (0, 0) h2).trans rfl
  have c1 : W.cell? ⟨L, 1, none⟩ = some (.string (Bs E)) := (cell_of_row W L 1 _ 108 (0, 0) h2).trans rfl
  have hs : dbus_zzMapOf.f (Bs [c]) (Bs E) = some (Bs (123 :: c :: E)) := by
    unfold dbus_zzMapOf.f
    rw [if_pos (by rw [Bs_size]; simp only [List.length_singleton]; omega)]
    have e1 : (⟨#[123]⟩ : ByteArray) ++ Bs [c] = Bs [123, c] := Bs_app [123] [c]
    rw [e1, if_pos (by rw [Bs_size, Bs_size]; simp only [List.length_cons, List.length_nil]; omega), Bs_app]
    rfl
  have HS := Aside0.mk hs
  clear h h2 hW hs
  go_enter Tryd.func36, Tryd.ntmps36
  go_wp2_with fail
  go_region_with (go_at_call 55; refine (dbus_zzMapOf.calls _ _ _ _ HS.out).mono ?_; rintro e1 w2 ⟨rfl, k1, rfl⟩)
  all_goals
    go_wp2
    go_ret
    exact ⟨rfl, by repeat (first | exact Below.refl _ _ | apply pw_below_drewN | apply below_drew1)⟩
set_option maxRecDepth 100000 in
set_option maxHeartbeats 4000000 in
theorem zt_rec (w : World) (A : Option Addr) (n c : Nat) (vs : List Value) (ts : List (List UInt8)) (hn : vs.length = n) (ht : ts.length = n) (hn2 : n ≤ 1000) (hl : ts.flatten.length ≤ 100000) (hA : ∀ j v, vs[j]? = some v → ∃ ad, A = some ad ∧ w.cell? (ad.add j) = some v) (hT : ∀ (j : Nat) v t, vs[j]? = some v → ts[j]? = some t → TyIs w v t) : TyIs w (.iface 110 (.agg #[.slice A n c])) (40 :: (ts.flatten ++ [41])) := by
  intro W hW
  have HA := Aside0.mk hA
  have HT := Aside0.mk hT
  have HW := Aside0.mk hW
  clear hA hT hW
  go_enter Tryd.func36, Tryd.ntmps36
  go_wp2_with fail
  go_loopg [24, 116] n (fun kq v24 v116 wr => ∃ (i : Nat), v24 = .string (Bs (40 :: (ts.take i).flatten)) ∧ v116 = .int .i64 (i : Int) ∧ i ≤ n ∧ Aside0 (kq = n - i ∧ Below W.heap.size W wr))
  case atStart => exact ⟨0, by first | rfl | simp, rfl, by omega, ⟨rfl, below_alloc (Below.refl _ _) _⟩⟩
  case round =>
    obtain ⟨i, rfl, rfl, hi, HI⟩ := hrel
    have HI0 := Aside0.mk HI.out.1
    by_cases hlt : i < n
    · have hd : decide ((i : Int) < (n : Int)) = true := by simpa using hlt
      have hwi : IntKind.i64.wrap ((i : Int) + 1) = ((i + 1 : Nat) : Int) := by rw [IntKind.wrap_i64]; omega
      obtain ⟨v, hv⟩ : ∃ v, vs[i]? = some v := ⟨vs[i], List.getElem?_eq_getElem (by omega)⟩
      obtain ⟨t, hti⟩ : ∃ t, ts[i]? = some t := ⟨ts[i], List.getElem?_eq_getElem (by omega)⟩
      obtain ⟨ad, rfl, hc⟩ := HA.out i v hv
      replace hc := pw_cell_below (below_step HW.out HI.out.2) hc
      have HTi := Aside0.mk (HT.out i v t hv hti)
      have hfl : (ts.take (i + 1)).flatten = (ts.take i).flatten ++ t := by rw [List.take_add_one, hti]; simp
      have hcat : Bs (40 :: (ts.take i).flatten) ++ Bs t = Bs (40 :: (ts.take (i + 1)).flatten) := by rw [Bs_app, hfl]; rfl
      have hle : (ts.take (i + 1)).flatten.length ≤ 100000 := by
        have h1 : (ts.take (i + 1)).flatten.length ≤ ts.flatten.length := by
          conv => rhs; rw [← List.take_append_drop (i + 1) ts]
          rw [List.flatten_append, List.length_append]; omega
        omega
      have hsz : (9223372036854775807 < (Bs (40 :: (ts.take i).flatten)).size + (Bs t).size) = False := eq_false (by
        rw [hfl, List.length_append] at hle
        rw [Bs_size, Bs_size, List.length_cons]; omega)
      clear hv hti hfl hle
      go_wp2_with fail
      refine (HTi.out _ (below_step HW.out HI.out.2)).mono ?_
      rintro e1 w2 ⟨rfl, hb⟩
      have HB2 := Aside0.mk (below_step HI.out.2 hb)
      clear hb
      go_wp2_with fail
      go_roundg (n - (i + 1))
      case measure => have := HI0.out; omega
      case rel => exact ⟨i + 1, by first | rfl | simp, by first | rfl | simp, by omega, ⟨rfl, HB2.out⟩⟩
    · have hd : decide ((i : Int) < (n : Int)) = false := by simpa using hlt
      have hie : ts.take i = ts := List.take_of_length_le (by omega)
      rw [hie]
      have hcat : Bs (40 :: ts.flatten) ++ (⟨#[41]⟩ : ByteArray) = Bs (40 :: (ts.flatten ++ [41])) := Bs_app (40 :: ts.flatten) [41]
      have hsz : (9223372036854775807 < (Bs (40 :: ts.flatten)).size + 1) = False := eq_false (by rw [Bs_size, List.length_cons]; omega)
      clear hie
      go_wp2_with fail
      go_ret
      exact ⟨rfl, HI.out.2⟩


end Go.Proofs.YtboioihppjhjcaaDoor.MFnSgOf

namespace Go.Proofs.YtboioihppjhjcaaDoor.MFnSgOf
open Go.RowKit Go.Proofs.YtboioihppjhjcaaDoorW.PrintWords Go.Proofs.YtboioihppjhjcaaDoorW.PrintLast Go.Proofs.YtboioihppjhjcaaDoorW.PrintMore
attribute [local go_sem] max2_int min2_int max_two min_two max_three min_three max_four min_four
set_option linter.unusedVariables false
set_option linter.unusedSimpArgs false

open Go.Proofs.YtboioihppjhjcaaDoor.Hlp Go.Proofs.YtboioihppjhjcaaDoor.SgT Go.Proofs.YtboioihppjhjcaaDoor.SgZ
theorem gs_one (c : UInt8) (hc : oneC c = true) (a s d : Int) (ha : a ≤ 32) (hs : s ≤ 32) (hd : d ≤ 32) : GS [c] [c] a s d := by
  intro g w h
  simp only [oneC, basicC, Bool.or_eq_true, beq_iff_eq] at hc
  rcases hc with (((((((((((((hc | hc) | hc) | hc) | hc) | hc) | hc) | hc) | hc) | hc) | hc) | hc) | hc) | hc) <;> subst hc
  · exact gs_121 g a s d w h ha hs hd
  · exact gs_98 g a s d w h ha hs hd
  · exact gs_110 g a s d w h ha hs hd
  · exact gs_113 g a s d w h ha hs hd
  · exact gs_105 g a s d w h ha hs hd
  · exact gs_117 g a s d w h ha hs hd
  · exact gs_120 g a s d w h ha hs hd
  · exact gs_116 g a s d w h ha hs hd
  · exact gs_100 g a s d w h ha hs hd
  · exact gs_115 g a s d w h ha hs hd
  · exact gs_111 g a s d w h ha hs hd
  · exact gs_103 g a s d w h ha hs hd
  · exact gs_104 g a s d w h ha hs hd
  · exact gs_118 g a s d w h ha hs hd
theorem key_one {c : UInt8} (h : keyC c = true) : oneC c = true := by
  simp only [keyC, Bool.and_eq_true] at h
  simp [oneC, h.1.1]
theorem sum_len (zs : List (List UInt8 × List UInt8)) (z : List UInt8 × List UInt8) (h : z ∈ zs) : z.1.length ≤ (zs.map Prod.fst).flatten.length := by
  induction zs with
  | nil => cases h
  | cons y ys ih =>
    rw [List.map_cons, List.flatten_cons, List.length_append]
    rcases List.mem_cons.1 h with rfl | h
    · omega
    · have := ih h; omega
theorem num_len {A B E : Int} (zs : List (List UInt8 × List UInt8)) (h : ∀ z ∈ zs, Z A B E z.1 z.2) : zs.length ≤ (zs.map Prod.fst).flatten.length ∧ (zs.map Prod.snd).flatten.length ≤ (zs.map Prod.fst).flatten.length := by
  induction zs with
  | nil => simp
  | cons y ys ih =>
    have h1 := (h y List.mem_cons_self).len
    have h2 := ih fun z hz => h z (List.mem_cons_of_mem _ hz)
    simp only [List.map_cons, List.flatten_cons, List.length_append, List.length_cons]
    omega
/-- getSignature turns a type's text into its signature. -/
theorem gs_z {A B E : Int} {l t : List UInt8} (z : Z A B E l t) : ∀ a s d : Int, A = 32 - a → B = 32 - s → E = 32 - d → 0 ≤ a → 0 ≤ s → 0 ≤ d → l.length ≤ 255 → GS l t a s d := by
  refine Z.ind (P := fun A B E l t => ∀ a s d : Int, A = 32 - a → B = 32 - s → E = 32 - d → 0 ≤ a → 0 ≤ s → 0 ≤ d → l.length ≤ 255 → GS l t a s d) ?_ ?_ ?_ ?_ z
  · intro A B E c h1 h2 h3 hc a s d e1 e2 e3 ha hs hd _
    exact gs_one c hc a s d (by omega) (by omega) (by omega)
  · intro A B E x y h1 h2 h3 hz ih a s d e1 e2 e3 ha hs hd hl
    rw [List.length_cons] at hl
    exact gs_arr x y a s d ha hs hd (by omega) (by omega) (by omega) (by omega) (ih (a + 1) s d (by omega) (by omega) (by omega) (by omega) hs hd (by omega))
  · intro A B E c x y h1 h2 h3 hc hz ih a s d e1 e2 e3 ha hs hd hl
    simp only [List.length_cons, List.length_append, List.length_nil] at hl
    have hp := hz.pos
    exact gs_dict c hc x y a s d ha hs hd (by omega) (by omega) (by omega) (by omega) (gs_one c (key_one hc) _ _ _ (by omega) (by omega) (by omega)) (ih (a + 1) s (d + 1) (by omega) (by omega) (by omega) (by omega) hs (by omega) (by omega))
  · intro A B E zs h1 h2 h3 hn hz ih a s d e1 e2 e3 ha hs hd hl
    simp only [List.length_cons, List.length_append, List.length_nil] at hl
    have hnl := num_len zs hz
    have h0 : 0 < zs.length := List.length_pos_iff.2 hn
    obtain ⟨K, hK⟩ := zfields zs hz (by omega)
    refine gs_str zs (by omega) _ ⟨K, hK K (Nat.le_refl _)⟩ a s d ha hs hd (by omega) (by omega) (by omega) (by omega) (by omega) fun z hzm => ?_
    have := sum_len zs z hzm
    exact ih z hzm a (s + 1) d (by omega) (by omega) (by omega) ha (by omega) hd (by omega)
theorem inf43 : (Tryd.prog.info? 43).map (·.size) = some 1 := by kernel_rfl
theorem inf98 : (Tryd.prog.info? 98).map (·.size) = some 2 := by kernel_rfl
theorem inf114 : (Tryd.prog.info? 114).map (·.size) = some 2 := by kernel_rfl
/-- Cells that hold values. -/
def Vals (w : World) (A : Option Addr) (vs : List Value) : Prop := ∀ j v, vs[j]? = some v → ∃ ad, A = some ad ∧ w.cell? (ad.add j) = some v
theorem Vals.up {w w' : World} {A : Option Addr} {vs : List Value} (h : Vals w A vs) (hb : Below w.heap.size w w') : Vals w' A vs := fun j v hv => by
  obtain ⟨ad, e, hc⟩ := h j v hv
  exact ⟨ad, e, pw_cell_below hb hc⟩
set_option maxRecDepth 100000 in
set_option maxHeartbeats 4000000 in
/-- SignatureOf values of such types. -/
theorem so_calls (w : World) (A : Option Addr) (n cp : Nat) (vs : List Value) (zs : List (List UInt8 × List UInt8)) (hn : vs.length = n) (hzn : zs.length = n) (hn2 : n ≤ 100000) (hl : (zs.map Prod.fst).flatten.length ≤ 100000) (hA : Vals w A vs) (hT : ∀ (j : Nat) v z, vs[j]? = some v → zs[j]? = some z → TyIs w v z.2) (hz : ∀ z ∈ zs, Z 32 32 32 z.1 z.2 ∧ z.1.length ≤ 255) :
    Calls Tryd.prog 25 #[.slice A n cp] w fun e w' => e = .returned (.agg #[.string (Bs (zs.map Prod.fst).flatten)]) ∧ Below w.heap.size w w' := by
  have HA := Aside0.mk hA
  have HT := Aside0.mk hT
  have HZ := Aside0.mk hz
  have k0 := heap_alloc_new w (.cells #[.string ⟨#[]⟩] 43)
  have hB := below_alloc (Below.refl w.heap.size w) (.cells #[.string ⟨#[]⟩] 43)
  clear hA hT hz
  go_enter Tryd.func25, Tryd.ntmps25
  go_wp2_with fail
  generalize w.alloc (.cells #[.string ⟨#[]⟩] 43) = W at *
  have HB := Aside0.mk hB
  have K0 := Aside0.mk k0
  clear hB k0
  go_loopg [3, 8] n (fun kq v3 v8 wr => ∃ (i : Nat), v3 = .string (Bs (List.take i (zs.map Prod.fst)).flatten) ∧ v8 = .int .i64 (i : Int) ∧ i ≤ n ∧ Aside0 (kq = n - i ∧ Below W.heap.size W wr))
  case atStart => exact ⟨0, by first | rfl | simp, rfl, by omega, ⟨rfl, Below.refl _ _⟩⟩
  case round =>
    obtain ⟨i, rfl, rfl, hi, HI⟩ := hrel
    have HI0 := Aside0.mk HI.out.1
    by_cases hlt : i < n
    · have hd : decide ((i : Int) < (n : Int)) = true := by simpa using hlt
      have hwi : IntKind.i64.wrap ((i : Int) + 1) = ((i + 1 : Nat) : Int) := by rw [IntKind.wrap_i64]; omega
      obtain ⟨v, hv⟩ : ∃ v, vs[i]? = some v := ⟨vs[i], List.getElem?_eq_getElem (by omega)⟩
      obtain ⟨z, hzi⟩ : ∃ z, zs[i]? = some z := ⟨zs[i], List.getElem?_eq_getElem (by omega)⟩
      obtain ⟨ad, rfl, hc⟩ := HA.out i v hv
      have hbw := below_step HB.out HI.out.2
      replace hc := pw_cell_below hbw hc
      have HTi := Aside0.mk (HT.out i v z hv hzi)
      have HZi := Aside0.mk (HZ.out z (List.mem_of_getElem? hzi))
      have hcat : Bs (List.take i (zs.map Prod.fst)).flatten ++ Bs z.1 = Bs (List.take (i + 1) (zs.map Prod.fst)).flatten := by rw [Bs_app, flat_snoc zs i z hzi]
      have hsz : (9223372036854775807 < (Bs (List.take i (zs.map Prod.fst)).flatten).size + (Bs z.1).size) = False := eq_false (by
        have h1 := flat_le zs (i + 1)
        rw [flat_snoc zs i z hzi, List.length_append] at h1
        rw [Bs_size, Bs_size]; omega)
      have HBW := Aside0.mk hbw
      clear hv hzi hbw
      go_wp2_with fail
      refine (HTi.out _ HBW.out).mono ?_
      rintro e1 w2 ⟨rfl, hb⟩
      have HI2 := Aside0.mk (below_step HI.out.2 hb)
      clear hb
      go_wp2_with fail
      refine (gs_z HZi.out.1 0 0 0 (by omega) (by omega) (by omega) (by omega) (by omega) (by omega) HZi.out.2 _ _ (by refine ⟨?_, ?_, ?_⟩ <;> simp)).mono ?_
      rintro e1 w3 ⟨rfl, hb⟩
      have HI3 := Aside0.mk (below_step (below_alloc HI2.out _) hb)
      clear hb
      go_wp2_with fail
      go_roundg (n - (i + 1))
      case measure => have := HI0.out; omega
      case rel => exact ⟨i + 1, by first | rfl | simp, by first | rfl | simp, by omega, ⟨rfl, HI3.out⟩⟩
    · have hd : decide ((i : Int) < (n : Int)) = false := by simpa using hlt
      have hie : List.take i (zs.map Prod.fst) = zs.map Prod.fst := List.take_of_length_le (by rw [List.length_map]; omega)
      rw [hie]
      have k4 := up_heap2 HI.out.2 K0.out
      have c4 : wr.cell? ⟨w.heap.size, 0, none⟩ = some (.string ⟨#[]⟩) := (cell_of_row wr w.heap.size 0 _ 43 (0, 0) k4).trans rfl
      have z4 := frozen_of_row wr w.heap.size 0 _ 43 k4
      have HB4 := Aside0.mk (below_step HB.out HI.out.2)
      have K4 := Aside0.mk k4
      clear hie k4
      go_wp2_with fail
      refine bodyPost_ret (results_cell_row rfl _ _ w.heap.size 43 _ (0, 0) _ rfl (heap_setCell_same _ _ 0 _ _ _ K4.out) Tryd.underlying43 rfl inf43) rfl ?_
      exact ⟨rfl, HB4.out.setCell (Nat.le_refl _) _⟩

end Go.Proofs.YtboioihppjhjcaaDoor.MFnSgOf

namespace Go.Proofs.YtboioihppjhjcaaDoor.MFnSgOf
open Go.RowKit Go.Proofs.YtboioihppjhjcaaDoorW.PrintWords Go.Proofs.YtboioihppjhjcaaDoorW.PrintLast Go.Proofs.YtboioihppjhjcaaDoorW.PrintMore
attribute [local go_sem] max2_int min2_int max_two min_two max_three min_three max_four min_four
set_option linter.unusedVariables false
set_option linter.unusedSimpArgs false

open Go.Proofs.YtboioihppjhjcaaDoor.Hlp Go.Proofs.YtboioihppjhjcaaDoor.SgT Go.Proofs.YtboioihppjhjcaaDoor.SgZ
set_option maxRecDepth 100000 in
set_option maxHeartbeats 4000000 in
theorem mvs_calls (d : TypeId) (u : Value) (l : ByteArray) (w : World) : Calls Tryd.prog 66 #[.iface d u, .agg #[.string l]] w fun e w' => e = .returned (.agg #[.string l, .iface d u]) ∧ Below w.heap.size w w' := by
  have k1 := heap_alloc_new (w.alloc (.cells #[.string l] 43)) (.cells #[.string l, .iface d u] 98)
  rw [World.size_alloc] at k1
  go_enter Tryd.func66, Tryd.ntmps66
  go_wp2
  refine bodyPost_ret (results_cell_row rfl _ _ (w.heap.size + 1) 98 _ (0, 0) _ rfl k1 Tryd.underlying98 rfl inf98) rfl ?_
  exact ⟨rfl, below_alloc (below_alloc (Below.refl _ _) _) _⟩
set_option maxRecDepth 100000 in
set_option maxHeartbeats 4000000 in
theorem mv_calls (d : TypeId) (u : Value) (l t : List UInt8) (hz : Z 32 32 32 l t) (hl : l.length ≤ 255) (w : World) (hT : TyIs w (.iface d u) t) : Calls Tryd.prog 57 #[.iface d u] w fun e w' => e = .returned (.agg #[.string (Bs l), .iface d u]) ∧ Below w.heap.size w w' := by
  have k0 := heap_alloc_new w (.cells #[.string ⟨#[]⟩, .nilIface] 98)
  have hB := below_alloc (Below.refl w.heap.size w) (.cells #[.string ⟨#[]⟩, .nilIface] 98)
  have hT2 := hT.up hB
  clear hT
  go_enter Tryd.func57, Tryd.ntmps57
  go_wp2_with fail
  have hWs : (w.alloc (.cells #[.string ⟨#[]⟩, .nilIface] 98)).heap.size = w.heap.size + 1 := by simp
  generalize w.alloc (.cells #[.string ⟨#[]⟩, .nilIface] 98) = W at *
  have k1 := heap_alloc_new W (.cells #[.iface d u] 20)
  rw [hWs] at k1
  have hb1 := below_alloc (Below.refl W.heap.size W) (.cells #[.iface d u] 20)
  have hT3 := hT2.up hb1
  have k01 := up_heap2 hb1 k0
  have hB1 := below_step hB hb1
  generalize W.alloc (.cells #[.iface d u] 20) = W1 at *
  have hc1 := (cell_of_row W1 (w.heap.size + 1) 0 _ 20 (0, 0) k1).trans rfl
  have hso := so_calls W1 (some ⟨w.heap.size + 1, 0, none⟩) 1 1 [.iface d u] [(l, t)] rfl rfl (by omega) (by simp; omega) (fun j v hv => by
    cases j with
    | zero =>
      have : v = .iface d u := by simpa using hv.symm
      subst this
      exact ⟨_, rfl, hc1⟩
    | succ j => simp at hv) (fun j v z hv hzj => by
    cases j with
    | zero =>
      have h1 : v = .iface d u := by simpa using hv.symm
      have h2 : z = (l, t) := by simpa using hzj.symm
      subst h1 h2
      exact hT3
    | succ j => simp at hv) (fun z hzm => by
    have h2 : z = (l, t) := by simpa using hzm
    subst h2
    exact ⟨hz, hl⟩)
  have hbs : Bs ((([(l, t)] : List (List UInt8 × List UInt8)).map Prod.fst).flatten) = Bs l := by simp
  rw [hbs] at hso
  refine hso.mono ?_
  rintro e1 w2 ⟨rfl, hb2⟩
  have k02 := up_heap2 hb2 k01
  have HB2 := Aside0.mk (below_step hB1 hb2)
  have K02 := Aside0.mk k02
  clear hb2 k02 k01 k0 k1 hB hB1 hT2 hT3 hso hb1
  go_wp2_with fail
  refine (mvs_calls d u (Bs l) _).mono ?_
  rintro e1 w3 ⟨rfl, hb3⟩
  have k3 := up_heap2 hb3 K02.out
  have c0 : w3.cell? ⟨w.heap.size, 0, none⟩ = some (.string ⟨#[]⟩) := (cell_of_row w3 w.heap.size 0 _ 98 (0, 0) k3).trans rfl
  have c1 : w3.cell? ⟨w.heap.size, 1, none⟩ = some .nilIface := (cell_of_row w3 w.heap.size 1 _ 98 (0, 0) k3).trans rfl
  have z0 := frozen_of_row w3 w.heap.size 0 _ 98 k3
  have z1 := frozen_of_row w3 w.heap.size 1 _ 98 k3
  have h1 := heap_setCell_same _ _ 1 _ _ (.iface d u) (heap_setCell_same _ _ 0 _ _ (.string (Bs l)) k3)
  have H1 := Aside0.mk h1
  have HB3 := Aside0.mk (below_step HB2.out hb3)
  clear hb3 k3 h1
  go_wp2_with fail
  refine bodyPost_ret (results_cell_row rfl _ _ w.heap.size 98 _ (0, 0) _ rfl H1.out Tryd.underlying98 rfl inf98) rfl ?_
  exact ⟨rfl, (HB3.out.setCell (Nat.le_refl _) _).setCell (Nat.le_refl _) _⟩
set_option maxRecDepth 100000 in
set_option maxHeartbeats 4000000 in
theorem vo_calls (d : TypeId) (u : Value) (t : List UInt8) (w : World) (hT : TyIs w (.iface d u) t) : Calls Tryd.prog 61 #[.iface d u] w fun e w' => e = .returned (.agg #[.iface d u, .string (Bs t)]) ∧ Below w.heap.size w w' := by
  have k0 := heap_alloc_new w (.cells #[.nilIface, .string ⟨#[]⟩] 114)
  have hB := below_alloc (Below.refl w.heap.size w) (.cells #[.nilIface, .string ⟨#[]⟩] 114)
  have HT := Aside0.mk hT
  clear hT
  go_enter Tryd.func61, Tryd.ntmps61
  go_wp2_with fail
  generalize w.alloc (.cells #[.nilIface, .string ⟨#[]⟩] 114) = W at *
  refine (HT.out _ hB).mono ?_
  rintro e1 w3 ⟨rfl, hb3⟩
  have k3 := up_heap2 hb3 k0
  have c0 : w3.cell? ⟨w.heap.size, 0, none⟩ = some .nilIface := (cell_of_row w3 w.heap.size 0 _ 114 (0, 0) k3).trans rfl
  have c1 : w3.cell? ⟨w.heap.size, 1, none⟩ = some (.string ⟨#[]⟩) := (cell_of_row w3 w.heap.size 1 _ 114 (0, 0) k3).trans rfl
  have z0 := frozen_of_row w3 w.heap.size 0 _ 114 k3
  have z1 := frozen_of_row w3 w.heap.size 1 _ 114 k3
  have h1 := heap_setCell_same _ _ 1 _ _ (.string (Bs t)) (heap_setCell_same _ _ 0 _ _ (.iface d u) k3)
  have H1 := Aside0.mk h1
  have HB3 := Aside0.mk (below_step hB hb3)
  clear hb3 k3 h1 hB k0
  go_wp2_with fail
  refine bodyPost_ret (results_cell_row rfl _ _ w.heap.size 114 _ (0, 0) _ rfl H1.out Tryd.underlying114 rfl inf114) rfl ?_
  exact ⟨rfl, (HB3.out.setCell (Nat.le_refl _) _).setCell (Nat.le_refl _) _⟩
set_option maxRecDepth 100000 in
set_option maxHeartbeats 4000000 in
theorem if_calls (d : TypeId) (u : Value) (t : ByteArray) (w : World) : Calls Tryd.prog 62 #[.agg #[.iface d u, .string t]] w fun e w' => e = .returned (.iface d u) ∧ Below w.heap.size w w' := by
  go_enter Tryd.func62, Tryd.ntmps62
  go_wp2
  go_ret
  exact ⟨rfl, below_alloc (Below.refl _ _) _⟩
set_option maxRecDepth 100000 in
set_option maxHeartbeats 4000000 in
theorem mm_calls (c : UInt8) (y : List UInt8) (w : World) : Calls Tryd.prog 58 #[.string (Bs (123 :: c :: y))] w fun e w' => ∃ L, e = .returned (.agg #[.iface 105 (.pointer (some ⟨L, 0, none⟩)), .string (Bs (123 :: c :: y))]) ∧ w.heap.size ≤ L ∧ w'.heap[L]? = some (.cells #[.string (Bs [c]), .string (Bs y), .slice none 0 0, .slice none 0 0] 108 (0, 0)) ∧ Below w.heap.size w w' := by
  have k0 := heap_alloc_new w (.cells #[.nilIface, .string ⟨#[]⟩] 114)
  have hB := below_alloc (Below.refl w.heap.size w) (.cells #[.nilIface, .string ⟨#[]⟩] 114)
  go_enter Tryd.func58, Tryd.ntmps58
  go_wp2_with fail
  generalize w.alloc (.cells #[.nilIface, .string ⟨#[]⟩] 114) = W at *
  refine (dbus_zzType_Kind.calls 9 _ 14 _ (kind_c 123 (c :: y) 14 (by kernel_rfl))).mono ?_
  rintro e1 w3 ⟨rfl, k1, rfl⟩
  replace k0 : (W.drewN k1).heap[w.heap.size]? = some (.cells #[.nilIface, .string ⟨#[]⟩] 114 (0, 0)) := k0
  replace hB := pw_below_drewN hB k1
  generalize W.drewN k1 = W1 at *
  go_wp2_with fail
  refine (dbus_zzType_Key.calls _ _ _ (key_dict c y)).mono ?_
  rintro e1 w3 ⟨rfl, k2, rfl⟩
  replace k0 : (W1.drewN k2).heap[w.heap.size]? = some (.cells #[.nilIface, .string ⟨#[]⟩] 114 (0, 0)) := k0
  replace hB := pw_below_drewN hB k2
  generalize W1.drewN k2 = W2 at *
  go_wp2_with fail
  refine (dbus_zzType_Elem.calls 9 _ (Bs y) _ (elem_dict c y)).mono ?_
  rintro e1 w3 ⟨rfl, k3, rfl⟩
  replace k0 : (W2.drewN k3).heap[w.heap.size]? = some (.cells #[.nilIface, .string ⟨#[]⟩] 114 (0, 0)) := k0
  replace hB := pw_below_drewN hB k3
  generalize W2.drewN k3 = W3 at *
  have hlt := (Array.getElem?_eq_some_iff.1 k0).1
  have c0 : W3.cell? ⟨w.heap.size, 0, none⟩ = some .nilIface := (cell_of_row W3 w.heap.size 0 _ 114 (0, 0) k0).trans rfl
  have c1 : W3.cell? ⟨w.heap.size, 1, none⟩ = some (.string ⟨#[]⟩) := (cell_of_row W3 w.heap.size 1 _ 114 (0, 0) k0).trans rfl
  have z0 := frozen_of_row W3 w.heap.size 0 _ 114 k0
  have z1 := frozen_of_row W3 w.heap.size 1 _ 114 k0
  have h1 := heap_setCell_same _ _ 1 _ _ (.string (Bs (123 :: c :: y))) (heap_setCell_same W3 w.heap.size 0 _ _ (.iface 105 (.pointer (some ⟨W3.heap.size, 0, none⟩))) k0)
  have hbS := (hB.setCell (p := ⟨w.heap.size, 0, none⟩) (Nat.le_refl _) (.iface 105 (.pointer (some ⟨W3.heap.size, 0, none⟩)))).setCell (p := ⟨w.heap.size, 1, none⟩) (Nat.le_refl _) (.string (Bs (123 :: c :: y)))
  have hL := heap_alloc_new ((W3.setCell ⟨w.heap.size, 0, none⟩ (.iface 105 (.pointer (some ⟨W3.heap.size, 0, none⟩)))).setCell ⟨w.heap.size, 1, none⟩ (.string (Bs (123 :: c :: y)))) (.cells #[.string (Bs [c]), .string (Bs y), .slice none 0 0, .slice none 0 0] 108)
  simp only [World.size_setCell] at hL
  have HH := Aside0.mk (And.intro (up_heap2 (below_alloc (Below.refl _ _) (.cells #[.string (Bs [c]), .string (Bs y), .slice none 0 0, .slice none 0 0] 108)) h1) (And.intro hL (below_alloc hbS (.cells #[.string (Bs [c]), .string (Bs y), .slice none 0 0, .slice none 0 0] 108))))
  clear h1 hL hbS hB k0
  go_wp2_with fail
  refine bodyPost_ret (results_cell_row rfl _ _ w.heap.size 114 _ (0, 0) _ rfl HH.out.1 Tryd.underlying114 rfl inf114) rfl ?_
  exact ⟨W3.heap.size, rfl, by omega, HH.out.2.1, HH.out.2.2⟩

end Go.Proofs.YtboioihppjhjcaaDoor.MFnSgOf

namespace Go.Proofs.YtboioihppjhjcaaDoor.MFnSgOf
open Go.RowKit Go.Proofs.YtboioihppjhjcaaDoorW.PrintWords Go.Proofs.YtboioihppjhjcaaDoorW.PrintLast Go.Proofs.YtboioihppjhjcaaDoorW.PrintMore
attribute [local go_sem] max2_int min2_int max_two min_two max_three min_three max_four min_four
set_option linter.unusedVariables false
set_option linter.unusedSimpArgs false

open Go.Proofs.YtboioihppjhjcaaDoor.Hlp Go.Proofs.YtboioihppjhjcaaDoor.SgT Go.Proofs.YtboioihppjhjcaaDoor.SgZ
theorem info20 : (Tryd.prog.info? 20).map (fun i => (i.zero, i.size, i.bytes)) = some (some .nilIface, 1, 16) := by kernel_rfl
theorem as105_f (v : Value) (w : World) : (Instr.typeAssert (.iface 105 v) 20 105 false).run Tryd.prog w = .ok v w := by kernel_rfl
attribute [local go_sem] as105_f
/-- One more element behind a row of the call's own, as a step of a region. -/
theorem step_ap {ops : Array Oper} {o : Oper} {a : Act} {Q : Exit → Act → World → Prop} {K : Act → World → Prop} {E : Prop} {W : World} (base : Nat) (hw : Region.wanted o (yielded ops a.tmps) = true) (s x : Operand)
    (ho : o.op = .call { callee := .builtin .append, args := #[s, x], argTypes := #[50, 50] }) (v : Value) (n : Nat) (xs : List Value) (u : Value) (ad : Addr) (hs : a.eval s = v) (hx : a.eval x = .slice (some ad) 1 1) (hc : W.cell? ad = some u) (h1 : u.oneCell' = true)
    (HO : W.ownsRow base 20 1 v n xs) (hbase : base ≤ W.heap.size) (hl : n ≤ 1000000)
    (h : ∀ v1 w1, w1.ownsRow base 20 1 v1 (n + 1) (xs ++ [u]) → W.grownBy w1 v.ownBlock → (v1.ownBlock = v.ownBlock ∨ ∃ b, v1.ownBlock = some b ∧ W.heap.size ≤ b) → K (a.put o.dst v1) w1) :
    if Region.wanted o (yielded ops a.tmps) = true then Oper.wp Tryd.prog o a W K Q else E := by
  obtain ⟨i0, hi, hzz⟩ := Option.map_eq_some_iff.1 info20
  simp only [Prod.mk.injEq] at hzz
  obtain ⟨hz0, hz1, hz2⟩ := hzz
  rw [if_pos hw]
  have hadd : ad.add 0 = ad := by unfold Addr.add; split <;> simp_all
  obtain ⟨v1, w1, hr, hown, hg, _, hat⟩ := run_append_own_at (P := Tryd.prog) W base 50 o.type 20 i0 .nilIface 1 16 Tryd.underlying50 hi hz0 hz1 hz2 rfl (by omega) v n xs HO ad 1 1 [u] rfl
    (by intro j q hq; cases j with
      | zero => obtain rfl : u = q := by simpa using hq
                rw [hadd]; exact hc
      | succ j => simp at hq) (by intro q hq; rw [List.mem_singleton.1 hq]; exact h1) (by simp only [maxLen]; omega) (by omega) hbase
  unfold Oper.wp execOp
  simp only [ho, resolve, invoke, builtin, Sem.run_bind, Sem.run_pure, Result.andThen_ok, List.map_toArray, List.map_cons, List.map_nil, hs, hx, hr]
  refine h v1 w1 hown hg ?_
  rcases hat with hat | hat
  · exact .inl hat
  · exact .inr ⟨_, hat, Nat.le_refl _⟩
/-- A map's block, its keys and its values in rows of their own. -/
structure DI (w : World) (L : Nat) (E1 E2 : ByteArray) (ks vs : Value) (n : Nat) (kl vl : List Value) : Prop where
  row : w.heap[L]? = some (.cells #[.string E1, .string E2, ks, vs] 108 (0, 0))
  k : w.ownsRow (L + 1) 20 1 ks n kl
  v : w.ownsRow (L + 1) 20 1 vs n vl
  ap : ∀ q, ks.ownBlock = some q → vs.ownBlock ≠ some q
theorem own_vals {w : World} {base n cp : Nat} {A : Option Addr} {xs : List Value} (h : w.ownsRow base 20 1 (.slice A n cp) n xs) (j : Nat) (v : Value) (hv : xs[j]? = some v) : ∃ g, A = some ⟨g, 0, none⟩ ∧ base ≤ g ∧ w.cell? ⟨g, j, none⟩ = some v := by
  have hl : xs.length = n := by simpa using h.1
  have hj := (List.getElem?_eq_some_iff.1 hv).1
  rcases h.2 with ⟨e, h0⟩ | ⟨g, cap, cur, e, hg, r⟩
  · omega
  · injection e with e1 _ _
    refine ⟨g, e1, hg, ?_⟩
    have hc := h.cells (g := g) (by rw [e1]; rfl) j v hv
    have ha : (⟨g, 0, none⟩ : Addr).add j = ⟨g, j, none⟩ := by unfold Addr.add; split <;> simp_all
    rwa [ha] at hc
theorem own_put {w : World} {base n cp g j : Nat} {xs : List Value} (h : w.ownsRow base 20 1 (.slice (some ⟨g, 0, none⟩) n cp) n xs) (hj : j < n) (u : Value) : (w.setCell ⟨g, j, none⟩ u).ownsRow base 20 1 (.slice (some ⟨g, 0, none⟩) n cp) n (xs.set j u) := by
  obtain ⟨h1, h2⟩ := h
  refine ⟨by rw [List.length_set]; exact h1, ?_⟩
  rcases h2 with ⟨e, h0⟩ | ⟨g', cap, cur, e, hg, hh, hn, hm, hs, ht⟩
  · omega
  · injection e with e1 _ e3
    injection e1 with e1
    injection e1 with e1
    subst e1 e3
    refine .inr ⟨g, cp, cur.setIfInBounds j u, rfl, hg, heap_setCell_same w g j cur 20 u hh, hn, hm, by rw [Array.size_setIfInBounds]; exact hs, ?_⟩
    rw [Array.toList_setIfInBounds, List.take_set, ht]
theorem DI.put {W : World} {L : Nat} {E1 E2 : ByteArray} {ks : Value} {g n cp : Nat} {kl vl : List Value} (h : DI W L E1 E2 ks (.slice (some ⟨g, 0, none⟩) n cp) n kl vl) {i : Nat} (hi : i < n) (hgL : g ≠ L) (u : Value) (nn : Nat) : DI ((W.drewN nn).setCell ⟨g, i, none⟩ u) L E1 E2 ks (.slice (some ⟨g, 0, none⟩) n cp) n kl (vl.set i u) :=
  have h2 : DI (W.drewN nn) L E1 E2 ks (.slice (some ⟨g, 0, none⟩) n cp) n kl vl := ⟨h.row, h.k, h.v, h.ap⟩
  ⟨(Below.heap_setCell _ ⟨g, i, none⟩ u L (Ne.symm hgL)).trans h2.row, own_setCell h2.k (p := ⟨g, i, none⟩) (fun e => h2.ap g e.symm rfl) u, own_put h2.v hi u, h2.ap⟩

end Go.Proofs.YtboioihppjhjcaaDoor.MFnSgOf

namespace Go.Proofs.YtboioihppjhjcaaDoor.MFnSgOf
open Go.RowKit Go.Proofs.YtboioihppjhjcaaDoorW.PrintWords Go.Proofs.YtboioihppjhjcaaDoorW.PrintLast Go.Proofs.YtboioihppjhjcaaDoorW.PrintMore
attribute [local go_sem] max2_int min2_int max_two min_two max_three min_three max_four min_four
set_option linter.unusedVariables false
set_option linter.unusedSimpArgs false

open Go.Proofs.YtboioihppjhjcaaDoor.Hlp Go.Proofs.YtboioihppjhjcaaDoor.SgT Go.Proofs.YtboioihppjhjcaaDoor.SgZ
theorem eq_5 (x y : Int) (w : World) : (Op.equal 20 (.iface 5 (.int .u8 x)) (.iface 5 (.int .u8 y))).run Tryd.prog w = .ok (x == y) w := by kernel_rfl
theorem eq_77 (x y : Int) (w : World) : (Op.equal 20 (.iface 77 (.int .i16 x)) (.iface 77 (.int .i16 y))).run Tryd.prog w = .ok (x == y) w := by kernel_rfl
theorem eq_93 (x y : Int) (w : World) : (Op.equal 20 (.iface 93 (.int .u16 x)) (.iface 93 (.int .u16 y))).run Tryd.prog w = .ok (x == y) w := by kernel_rfl
theorem eq_21 (x y : Int) (w : World) : (Op.equal 20 (.iface 21 (.int .i32 x)) (.iface 21 (.int .i32 y))).run Tryd.prog w = .ok (x == y) w := by kernel_rfl
theorem eq_94 (x y : Int) (w : World) : (Op.equal 20 (.iface 94 (.int .u32 x)) (.iface 94 (.int .u32 y))).run Tryd.prog w = .ok (x == y) w := by kernel_rfl
theorem eq_2 (x y : Int) (w : World) : (Op.equal 20 (.iface 2 (.int .i64 x)) (.iface 2 (.int .i64 y))).run Tryd.prog w = .ok (x == y) w := by kernel_rfl
theorem eq_29 (x y : Int) (w : World) : (Op.equal 20 (.iface 29 (.int .u64 x)) (.iface 29 (.int .u64 y))).run Tryd.prog w = .ok (x == y) w := by kernel_rfl
theorem eq_95 (x y : Nat) (w : World) : (Op.equal 20 (.iface 95 (.float .f64 x)) (.iface 95 (.float .f64 y))).run Tryd.prog w = .ok (Op.floatEq .f64 x y) w := by kernel_rfl
theorem eq_9 (x y : ByteArray) (w : World) : (Op.equal 20 (.iface 9 (.string x)) (.iface 9 (.string y))).run Tryd.prog w = .ok (x == y) w := by kernel_rfl
theorem eq_96 (x y : ByteArray) (w : World) : (Op.equal 20 (.iface 96 (.string x)) (.iface 96 (.string y))).run Tryd.prog w = .ok (x == y) w := by kernel_rfl
theorem eq_100 (x y : Int) (w : World) : (Op.equal 20 (.iface 100 (.int .u32 x)) (.iface 100 (.int .u32 y))).run Tryd.prog w = .ok (x == y) w := by kernel_rfl
/-- A value that is a key of a dict of such keys. -/
def BV (c : UInt8) (v : Value) : Prop := (c = 121 ∧ ∃ x, v = .iface 5 (.int .u8 x)) ∨ (c = 110 ∧ ∃ x, v = .iface 77 (.int .i16 x)) ∨ (c = 113 ∧ ∃ x, v = .iface 93 (.int .u16 x)) ∨ (c = 105 ∧ ∃ x, v = .iface 21 (.int .i32 x)) ∨ (c = 117 ∧ ∃ x, v = .iface 94 (.int .u32 x)) ∨ (c = 120 ∧ ∃ x, v = .iface 2 (.int .i64 x)) ∨ (c = 116 ∧ ∃ x, v = .iface 29 (.int .u64 x)) ∨ (c = 100 ∧ ∃ x, v = .iface 95 (.float .f64 x)) ∨ (c = 115 ∧ ∃ x, v = .iface 9 (.string x)) ∨ (c = 111 ∧ ∃ x, v = .iface 96 (.string x)) ∨ (c = 104 ∧ ∃ x, v = .iface 100 (.int .u32 x))
set_option maxRecDepth 100000 in
set_option maxHeartbeats 4000000 in
theorem bv_eq {c : UInt8} {u v : Value} (h1 : BV c u) (h2 : BV c v) : ∃ b, ∀ w, (Op.equal 20 u v).run Tryd.prog w = .ok b w := by
  unfold BV at h1 h2
  rcases h1 with ⟨e1, x, rfl⟩ | ⟨e1, x, rfl⟩ | ⟨e1, x, rfl⟩ | ⟨e1, x, rfl⟩ | ⟨e1, x, rfl⟩ | ⟨e1, x, rfl⟩ | ⟨e1, x, rfl⟩ | ⟨e1, x, rfl⟩ | ⟨e1, x, rfl⟩ | ⟨e1, x, rfl⟩ | ⟨e1, x, rfl⟩
  all_goals rcases h2 with ⟨e2, y, rfl⟩ | ⟨e2, y, rfl⟩ | ⟨e2, y, rfl⟩ | ⟨e2, y, rfl⟩ | ⟨e2, y, rfl⟩ | ⟨e2, y, rfl⟩ | ⟨e2, y, rfl⟩ | ⟨e2, y, rfl⟩ | ⟨e2, y, rfl⟩ | ⟨e2, y, rfl⟩ | ⟨e2, y, rfl⟩
  all_goals first
    | (rw [e1] at e2; exact absurd e2 (by decide))
    | exact ⟨_, fun w => eq_5 x y w⟩
    | exact ⟨_, fun w => eq_77 x y w⟩
    | exact ⟨_, fun w => eq_93 x y w⟩
    | exact ⟨_, fun w => eq_21 x y w⟩
    | exact ⟨_, fun w => eq_94 x y w⟩
    | exact ⟨_, fun w => eq_2 x y w⟩
    | exact ⟨_, fun w => eq_29 x y w⟩
    | exact ⟨_, fun w => eq_95 x y w⟩
    | exact ⟨_, fun w => eq_9 x y w⟩
    | exact ⟨_, fun w => eq_96 x y w⟩
    | exact ⟨_, fun w => eq_100 x y w⟩
theorem bv_if {c : UInt8} {v : Value} (h : BV c v) : ∃ d u, v = .iface d u := by
  unfold BV at h
  rcases h with ⟨_, x, rfl⟩ | ⟨_, x, rfl⟩ | ⟨_, x, rfl⟩ | ⟨_, x, rfl⟩ | ⟨_, x, rfl⟩ | ⟨_, x, rfl⟩ | ⟨_, x, rfl⟩ | ⟨_, x, rfl⟩ | ⟨_, x, rfl⟩ | ⟨_, x, rfl⟩ | ⟨_, x, rfl⟩ <;> exact ⟨_, _, rfl⟩
theorem bv_run {c : UInt8} {d1 d2 : TypeId} {u1 u2 : Value} (h1 : BV c (.iface d1 u1)) (h2 : BV c (.iface d2 u2)) : ∃ b, ∀ w, (binOp BinOp.eql 20 (.iface d1 u1) (.iface d2 u2)).run Tryd.prog w = .ok (.bool b) w := by
  obtain ⟨b, hb⟩ := bv_eq h1 h2
  refine ⟨b, fun w => ?_⟩
  show ((do pure (.bool (← Op.equal 20 (.iface d1 u1) (.iface d2 u2))) : Sem Value).run Tryd.prog w) = _
  simp [Sem.run_bind, hb]


end Go.Proofs.YtboioihppjhjcaaDoor.MFnSgOf

namespace Go.Proofs.YtboioihppjhjcaaDoor.MFnSgOf
open Go.RowKit Go.Proofs.YtboioihppjhjcaaDoorW.PrintWords Go.Proofs.YtboioihppjhjcaaDoorW.PrintLast Go.Proofs.YtboioihppjhjcaaDoorW.PrintMore
attribute [local go_sem] max2_int min2_int max_two min_two max_three min_three max_four min_four
set_option linter.unusedVariables false
set_option linter.unusedSimpArgs false

open Go.Proofs.YtboioihppjhjcaaDoor.Hlp Go.Proofs.YtboioihppjhjcaaDoor.SgT Go.Proofs.YtboioihppjhjcaaDoor.SgZ
/-- Where SetMapIndex stands ahead of its two appends. -/
structure Pre (w X : World) (L : Nat) (E1 E2 : ByteArray) (ks vs : Value) (n : Nat) (kl vl : List Value) (k x : Value) (t2 t3 : ByteArray) : Prop where
  di : DI X L E1 E2 ks vs n kl vl
  r2 : X.heap[w.heap.size + 1]? = some (.cells #[k, .string t2] 114 (0, 0))
  r3 : X.heap[w.heap.size + 1 + 1]? = some (.cells #[x, .string t3] 114 (0, 0))
  lk : ∀ q, ks.ownBlock = some q → q < w.heap.size
  lv : ∀ q, vs.ownBlock = some q → q < w.heap.size
  lw : L < w.heap.size
  sz : w.heap.size + 2 < X.heap.size
  be : Below L w X
  fr : ∀ q, q < w.heap.size → q ≠ L → ks.ownBlock ≠ some q → vs.ownBlock ≠ some q → X.heap[q]? = w.heap[q]?
variable {w X : World} {L : Nat} {E1 E2 : ByteArray} {ks vs : Value} {n : Nat} {kl vl : List Value} {k x : Value} {t2 t3 : ByteArray}
theorem Pre.alloc (h : Pre w X L E1 E2 ks vs n kl vl k x t2 t3) (o : Obj) : Pre w (X.alloc o) L E1 E2 ks vs n kl vl k x t2 t3 :=
  ⟨⟨up_heap2 (below_alloc (Below.refl _ _) o) h.di.row, h.di.k.alloc o, h.di.v.alloc o, h.di.ap⟩, up_heap2 (below_alloc (Below.refl _ _) o) h.r2, up_heap2 (below_alloc (Below.refl _ _) o) h.r3, h.lk, h.lv, h.lw, by have := h.sz; rw [World.size_alloc]; omega, h.be.trans (below_weaken (below_alloc (Below.refl X.heap.size X) o) (by have := h.lw; have := h.sz; omega)), fun q h1 h2 h3 h4 => (heap_alloc_old X o (by have := h.sz; omega)).trans (h.fr q h1 h2 h3 h4)⟩
/-- Between the two appends. -/
structure Mid (w X : World) (L : Nat) (E1 E2 : ByteArray) (ks v1 vs : Value) (n : Nat) (kl vl : List Value) (k x : Value) (t2 t3 : ByteArray) : Prop where
  row : X.heap[L]? = some (.cells #[.string E1, .string E2, ks, vs] 108 (0, 0))
  kr : X.ownsRow (L + 1) 20 1 v1 (n + 1) (kl ++ [k])
  vr : X.ownsRow (L + 1) 20 1 vs n vl
  ap : ∀ q, v1.ownBlock = some q → vs.ownBlock ≠ some q
  r2 : X.heap[w.heap.size + 1]? = some (.cells #[k, .string t2] 114 (0, 0))
  r3 : X.heap[w.heap.size + 1 + 1]? = some (.cells #[x, .string t3] 114 (0, 0))
  lv : ∀ q, vs.ownBlock = some q → q < w.heap.size
  lw : L < w.heap.size
  sz : w.heap.size + 2 < X.heap.size
  be : Below L w X
  fr : ∀ q, q < w.heap.size → q ≠ L → ks.ownBlock ≠ some q → vs.ownBlock ≠ some q → X.heap[q]? = w.heap[q]?
theorem Mid.alloc {v1 : Value} (h : Mid w X L E1 E2 ks v1 vs n kl vl k x t2 t3) (o : Obj) : Mid w (X.alloc o) L E1 E2 ks v1 vs n kl vl k x t2 t3 :=
  ⟨up_heap2 (below_alloc (Below.refl _ _) o) h.row, h.kr.alloc o, h.vr.alloc o, h.ap, up_heap2 (below_alloc (Below.refl _ _) o) h.r2, up_heap2 (below_alloc (Below.refl _ _) o) h.r3, h.lv, h.lw, by have := h.sz; rw [World.size_alloc]; omega, h.be.trans (below_weaken (below_alloc (Below.refl X.heap.size X) o) (by have := h.lw; have := h.sz; omega)), fun q h1 h2 h3 h4 => (heap_alloc_old X o (by have := h.sz; omega)).trans (h.fr q h1 h2 h3 h4)⟩
theorem grown_far {W W' : World} {b : Option Nat} (hg : W.grownBy W' b) {g : Nat} (hn : b ≠ some g) {o : Obj} (h : W.heap[g]? = some o) : W'.heap[g]? = some o :=
  (hg.block g (Array.getElem?_eq_some_iff.1 h).1 (fun e => hn e.symm)).trans h
theorem grown_below {W W' : World} {b : Option Nat} {L : Nat} (hg : W.grownBy W' b) (hn : ∀ q, b = some q → L ≤ q) (hL : L ≤ W.heap.size) : Below L W W' :=
  ⟨hg.os, hg.tape, hg.output, hg.size, fun q hq => hg.block q (by omega) (fun e => by have := hn q e.symm; omega)⟩
theorem Pre.ap1 (h : Pre w X L E1 E2 ks vs n kl vl k x t2 t3) {v1 : Value} {w1 : World} (ho : w1.ownsRow (L + 1) 20 1 v1 (n + 1) (kl ++ [k])) (hg : X.grownBy w1 ks.ownBlock) (hat : v1.ownBlock = ks.ownBlock ∨ ∃ b, v1.ownBlock = some b ∧ X.heap.size ≤ b) : Mid w w1 L E1 E2 ks v1 vs n kl vl k x t2 t3 := by
  have hb : ∀ q, ks.ownBlock = some q → L + 1 ≤ q := fun q hq => own_base h.di.k q hq
  have hs := h.sz
  have hl := h.lw
  refine ⟨grown_far hg (fun e => by have := hb L e; omega) h.di.row, ho, h.di.v.kept hg ?_, ?_, grown_far hg (fun e => by have := h.lk _ e; omega) h.r2, grown_far hg (fun e => by have := h.lk _ e; omega) h.r3, h.lv, h.lw, by have := hg.size; omega, h.be.trans (grown_below hg (fun q hq => by have := hb q hq; omega) (by omega)), fun q h1 h2 h3 h4 => (hg.block q (by omega) (fun e => h3 e.symm)).trans (h.fr q h1 h2 h3 h4)⟩
  · cases e : vs.ownBlock with
    | none => exact .inl rfl
    | some q => exact .inr (fun e2 => h.di.ap q e2.symm e)
  · intro q hq e
    rcases hat with hat | ⟨b, hb2, hle⟩
    · exact h.di.ap q (hat ▸ hq) e
    · rw [hb2] at hq
      have := h.lv q e
      injection hq with hq
      omega
/-- Behind both. -/
structure Post (w X : World) (L : Nat) (E1 E2 : ByteArray) (ks v1 vs v2 : Value) (n : Nat) (kl vl : List Value) (k x : Value) (t2 t3 : ByteArray) : Prop where
  row : X.heap[L]? = some (.cells #[.string E1, .string E2, ks, vs] 108 (0, 0))
  kr : X.ownsRow (L + 1) 20 1 v1 (n + 1) (kl ++ [k])
  vr : X.ownsRow (L + 1) 20 1 v2 (n + 1) (vl ++ [x])
  ap : ∀ q, v1.ownBlock = some q → v2.ownBlock ≠ some q
  r2 : X.heap[w.heap.size + 1]? = some (.cells #[k, .string t2] 114 (0, 0))
  r3 : X.heap[w.heap.size + 1 + 1]? = some (.cells #[x, .string t3] 114 (0, 0))
  be : Below L w X
  lw : L < w.heap.size
  fr : ∀ q, q < w.heap.size → q ≠ L → ks.ownBlock ≠ some q → vs.ownBlock ≠ some q → X.heap[q]? = w.heap[q]?
theorem Mid.ap2 {v1 : Value} (h : Mid w X L E1 E2 ks v1 vs n kl vl k x t2 t3) {v2 : Value} {w2 : World} (ho : w2.ownsRow (L + 1) 20 1 v2 (n + 1) (vl ++ [x])) (hg : X.grownBy w2 vs.ownBlock) (hat : v2.ownBlock = vs.ownBlock ∨ ∃ b, v2.ownBlock = some b ∧ X.heap.size ≤ b) : Post w w2 L E1 E2 ks v1 vs v2 n kl vl k x t2 t3 := by
  have hb : ∀ q, vs.ownBlock = some q → L + 1 ≤ q := fun q hq => own_base h.vr q hq
  have hs := h.sz
  have hl := h.lw
  refine ⟨grown_far hg (fun e => by have := hb L e; omega) h.row, h.kr.kept hg ?_, ho, ?_, grown_far hg (fun e => by have := h.lv _ e; omega) h.r2, grown_far hg (fun e => by have := h.lv _ e; omega) h.r3, h.be.trans (grown_below hg (fun q hq => by have := hb q hq; omega) (by omega)), h.lw, fun q h1 h2 h3 h4 => (hg.block q (by omega) (fun e => h4 e.symm)).trans (h.fr q h1 h2 h3 h4)⟩
  · cases e : v1.ownBlock with
    | none => exact .inl rfl
    | some q => exact .inr (fun e2 => h.ap q e e2.symm)
  · intro q hq e
    rcases hat with hat | ⟨b, hb2, hle⟩
    · exact h.ap q hq (hat ▸ e)
    · rw [hb2] at e
      have := own_lt h.kr q hq
      injection e with e
      omega
/-- The two stores into the map's block. -/
theorem Post.fin {v1 v2 : Value} (h : Post w X L E1 E2 ks v1 vs v2 n kl vl k x t2 t3) : DI ((X.setCell ⟨L, 2, none⟩ v1).setCell ⟨L, 3, none⟩ v2) L E1 E2 v1 v2 (n + 1) (kl ++ [k]) (vl ++ [x]) ∧ Below L w ((X.setCell ⟨L, 2, none⟩ v1).setCell ⟨L, 3, none⟩ v2) ∧ ∀ q, q < w.heap.size → q ≠ L → ks.ownBlock ≠ some q → vs.ownBlock ≠ some q → ((X.setCell ⟨L, 2, none⟩ v1).setCell ⟨L, 3, none⟩ v2).heap[q]? = w.heap[q]? := by
  have n1 : some L ≠ v1.ownBlock := fun e => by have := own_base h.kr L e.symm; omega
  have n2 : some L ≠ v2.ownBlock := fun e => by have := own_base h.vr L e.symm; omega
  refine ⟨⟨?_, own_setCell (own_setCell h.kr (p := ⟨L, 2, none⟩) n1 _) (p := ⟨L, 3, none⟩) n1 _, own_setCell (own_setCell h.vr (p := ⟨L, 2, none⟩) n2 _) (p := ⟨L, 3, none⟩) n2 _, h.ap⟩, (h.be.setCell (Nat.le_refl _) _).setCell (Nat.le_refl _) _, fun q h1 h2 h3 h4 => (Below.heap_setCell _ ⟨L, 3, none⟩ v2 q h2).trans ((Below.heap_setCell _ ⟨L, 2, none⟩ v1 q h2).trans (h.fr q h1 h2 h3 h4))⟩
  exact heap_setCell_same _ _ 3 _ _ v2 (heap_setCell_same _ _ 2 _ _ v1 h.row)
def SL (L b2 b3 : Nat) (ks vs k x : Value) (w' : World) : Prop := w'.cell? ⟨L, 2, none⟩ = some ks ∧ w'.cell? ⟨L, 3, none⟩ = some vs ∧ w'.cell? ⟨b2, 0, none⟩ = some k ∧ w'.cell? ⟨b3, 0, none⟩ = some x
theorem sl_of {E1 E2 : ByteArray} (h : X.heap[L]? = some (.cells #[.string E1, .string E2, ks, vs] 108 (0, 0))) (h2 : X.heap[w.heap.size + 1]? = some (.cells #[k, .string t2] 114 (0, 0))) (h3 : X.heap[w.heap.size + 1 + 1]? = some (.cells #[x, .string t3] 114 (0, 0))) :
    X.cell? ⟨L, 2, none⟩ = some ks ∧ X.cell? ⟨L, 3, none⟩ = some vs ∧ X.cell? ⟨w.heap.size + 1, 0, none⟩ = some k ∧ X.cell? ⟨w.heap.size + 1 + 1, 0, none⟩ = some x :=
  ⟨(cell_of_row X L 2 _ 108 (0, 0) h).trans rfl, (cell_of_row X L 3 _ 108 (0, 0) h).trans rfl, (cell_of_row X _ 0 _ 114 (0, 0) h2).trans rfl, (cell_of_row X _ 0 _ 114 (0, 0) h3).trans rfl⟩
section
variable {P : Program} {ops : Array Oper} {Q : Exit → Act → World → Prop} {md : Region.Mode} {S : World → Prop} {ds : List Nat}
theorem any_take {i : Nat} {oi : Oper} {v : Value} {fuel : Nat} {listed : Array Bool} {a : Act} {w : World} (hi : ops[i]? = some oi) (hs : Region.noSelect ops = true) (hf : Region.free md ops listed i = true) (hr : (Region.ready md ops listed).contains i = true)
    (hQ : ∀ c a w, Q (.panic c) (a.put oi.dst v) w → Q (.panic c) a w) (hy : Yields P ops oi v a)
    (h : wpAnyLast P md ops Q S ds fuel (listed.setIfInBounds i true) (a.put oi.dst v) w) : wpAnyLast P md ops Q S ds (fuel + 1) listed a w :=
  wpAnyLast_any hi (Region.noSelect_spec hs) hQ fuel listed a w (Region.free_spec hi hf) (by simpa using hr) hy h
end
theorem bv_snoc {c : UInt8} {kl : List Value} {k : Value} (h : ∀ v ∈ kl, BV c v) (hk : BV c k) : ∀ v ∈ kl ++ [k], BV c v := by
  intro v hv
  rcases List.mem_append.1 hv with hv | hv
  · exact h v hv
  · rw [List.mem_singleton.1 hv]; exact hk
theorem res60 (tmps : Array Value) (w : World) : (results Tryd.f60 tmps).run Tryd.prog w = .ok (.tuple #[]) w := by simp [results, Tryd.results60, go_sem]
theorem bodyPost_end {P : Program} {fn : Func} {R : Ending → World → Prop} {a : Act} {w : World} {v : Value} (h1 : (results fn a.tmps).run P w = .ok v w) (h2 : a.defers = []) (h : R (.returned v) w) : bodyPost P fn R .normal a w := ⟨h2, v, h1, h⟩

end Go.Proofs.YtboioihppjhjcaaDoor.MFnSgOf

namespace Go.Proofs.YtboioihppjhjcaaDoor.MFnSgOf
open Go.RowKit Go.Proofs.YtboioihppjhjcaaDoorW.PrintWords Go.Proofs.YtboioihppjhjcaaDoorW.PrintLast Go.Proofs.YtboioihppjhjcaaDoorW.PrintMore
attribute [local go_sem] max2_int min2_int max_two min_two max_three min_three max_four min_four
set_option linter.unusedVariables false
set_option linter.unusedSimpArgs false

open Go.Proofs.YtboioihppjhjcaaDoor.Hlp Go.Proofs.YtboioihppjhjcaaDoor.SgT Go.Proofs.YtboioihppjhjcaaDoor.SgZ
attribute [local go_sem] as105_f
attribute [-go_sem] Builtin.append_
set_option maxRecDepth 100000 in
set_option maxHeartbeats 4000000 in
theorem sm_calls (c : UInt8) (L : Nat) (E1 E2 t1 t2 t3 : ByteArray) (dk dx : TypeId) (uk ux : Value) (hbk : BV c (.iface dk uk)) (ks vs : Value) (n : Nat) (kl vl : List Value) (hn : n ≤ 100000) (hkl : ∀ v ∈ kl, BV c v) (w : World) (hD : DI w L E1 E2 ks vs n kl vl) :
    Calls Tryd.prog 60 #[.agg #[.iface 105 (.pointer (some ⟨L, 0, none⟩)), .string t1], .agg #[.iface dk uk, .string t2], .agg #[.iface dx ux, .string t3]] w fun e w' => e = .returned (.tuple #[]) ∧ (∃ ks' vs' n' kl' vl', n' ≤ n + 1 ∧ (∀ v ∈ kl', BV c v) ∧ DI w' L E1 E2 ks' vs' n' kl' vl') ∧ Below L w w' ∧ ∀ q, q < w.heap.size → q ≠ L → ks.ownBlock ≠ some q → vs.ownBlock ≠ some q → w'.heap[q]? = w.heap[q]? := by
  obtain ⟨A1, cp1, rfl⟩ := own_slice hD.k
  obtain ⟨A2, cp2, rfl⟩ := own_slice hD.v
  have HD := Aside0.mk hD
  have HBK := Aside0.mk hbk
  have HKL := Aside0.mk hkl
  have hLw := (Array.getElem?_eq_some_iff.1 hD.row).1
  have r3 := heap_alloc_new ((w.alloc (.cells #[.iface 105 (.pointer (some ⟨L, 0, none⟩)), .string t1] 114)).alloc (.cells #[.iface dk uk, .string t2] 114)) (.cells #[.iface dx ux, .string t3] 114)
  have r2 := up_heap2 (below_alloc (Below.refl _ _) (.cells #[.iface dx ux, .string t3] 114)) (heap_alloc_new (w.alloc (.cells #[.iface 105 (.pointer (some ⟨L, 0, none⟩)), .string t1] 114)) (.cells #[.iface dk uk, .string t2] 114))
  simp only [World.size_alloc] at r3 r2
  have hDW : DI (((w.alloc (.cells #[.iface 105 (.pointer (some ⟨L, 0, none⟩)), .string t1] 114)).alloc (.cells #[.iface dk uk, .string t2] 114)).alloc (.cells #[.iface dx ux, .string t3] 114)) L E1 E2 (.slice A1 n cp1) (.slice A2 n cp2) n kl vl := ⟨up_heap2 (below_alloc (below_alloc (below_alloc (Below.refl _ _) _) _) _) hD.row, ((hD.k.alloc _).alloc _).alloc _, ((hD.v.alloc _).alloc _).alloc _, hD.ap⟩
  have hBW : Below w.heap.size w (((w.alloc (.cells #[.iface 105 (.pointer (some ⟨L, 0, none⟩)), .string t1] 114)).alloc (.cells #[.iface dk uk, .string t2] 114)).alloc (.cells #[.iface dx ux, .string t3] 114)) := below_alloc (below_alloc (below_alloc (Below.refl w.heap.size w) _) _) _
  have hBL : Below L w (((w.alloc (.cells #[.iface 105 (.pointer (some ⟨L, 0, none⟩)), .string t1] 114)).alloc (.cells #[.iface dk uk, .string t2] 114)).alloc (.cells #[.iface dx ux, .string t3] 114)) := below_weaken (below_alloc (below_alloc (below_alloc (Below.refl w.heap.size w) _) _) _) (by omega)
  have c2 := (cell_of_row _ L 2 _ 108 (0, 0) hDW.row).trans rfl
  have hlk := fun q hq => own_lt hD.k q hq
  have hlv := fun q hq => own_lt hD.v q hq
  clear hD hbk hkl
  go_enter Tryd.func60, Tryd.ntmps60
  go_wp2_with fail
  generalize ((w.alloc (.cells #[.iface 105 (.pointer (some ⟨L, 0, none⟩)), .string t1] 114)).alloc (.cells #[.iface dk uk, .string t2] 114)).alloc (.cells #[.iface dx ux, .string t3] 114) = W at *
  have HDW := Aside0.mk hDW
  have HBL := Aside0.mk hBL
  have HBW := Aside0.mk hBW
  have R2 := Aside0.mk r2
  have R3 := Aside0.mk r3
  have HLK := Aside0.mk hlk
  have HLV := Aside0.mk hlv
  have kc : W.cell? ⟨w.heap.size + 1, 0, none⟩ = some (.iface dk uk) := (cell_of_row W (w.heap.size + 1) 0 _ 114 (0, 0) r2).trans rfl
  have xc : W.cell? ⟨w.heap.size + 1 + 1, 0, none⟩ = some (.iface dx ux) := (cell_of_row W (w.heap.size + 1 + 1) 0 _ 114 (0, 0) r3).trans rfl
  have d2 : W.cell? ⟨L, 2, none⟩ = some (.slice A1 n cp1) := (cell_of_row W L 2 _ 108 (0, 0) hDW.row).trans rfl
  have d3 : W.cell? ⟨L, 3, none⟩ = some (.slice A2 n cp2) := (cell_of_row W L 3 _ 108 (0, 0) hDW.row).trans rfl
  clear r2 r3 hlk hlv hDW hBL hBW c2
  go_loopg [16] n (fun kq v16 wr => ∃ (i : Nat), v16 = .int .i64 (i : Int) ∧ i ≤ n ∧ Aside0 (kq = n - i ∧ ∃ m, wr = W.drewN m))
  case atStart => exact ⟨0, rfl, by omega, ⟨rfl, 0, rfl⟩⟩
  case round =>
    obtain ⟨i, rfl, hi, HI⟩ := hrel
    obtain ⟨m, rfl⟩ := HI.out.2
    have HI0 := Aside0.mk HI.out.1
    clear HI
    by_cases hlt : i < n
    · have hd : decide ((i : Int) < (n : Int)) = true := by simpa using hlt
      have hwi : IntKind.i64.wrap ((i : Int) + 1) = ((i + 1 : Nat) : Int) := by rw [IntKind.wrap_i64]; omega
      have hlen : kl.length = n := by simpa using HDW.out.k.1
      have hlen2 : vl.length = n := by simpa using HDW.out.v.1
      obtain ⟨k, hk⟩ : ∃ k, kl[i]? = some k := ⟨kl[i], List.getElem?_eq_getElem (by omega)⟩
      obtain ⟨y, hy⟩ : ∃ y, vl[i]? = some y := ⟨vl[i], List.getElem?_eq_getElem (by omega)⟩
      obtain ⟨g1, rfl, hg1, hc1⟩ := own_vals HDW.out.k i k hk
      obtain ⟨g2, rfl, hg2, hc2⟩ := own_vals HDW.out.v i y hy
      have hbk := HKL.out k (List.mem_of_getElem? hk)
      obtain ⟨dk', uk', rfl⟩ := bv_if hbk
      obtain ⟨b, hbq⟩ := bv_run hbk HBK.out
      clear hbk
      have hi0 : (0 : Int) ≤ (i : Int) := by omega
      have hi1 : (i : Int) < (n : Int) := by omega
      clear hk hy
      go_wp2_with fail
      go_quiet (fail)
      have hg2w : g2 < w.heap.size := HLV.out g2 rfl
      have hg2L : g2 ≠ L := by omega
      have hzf : ∀ nn, (W.drewN nn).frozen? ⟨g2, i, none⟩ = false := fun nn => by
        rcases HDW.out.v.2 with ⟨e, _⟩ | ⟨g', cap', cur, e, _, hh, _⟩
        · cases e
        · injection e with e _ _
          injection e with e
          injection e with e
          subst e
          exact frozen_of_row W g2 i _ 20 hh
      cases b
      · go_wp2_with fail
        go_roundg (n - (i + 1))
        case measure => have := HI0.out; omega
        case rel => exact ⟨i + 1, by simp, by omega, ⟨rfl, _, rfl⟩⟩
      · go_wp2_with fail
        go_region_held3 (fun w' => w'.cell? ⟨L, 3, none⟩ = some (.slice (some ⟨g2, 0, none⟩) n cp2) ∧ w'.cell? ⟨w.heap.size + 1 + 1, 0, none⟩ = some (.iface dx ux)) (first | exact ⟨d3, xc⟩ | (constructor <;> go_keep) | (constructor <;> (rw [World.cell?_setCell_other _ _ _ _ (by intro e; injection e with e; omega)]; first | exact d3 | exact xc)))
          (fail)
        go_wp2_with fail
        refine bodyPost_ret (res60 _ _) rfl ?_
        refine ⟨rfl, ⟨_, _, n, kl, vl.set i (.iface dx ux), by omega, HKL.out, HDW.out.put hlt hg2L _ _⟩, ?_⟩
        exact ⟨(pw_below_drewN HBL.out _).setCell (by show L ≤ g2; omega) _, fun q h1 h2 h3 h4 => (Below.heap_setCell _ ⟨g2, i, none⟩ _ q (fun e => h4 (by rw [e]; rfl))).trans (HBW.out.block q h1)⟩
    · have hd : decide ((i : Int) < (n : Int)) = false := by simpa using hlt
      go_wp2_with fail
      replace HDW : Aside0 (DI (W.drewN m).drew L E1 E2 (.slice A1 n cp1) (.slice A2 n cp2) n kl vl) := ⟨⟨HDW.out.row, HDW.out.k, HDW.out.v, HDW.out.ap⟩⟩
      have HPR : Aside0 (Pre w (W.drewN m).drew L E1 E2 (.slice A1 n cp1) (.slice A2 n cp2) n kl vl (.iface dk uk) (.iface dx ux) t2 t3) := ⟨⟨HDW.out, R2.out, R3.out, HLK.out, HLV.out, hLw, (Array.getElem?_eq_some_iff.1 R3.out).1, below_drew1 (pw_below_drewN HBL.out m), fun q h1 _ _ _ => HBW.out.block q h1⟩⟩
      refine wp_region_noPanic ?_
      refine wp_region_last_drew (S := (fun w' => w'.cell? ⟨L, 2, none⟩ = some (.slice A1 n cp1) ∧ w'.cell? ⟨L, 3, none⟩ = some (.slice A2 n cp2) ∧ w'.cell? ⟨w.heap.size + 1, 0, none⟩ = some (.iface dk uk) ∧ w'.cell? ⟨w.heap.size + 1 + 1, 0, none⟩ = some (.iface dx ux))) (ds := [20, 23]) (by kernel_rfl) (sl_of HPR.out.di.row HPR.out.r2 HPR.out.r3) (fun hHeld => ?_)
      generalize (W.drewN m).drew = X at *
      clear HDW d2 d3 kc xc
      refine any_take (i := 0) (oi := ({ dst := some 38, op := Go.Op.move (Go.Operand.tmp 6), type := 105, pos := "zz_plain.go:365", after := #[], guard := none } : Go.Oper)) (v := ?_) rfl (by kernel_rfl) (by kernel_rfl) (by kernel_rfl) (fun _ _ _ h => h) (Or.inl ⟨by rfl, ?_⟩) ?_
      rotate_left
      · intro w
        go_simp <;> with_reducible rfl
      try simp only [Act.put, List.setIfInBounds_toArray, List.set_cons_zero, List.set_cons_succ]
      refine any_take (i := 1) (oi := ({ dst := some 39, op := Go.Op.move (Go.Operand.tmp 6), type := 105, pos := "zz_plain.go:365", after := #[{ on := 20, ground := Go.Ground.gcOnly Go.Departure.lateStores }], guard := none } : Go.Oper)) (v := ?_) rfl (by kernel_rfl) (by kernel_rfl) (by kernel_rfl) (fun _ _ _ h => h) (Or.inl ⟨by rfl, ?_⟩) ?_
      rotate_left
      · intro w
        go_simp <;> with_reducible rfl
      try simp only [Act.put, List.setIfInBounds_toArray, List.set_cons_zero, List.set_cons_succ]
      refine any_take (i := 2) (oi := ({ dst := some 40, op := Go.Op.move (Go.Operand.tmp 6), type := 105, pos := "zz_plain.go:365", after := #[], guard := none } : Go.Oper)) (v := ?_) rfl (by kernel_rfl) (by kernel_rfl) (by kernel_rfl) (fun _ _ _ h => h) (Or.inl ⟨by rfl, ?_⟩) ?_
      rotate_left
      · intro w
        go_simp <;> with_reducible rfl
      try simp only [Act.put, List.setIfInBounds_toArray, List.set_cons_zero, List.set_cons_succ]
      refine any_take (i := 3) (oi := ({ dst := some 41, op := Go.Op.nilCheck (Go.Operand.tmp 40), type := 0, pos := "zz_plain.go:365", after := #[{ on := 2, ground := Go.Ground.data }], guard := none } : Go.Oper)) (v := ?_) rfl (by kernel_rfl) (by kernel_rfl) (by kernel_rfl) (fun _ _ _ h => h) (Or.inl ⟨by rfl, ?_⟩) ?_
      rotate_left
      · intro w
        go_simp <;> with_reducible rfl
      try simp only [Act.put, List.setIfInBounds_toArray, List.set_cons_zero, List.set_cons_succ]
      refine any_take (i := 4) (oi := ({ dst := some 42, op := Go.Op.fieldAddr 108 (Go.Operand.tmp 41) 2, type := 0, pos := "zz_plain.go:365", after := #[{ on := 3, ground := Go.Ground.data }], guard := none } : Go.Oper)) (v := ?_) rfl (by kernel_rfl) (by kernel_rfl) (by kernel_rfl) (fun _ _ _ h => h) (Or.inl ⟨by rfl, ?_⟩) ?_
      rotate_left
      · intro w
        go_simp <;> with_reducible rfl
      try simp only [Act.put, List.setIfInBounds_toArray, List.set_cons_zero, List.set_cons_succ]
      refine wpAnyLast_take (i := 5) (oi := ({ dst := some 43, op := Go.Op.load 50 (Go.Operand.tmp 42), type := 50, pos := "zz_plain.go:365", after := #[{ on := 4, ground := Go.Ground.data }], guard := none } : Go.Oper)) (v := ?_) rfl (by kernel_rfl) (by kernel_rfl) (by kernel_rfl) (by kernel_rfl) (by kernel_rfl) (fun _ _ _ h => h) (Or.inl ⟨by rfl, ?_⟩) (by assumption) ?_
      rotate_left
      · intro w hSw
        try dsimp only at hSw
        go_simp <;> with_reducible rfl
      try simp only [Act.put, List.setIfInBounds_toArray, List.set_cons_zero, List.set_cons_succ]
      refine any_take (i := 6) (oi := ({ dst := some 44, op := Go.Op.fieldAddr 114 (Go.Operand.tmp 4) 0, type := 0, pos := "zz_plain.go:365", after := #[], guard := none } : Go.Oper)) (v := ?_) rfl (by kernel_rfl) (by kernel_rfl) (by kernel_rfl) (fun _ _ _ h => h) (Or.inl ⟨by rfl, ?_⟩) ?_
      rotate_left
      · intro w
        go_simp <;> with_reducible rfl
      try simp only [Act.put, List.setIfInBounds_toArray, List.set_cons_zero, List.set_cons_succ]
      refine wpAnyLast_take (i := 7) (oi := ({ dst := some 45, op := Go.Op.load 20 (Go.Operand.tmp 44), type := 20, pos := "zz_plain.go:365", after := #[{ on := 6, ground := Go.Ground.data }], guard := none } : Go.Oper)) (v := ?_) rfl (by kernel_rfl) (by kernel_rfl) (by kernel_rfl) (by kernel_rfl) (by kernel_rfl) (fun _ _ _ h => h) (Or.inl ⟨by rfl, ?_⟩) (by assumption) ?_
      rotate_left
      · intro w hSw
        try dsimp only at hSw
        go_simp <;> with_reducible rfl
      try simp only [Act.put, List.setIfInBounds_toArray, List.set_cons_zero, List.set_cons_succ]
      refine any_take (i := 10) (oi := ({ dst := some 48, op := Go.Op.move (Go.Operand.tmp 6), type := 105, pos := "zz_plain.go:365", after := #[], guard := none } : Go.Oper)) (v := ?_) rfl (by kernel_rfl) (by kernel_rfl) (by kernel_rfl) (fun _ _ _ h => h) (Or.inl ⟨by rfl, ?_⟩) ?_
      rotate_left
      · intro w
        go_simp <;> with_reducible rfl
      try simp only [Act.put, List.setIfInBounds_toArray, List.set_cons_zero, List.set_cons_succ]
      refine any_take (i := 11) (oi := ({ dst := some 49, op := Go.Op.nilCheck (Go.Operand.tmp 48), type := 0, pos := "zz_plain.go:365", after := #[{ on := 10, ground := Go.Ground.data }], guard := none } : Go.Oper)) (v := ?_) rfl (by kernel_rfl) (by kernel_rfl) (by kernel_rfl) (fun _ _ _ h => h) (Or.inl ⟨by rfl, ?_⟩) ?_
      rotate_left
      · intro w
        go_simp <;> with_reducible rfl
      try simp only [Act.put, List.setIfInBounds_toArray, List.set_cons_zero, List.set_cons_succ]
      refine any_take (i := 12) (oi := ({ dst := some 50, op := Go.Op.fieldAddr 108 (Go.Operand.tmp 49) 3, type := 0, pos := "zz_plain.go:365", after := #[{ on := 11, ground := Go.Ground.data }], guard := none } : Go.Oper)) (v := ?_) rfl (by kernel_rfl) (by kernel_rfl) (by kernel_rfl) (fun _ _ _ h => h) (Or.inl ⟨by rfl, ?_⟩) ?_
      rotate_left
      · intro w
        go_simp <;> with_reducible rfl
      try simp only [Act.put, List.setIfInBounds_toArray, List.set_cons_zero, List.set_cons_succ]
      refine wpAnyLast_take (i := 13) (oi := ({ dst := some 51, op := Go.Op.load 50 (Go.Operand.tmp 50), type := 50, pos := "zz_plain.go:365", after := #[{ on := 12, ground := Go.Ground.data }], guard := none } : Go.Oper)) (v := ?_) rfl (by kernel_rfl) (by kernel_rfl) (by kernel_rfl) (by kernel_rfl) (by kernel_rfl) (fun _ _ _ h => h) (Or.inl ⟨by rfl, ?_⟩) (by assumption) ?_
      rotate_left
      · intro w hSw
        try dsimp only at hSw
        go_simp <;> with_reducible rfl
      try simp only [Act.put, List.setIfInBounds_toArray, List.set_cons_zero, List.set_cons_succ]
      refine any_take (i := 14) (oi := ({ dst := some 52, op := Go.Op.fieldAddr 114 (Go.Operand.tmp 5) 0, type := 0, pos := "zz_plain.go:365", after := #[], guard := none } : Go.Oper)) (v := ?_) rfl (by kernel_rfl) (by kernel_rfl) (by kernel_rfl) (fun _ _ _ h => h) (Or.inl ⟨by rfl, ?_⟩) ?_
      rotate_left
      · intro w
        go_simp <;> with_reducible rfl
      try simp only [Act.put, List.setIfInBounds_toArray, List.set_cons_zero, List.set_cons_succ]
      refine wpAnyLast_take (i := 15) (oi := ({ dst := some 53, op := Go.Op.load 20 (Go.Operand.tmp 52), type := 20, pos := "zz_plain.go:365", after := #[{ on := 14, ground := Go.Ground.data }], guard := none } : Go.Oper)) (v := ?_) rfl (by kernel_rfl) (by kernel_rfl) (by kernel_rfl) (by kernel_rfl) (by kernel_rfl) (fun _ _ _ h => h) (Or.inl ⟨by rfl, ?_⟩) (by assumption) ?_
      rotate_left
      · intro w hSw
        try dsimp only at hSw
        go_simp <;> with_reducible rfl
      try simp only [Act.put, List.setIfInBounds_toArray, List.set_cons_zero, List.set_cons_succ]
      refine wpAnyLast_ready (rs := [8, 16]) (by kernel_rfl) (by simp) ?_
      refine AllReadyL.cons (o := ({ dst := some 46, op := Go.Op.buildSlice 50 1 #[(0, Go.Operand.tmp 45)], type := 50, pos := "zz_plain.go:365", after := #[{ on := 7, ground := Go.Ground.data }], guard := none } : Go.Oper)) rfl (by decide) (fun K hK => ?_) ?_
      rotate_left
      refine AllReadyL.cons (o := ({ dst := some 54, op := Go.Op.buildSlice 50 1 #[(0, Go.Operand.tmp 53)], type := 50, pos := "zz_plain.go:365", after := #[{ on := 15, ground := Go.Ground.data }], guard := none } : Go.Oper)) rfl (by decide) (fun K hK => ?_) AllReadyL.nil
      · have hB : True := trivial
        have HP1 := Aside0.mk (HPR.out.alloc (.cells #[.iface dx ux] 20))
        have hx1 := (cell_of_row _ _ 0 _ 20 (0, 0) (heap_alloc_new X (.cells #[.iface dx ux] 20))).trans rfl
        go_simp
        refine hK.out _ _ (sl_of HP1.out.di.row HP1.out.r2 HP1.out.r3) (fun hHeld => ?_)
        clear hK K
        try simp only [Act.put, List.setIfInBounds_toArray, List.set_cons_zero, List.set_cons_succ]
        refine wpAnyLast_ready (rs := [8]) (by kernel_rfl) (by simp) ?_
        refine AllReadyL.cons (o := ({ dst := some 46, op := Go.Op.buildSlice 50 1 #[(0, Go.Operand.tmp 45)], type := 50, pos := "zz_plain.go:365", after := #[{ on := 7, ground := Go.Ground.data }], guard := none } : Go.Oper)) rfl (by decide) (fun K hK => ?_) AllReadyL.nil
        have HP2 := Aside0.mk (HP1.out.alloc (.cells #[.iface dk uk] 20))
        go_simp
        refine hK.out _ _ (sl_of HP2.out.di.row HP2.out.r2 HP2.out.r3) (fun hHeld => ?_)
        clear hK K
        try simp only [Act.put, List.setIfInBounds_toArray, List.set_cons_zero, List.set_cons_succ]
        refine wpAnyLast_ready (rs := [9]) (by kernel_rfl) (by simp) ?_
        refine AllReadyL.cons (o := ({ dst := some 47, op := Go.Op.call { callee := Go.Callee.builtin Go.Builtin.append, args := #[Go.Operand.tmp 43, Go.Operand.tmp 46], argTypes := #[50, 50] }, type := 50, pos := "zz_plain.go:365", after := #[{ on := 5, ground := Go.Ground.data }, { on := 8, ground := Go.Ground.data }], guard := none } : Go.Oper)) rfl (by decide) (fun K hK => ?_) AllReadyL.nil
        refine step_ap (L + 1) rfl _ _ rfl (.slice A1 n cp1) n kl (.iface dk uk) ⟨X.heap.size + 1, 0, none⟩ (by simp [Act.eval, Act.put]) (by simp [Act.eval, Act.put]) (by have h := heap_alloc_new (X.alloc (.cells #[.iface dx ux] 20)) (.cells #[.iface dk uk] 20); rw [World.size_alloc] at h; exact (cell_of_row _ _ 0 _ 20 (0, 0) h).trans rfl) rfl HP2.out.di.k (by have := HP2.out.sz; have := HP2.out.lw; omega) (by omega) ?_
        intro v1 w1 ho1 hg1 hat1
        obtain ⟨A3, c3, rfl⟩ := own_slice ho1
        have HM1 := Aside0.mk (HP2.out.ap1 ho1 hg1 hat1)
        have hx2 := (cell_of_row _ X.heap.size 0 _ 20 (0, 0) (grown_far hg1 (fun e => by have := HPR.out.lk _ e; have := HPR.out.sz; omega) (up_heap2 (below_alloc (Below.refl _ _) (.cells #[.iface dk uk] 20)) (heap_alloc_new X (.cells #[.iface dx ux] 20))))).trans rfl
        clear ho1 hg1 hat1
        refine hK.out _ _ (sl_of HM1.out.row HM1.out.r2 HM1.out.r3) (fun hHeld => ?_)
        clear hK K
        try simp only [Act.put, List.setIfInBounds_toArray, List.set_cons_zero, List.set_cons_succ]
        refine wpAnyLast_ready (rs := [17]) (by kernel_rfl) (by simp) ?_
        refine AllReadyL.cons (o := ({ dst := some 55, op := Go.Op.call { callee := Go.Callee.builtin Go.Builtin.append, args := #[Go.Operand.tmp 51, Go.Operand.tmp 54], argTypes := #[50, 50] }, type := 50, pos := "zz_plain.go:365", after := #[{ on := 13, ground := Go.Ground.data }, { on := 16, ground := Go.Ground.data }, { on := 9, ground := Go.Ground.chain }], guard := none } : Go.Oper)) rfl (by decide) (fun K hK => ?_) AllReadyL.nil
        refine step_ap (L + 1) rfl _ _ rfl (.slice A2 n cp2) n vl (.iface dx ux) ⟨X.heap.size, 0, none⟩ (by simp [Act.eval, Act.put]) (by simp [Act.eval, Act.put]) hx2 rfl HM1.out.vr (by have := HM1.out.sz; have := HM1.out.lw; omega) (by omega) ?_
        intro v2 w2 ho2 hg2 hat2
        obtain ⟨A4, c4, rfl⟩ := own_slice ho2
        have HP := Aside0.mk (HM1.out.ap2 ho2 hg2 hat2)
        clear ho2 hg2 hat2
        refine hK.out _ _ (sl_of HP.out.row HP.out.r2 HP.out.r3) (fun hHeld => ?_)
        clear hK K
        try simp only [Act.put, List.setIfInBounds_toArray, List.set_cons_zero, List.set_cons_succ]
        have e2 := (sl_of HP.out.row HP.out.r2 HP.out.r3).1
        have e3 := (sl_of HP.out.row HP.out.r2 HP.out.r3).2.1
        have z2 := frozen_of_row w2 L 2 _ 108 HP.out.row
        have z3 := frozen_of_row w2 L 3 _ 108 HP.out.row
        refine any_take (i := 18) (oi := ({ dst := some 56, op := Go.Op.nilCheck (Go.Operand.tmp 38), type := 0, pos := "zz_plain.go:365", after := #[{ on := 0, ground := Go.Ground.data }, { on := 0, ground := Go.Ground.phase }, { on := 1, ground := Go.Ground.textOnly Go.Departure.lateStores }, { on := 2, ground := Go.Ground.phase }, { on := 3, ground := Go.Ground.phase }, { on := 4, ground := Go.Ground.phase }, { on := 5, ground := Go.Ground.phase }, { on := 6, ground := Go.Ground.phase }, { on := 7, ground := Go.Ground.phase }, { on := 8, ground := Go.Ground.phase }, { on := 9, ground := Go.Ground.phase }, { on := 10, ground := Go.Ground.textOnly Go.Departure.lateStores }, { on := 11, ground := Go.Ground.textOnly Go.Departure.lateStoresUnsure }, { on := 12, ground := Go.Ground.textOnly Go.Departure.lateStoresUnsure }, { on := 13, ground := Go.Ground.phase }, { on := 14, ground := Go.Ground.textOnly Go.Departure.lateStores }, { on := 15, ground := Go.Ground.textOnly Go.Departure.lateStores }, { on := 16, ground := Go.Ground.textOnly Go.Departure.lateStoresUnsure }, { on := 17, ground := Go.Ground.phase }], guard := none } : Go.Oper)) (v := ?_) rfl (by kernel_rfl) (by kernel_rfl) (by kernel_rfl) (fun _ _ _ h => h) (Or.inl ⟨by rfl, ?_⟩) ?_
        rotate_left
        · intro w
          go_simp <;> with_reducible rfl
        try simp only [Act.put, List.setIfInBounds_toArray, List.set_cons_zero, List.set_cons_succ]
        refine any_take (i := 19) (oi := ({ dst := some 57, op := Go.Op.fieldAddr 108 (Go.Operand.tmp 56) 2, type := 0, pos := "zz_plain.go:365", after := #[{ on := 18, ground := Go.Ground.data }, { on := 0, ground := Go.Ground.phase }, { on := 1, ground := Go.Ground.textOnly Go.Departure.lateStores }, { on := 2, ground := Go.Ground.phase }, { on := 3, ground := Go.Ground.phase }, { on := 4, ground := Go.Ground.phase }, { on := 5, ground := Go.Ground.phase }, { on := 6, ground := Go.Ground.phase }, { on := 7, ground := Go.Ground.phase }, { on := 8, ground := Go.Ground.phase }, { on := 9, ground := Go.Ground.phase }, { on := 10, ground := Go.Ground.textOnly Go.Departure.lateStores }, { on := 11, ground := Go.Ground.textOnly Go.Departure.lateStoresUnsure }, { on := 12, ground := Go.Ground.textOnly Go.Departure.lateStoresUnsure }, { on := 13, ground := Go.Ground.phase }, { on := 14, ground := Go.Ground.textOnly Go.Departure.lateStores }, { on := 15, ground := Go.Ground.textOnly Go.Departure.lateStores }, { on := 16, ground := Go.Ground.textOnly Go.Departure.lateStoresUnsure }, { on := 17, ground := Go.Ground.phase }], guard := none } : Go.Oper)) (v := ?_) rfl (by kernel_rfl) (by kernel_rfl) (by kernel_rfl) (fun _ _ _ h => h) (Or.inl ⟨by rfl, ?_⟩) ?_
        rotate_left
        · intro w
          go_simp <;> with_reducible rfl
        try simp only [Act.put, List.setIfInBounds_toArray, List.set_cons_zero, List.set_cons_succ]
        refine wpAnyLast_ready (rs := [20]) (by kernel_rfl) (by simp) ?_
        refine AllReadyL.cons_last (o := ({ dst := none, op := Go.Op.store 50 (Go.Operand.tmp 57) (Go.Operand.tmp 47), type := 0, pos := "zz_plain.go:365", after := #[{ on := 19, ground := Go.Ground.data }, { on := 9, ground := Go.Ground.data }, { on := 17, ground := Go.Ground.chain }, { on := 0, ground := Go.Ground.phase }, { on := 1, ground := Go.Ground.textOnly Go.Departure.lateStores }, { on := 2, ground := Go.Ground.phase }, { on := 3, ground := Go.Ground.phase }, { on := 4, ground := Go.Ground.phase }, { on := 5, ground := Go.Ground.phase }, { on := 6, ground := Go.Ground.phase }, { on := 7, ground := Go.Ground.phase }, { on := 8, ground := Go.Ground.phase }, { on := 9, ground := Go.Ground.phase }, { on := 10, ground := Go.Ground.textOnly Go.Departure.lateStores }, { on := 11, ground := Go.Ground.textOnly Go.Departure.lateStoresUnsure }, { on := 12, ground := Go.Ground.textOnly Go.Departure.lateStoresUnsure }, { on := 13, ground := Go.Ground.phase }, { on := 14, ground := Go.Ground.textOnly Go.Departure.lateStores }, { on := 15, ground := Go.Ground.textOnly Go.Departure.lateStores }, { on := 16, ground := Go.Ground.textOnly Go.Departure.lateStoresUnsure }, { on := 17, ground := Go.Ground.phase }], guard := none } : Go.Oper)) rfl (by decide) (fun K hK => ?_) AllReadyL.nil
        go_simp
        refine hK.out _ _ ?_
        clear hK K
        try simp only [Act.put, List.setIfInBounds_toArray, List.set_cons_zero, List.set_cons_succ]
        refine any_take (i := 21) (oi := ({ dst := some 58, op := Go.Op.nilCheck (Go.Operand.tmp 39), type := 0, pos := "zz_plain.go:365", after := #[{ on := 1, ground := Go.Ground.data }, { on := 0, ground := Go.Ground.phase }, { on := 1, ground := Go.Ground.phase }, { on := 2, ground := Go.Ground.phase }, { on := 3, ground := Go.Ground.phase }, { on := 4, ground := Go.Ground.phase }, { on := 5, ground := Go.Ground.phase }, { on := 6, ground := Go.Ground.phase }, { on := 7, ground := Go.Ground.phase }, { on := 8, ground := Go.Ground.phase }, { on := 9, ground := Go.Ground.phase }, { on := 10, ground := Go.Ground.phase }, { on := 11, ground := Go.Ground.phase }, { on := 12, ground := Go.Ground.phase }, { on := 13, ground := Go.Ground.phase }, { on := 14, ground := Go.Ground.phase }, { on := 15, ground := Go.Ground.phase }, { on := 16, ground := Go.Ground.phase }, { on := 17, ground := Go.Ground.phase }, { on := 18, ground := Go.Ground.phase }, { on := 19, ground := Go.Ground.phase }, { on := 20, ground := Go.Ground.phase }], guard := none } : Go.Oper)) (v := ?_) rfl (by kernel_rfl) (by kernel_rfl) (by kernel_rfl) (fun _ _ _ h => h) (Or.inl ⟨by rfl, ?_⟩) ?_
        rotate_left
        · intro w
          go_simp <;> with_reducible rfl
        try simp only [Act.put, List.setIfInBounds_toArray, List.set_cons_zero, List.set_cons_succ]
        refine any_take (i := 22) (oi := ({ dst := some 59, op := Go.Op.fieldAddr 108 (Go.Operand.tmp 58) 3, type := 0, pos := "zz_plain.go:365", after := #[{ on := 21, ground := Go.Ground.data }, { on := 0, ground := Go.Ground.phase }, { on := 1, ground := Go.Ground.phase }, { on := 2, ground := Go.Ground.phase }, { on := 3, ground := Go.Ground.phase }, { on := 4, ground := Go.Ground.phase }, { on := 5, ground := Go.Ground.phase }, { on := 6, ground := Go.Ground.phase }, { on := 7, ground := Go.Ground.phase }, { on := 8, ground := Go.Ground.phase }, { on := 9, ground := Go.Ground.phase }, { on := 10, ground := Go.Ground.phase }, { on := 11, ground := Go.Ground.phase }, { on := 12, ground := Go.Ground.phase }, { on := 13, ground := Go.Ground.phase }, { on := 14, ground := Go.Ground.phase }, { on := 15, ground := Go.Ground.phase }, { on := 16, ground := Go.Ground.phase }, { on := 17, ground := Go.Ground.phase }, { on := 18, ground := Go.Ground.phase }, { on := 19, ground := Go.Ground.phase }, { on := 20, ground := Go.Ground.phase }], guard := none } : Go.Oper)) (v := ?_) rfl (by kernel_rfl) (by kernel_rfl) (by kernel_rfl) (fun _ _ _ h => h) (Or.inl ⟨by rfl, ?_⟩) ?_
        rotate_left
        · intro w
          go_simp <;> with_reducible rfl
        try simp only [Act.put, List.setIfInBounds_toArray, List.set_cons_zero, List.set_cons_succ]
        refine wpAnyLast_ready (rs := [23]) (by kernel_rfl) (by simp) ?_
        refine AllReadyL.cons_last (o := ({ dst := none, op := Go.Op.store 50 (Go.Operand.tmp 59) (Go.Operand.tmp 55), type := 0, pos := "zz_plain.go:365", after := #[{ on := 22, ground := Go.Ground.data }, { on := 17, ground := Go.Ground.data }, { on := 20, ground := Go.Ground.chain }, { on := 0, ground := Go.Ground.phase }, { on := 1, ground := Go.Ground.phase }, { on := 2, ground := Go.Ground.phase }, { on := 3, ground := Go.Ground.phase }, { on := 4, ground := Go.Ground.phase }, { on := 5, ground := Go.Ground.phase }, { on := 6, ground := Go.Ground.phase }, { on := 7, ground := Go.Ground.phase }, { on := 8, ground := Go.Ground.phase }, { on := 9, ground := Go.Ground.phase }, { on := 10, ground := Go.Ground.phase }, { on := 11, ground := Go.Ground.phase }, { on := 12, ground := Go.Ground.phase }, { on := 13, ground := Go.Ground.phase }, { on := 14, ground := Go.Ground.phase }, { on := 15, ground := Go.Ground.phase }, { on := 16, ground := Go.Ground.phase }, { on := 17, ground := Go.Ground.phase }, { on := 18, ground := Go.Ground.phase }, { on := 19, ground := Go.Ground.phase }, { on := 20, ground := Go.Ground.phase }], guard := none } : Go.Oper)) rfl (by decide) (fun K hK => ?_) AllReadyL.nil
        go_simp
        refine hK.out _ _ ?_
        clear hK K
        try simp only [Act.put, List.setIfInBounds_toArray, List.set_cons_zero, List.set_cons_succ]
        refine wpAnyLast_done (by kernel_rfl) ?_ _
        refine NoPanic.normal ?_
        go_wp2_with fail
        refine bodyPost_end (res60 _ _) rfl ?_
        exact ⟨rfl, ⟨_, _, _, _, _, Nat.le_refl _, bv_snoc HKL.out HBK.out, HP.out.fin.1⟩, HP.out.fin.2⟩
      · have HP1 := Aside0.mk (HPR.out.alloc (.cells #[.iface dk uk] 20))
        go_simp
        refine hK.out _ _ (sl_of HP1.out.di.row HP1.out.r2 HP1.out.r3) (fun hHeld => ?_)
        clear hK K
        try simp only [Act.put, List.setIfInBounds_toArray, List.set_cons_zero, List.set_cons_succ]
        refine wpAnyLast_ready (rs := [9, 16]) (by kernel_rfl) (by simp) ?_
        refine AllReadyL.cons (o := ({ dst := some 47, op := Go.Op.call { callee := Go.Callee.builtin Go.Builtin.append, args := #[Go.Operand.tmp 43, Go.Operand.tmp 46], argTypes := #[50, 50] }, type := 50, pos := "zz_plain.go:365", after := #[{ on := 5, ground := Go.Ground.data }, { on := 8, ground := Go.Ground.data }], guard := none } : Go.Oper)) rfl (by decide) (fun K hK => ?_) ?_
        rotate_left
        refine AllReadyL.cons (o := ({ dst := some 54, op := Go.Op.buildSlice 50 1 #[(0, Go.Operand.tmp 53)], type := 50, pos := "zz_plain.go:365", after := #[{ on := 15, ground := Go.Ground.data }], guard := none } : Go.Oper)) rfl (by decide) (fun K hK => ?_) AllReadyL.nil
        · have HP2 := Aside0.mk (HP1.out.alloc (.cells #[.iface dx ux] 20))
          go_simp
          refine hK.out _ _ (sl_of HP2.out.di.row HP2.out.r2 HP2.out.r3) (fun hHeld => ?_)
          clear hK K
          try simp only [Act.put, List.setIfInBounds_toArray, List.set_cons_zero, List.set_cons_succ]
          refine wpAnyLast_ready (rs := [9]) (by kernel_rfl) (by simp) ?_
          refine AllReadyL.cons (o := ({ dst := some 47, op := Go.Op.call { callee := Go.Callee.builtin Go.Builtin.append, args := #[Go.Operand.tmp 43, Go.Operand.tmp 46], argTypes := #[50, 50] }, type := 50, pos := "zz_plain.go:365", after := #[{ on := 5, ground := Go.Ground.data }, { on := 8, ground := Go.Ground.data }], guard := none } : Go.Oper)) rfl (by decide) (fun K hK => ?_) AllReadyL.nil
          refine step_ap (L + 1) rfl _ _ rfl (.slice A1 n cp1) n kl (.iface dk uk) ⟨X.heap.size, 0, none⟩ (by simp [Act.eval, Act.put]) (by simp [Act.eval, Act.put]) ((cell_of_row _ _ 0 _ 20 (0, 0) (up_heap2 (below_alloc (Below.refl _ _) (.cells #[.iface dx ux] 20)) (heap_alloc_new X (.cells #[.iface dk uk] 20)))).trans rfl) rfl HP2.out.di.k (by have := HP2.out.sz; have := HP2.out.lw; omega) (by omega) ?_
          intro v1 w1 ho1 hg1 hat1
          obtain ⟨A3, c3, rfl⟩ := own_slice ho1
          have HM1 := Aside0.mk (HP2.out.ap1 ho1 hg1 hat1)
          have hx2 := (cell_of_row _ (X.heap.size + 1) 0 _ 20 (0, 0) (grown_far hg1 (fun e => by have := HPR.out.lk _ e; have := HPR.out.sz; omega) (by have h := heap_alloc_new (X.alloc (.cells #[.iface dk uk] 20)) (.cells #[.iface dx ux] 20); rw [World.size_alloc] at h; exact h))).trans rfl
          clear ho1 hg1 hat1
          refine hK.out _ _ (sl_of HM1.out.row HM1.out.r2 HM1.out.r3) (fun hHeld => ?_)
          clear hK K
          try simp only [Act.put, List.setIfInBounds_toArray, List.set_cons_zero, List.set_cons_succ]
          refine wpAnyLast_ready (rs := [17]) (by kernel_rfl) (by simp) ?_
          refine AllReadyL.cons (o := ({ dst := some 55, op := Go.Op.call { callee := Go.Callee.builtin Go.Builtin.append, args := #[Go.Operand.tmp 51, Go.Operand.tmp 54], argTypes := #[50, 50] }, type := 50, pos := "zz_plain.go:365", after := #[{ on := 13, ground := Go.Ground.data }, { on := 16, ground := Go.Ground.data }, { on := 9, ground := Go.Ground.chain }], guard := none } : Go.Oper)) rfl (by decide) (fun K hK => ?_) AllReadyL.nil
          refine step_ap (L + 1) rfl _ _ rfl (.slice A2 n cp2) n vl (.iface dx ux) ⟨X.heap.size + 1, 0, none⟩ (by simp [Act.eval, Act.put]) (by simp [Act.eval, Act.put]) hx2 rfl HM1.out.vr (by have := HM1.out.sz; have := HM1.out.lw; omega) (by omega) ?_
          intro v2 w2 ho2 hg2 hat2
          obtain ⟨A4, c4, rfl⟩ := own_slice ho2
          have HP := Aside0.mk (HM1.out.ap2 ho2 hg2 hat2)
          clear ho2 hg2 hat2
          refine hK.out _ _ (sl_of HP.out.row HP.out.r2 HP.out.r3) (fun hHeld => ?_)
          clear hK K
          try simp only [Act.put, List.setIfInBounds_toArray, List.set_cons_zero, List.set_cons_succ]
          have e2 := (sl_of HP.out.row HP.out.r2 HP.out.r3).1
          have e3 := (sl_of HP.out.row HP.out.r2 HP.out.r3).2.1
          have z2 := frozen_of_row w2 L 2 _ 108 HP.out.row
          have z3 := frozen_of_row w2 L 3 _ 108 HP.out.row
          refine any_take (i := 18) (oi := ({ dst := some 56, op := Go.Op.nilCheck (Go.Operand.tmp 38), type := 0, pos := "zz_plain.go:365", after := #[{ on := 0, ground := Go.Ground.data }, { on := 0, ground := Go.Ground.phase }, { on := 1, ground := Go.Ground.textOnly Go.Departure.lateStores }, { on := 2, ground := Go.Ground.phase }, { on := 3, ground := Go.Ground.phase }, { on := 4, ground := Go.Ground.phase }, { on := 5, ground := Go.Ground.phase }, { on := 6, ground := Go.Ground.phase }, { on := 7, ground := Go.Ground.phase }, { on := 8, ground := Go.Ground.phase }, { on := 9, ground := Go.Ground.phase }, { on := 10, ground := Go.Ground.textOnly Go.Departure.lateStores }, { on := 11, ground := Go.Ground.textOnly Go.Departure.lateStoresUnsure }, { on := 12, ground := Go.Ground.textOnly Go.Departure.lateStoresUnsure }, { on := 13, ground := Go.Ground.phase }, { on := 14, ground := Go.Ground.textOnly Go.Departure.lateStores }, { on := 15, ground := Go.Ground.textOnly Go.Departure.lateStores }, { on := 16, ground := Go.Ground.textOnly Go.Departure.lateStoresUnsure }, { on := 17, ground := Go.Ground.phase }], guard := none } : Go.Oper)) (v := ?_) rfl (by kernel_rfl) (by kernel_rfl) (by kernel_rfl) (fun _ _ _ h => h) (Or.inl ⟨by rfl, ?_⟩) ?_
          rotate_left
          · intro w
            go_simp <;> with_reducible rfl
          try simp only [Act.put, List.setIfInBounds_toArray, List.set_cons_zero, List.set_cons_succ]
          refine any_take (i := 19) (oi := ({ dst := some 57, op := Go.Op.fieldAddr 108 (Go.Operand.tmp 56) 2, type := 0, pos := "zz_plain.go:365", after := #[{ on := 18, ground := Go.Ground.data }, { on := 0, ground := Go.Ground.phase }, { on := 1, ground := Go.Ground.textOnly Go.Departure.lateStores }, { on := 2, ground := Go.Ground.phase }, { on := 3, ground := Go.Ground.phase }, { on := 4, ground := Go.Ground.phase }, { on := 5, ground := Go.Ground.phase }, { on := 6, ground := Go.Ground.phase }, { on := 7, ground := Go.Ground.phase }, { on := 8, ground := Go.Ground.phase }, { on := 9, ground := Go.Ground.phase }, { on := 10, ground := Go.Ground.textOnly Go.Departure.lateStores }, { on := 11, ground := Go.Ground.textOnly Go.Departure.lateStoresUnsure }, { on := 12, ground := Go.Ground.textOnly Go.Departure.lateStoresUnsure }, { on := 13, ground := Go.Ground.phase }, { on := 14, ground := Go.Ground.textOnly Go.Departure.lateStores }, { on := 15, ground := Go.Ground.textOnly Go.Departure.lateStores }, { on := 16, ground := Go.Ground.textOnly Go.Departure.lateStoresUnsure }, { on := 17, ground := Go.Ground.phase }], guard := none } : Go.Oper)) (v := ?_) rfl (by kernel_rfl) (by kernel_rfl) (by kernel_rfl) (fun _ _ _ h => h) (Or.inl ⟨by rfl, ?_⟩) ?_
          rotate_left
          · intro w
            go_simp <;> with_reducible rfl
          try simp only [Act.put, List.setIfInBounds_toArray, List.set_cons_zero, List.set_cons_succ]
          refine wpAnyLast_ready (rs := [20]) (by kernel_rfl) (by simp) ?_
          refine AllReadyL.cons_last (o := ({ dst := none, op := Go.Op.store 50 (Go.Operand.tmp 57) (Go.Operand.tmp 47), type := 0, pos := "zz_plain.go:365", after := #[{ on := 19, ground := Go.Ground.data }, { on := 9, ground := Go.Ground.data }, { on := 17, ground := Go.Ground.chain }, { on := 0, ground := Go.Ground.phase }, { on := 1, ground := Go.Ground.textOnly Go.Departure.lateStores }, { on := 2, ground := Go.Ground.phase }, { on := 3, ground := Go.Ground.phase }, { on := 4, ground := Go.Ground.phase }, { on := 5, ground := Go.Ground.phase }, { on := 6, ground := Go.Ground.phase }, { on := 7, ground := Go.Ground.phase }, { on := 8, ground := Go.Ground.phase }, { on := 9, ground := Go.Ground.phase }, { on := 10, ground := Go.Ground.textOnly Go.Departure.lateStores }, { on := 11, ground := Go.Ground.textOnly Go.Departure.lateStoresUnsure }, { on := 12, ground := Go.Ground.textOnly Go.Departure.lateStoresUnsure }, { on := 13, ground := Go.Ground.phase }, { on := 14, ground := Go.Ground.textOnly Go.Departure.lateStores }, { on := 15, ground := Go.Ground.textOnly Go.Departure.lateStores }, { on := 16, ground := Go.Ground.textOnly Go.Departure.lateStoresUnsure }, { on := 17, ground := Go.Ground.phase }], guard := none } : Go.Oper)) rfl (by decide) (fun K hK => ?_) AllReadyL.nil
          go_simp
          refine hK.out _ _ ?_
          clear hK K
          try simp only [Act.put, List.setIfInBounds_toArray, List.set_cons_zero, List.set_cons_succ]
          refine any_take (i := 21) (oi := ({ dst := some 58, op := Go.Op.nilCheck (Go.Operand.tmp 39), type := 0, pos := "zz_plain.go:365", after := #[{ on := 1, ground := Go.Ground.data }, { on := 0, ground := Go.Ground.phase }, { on := 1, ground := Go.Ground.phase }, { on := 2, ground := Go.Ground.phase }, { on := 3, ground := Go.Ground.phase }, { on := 4, ground := Go.Ground.phase }, { on := 5, ground := Go.Ground.phase }, { on := 6, ground := Go.Ground.phase }, { on := 7, ground := Go.Ground.phase }, { on := 8, ground := Go.Ground.phase }, { on := 9, ground := Go.Ground.phase }, { on := 10, ground := Go.Ground.phase }, { on := 11, ground := Go.Ground.phase }, { on := 12, ground := Go.Ground.phase }, { on := 13, ground := Go.Ground.phase }, { on := 14, ground := Go.Ground.phase }, { on := 15, ground := Go.Ground.phase }, { on := 16, ground := Go.Ground.phase }, { on := 17, ground := Go.Ground.phase }, { on := 18, ground := Go.Ground.phase }, { on := 19, ground := Go.Ground.phase }, { on := 20, ground := Go.Ground.phase }], guard := none } : Go.Oper)) (v := ?_) rfl (by kernel_rfl) (by kernel_rfl) (by kernel_rfl) (fun _ _ _ h => h) (Or.inl ⟨by rfl, ?_⟩) ?_
          rotate_left
          · intro w
            go_simp <;> with_reducible rfl
          try simp only [Act.put, List.setIfInBounds_toArray, List.set_cons_zero, List.set_cons_succ]
          refine any_take (i := 22) (oi := ({ dst := some 59, op := Go.Op.fieldAddr 108 (Go.Operand.tmp 58) 3, type := 0, pos := "zz_plain.go:365", after := #[{ on := 21, ground := Go.Ground.data }, { on := 0, ground := Go.Ground.phase }, { on := 1, ground := Go.Ground.phase }, { on := 2, ground := Go.Ground.phase }, { on := 3, ground := Go.Ground.phase }, { on := 4, ground := Go.Ground.phase }, { on := 5, ground := Go.Ground.phase }, { on := 6, ground := Go.Ground.phase }, { on := 7, ground := Go.Ground.phase }, { on := 8, ground := Go.Ground.phase }, { on := 9, ground := Go.Ground.phase }, { on := 10, ground := Go.Ground.phase }, { on := 11, ground := Go.Ground.phase }, { on := 12, ground := Go.Ground.phase }, { on := 13, ground := Go.Ground.phase }, { on := 14, ground := Go.Ground.phase }, { on := 15, ground := Go.Ground.phase }, { on := 16, ground := Go.Ground.phase }, { on := 17, ground := Go.Ground.phase }, { on := 18, ground := Go.Ground.phase }, { on := 19, ground := Go.Ground.phase }, { on := 20, ground := Go.Ground.phase }], guard := none } : Go.Oper)) (v := ?_) rfl (by kernel_rfl) (by kernel_rfl) (by kernel_rfl) (fun _ _ _ h => h) (Or.inl ⟨by rfl, ?_⟩) ?_
          rotate_left
          · intro w
            go_simp <;> with_reducible rfl
          try simp only [Act.put, List.setIfInBounds_toArray, List.set_cons_zero, List.set_cons_succ]
          refine wpAnyLast_ready (rs := [23]) (by kernel_rfl) (by simp) ?_
          refine AllReadyL.cons_last (o := ({ dst := none, op := Go.Op.store 50 (Go.Operand.tmp 59) (Go.Operand.tmp 55), type := 0, pos := "zz_plain.go:365", after := #[{ on := 22, ground := Go.Ground.data }, { on := 17, ground := Go.Ground.data }, { on := 20, ground := Go.Ground.chain }, { on := 0, ground := Go.Ground.phase }, { on := 1, ground := Go.Ground.phase }, { on := 2, ground := Go.Ground.phase }, { on := 3, ground := Go.Ground.phase }, { on := 4, ground := Go.Ground.phase }, { on := 5, ground := Go.Ground.phase }, { on := 6, ground := Go.Ground.phase }, { on := 7, ground := Go.Ground.phase }, { on := 8, ground := Go.Ground.phase }, { on := 9, ground := Go.Ground.phase }, { on := 10, ground := Go.Ground.phase }, { on := 11, ground := Go.Ground.phase }, { on := 12, ground := Go.Ground.phase }, { on := 13, ground := Go.Ground.phase }, { on := 14, ground := Go.Ground.phase }, { on := 15, ground := Go.Ground.phase }, { on := 16, ground := Go.Ground.phase }, { on := 17, ground := Go.Ground.phase }, { on := 18, ground := Go.Ground.phase }, { on := 19, ground := Go.Ground.phase }, { on := 20, ground := Go.Ground.phase }], guard := none } : Go.Oper)) rfl (by decide) (fun K hK => ?_) AllReadyL.nil
          go_simp
          refine hK.out _ _ ?_
          clear hK K
          try simp only [Act.put, List.setIfInBounds_toArray, List.set_cons_zero, List.set_cons_succ]
          refine wpAnyLast_done (by kernel_rfl) ?_ _
          refine NoPanic.normal ?_
          go_wp2_with fail
          refine bodyPost_end (res60 _ _) rfl ?_
          exact ⟨rfl, ⟨_, _, _, _, _, Nat.le_refl _, bv_snoc HKL.out HBK.out, HP.out.fin.1⟩, HP.out.fin.2⟩
        · have HB : True := trivial
          refine step_ap (L + 1) rfl _ _ rfl (.slice A1 n cp1) n kl (.iface dk uk) ⟨X.heap.size, 0, none⟩ (by simp [Act.eval, Act.put]) (by simp [Act.eval, Act.put]) ((cell_of_row _ _ 0 _ 20 (0, 0) (heap_alloc_new X (.cells #[.iface dk uk] 20))).trans rfl) rfl HP1.out.di.k (by have := HP1.out.sz; have := HP1.out.lw; omega) (by omega) ?_
          intro v1 w1 ho1 hg1 hat1
          obtain ⟨A3, c3, rfl⟩ := own_slice ho1
          have HM1 := Aside0.mk (HP1.out.ap1 ho1 hg1 hat1)
          clear ho1 hg1 hat1
          refine hK.out _ _ (sl_of HM1.out.row HM1.out.r2 HM1.out.r3) (fun hHeld => ?_)
          clear hK K
          try simp only [Act.put, List.setIfInBounds_toArray, List.set_cons_zero, List.set_cons_succ]
          refine wpAnyLast_ready (rs := [16]) (by kernel_rfl) (by simp) ?_
          refine AllReadyL.cons (o := ({ dst := some 54, op := Go.Op.buildSlice 50 1 #[(0, Go.Operand.tmp 53)], type := 50, pos := "zz_plain.go:365", after := #[{ on := 15, ground := Go.Ground.data }], guard := none } : Go.Oper)) rfl (by decide) (fun K hK => ?_) AllReadyL.nil
          have HM2 := Aside0.mk (HM1.out.alloc (.cells #[.iface dx ux] 20))
          go_simp
          refine hK.out _ _ (sl_of HM2.out.row HM2.out.r2 HM2.out.r3) (fun hHeld => ?_)
          clear hK K
          try simp only [Act.put, List.setIfInBounds_toArray, List.set_cons_zero, List.set_cons_succ]
          refine wpAnyLast_ready (rs := [17]) (by kernel_rfl) (by simp) ?_
          refine AllReadyL.cons (o := ({ dst := some 55, op := Go.Op.call { callee := Go.Callee.builtin Go.Builtin.append, args := #[Go.Operand.tmp 51, Go.Operand.tmp 54], argTypes := #[50, 50] }, type := 50, pos := "zz_plain.go:365", after := #[{ on := 13, ground := Go.Ground.data }, { on := 16, ground := Go.Ground.data }, { on := 9, ground := Go.Ground.chain }], guard := none } : Go.Oper)) rfl (by decide) (fun K hK => ?_) AllReadyL.nil
          refine step_ap (L + 1) rfl _ _ rfl (.slice A2 n cp2) n vl (.iface dx ux) ⟨w1.heap.size, 0, none⟩ (by simp [Act.eval, Act.put]) (by simp [Act.eval, Act.put]) ((cell_of_row _ _ 0 _ 20 (0, 0) (heap_alloc_new w1 (.cells #[.iface dx ux] 20))).trans rfl) rfl HM2.out.vr (by have := HM2.out.sz; have := HM2.out.lw; omega) (by omega) ?_
          intro v2 w2 ho2 hg2 hat2
          obtain ⟨A4, c4, rfl⟩ := own_slice ho2
          have HP := Aside0.mk (HM2.out.ap2 ho2 hg2 hat2)
          clear ho2 hg2 hat2
          refine hK.out _ _ (sl_of HP.out.row HP.out.r2 HP.out.r3) (fun hHeld => ?_)
          clear hK K
          try simp only [Act.put, List.setIfInBounds_toArray, List.set_cons_zero, List.set_cons_succ]
          have e2 := (sl_of HP.out.row HP.out.r2 HP.out.r3).1
          have e3 := (sl_of HP.out.row HP.out.r2 HP.out.r3).2.1
          have z2 := frozen_of_row w2 L 2 _ 108 HP.out.row
          have z3 := frozen_of_row w2 L 3 _ 108 HP.out.row
          refine any_take (i := 18) (oi := ({ dst := some 56, op := Go.Op.nilCheck (Go.Operand.tmp 38), type := 0, pos := "zz_plain.go:365", after := #[{ on := 0, ground := Go.Ground.data }, { on := 0, ground := Go.Ground.phase }, { on := 1, ground := Go.Ground.textOnly Go.Departure.lateStores }, { on := 2, ground := Go.Ground.phase }, { on := 3, ground := Go.Ground.phase }, { on := 4, ground := Go.Ground.phase }, { on := 5, ground := Go.Ground.phase }, { on := 6, ground := Go.Ground.phase }, { on := 7, ground := Go.Ground.phase }, { on := 8, ground := Go.Ground.phase }, { on := 9, ground := Go.Ground.phase }, { on := 10, ground := Go.Ground.textOnly Go.Departure.lateStores }, { on := 11, ground := Go.Ground.textOnly Go.Departure.lateStoresUnsure }, { on := 12, ground := Go.Ground.textOnly Go.Departure.lateStoresUnsure }, { on := 13, ground := Go.Ground.phase }, { on := 14, ground := Go.Ground.textOnly Go.Departure.lateStores }, { on := 15, ground := Go.Ground.textOnly Go.Departure.lateStores }, { on := 16, ground := Go.Ground.textOnly Go.Departure.lateStoresUnsure }, { on := 17, ground := Go.Ground.phase }], guard := none } : Go.Oper)) (v := ?_) rfl (by kernel_rfl) (by kernel_rfl) (by kernel_rfl) (fun _ _ _ h => h) (Or.inl ⟨by rfl, ?_⟩) ?_
          rotate_left
          · intro w
            go_simp <;> with_reducible rfl
          try simp only [Act.put, List.setIfInBounds_toArray, List.set_cons_zero, List.set_cons_succ]
          refine any_take (i := 19) (oi := ({ dst := some 57, op := Go.Op.fieldAddr 108 (Go.Operand.tmp 56) 2, type := 0, pos := "zz_plain.go:365", after := #[{ on := 18, ground := Go.Ground.data }, { on := 0, ground := Go.Ground.phase }, { on := 1, ground := Go.Ground.textOnly Go.Departure.lateStores }, { on := 2, ground := Go.Ground.phase }, { on := 3, ground := Go.Ground.phase }, { on := 4, ground := Go.Ground.phase }, { on := 5, ground := Go.Ground.phase }, { on := 6, ground := Go.Ground.phase }, { on := 7, ground := Go.Ground.phase }, { on := 8, ground := Go.Ground.phase }, { on := 9, ground := Go.Ground.phase }, { on := 10, ground := Go.Ground.textOnly Go.Departure.lateStores }, { on := 11, ground := Go.Ground.textOnly Go.Departure.lateStoresUnsure }, { on := 12, ground := Go.Ground.textOnly Go.Departure.lateStoresUnsure }, { on := 13, ground := Go.Ground.phase }, { on := 14, ground := Go.Ground.textOnly Go.Departure.lateStores }, { on := 15, ground := Go.Ground.textOnly Go.Departure.lateStores }, { on := 16, ground := Go.Ground.textOnly Go.Departure.lateStoresUnsure }, { on := 17, ground := Go.Ground.phase }], guard := none } : Go.Oper)) (v := ?_) rfl (by kernel_rfl) (by kernel_rfl) (by kernel_rfl) (fun _ _ _ h => h) (Or.inl ⟨by rfl, ?_⟩) ?_
          rotate_left
          · intro w
            go_simp <;> with_reducible rfl
          try simp only [Act.put, List.setIfInBounds_toArray, List.set_cons_zero, List.set_cons_succ]
          refine wpAnyLast_ready (rs := [20]) (by kernel_rfl) (by simp) ?_
          refine AllReadyL.cons_last (o := ({ dst := none, op := Go.Op.store 50 (Go.Operand.tmp 57) (Go.Operand.tmp 47), type := 0, pos := "zz_plain.go:365", after := #[{ on := 19, ground := Go.Ground.data }, { on := 9, ground := Go.Ground.data }, { on := 17, ground := Go.Ground.chain }, { on := 0, ground := Go.Ground.phase }, { on := 1, ground := Go.Ground.textOnly Go.Departure.lateStores }, { on := 2, ground := Go.Ground.phase }, { on := 3, ground := Go.Ground.phase }, { on := 4, ground := Go.Ground.phase }, { on := 5, ground := Go.Ground.phase }, { on := 6, ground := Go.Ground.phase }, { on := 7, ground := Go.Ground.phase }, { on := 8, ground := Go.Ground.phase }, { on := 9, ground := Go.Ground.phase }, { on := 10, ground := Go.Ground.textOnly Go.Departure.lateStores }, { on := 11, ground := Go.Ground.textOnly Go.Departure.lateStoresUnsure }, { on := 12, ground := Go.Ground.textOnly Go.Departure.lateStoresUnsure }, { on := 13, ground := Go.Ground.phase }, { on := 14, ground := Go.Ground.textOnly Go.Departure.lateStores }, { on := 15, ground := Go.Ground.textOnly Go.Departure.lateStores }, { on := 16, ground := Go.Ground.textOnly Go.Departure.lateStoresUnsure }, { on := 17, ground := Go.Ground.phase }], guard := none } : Go.Oper)) rfl (by decide) (fun K hK => ?_) AllReadyL.nil
          go_simp
          refine hK.out _ _ ?_
          clear hK K
          try simp only [Act.put, List.setIfInBounds_toArray, List.set_cons_zero, List.set_cons_succ]
          refine any_take (i := 21) (oi := ({ dst := some 58, op := Go.Op.nilCheck (Go.Operand.tmp 39), type := 0, pos := "zz_plain.go:365", after := #[{ on := 1, ground := Go.Ground.data }, { on := 0, ground := Go.Ground.phase }, { on := 1, ground := Go.Ground.phase }, { on := 2, ground := Go.Ground.phase }, { on := 3, ground := Go.Ground.phase }, { on := 4, ground := Go.Ground.phase }, { on := 5, ground := Go.Ground.phase }, { on := 6, ground := Go.Ground.phase }, { on := 7, ground := Go.Ground.phase }, { on := 8, ground := Go.Ground.phase }, { on := 9, ground := Go.Ground.phase }, { on := 10, ground := Go.Ground.phase }, { on := 11, ground := Go.Ground.phase }, { on := 12, ground := Go.Ground.phase }, { on := 13, ground := Go.Ground.phase }, { on := 14, ground := Go.Ground.phase }, { on := 15, ground := Go.Ground.phase }, { on := 16, ground := Go.Ground.phase }, { on := 17, ground := Go.Ground.phase }, { on := 18, ground := Go.Ground.phase }, { on := 19, ground := Go.Ground.phase }, { on := 20, ground := Go.Ground.phase }], guard := none } : Go.Oper)) (v := ?_) rfl (by kernel_rfl) (by kernel_rfl) (by kernel_rfl) (fun _ _ _ h => h) (Or.inl ⟨by rfl, ?_⟩) ?_
          rotate_left
          · intro w
            go_simp <;> with_reducible rfl
          try simp only [Act.put, List.setIfInBounds_toArray, List.set_cons_zero, List.set_cons_succ]
          refine any_take (i := 22) (oi := ({ dst := some 59, op := Go.Op.fieldAddr 108 (Go.Operand.tmp 58) 3, type := 0, pos := "zz_plain.go:365", after := #[{ on := 21, ground := Go.Ground.data }, { on := 0, ground := Go.Ground.phase }, { on := 1, ground := Go.Ground.phase }, { on := 2, ground := Go.Ground.phase }, { on := 3, ground := Go.Ground.phase }, { on := 4, ground := Go.Ground.phase }, { on := 5, ground := Go.Ground.phase }, { on := 6, ground := Go.Ground.phase }, { on := 7, ground := Go.Ground.phase }, { on := 8, ground := Go.Ground.phase }, { on := 9, ground := Go.Ground.phase }, { on := 10, ground := Go.Ground.phase }, { on := 11, ground := Go.Ground.phase }, { on := 12, ground := Go.Ground.phase }, { on := 13, ground := Go.Ground.phase }, { on := 14, ground := Go.Ground.phase }, { on := 15, ground := Go.Ground.phase }, { on := 16, ground := Go.Ground.phase }, { on := 17, ground := Go.Ground.phase }, { on := 18, ground := Go.Ground.phase }, { on := 19, ground := Go.Ground.phase }, { on := 20, ground := Go.Ground.phase }], guard := none } : Go.Oper)) (v := ?_) rfl (by kernel_rfl) (by kernel_rfl) (by kernel_rfl) (fun _ _ _ h => h) (Or.inl ⟨by rfl, ?_⟩) ?_
          rotate_left
          · intro w
            go_simp <;> with_reducible rfl
          try simp only [Act.put, List.setIfInBounds_toArray, List.set_cons_zero, List.set_cons_succ]
          refine wpAnyLast_ready (rs := [23]) (by kernel_rfl) (by simp) ?_
          refine AllReadyL.cons_last (o := ({ dst := none, op := Go.Op.store 50 (Go.Operand.tmp 59) (Go.Operand.tmp 55), type := 0, pos := "zz_plain.go:365", after := #[{ on := 22, ground := Go.Ground.data }, { on := 17, ground := Go.Ground.data }, { on := 20, ground := Go.Ground.chain }, { on := 0, ground := Go.Ground.phase }, { on := 1, ground := Go.Ground.phase }, { on := 2, ground := Go.Ground.phase }, { on := 3, ground := Go.Ground.phase }, { on := 4, ground := Go.Ground.phase }, { on := 5, ground := Go.Ground.phase }, { on := 6, ground := Go.Ground.phase }, { on := 7, ground := Go.Ground.phase }, { on := 8, ground := Go.Ground.phase }, { on := 9, ground := Go.Ground.phase }, { on := 10, ground := Go.Ground.phase }, { on := 11, ground := Go.Ground.phase }, { on := 12, ground := Go.Ground.phase }, { on := 13, ground := Go.Ground.phase }, { on := 14, ground := Go.Ground.phase }, { on := 15, ground := Go.Ground.phase }, { on := 16, ground := Go.Ground.phase }, { on := 17, ground := Go.Ground.phase }, { on := 18, ground := Go.Ground.phase }, { on := 19, ground := Go.Ground.phase }, { on := 20, ground := Go.Ground.phase }], guard := none } : Go.Oper)) rfl (by decide) (fun K hK => ?_) AllReadyL.nil
          go_simp
          refine hK.out _ _ ?_
          clear hK K
          try simp only [Act.put, List.setIfInBounds_toArray, List.set_cons_zero, List.set_cons_succ]
          refine wpAnyLast_done (by kernel_rfl) ?_ _
          refine NoPanic.normal ?_
          go_wp2_with fail
          refine bodyPost_end (res60 _ _) rfl ?_
          exact ⟨rfl, ⟨_, _, _, _, _, Nat.le_refl _, bv_snoc HKL.out HBK.out, HP.out.fin.1⟩, HP.out.fin.2⟩


end Go.Proofs.YtboioihppjhjcaaDoor.MFnSgOf

/- The package's reader of complete types: it takes each complete type (the plain notion), and, of a text without "()" and "{v", nothing else. -/
namespace Go.Proofs.YtboioihppjhjcaaDoor.MFnSgOfi
open Go Go.RowKit Go.Proofs.YtboioihppjhjcaaDoor.MFnSgOf Go.Proofs.YtboioihppjhjcaaDoorW.PrintWords Go.Proofs.YtboioihppjhjcaaDoorW.PrintLast Go.Proofs.YtboioihppjhjcaaDoor.Hlp Go.Proofs.YtboioihppjhjcaaDoor.SgT
set_option linter.unusedVariables false

theorem bl_drop (s : ByteArray) (p : Nat) : bl (s.extract p s.size) = (bl s).drop p := by
  rw [bl_extract]; exact List.take_of_length_le (by rw [List.length_drop, bl_len]; omega)
theorem size_drop (s : ByteArray) (p : Nat) : (s.extract p s.size).size = s.size - p := by
  rw [← bl_len, bl_drop, List.length_drop, bl_len]
theorem num_eq {c : UInt8} (d : UInt8) : (c.toNat : Int) = (d.toNat : Int) ↔ c = d := by
  constructor
  · intro h; exact UInt8.toNat_inj.mp (by exact_mod_cast h)
  · intro h; rw [h]
theorem bt_drop {s : ByteArray} {p : Nat} {c : UInt8} {r : List UInt8} (h : (bl s).drop p = c :: r) : bt s (p : Int) = (c.toNat : Int) := by
  rw [bt_getD]
  have e : (bl s).getD p 0 = ((bl s).drop p).getD 0 0 := by simp [List.getD_eq_getElem?_getD]
  rw [e, h]; rfl
theorem bt_cons {s : ByteArray} {c : UInt8} {r : List UInt8} (h : bl s = c :: r) : bt s 0 = (c.toNat : Int) := bt_drop (s := s) (p := 0) (by rw [List.drop_zero]; exact h)
theorem simple_fin : ∀ n : Fin 256, dbus_validSingle.simple (n.val : Int) = oneC (UInt8.ofNat n.val) := by decide +kernel
theorem simple_f (c : UInt8) : dbus_validSingle.simple (c.toNat : Int) = oneC c := by
  have := simple_fin ⟨c.toNat, c.toNat_lt⟩
  simpa using this
theorem drop_lt {s : ByteArray} {p : Nat} {c : UInt8} {r : List UInt8} (h : (bl s).drop p = c :: r) : p < s.size := by
  have := congrArg List.length h
  rw [List.length_drop, bl_len] at this
  simp at this; omega
theorem drop_succ {s : ByteArray} {p : Nat} {c : UInt8} {r : List UInt8} (h : (bl s).drop p = c :: r) : (bl s).drop (p + 1) = r := by
  rw [← List.drop_drop, h]; rfl

/-! ### The search for the mark that closes -/
section
variable (l r : UInt8) (hl : l.toNat < 128) (hr : r.toNat < 128) (hlr : l ≠ r)

/-- Over this piece the search goes on as it came. -/
def Skip (l r : UInt8) (y : List UInt8) : Prop := ∀ (s : ByteArray) (pos : Nat) (z : List UInt8) (n : Int), (bl s).drop pos = y ++ z → 1 ≤ n → n + y.length ≤ 4000000000 →
  ∀ res, Ev (fun k => dbus_findMatching.l0 k s (l.toNat : Int) (r.toNat : Int) n (pos + y.length)) res → Ev (fun k => dbus_findMatching.l0 k s (l.toNat : Int) (r.toNat : Int) n pos) res
/-- One round at a byte of ASCII. -/
theorem round {s : ByteArray} {pos : Nat} {c : UInt8} {z : List UInt8} (h : (bl s).drop pos = c :: z) (hc : c.toNat < 128) (L R n : Int) (k : Nat) :
    dbus_findMatching.l0 (k + 1) s L R n pos = if dbus_findMatching.step (c.toNat : Int) L R n = 0 then some (pos : Int) else dbus_findMatching.l0 k s L R (dbus_findMatching.step (c.toNat : Int) L R n) (pos + 1) := by
  have hp := drop_lt h
  have hb := bt_drop h
  obtain ⟨h1, h2⟩ := dec_lo s pos hp (by rw [hb]; omega)
  simp only [dbus_findMatching.l0]
  rw [if_pos hp, h1, h2, hb]
theorem step_l (l r : UInt8) (n : Int) (h1 : -9000000000 ≤ n) (h2 : n ≤ 9000000000) : dbus_findMatching.step (l.toNat : Int) (l.toNat : Int) (r.toNat : Int) n = n + 1 := by
  unfold dbus_findMatching.step; rw [if_pos rfl, w64 (by omega) (by omega)]
theorem step_r {l r : UInt8} (hlr : l ≠ r) (n : Int) (h1 : -9000000000 ≤ n) (h2 : n ≤ 9000000000) : dbus_findMatching.step (r.toNat : Int) (l.toNat : Int) (r.toNat : Int) n = n - 1 := by
  unfold dbus_findMatching.step; rw [if_neg (fun q => hlr ((num_eq l).mp q).symm), if_pos rfl, w64 (by omega) (by omega)]
theorem step_o {l r c : UInt8} (h1 : c ≠ l) (h2 : c ≠ r) (n : Int) : dbus_findMatching.step (c.toNat : Int) (l.toNat : Int) (r.toNat : Int) n = n := by
  unfold dbus_findMatching.step; rw [if_neg (fun q => h1 ((num_eq l).mp q)), if_neg (fun q => h2 ((num_eq r).mp q))]
theorem Skip.one {l r c : UInt8} (hc : c.toNat < 128) (h1 : c ≠ l) (h2 : c ≠ r) : Skip l r [c] := by
  intro s pos z n h hn hb res hres
  refine Ev.step (f := fun k => dbus_findMatching.l0 k s (l.toNat : Int) (r.toNat : Int) n (pos + 1)) (fun k => ?_) hres
  rw [round h hc, step_o h1 h2, if_neg (by omega)]
theorem Skip.nil (l r : UInt8) : Skip l r [] := fun s pos z n h hn hb res hres => hres
theorem Skip.app {l r : UInt8} {x y : List UInt8} (hx : Skip l r x) (hy : Skip l r y) : Skip l r (x ++ y) := by
  intro s pos z n h hn hb res hres
  rw [List.length_append] at hb hres
  refine hx s pos (y ++ z) n (by rw [h, List.append_assoc]) hn (by omega) res ?_
  refine hy s (pos + x.length) z n ?_ hn (by omega) res (by rw [Nat.add_assoc]; exact hres)
  rw [← List.drop_drop, h, List.append_assoc]; simp
theorem Skip.wrap {l r : UInt8} (hl : l.toNat < 128) (hr : r.toNat < 128) (hlr : l ≠ r) {y : List UInt8} (hy : Skip l r y) : Skip l r (l :: (y ++ [r])) := by
  intro s pos z n h hn hb res hres
  simp only [List.length_cons, List.length_append, List.length_nil] at hb hres
  have h' : (bl s).drop pos = l :: (y ++ r :: z) := by rw [h]; simp
  refine Ev.step (f := fun k => dbus_findMatching.l0 k s (l.toNat : Int) (r.toNat : Int) (n + 1) (pos + 1)) (fun k => ?_) ?_
  · rw [round h' hl, step_l l r n (by omega) (by omega), if_neg (by omega)]
  · have h2 : (bl s).drop (pos + 1) = y ++ r :: z := drop_succ h'
    refine hy s (pos + 1) (r :: z) (n + 1) h2 (by omega) (by omega) res ?_
    have h3 : (bl s).drop (pos + 1 + y.length) = r :: z := by rw [← List.drop_drop, h2]; simp
    refine Ev.step (f := fun k => dbus_findMatching.l0 k s (l.toNat : Int) (r.toNat : Int) n (pos + 1 + y.length + 1)) (fun k => ?_) ?_
    · rw [round h3 hr, step_r hlr (n + 1) (by omega) (by omega), show n + 1 - 1 = n by omega, if_neg (by omega)]
    · rw [show pos + 1 + y.length + 1 = pos + (y.length + (0 + 1) + 1) by omega]; exact hres
theorem Skip.flat {l r : UInt8} : ∀ {xs : List (List UInt8)}, (∀ x ∈ xs, Skip l r x) → Skip l r xs.flatten
  | [], _ => Skip.nil l r
  | x :: xs, h => by rw [List.flatten_cons]; exact Skip.app (h x List.mem_cons_self) (Skip.flat (fun y hy => h y (List.mem_cons_of_mem _ hy)))
end

/-- Complete types are gone over by both searches. -/
theorem skips {A B E : Int} {x : List UInt8} (t : T A B E x) : Skip 123 125 x ∧ Skip 40 41 x := by
  refine T.ind (P := fun A B E x => Skip 123 125 x ∧ Skip 40 41 x) ?_ ?_ ?_ ?_ t
  · intro A B E c _ _ _ hc
    obtain ⟨ha, _, h40, h41, h123, h125⟩ := one_ascii c hc
    exact ⟨Skip.one ha h123 h125, Skip.one ha h40 h41⟩
  · intro A B E x _ _ _ _ ih
    exact ⟨Skip.app (x := [97]) (Skip.one (by decide) (by decide) (by decide)) ih.1, Skip.app (x := [97]) (Skip.one (by decide) (by decide) (by decide)) ih.2⟩
  · intro A B E c x _ _ _ hc _ ih
    obtain ⟨ha, _, h40, h41, h123, h125⟩ := one_ascii c (by simp [oneC, hc])
    refine ⟨?_, ?_⟩
    · refine Skip.app (x := [97]) (y := 123 :: (c :: x ++ [125])) (Skip.one (by decide) (by decide) (by decide)) (Skip.wrap (by decide) (by decide) (by decide) (Skip.app (x := [c]) (Skip.one ha h123 h125) ih.1))
    · refine Skip.app (x := [97]) (y := 123 :: c :: (x ++ [125])) (Skip.one (by decide) (by decide) (by decide)) (Skip.app (x := [123]) (y := c :: (x ++ [125])) (Skip.one (by decide) (by decide) (by decide)) (Skip.app (x := [c]) (y := x ++ [125]) (Skip.one ha h40 h41) (Skip.app ih.2 (Skip.one (by decide) (by decide) (by decide)))))
  · intro A B E xs _ _ _ _ _ ih
    refine ⟨?_, Skip.wrap (by decide) (by decide) (by decide) (Skip.flat (fun x hx => (ih x hx).2))⟩
    exact Skip.app (x := [40]) (y := xs.flatten ++ [41]) (Skip.one (by decide) (by decide) (by decide)) (Skip.app (Skip.flat (fun x hx => (ih x hx).1)) (Skip.one (by decide) (by decide) (by decide)))
/-- The mark that closes the first one is found. -/
theorem found {l r : UInt8} (hl : l.toNat < 128) (hr : r.toNat < 128) (hlr : l ≠ r) {s : ByteArray} {y z : List UInt8} (h : bl s = l :: (y ++ r :: z)) (hs : s.size ≤ 1000000000) (hy : Skip l r y) :
    Ev (fun k => dbus_findMatching.f k s (l.toNat : Int) (r.toNat : Int)) ((y.length + 1 : Nat) : Int) := by
  have hlen : s.size = y.length + z.length + 2 := by rw [← bl_len, h]; simp; omega
  have h0 : (bl s).drop 0 = l :: (y ++ r :: z) := by rw [List.drop_zero]; exact h
  unfold dbus_findMatching.f
  refine Ev.step (f := fun k => dbus_findMatching.l0 k s (l.toNat : Int) (r.toNat : Int) 1 1) (fun k => ?_) ?_
  · rw [round h0 hl, step_l l r 0 (by omega) (by omega), if_neg (by omega)]; rfl
  · have h1 : (bl s).drop 1 = y ++ r :: z := drop_succ h0
    refine hy s 1 (r :: z) 1 h1 (by omega) (by omega) _ ?_
    have h3 : (bl s).drop (1 + y.length) = r :: z := by rw [← List.drop_drop, h1]; simp
    refine Ev.step (f := fun _ => some ((y.length + 1 : Nat) : Int)) (fun k => ?_) (Ev.now _)
    rw [round h3 hr, step_r hlr 1 (by omega) (by omega), if_pos (by omega)]
    congr 1; omega
/-- The search ends; where it finds a place, the closing mark stands there. -/
theorem search {l r : UInt8} (hl : l.toNat < 128) (hr : r.toNat < 128) (hlr : l ≠ r) (s : ByteArray) (hs : s.size ≤ 1000000000) (d : Nat) : ∀ (pos : Nat) (n : Int), s.size - pos = d → 1 ≤ n → n ≤ (pos : Int) + 1 → pos ≤ s.size →
    ∃ i : Int, Ev (fun k => dbus_findMatching.l0 k s (l.toNat : Int) (r.toNat : Int) n pos) i ∧ (i = -1 ∨ ∃ (j : Nat) (z : List UInt8), i = (j : Int) ∧ pos ≤ j ∧ j < s.size ∧ (bl s).drop j = r :: z) := by
  induction d using Nat.strongRecOn with
  | _ d ih =>
  intro pos n hd h1 h2 hp
  cases hc : (bl s).drop pos with
  | nil =>
    have : ¬ pos < s.size := by
      have := congrArg List.length hc
      rw [List.length_drop, bl_len] at this
      simp at this; omega
    refine ⟨-1, Ev.step (f := fun _ => some (-1)) (fun k => ?_) (Ev.now _), .inl rfl⟩
    simp only [dbus_findMatching.l0]; rw [if_neg this]
  | cons c z =>
    have hlt := drop_lt hc
    have hb := bt_drop hc
    by_cases ha : c.toNat < 128
    · by_cases e1 : c = l
      · subst e1
        obtain ⟨i, hi, hq⟩ := ih (s.size - (pos + 1)) (by omega) (pos + 1) (n + 1) rfl (by omega) (by omega) (by omega)
        refine ⟨i, Ev.step (fun k => ?_) hi, ?_⟩
        · rw [round hc ha, step_l c r n (by omega) (by omega), if_neg (by omega)]
        · rcases hq with h | ⟨j, z, e, h3, h4, h5⟩
          · exact .inl h
          · exact .inr ⟨j, z, e, by omega, h4, h5⟩
      · by_cases e2 : c = r
        · subst e2
          by_cases e3 : n = 1
          · subst e3
            refine ⟨(pos : Int), Ev.step (f := fun _ => some (pos : Int)) (fun k => ?_) (Ev.now _), .inr ⟨pos, z, rfl, Nat.le_refl _, hlt, hc⟩⟩
            rw [round hc ha, step_r hlr 1 (by omega) (by omega), if_pos (by omega)]
          · obtain ⟨i, hi, hq⟩ := ih (s.size - (pos + 1)) (by omega) (pos + 1) (n - 1) rfl (by omega) (by omega) (by omega)
            refine ⟨i, Ev.step (fun k => ?_) hi, ?_⟩
            · rw [round hc ha, step_r hlr n (by omega) (by omega), if_neg (by omega)]
            · rcases hq with h | ⟨j, z, e, h3, h4, h5⟩
              · exact .inl h
              · exact .inr ⟨j, z, e, by omega, h4, h5⟩
        · obtain ⟨i, hi, hq⟩ := ih (s.size - (pos + 1)) (by omega) (pos + 1) n rfl (by omega) (by omega) (by omega)
          refine ⟨i, Ev.step (fun k => ?_) hi, ?_⟩
          · rw [round hc ha, step_o e1 e2, if_neg (by omega)]
          · rcases hq with h | ⟨j, z, e, h3, h4, h5⟩
            · exact .inl h
            · exact .inr ⟨j, z, e, by omega, h4, h5⟩
    · obtain ⟨g1, g2⟩ := dec_hi s pos hlt (by rw [hb]; omega)
      have st : dbus_findMatching.step ((Utf8.decode s pos).1 : Int) (l.toNat : Int) (r.toNat : Int) n = n := by
        unfold dbus_findMatching.step; rw [if_neg (by omega), if_neg (by omega)]
      by_cases hle : pos + (Utf8.decode s pos).2 ≤ s.size
      · obtain ⟨i, hi, hq⟩ := ih (s.size - (pos + (Utf8.decode s pos).2)) (by omega) (pos + (Utf8.decode s pos).2) n rfl (by omega) (by omega) hle
        refine ⟨i, Ev.step (fun k => ?_) hi, ?_⟩
        · simp only [dbus_findMatching.l0]; rw [if_pos hlt, st, if_neg (by omega)]
        · rcases hq with h | ⟨j, z, e, h3, h4, h5⟩
          · exact .inl h
          · exact .inr ⟨j, z, e, by omega, h4, h5⟩
      · refine ⟨-1, Ev.step (f := fun k => dbus_findMatching.l0 k s (l.toNat : Int) (r.toNat : Int) n (pos + (Utf8.decode s pos).2)) (fun k => ?_) (Ev.step (f := fun _ => some (-1)) (fun k => ?_) (Ev.now _)), .inl rfl⟩
        · simp only [dbus_findMatching.l0]; rw [if_pos hlt, st, if_neg (by omega)]
        · simp only [dbus_findMatching.l0]; rw [if_neg (by omega)]
/-! ### The reader takes complete types -/
theorem ok_of {a t d : Int} (h1 : a ≤ 32) (h2 : t ≤ 32) (h3 : d ≤ 32) : dbus_validSingle.ok a t d = true := by simp [dbus_validSingle.ok, h1, h2, h3]
theorem g_one {s : ByteArray} {c : UInt8} {q : List UInt8} (h : bl s = c :: q) (hc : oneC c = true) {a t d : Int} (h1 : a ≤ 32) (h2 : t ≤ 32) (h3 : d ≤ 32) : Ev (fun k => dbus_validSingle.g k s a t d) (none, s.extract 1 s.size) := by
  have hz : ¬ s.size = 0 := by rw [← bl_len, h]; simp
  refine Ev.step (f := fun _ => some (none, s.extract 1 s.size)) (fun k => ?_) (Ev.now _)
  simp only [dbus_validSingle.g]
  rw [if_neg hz, ok_of h1 h2 h3, if_neg (by decide), bt_cons h, simple_f, hc, if_pos rfl]
theorem g_arr {s : ByteArray} {q : List UInt8} (h : bl s = 97 :: q) (hq : ∀ r, q ≠ 123 :: r) {a t d : Int} (h1 : a ≤ 32) (h2 : t ≤ 32) (h3 : d ≤ 32) (k : Nat) :
    dbus_validSingle.g (k + 1) s a t d = dbus_validSingle.g k (s.extract 1 s.size) (wrap64 (a + 1)) t d := by
  have hz : s.size = q.length + 1 := by rw [← bl_len, h]; simp
  simp only [dbus_validSingle.g]
  rw [if_neg (by omega), ok_of h1 h2 h3, if_neg (by decide), bt_cons h, simple_f, show oneC 97 = false from by decide, if_neg (by decide), if_pos (by rfl)]
  cases q with
  | nil => simp only [List.length_nil] at hz; rw [if_neg (by omega)]
  | cons c r =>
    simp only [List.length_cons] at hz
    have hb : bt s 1 = (c.toNat : Int) := bt_drop (s := s) (p := 1) (by rw [h]; rfl)
    rw [if_pos (by omega), hb, if_neg (fun e => hq r (by rw [(num_eq 123).mp e]))]
theorem g_dict {s : ByteArray} {q : List UInt8} (h : bl s = 97 :: 123 :: q) {a t d : Int} (h1 : a ≤ 32) (h2 : t ≤ 32) (h3 : d ≤ 32) (k : Nat) :
    dbus_validSingle.g (k + 1) s a t d = (dbus_findMatching.f k (s.extract 1 s.size) 123 125).bind fun i => dbus_validSingle.dict k s a t d i := by
  have hz : s.size = q.length + 2 := by rw [← bl_len, h]; simp
  have hb : bt s 1 = 123 := bt_drop (s := s) (p := 1) (c := 123) (by rw [h]; rfl)
  simp only [dbus_validSingle.g]
  rw [if_neg (by omega), ok_of h1 h2 h3, if_neg (by decide), bt_cons h, simple_f, show oneC 97 = false from by decide, if_neg (by decide), if_pos (by rfl), if_pos (by omega), hb, if_pos rfl]
theorem g_open {s : ByteArray} {q : List UInt8} (h : bl s = 40 :: q) {a t d : Int} (h1 : a ≤ 32) (h2 : t ≤ 32) (h3 : d ≤ 32) (k : Nat) :
    dbus_validSingle.g (k + 1) s a t d = (dbus_findMatching.f k s 40 41).bind fun i => dbus_validSingle.open k s a t d i := by
  have hz : s.size = q.length + 1 := by rw [← bl_len, h]; simp
  simp only [dbus_validSingle.g]
  rw [if_neg (by omega), ok_of h1 h2 h3, if_neg (by decide), bt_cons h, simple_f, show oneC 40 = false from by decide, if_neg (by decide), if_neg (by decide), if_pos (by rfl)]

theorem l_nil (k : Nat) {u : ByteArray} (h : u.size = 0) (r : ByteArray) (a t d : Int) : dbus_validSingle.l (k + 1) none u r a t d = some (none, r) := by
  simp only [dbus_validSingle.l]; rw [if_neg (by decide), if_pos h]
theorem l_more (k : Nat) {u : ByteArray} (h : ¬ u.size = 0) (r : ByteArray) (a t d : Int) : dbus_validSingle.l (k + 1) none u r a t d = (dbus_validSingle.g k u a (wrap64 (t + 1)) d).bind fun x => dbus_validSingle.l k x.1 x.2 r a t d := by
  simp only [dbus_validSingle.l]; rw [if_neg (by decide), if_neg h]

/-- A complete type is taken, and what stands behind it is left. -/
theorem takes {A B E : Int} {x : List UInt8} (tt : T A B E x) : ∀ (s : ByteArray) (a t d : Int) (rest : List UInt8), A = 32 - a → B = 32 - t → E = 32 - d → 0 ≤ a → 0 ≤ t → 0 ≤ d → bl s = x ++ rest → s.size ≤ 1000000000 →
    Ev (fun k => dbus_validSingle.g k s a t d) (none, s.extract x.length s.size) := by
  refine T.ind (P := fun A B E x => ∀ (s : ByteArray) (a t d : Int) (rest : List UInt8), A = 32 - a → B = 32 - t → E = 32 - d → 0 ≤ a → 0 ≤ t → 0 ≤ d → bl s = x ++ rest → s.size ≤ 1000000000 →
    Ev (fun k => dbus_validSingle.g k s a t d) (none, s.extract x.length s.size)) ?_ ?_ ?_ ?_ tt
  · intro A B E c hA hB hE hc s a t d rest eA eB eE _ _ _ hb hs
    exact g_one (q := rest) hb hc (by omega) (by omega) (by omega)
  · intro A B E x hA hB hE hx ih s a t d rest eA eB eE ha ht hd hb hs
    obtain ⟨c, r, rfl, h123, _⟩ := hx.head
    have hlen : s.size = r.length + 2 + rest.length := by rw [← bl_len, hb]; simp; omega
    have hb1 : bl (s.extract 1 s.size) = (c :: r) ++ rest := by rw [bl_drop, hb]; rfl
    have := ih (s.extract 1 s.size) (a + 1) t d rest (by omega) eB eE (by omega) ht hd hb1 (by rw [size_drop]; omega)
    refine Ev.step (fun k => g_arr (q := c :: (r ++ rest)) hb (fun q e => by simp at e; exact h123 e.1) (by omega) (by omega) (by omega) k) ?_
    rw [w64 (by omega) (by omega)]
    have e : (s.extract 1 s.size).extract (c :: r).length (s.extract 1 s.size).size = s.extract (97 :: c :: r).length s.size := by
      apply bl_ext; rw [bl_drop, bl_drop, bl_drop, List.drop_drop]; congr 1; simp; omega
    rw [e] at this
    exact this
  · intro A B E c x hA hB hE hc hx ih s a t d rest eA eB eE ha ht hd hb hs
    obtain ⟨hp1, hp2, hp3⟩ := hx.pos
    have hb' : bl s = 97 :: 123 :: (c :: x ++ 125 :: rest) := by rw [hb]; simp
    have hlen : s.size = x.length + 4 + rest.length := by rw [← bl_len, hb]; simp; omega
    have hb1 : bl (s.extract 1 s.size) = 123 :: ((c :: x) ++ 125 :: rest) := by rw [bl_drop, hb']; rfl
    have hoc : oneC c = true := by simp [oneC, hc]
    obtain ⟨hca, _, _, _, h123, h125⟩ := one_ascii c hoc
    have hf := found (l := 123) (r := 125) (by decide) (by decide) (by decide) hb1 (by rw [size_drop]; omega) (Skip.app (x := [c]) (Skip.one hca h123 h125) (skips hx).1)
    simp only [List.length_cons] at hf
    refine Ev.step (fun k => g_dict hb' (by omega) (by omega) (by omega) k) (Ev.bind (a := ((x.length + 1 + 1 : Nat) : Int)) hf ?_)
    have e1 : (((x.length + 1 + 1 : Nat) : Int) + 1).toNat = x.length + 3 := by omega
    have e2 : (((x.length + 1 + 1 : Nat) : Int) + 1 + 1).toNat = x.length + 4 := by omega
    have hu : bl (s.extract 2 (x.length + 3)) = c :: x := by
      rw [bl_extract, hb', show x.length + 3 - 2 = x.length + 1 by omega]; simp
    have hus : (s.extract 2 (x.length + 3)).size = x.length + 1 := by rw [← bl_len, hu]; rfl
    have hk : bl ((s.extract 2 (x.length + 3)).extract 0 1) = [c] := by rw [bl_extract, hu]; rfl
    have hv : bl ((s.extract 2 (x.length + 3)).extract 1 (s.extract 2 (x.length + 3)).size) = x := by rw [bl_drop, hu]; rfl
    have k1 := g_one (q := []) (a := a + 1) (t := t) (d := d + 1) hk hoc (by omega) (by omega) (by omega)
    have k2 := ih ((s.extract 2 (x.length + 3)).extract 1 (s.extract 2 (x.length + 3)).size) (a + 1) t (d + 1) [] (by omega) eB (by omega) (by omega) ht (by omega) (by rw [hv]; simp) (by rw [size_drop, hus]; omega)
    refine Ev.step (f := fun k => (dbus_validSingle.g k ((s.extract 2 (x.length + 3)).extract 0 1) (a + 1) t (d + 1)).bind fun x_1 =>
        if x_1.1.isSome = true then some (x_1.1, ⟨#[]⟩) else
        (dbus_validSingle.g k ((s.extract 2 (x.length + 3)).extract 1 (s.extract 2 (x.length + 3)).size) (a + 1) t (d + 1)).bind fun y =>
        if y.1.isSome = true then some (y.1, ⟨#[]⟩) else
        if y.2.size = 0 then some (none, s.extract (x.length + 4) s.size)
        else some (dbus_validSingle.er (s.extract 2 (x.length + 3)) ⟨#[116, 111, 111, 32, 109, 97, 110, 121, 32, 116, 121, 112, 101, 115, 32, 105, 110, 32, 100, 105, 99, 116]⟩, ⟨#[]⟩)) (fun k => ?_) ?_
    · simp only [dbus_validSingle.dict]
      rw [if_neg (by omega), if_pos ⟨by omega, by omega, by omega⟩, e1, e2, if_neg (by omega), w64 (x := a + 1) (by omega) (by omega), w64 (x := d + 1) (by omega) (by omega)]
    · refine Ev.bind k1 (ev_ite_neg (show ¬ (false = true) by decide) (fun _ => rfl) (Ev.bind k2 (ev_ite_neg (show ¬ (false = true) by decide) (fun _ => rfl) (ev_ite_pos ?_ (fun _ => rfl) ?_))))
      · show (((s.extract 2 (x.length + 3)).extract 1 (s.extract 2 (x.length + 3)).size).extract x.length ((s.extract 2 (x.length + 3)).extract 1 (s.extract 2 (x.length + 3)).size).size).size = 0
        rw [size_drop, size_drop, hus]; omega
      · rw [show (97 :: 123 :: c :: (x ++ [125])).length = x.length + 4 by simp]; exact Ev.now _
  · intro A B E xs hA hB hE hn hx ih s a t d rest eA eB eE ha ht hd hb hs
    have hb' : bl s = 40 :: (xs.flatten ++ 41 :: rest) := by rw [hb]; simp
    have hlen : s.size = xs.flatten.length + 2 + rest.length := by rw [← bl_len, hb]; simp; omega
    have hf := found (l := 40) (r := 41) (by decide) (by decide) (by decide) hb' hs (Skip.flat (fun x h => (skips (hx x h)).2))
    have ht31 : t + 1 ≤ 32 := by
      cases xs with
      | nil => exact absurd rfl hn
      | cons x xs => have := (hx x List.mem_cons_self).pos; omega
    refine Ev.step (fun k => g_open hb' (by omega) (by omega) (by omega) k) (Ev.bind (a := ((xs.flatten.length + 1 : Nat) : Int)) hf ?_)
    have e1 : (((xs.flatten.length + 1 : Nat) : Int)).toNat = xs.flatten.length + 1 := by omega
    have e2 : (((xs.flatten.length + 1 : Nat) : Int) + 1).toNat = xs.flatten.length + 2 := by omega
    refine Ev.step (f := fun k => dbus_validSingle.l k none (s.extract 1 (xs.flatten.length + 1)) (s.extract (xs.flatten.length + 2) s.size) a t d) (fun k => ?_) ?_
    · simp only [dbus_validSingle.open]
      rw [if_neg (by omega), if_pos ⟨by omega, by omega, by omega⟩, e1, e2]
    · have hu : bl (s.extract 1 (xs.flatten.length + 1)) = xs.flatten := by rw [bl_extract, hb', Nat.add_sub_cancel]; simp
      have hus : (s.extract 1 (xs.flatten.length + 1)).size ≤ 1000000000 := by rw [← bl_len, hu]; omega
      have er : (40 :: (xs.flatten ++ [41])).length = xs.flatten.length + 2 := by simp
      rw [er]
      generalize s.extract (xs.flatten.length + 2) s.size = rr
      generalize s.extract 1 (xs.flatten.length + 1) = u at hu hus ⊢
      clear hf hb hb' hlen e1 e2 er hn
      induction xs generalizing u with
      | nil => exact Ev.step (f := fun _ => some (none, rr)) (fun k => l_nil k (by rw [← bl_len, hu]; rfl) rr a t d) (Ev.now _)
      | cons x xs ihx =>
        have hxl := (hx x List.mem_cons_self).len
        rw [List.flatten_cons] at hu
        refine Ev.step (fun k => l_more k (by rw [← bl_len, hu, List.length_append]; omega) rr a t d) ?_
        have h1 := ih x List.mem_cons_self u a (t + 1) d xs.flatten eA (by omega) eE ha (by omega) hd hu hus
        rw [w64 (x := t + 1) (by omega) (by omega)]
        refine Ev.bind h1 ?_
        refine ihx (fun y hy => hx y (List.mem_cons_of_mem _ hy)) (fun y hy => ih y (List.mem_cons_of_mem _ hy)) (u.extract x.length u.size) ?_ (by rw [size_drop]; omega)
        rw [bl_drop, hu]; simp
end Go.Proofs.YtboioihppjhjcaaDoor.MFnSgOfi
