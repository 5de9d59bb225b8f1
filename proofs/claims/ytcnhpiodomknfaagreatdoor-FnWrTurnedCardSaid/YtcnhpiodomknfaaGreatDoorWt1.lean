-- A trial text of this session.
import Derived.Test.YtcnhpiodomknfaaGreatDoorMFnWrTurnedx0
namespace Go.Proofs.YtcnhpiodomknfaaGreatDoor.MFnWrTurned
open Go.RowKit Go.Proofs.YtcnhpiodomknfaaGreatDoorW.PrintWords Go.Proofs.YtcnhpiodomknfaaGreatDoorW.PrintLast Go.Proofs.YtcnhpiodomknfaaGreatDoorW.PrintMore
attribute [local go_sem] max2_int min2_int max_two min_two max_three min_three max_four min_four
set_option linter.unusedVariables false
set_option linter.unusedSimpArgs false

theorem as2_2 (v : Value) (w : World) : (Instr.typeAssert (.iface 2 v) 20 2 true).run Tryz.prog w = .ok (.tuple #[v, .bool true]) w := by kernel_rfl
theorem as2_4 (v : Value) (w : World) : (Instr.typeAssert (.iface 2 v) 20 4 true).run Tryz.prog w = .ok (.tuple #[.bool false, .bool false]) w := by kernel_rfl
theorem as2_5 (v : Value) (w : World) : (Instr.typeAssert (.iface 2 v) 20 5 true).run Tryz.prog w = .ok (.tuple #[.int .u8 0, .bool false]) w := by kernel_rfl
theorem as2_21 (v : Value) (w : World) : (Instr.typeAssert (.iface 2 v) 20 21 true).run Tryz.prog w = .ok (.tuple #[.int .i32 0, .bool false]) w := by kernel_rfl
theorem as2_25 (v : Value) (w : World) : (Instr.typeAssert (.iface 2 v) 20 25 true).run Tryz.prog w = .ok (.tuple #[.int .u64 0, .bool false]) w := by kernel_rfl
theorem as2_43 (v : Value) (w : World) : (Instr.typeAssert (.iface 2 v) 20 43 true).run Tryz.prog w = .ok (.tuple #[.int .i16 0, .bool false]) w := by kernel_rfl
theorem as2_87 (v : Value) (w : World) : (Instr.typeAssert (.iface 2 v) 20 87 true).run Tryz.prog w = .ok (.tuple #[.int .u32 0, .bool false]) w := by kernel_rfl
theorem as2_90 (v : Value) (w : World) : (Instr.typeAssert (.iface 2 v) 20 90 true).run Tryz.prog w = .ok (.tuple #[.int .u16 0, .bool false]) w := by kernel_rfl
theorem as2_121 (v : Value) (w : World) : (Instr.typeAssert (.iface 2 v) 20 121 true).run Tryz.prog w = .ok (.tuple #[.int .u32 0, .bool false]) w := by kernel_rfl
theorem as2_130 (v : Value) (w : World) : (Instr.typeAssert (.iface 2 v) 20 130 true).run Tryz.prog w = .ok (.tuple #[.int .u8 0, .bool false]) w := by kernel_rfl
theorem as2_131 (v : Value) (w : World) : (Instr.typeAssert (.iface 2 v) 20 131 true).run Tryz.prog w = .ok (.tuple #[.int .u8 0, .bool false]) w := by kernel_rfl
theorem as2_132 (v : Value) (w : World) : (Instr.typeAssert (.iface 2 v) 20 132 true).run Tryz.prog w = .ok (.tuple #[.int .u8 0, .bool false]) w := by kernel_rfl
theorem as5_2 (v : Value) (w : World) : (Instr.typeAssert (.iface 5 v) 20 2 true).run Tryz.prog w = .ok (.tuple #[.int .i64 0, .bool false]) w := by kernel_rfl
theorem as5_5 (v : Value) (w : World) : (Instr.typeAssert (.iface 5 v) 20 5 true).run Tryz.prog w = .ok (.tuple #[v, .bool true]) w := by kernel_rfl
theorem as5_21 (v : Value) (w : World) : (Instr.typeAssert (.iface 5 v) 20 21 true).run Tryz.prog w = .ok (.tuple #[.int .i32 0, .bool false]) w := by kernel_rfl
theorem as5_25 (v : Value) (w : World) : (Instr.typeAssert (.iface 5 v) 20 25 true).run Tryz.prog w = .ok (.tuple #[.int .u64 0, .bool false]) w := by kernel_rfl
theorem as5_43 (v : Value) (w : World) : (Instr.typeAssert (.iface 5 v) 20 43 true).run Tryz.prog w = .ok (.tuple #[.int .i16 0, .bool false]) w := by kernel_rfl
theorem as5_87 (v : Value) (w : World) : (Instr.typeAssert (.iface 5 v) 20 87 true).run Tryz.prog w = .ok (.tuple #[.int .u32 0, .bool false]) w := by kernel_rfl
theorem as5_90 (v : Value) (w : World) : (Instr.typeAssert (.iface 5 v) 20 90 true).run Tryz.prog w = .ok (.tuple #[.int .u16 0, .bool false]) w := by kernel_rfl
theorem as5_91 (v : Value) (w : World) : (Instr.typeAssert (.iface 5 v) 20 91 true).run Tryz.prog w = .ok (.tuple #[.float .f64 0, .bool false]) w := by kernel_rfl
theorem as5_137 (v : Value) (w : World) : (Instr.typeAssert (.iface 5 v) 20 137 true).run Tryz.prog w = .ok (.tuple #[.int .i32 0, .bool false]) w := by kernel_rfl
theorem as21_4 (v : Value) (w : World) : (Instr.typeAssert (.iface 21 v) 20 4 true).run Tryz.prog w = .ok (.tuple #[.bool false, .bool false]) w := by kernel_rfl
theorem as21_5 (v : Value) (w : World) : (Instr.typeAssert (.iface 21 v) 20 5 true).run Tryz.prog w = .ok (.tuple #[.int .u8 0, .bool false]) w := by kernel_rfl
theorem as21_21 (v : Value) (w : World) : (Instr.typeAssert (.iface 21 v) 20 21 true).run Tryz.prog w = .ok (.tuple #[v, .bool true]) w := by kernel_rfl
theorem as21_25 (v : Value) (w : World) : (Instr.typeAssert (.iface 21 v) 20 25 true).run Tryz.prog w = .ok (.tuple #[.int .u64 0, .bool false]) w := by kernel_rfl
theorem as21_43 (v : Value) (w : World) : (Instr.typeAssert (.iface 21 v) 20 43 true).run Tryz.prog w = .ok (.tuple #[.int .i16 0, .bool false]) w := by kernel_rfl
theorem as21_87 (v : Value) (w : World) : (Instr.typeAssert (.iface 21 v) 20 87 true).run Tryz.prog w = .ok (.tuple #[.int .u32 0, .bool false]) w := by kernel_rfl
theorem as21_90 (v : Value) (w : World) : (Instr.typeAssert (.iface 21 v) 20 90 true).run Tryz.prog w = .ok (.tuple #[.int .u16 0, .bool false]) w := by kernel_rfl
theorem as21_121 (v : Value) (w : World) : (Instr.typeAssert (.iface 21 v) 20 121 true).run Tryz.prog w = .ok (.tuple #[.int .u32 0, .bool false]) w := by kernel_rfl
theorem as21_130 (v : Value) (w : World) : (Instr.typeAssert (.iface 21 v) 20 130 true).run Tryz.prog w = .ok (.tuple #[.int .u8 0, .bool false]) w := by kernel_rfl
theorem as21_131 (v : Value) (w : World) : (Instr.typeAssert (.iface 21 v) 20 131 true).run Tryz.prog w = .ok (.tuple #[.int .u8 0, .bool false]) w := by kernel_rfl
theorem as21_132 (v : Value) (w : World) : (Instr.typeAssert (.iface 21 v) 20 132 true).run Tryz.prog w = .ok (.tuple #[.int .u8 0, .bool false]) w := by kernel_rfl
theorem as25_2 (v : Value) (w : World) : (Instr.typeAssert (.iface 25 v) 20 2 true).run Tryz.prog w = .ok (.tuple #[.int .i64 0, .bool false]) w := by kernel_rfl
theorem as25_4 (v : Value) (w : World) : (Instr.typeAssert (.iface 25 v) 20 4 true).run Tryz.prog w = .ok (.tuple #[.bool false, .bool false]) w := by kernel_rfl
theorem as25_5 (v : Value) (w : World) : (Instr.typeAssert (.iface 25 v) 20 5 true).run Tryz.prog w = .ok (.tuple #[.int .u8 0, .bool false]) w := by kernel_rfl
theorem as25_21 (v : Value) (w : World) : (Instr.typeAssert (.iface 25 v) 20 21 true).run Tryz.prog w = .ok (.tuple #[.int .i32 0, .bool false]) w := by kernel_rfl
theorem as25_25 (v : Value) (w : World) : (Instr.typeAssert (.iface 25 v) 20 25 true).run Tryz.prog w = .ok (.tuple #[v, .bool true]) w := by kernel_rfl
theorem as25_43 (v : Value) (w : World) : (Instr.typeAssert (.iface 25 v) 20 43 true).run Tryz.prog w = .ok (.tuple #[.int .i16 0, .bool false]) w := by kernel_rfl
theorem as25_87 (v : Value) (w : World) : (Instr.typeAssert (.iface 25 v) 20 87 true).run Tryz.prog w = .ok (.tuple #[.int .u32 0, .bool false]) w := by kernel_rfl
theorem as25_90 (v : Value) (w : World) : (Instr.typeAssert (.iface 25 v) 20 90 true).run Tryz.prog w = .ok (.tuple #[.int .u16 0, .bool false]) w := by kernel_rfl
theorem as25_130 (v : Value) (w : World) : (Instr.typeAssert (.iface 25 v) 20 130 true).run Tryz.prog w = .ok (.tuple #[.int .u8 0, .bool false]) w := by kernel_rfl
theorem as25_131 (v : Value) (w : World) : (Instr.typeAssert (.iface 25 v) 20 131 true).run Tryz.prog w = .ok (.tuple #[.int .u8 0, .bool false]) w := by kernel_rfl
theorem as25_132 (v : Value) (w : World) : (Instr.typeAssert (.iface 25 v) 20 132 true).run Tryz.prog w = .ok (.tuple #[.int .u8 0, .bool false]) w := by kernel_rfl
theorem as25_137 (v : Value) (w : World) : (Instr.typeAssert (.iface 25 v) 20 137 true).run Tryz.prog w = .ok (.tuple #[.int .i32 0, .bool false]) w := by kernel_rfl
theorem as43_4 (v : Value) (w : World) : (Instr.typeAssert (.iface 43 v) 20 4 true).run Tryz.prog w = .ok (.tuple #[.bool false, .bool false]) w := by kernel_rfl
theorem as43_5 (v : Value) (w : World) : (Instr.typeAssert (.iface 43 v) 20 5 true).run Tryz.prog w = .ok (.tuple #[.int .u8 0, .bool false]) w := by kernel_rfl
theorem as43_25 (v : Value) (w : World) : (Instr.typeAssert (.iface 43 v) 20 25 true).run Tryz.prog w = .ok (.tuple #[.int .u64 0, .bool false]) w := by kernel_rfl
theorem as43_43 (v : Value) (w : World) : (Instr.typeAssert (.iface 43 v) 20 43 true).run Tryz.prog w = .ok (.tuple #[v, .bool true]) w := by kernel_rfl
theorem as43_87 (v : Value) (w : World) : (Instr.typeAssert (.iface 43 v) 20 87 true).run Tryz.prog w = .ok (.tuple #[.int .u32 0, .bool false]) w := by kernel_rfl
theorem as43_90 (v : Value) (w : World) : (Instr.typeAssert (.iface 43 v) 20 90 true).run Tryz.prog w = .ok (.tuple #[.int .u16 0, .bool false]) w := by kernel_rfl
theorem as43_121 (v : Value) (w : World) : (Instr.typeAssert (.iface 43 v) 20 121 true).run Tryz.prog w = .ok (.tuple #[.int .u32 0, .bool false]) w := by kernel_rfl
theorem as43_130 (v : Value) (w : World) : (Instr.typeAssert (.iface 43 v) 20 130 true).run Tryz.prog w = .ok (.tuple #[.int .u8 0, .bool false]) w := by kernel_rfl
theorem as43_131 (v : Value) (w : World) : (Instr.typeAssert (.iface 43 v) 20 131 true).run Tryz.prog w = .ok (.tuple #[.int .u8 0, .bool false]) w := by kernel_rfl
theorem as43_132 (v : Value) (w : World) : (Instr.typeAssert (.iface 43 v) 20 132 true).run Tryz.prog w = .ok (.tuple #[.int .u8 0, .bool false]) w := by kernel_rfl
theorem as87_2 (v : Value) (w : World) : (Instr.typeAssert (.iface 87 v) 20 2 true).run Tryz.prog w = .ok (.tuple #[.int .i64 0, .bool false]) w := by kernel_rfl
theorem as87_4 (v : Value) (w : World) : (Instr.typeAssert (.iface 87 v) 20 4 true).run Tryz.prog w = .ok (.tuple #[.bool false, .bool false]) w := by kernel_rfl
theorem as87_5 (v : Value) (w : World) : (Instr.typeAssert (.iface 87 v) 20 5 true).run Tryz.prog w = .ok (.tuple #[.int .u8 0, .bool false]) w := by kernel_rfl
theorem as87_21 (v : Value) (w : World) : (Instr.typeAssert (.iface 87 v) 20 21 true).run Tryz.prog w = .ok (.tuple #[.int .i32 0, .bool false]) w := by kernel_rfl
theorem as87_43 (v : Value) (w : World) : (Instr.typeAssert (.iface 87 v) 20 43 true).run Tryz.prog w = .ok (.tuple #[.int .i16 0, .bool false]) w := by kernel_rfl
theorem as87_87 (v : Value) (w : World) : (Instr.typeAssert (.iface 87 v) 20 87 true).run Tryz.prog w = .ok (.tuple #[v, .bool true]) w := by kernel_rfl
theorem as87_90 (v : Value) (w : World) : (Instr.typeAssert (.iface 87 v) 20 90 true).run Tryz.prog w = .ok (.tuple #[.int .u16 0, .bool false]) w := by kernel_rfl
theorem as87_130 (v : Value) (w : World) : (Instr.typeAssert (.iface 87 v) 20 130 true).run Tryz.prog w = .ok (.tuple #[.int .u8 0, .bool false]) w := by kernel_rfl
theorem as87_131 (v : Value) (w : World) : (Instr.typeAssert (.iface 87 v) 20 131 true).run Tryz.prog w = .ok (.tuple #[.int .u8 0, .bool false]) w := by kernel_rfl
theorem as87_132 (v : Value) (w : World) : (Instr.typeAssert (.iface 87 v) 20 132 true).run Tryz.prog w = .ok (.tuple #[.int .u8 0, .bool false]) w := by kernel_rfl
theorem as87_137 (v : Value) (w : World) : (Instr.typeAssert (.iface 87 v) 20 137 true).run Tryz.prog w = .ok (.tuple #[.int .i32 0, .bool false]) w := by kernel_rfl
theorem as90_2 (v : Value) (w : World) : (Instr.typeAssert (.iface 90 v) 20 2 true).run Tryz.prog w = .ok (.tuple #[.int .i64 0, .bool false]) w := by kernel_rfl
theorem as90_4 (v : Value) (w : World) : (Instr.typeAssert (.iface 90 v) 20 4 true).run Tryz.prog w = .ok (.tuple #[.bool false, .bool false]) w := by kernel_rfl
theorem as90_5 (v : Value) (w : World) : (Instr.typeAssert (.iface 90 v) 20 5 true).run Tryz.prog w = .ok (.tuple #[.int .u8 0, .bool false]) w := by kernel_rfl
theorem as90_21 (v : Value) (w : World) : (Instr.typeAssert (.iface 90 v) 20 21 true).run Tryz.prog w = .ok (.tuple #[.int .i32 0, .bool false]) w := by kernel_rfl
theorem as90_43 (v : Value) (w : World) : (Instr.typeAssert (.iface 90 v) 20 43 true).run Tryz.prog w = .ok (.tuple #[.int .i16 0, .bool false]) w := by kernel_rfl
theorem as90_90 (v : Value) (w : World) : (Instr.typeAssert (.iface 90 v) 20 90 true).run Tryz.prog w = .ok (.tuple #[v, .bool true]) w := by kernel_rfl
theorem as90_130 (v : Value) (w : World) : (Instr.typeAssert (.iface 90 v) 20 130 true).run Tryz.prog w = .ok (.tuple #[.int .u8 0, .bool false]) w := by kernel_rfl
theorem as90_131 (v : Value) (w : World) : (Instr.typeAssert (.iface 90 v) 20 131 true).run Tryz.prog w = .ok (.tuple #[.int .u8 0, .bool false]) w := by kernel_rfl
theorem as90_132 (v : Value) (w : World) : (Instr.typeAssert (.iface 90 v) 20 132 true).run Tryz.prog w = .ok (.tuple #[.int .u8 0, .bool false]) w := by kernel_rfl
theorem as90_137 (v : Value) (w : World) : (Instr.typeAssert (.iface 90 v) 20 137 true).run Tryz.prog w = .ok (.tuple #[.int .i32 0, .bool false]) w := by kernel_rfl
theorem as91_2 (v : Value) (w : World) : (Instr.typeAssert (.iface 91 v) 20 2 true).run Tryz.prog w = .ok (.tuple #[.int .i64 0, .bool false]) w := by kernel_rfl
theorem as91_4 (v : Value) (w : World) : (Instr.typeAssert (.iface 91 v) 20 4 true).run Tryz.prog w = .ok (.tuple #[.bool false, .bool false]) w := by kernel_rfl
theorem as91_5 (v : Value) (w : World) : (Instr.typeAssert (.iface 91 v) 20 5 true).run Tryz.prog w = .ok (.tuple #[.int .u8 0, .bool false]) w := by kernel_rfl
theorem as91_21 (v : Value) (w : World) : (Instr.typeAssert (.iface 91 v) 20 21 true).run Tryz.prog w = .ok (.tuple #[.int .i32 0, .bool false]) w := by kernel_rfl
theorem as91_25 (v : Value) (w : World) : (Instr.typeAssert (.iface 91 v) 20 25 true).run Tryz.prog w = .ok (.tuple #[.int .u64 0, .bool false]) w := by kernel_rfl
theorem as91_43 (v : Value) (w : World) : (Instr.typeAssert (.iface 91 v) 20 43 true).run Tryz.prog w = .ok (.tuple #[.int .i16 0, .bool false]) w := by kernel_rfl
theorem as91_87 (v : Value) (w : World) : (Instr.typeAssert (.iface 91 v) 20 87 true).run Tryz.prog w = .ok (.tuple #[.int .u32 0, .bool false]) w := by kernel_rfl
theorem as91_90 (v : Value) (w : World) : (Instr.typeAssert (.iface 91 v) 20 90 true).run Tryz.prog w = .ok (.tuple #[.int .u16 0, .bool false]) w := by kernel_rfl
theorem as91_91 (v : Value) (w : World) : (Instr.typeAssert (.iface 91 v) 20 91 true).run Tryz.prog w = .ok (.tuple #[v, .bool true]) w := by kernel_rfl
theorem as91_121 (v : Value) (w : World) : (Instr.typeAssert (.iface 91 v) 20 121 true).run Tryz.prog w = .ok (.tuple #[.int .u32 0, .bool false]) w := by kernel_rfl
theorem as91_130 (v : Value) (w : World) : (Instr.typeAssert (.iface 91 v) 20 130 true).run Tryz.prog w = .ok (.tuple #[.int .u8 0, .bool false]) w := by kernel_rfl
theorem as91_131 (v : Value) (w : World) : (Instr.typeAssert (.iface 91 v) 20 131 true).run Tryz.prog w = .ok (.tuple #[.int .u8 0, .bool false]) w := by kernel_rfl
theorem as91_132 (v : Value) (w : World) : (Instr.typeAssert (.iface 91 v) 20 132 true).run Tryz.prog w = .ok (.tuple #[.int .u8 0, .bool false]) w := by kernel_rfl
theorem as91_137 (v : Value) (w : World) : (Instr.typeAssert (.iface 91 v) 20 137 true).run Tryz.prog w = .ok (.tuple #[.int .i32 0, .bool false]) w := by kernel_rfl
theorem as121_2 (v : Value) (w : World) : (Instr.typeAssert (.iface 121 v) 20 2 true).run Tryz.prog w = .ok (.tuple #[.int .i64 0, .bool false]) w := by kernel_rfl
theorem as121_4 (v : Value) (w : World) : (Instr.typeAssert (.iface 121 v) 20 4 true).run Tryz.prog w = .ok (.tuple #[.bool false, .bool false]) w := by kernel_rfl
theorem as121_5 (v : Value) (w : World) : (Instr.typeAssert (.iface 121 v) 20 5 true).run Tryz.prog w = .ok (.tuple #[.int .u8 0, .bool false]) w := by kernel_rfl
theorem as121_9 (v : Value) (w : World) : (Instr.typeAssert (.iface 121 v) 20 9 true).run Tryz.prog w = .ok (.tuple #[.string ByteArray.empty, .bool false]) w := by kernel_rfl
theorem as121_21 (v : Value) (w : World) : (Instr.typeAssert (.iface 121 v) 20 21 true).run Tryz.prog w = .ok (.tuple #[.int .i32 0, .bool false]) w := by kernel_rfl
theorem as121_25 (v : Value) (w : World) : (Instr.typeAssert (.iface 121 v) 20 25 true).run Tryz.prog w = .ok (.tuple #[.int .u64 0, .bool false]) w := by kernel_rfl
theorem as121_43 (v : Value) (w : World) : (Instr.typeAssert (.iface 121 v) 20 43 true).run Tryz.prog w = .ok (.tuple #[.int .i16 0, .bool false]) w := by kernel_rfl
theorem as121_87 (v : Value) (w : World) : (Instr.typeAssert (.iface 121 v) 20 87 true).run Tryz.prog w = .ok (.tuple #[.int .u32 0, .bool false]) w := by kernel_rfl
theorem as121_90 (v : Value) (w : World) : (Instr.typeAssert (.iface 121 v) 20 90 true).run Tryz.prog w = .ok (.tuple #[.int .u16 0, .bool false]) w := by kernel_rfl
theorem as121_91 (v : Value) (w : World) : (Instr.typeAssert (.iface 121 v) 20 91 true).run Tryz.prog w = .ok (.tuple #[.float .f64 0, .bool false]) w := by kernel_rfl
theorem as121_95 (v : Value) (w : World) : (Instr.typeAssert (.iface 121 v) 20 95 true).run Tryz.prog w = .ok (.tuple #[.string ByteArray.empty, .bool false]) w := by kernel_rfl
theorem as121_103 (v : Value) (w : World) : (Instr.typeAssert (.iface 121 v) 20 103 true).run Tryz.prog w = .ok (.tuple #[.agg #[.string ByteArray.empty], .bool false]) w := by kernel_rfl
theorem as121_105 (v : Value) (w : World) : (Instr.typeAssert (.iface 121 v) 20 105 true).run Tryz.prog w = .ok (.tuple #[.agg #[.string ByteArray.empty, .nilIface], .bool false]) w := by kernel_rfl
theorem as121_121 (v : Value) (w : World) : (Instr.typeAssert (.iface 121 v) 20 121 true).run Tryz.prog w = .ok (.tuple #[v, .bool true]) w := by kernel_rfl
theorem as121_130 (v : Value) (w : World) : (Instr.typeAssert (.iface 121 v) 20 130 true).run Tryz.prog w = .ok (.tuple #[.int .u8 0, .bool false]) w := by kernel_rfl
theorem as121_131 (v : Value) (w : World) : (Instr.typeAssert (.iface 121 v) 20 131 true).run Tryz.prog w = .ok (.tuple #[.int .u8 0, .bool false]) w := by kernel_rfl
theorem as121_132 (v : Value) (w : World) : (Instr.typeAssert (.iface 121 v) 20 132 true).run Tryz.prog w = .ok (.tuple #[.int .u8 0, .bool false]) w := by kernel_rfl
theorem as121_137 (v : Value) (w : World) : (Instr.typeAssert (.iface 121 v) 20 137 true).run Tryz.prog w = .ok (.tuple #[.int .i32 0, .bool false]) w := by kernel_rfl
theorem as127_2 (v : Value) (w : World) : (Instr.typeAssert (.iface 127 v) 20 2 true).run Tryz.prog w = .ok (.tuple #[.int .i64 0, .bool false]) w := by kernel_rfl
theorem as127_4 (v : Value) (w : World) : (Instr.typeAssert (.iface 127 v) 20 4 true).run Tryz.prog w = .ok (.tuple #[.bool false, .bool false]) w := by kernel_rfl
theorem as127_5 (v : Value) (w : World) : (Instr.typeAssert (.iface 127 v) 20 5 true).run Tryz.prog w = .ok (.tuple #[.int .u8 0, .bool false]) w := by kernel_rfl
theorem as127_9 (v : Value) (w : World) : (Instr.typeAssert (.iface 127 v) 20 9 true).run Tryz.prog w = .ok (.tuple #[.string ByteArray.empty, .bool false]) w := by kernel_rfl
theorem as127_21 (v : Value) (w : World) : (Instr.typeAssert (.iface 127 v) 20 21 true).run Tryz.prog w = .ok (.tuple #[.int .i32 0, .bool false]) w := by kernel_rfl
theorem as127_24 (v : Value) (w : World) : (Instr.typeAssert (.iface 127 v) 20 24 true).run Tryz.prog w = .ok (.tuple #[.slice none 0 0, .bool false]) w := by kernel_rfl
theorem as127_25 (v : Value) (w : World) : (Instr.typeAssert (.iface 127 v) 20 25 true).run Tryz.prog w = .ok (.tuple #[.int .u64 0, .bool false]) w := by kernel_rfl
theorem as127_43 (v : Value) (w : World) : (Instr.typeAssert (.iface 127 v) 20 43 true).run Tryz.prog w = .ok (.tuple #[.int .i16 0, .bool false]) w := by kernel_rfl
theorem as127_55 (v : Value) (w : World) : (Instr.typeAssert (.iface 127 v) 20 55 true).run Tryz.prog w = .ok (.tuple #[.slice none 0 0, .bool false]) w := by kernel_rfl
theorem as127_87 (v : Value) (w : World) : (Instr.typeAssert (.iface 127 v) 20 87 true).run Tryz.prog w = .ok (.tuple #[.int .u32 0, .bool false]) w := by kernel_rfl
theorem as127_90 (v : Value) (w : World) : (Instr.typeAssert (.iface 127 v) 20 90 true).run Tryz.prog w = .ok (.tuple #[.int .u16 0, .bool false]) w := by kernel_rfl
theorem as127_91 (v : Value) (w : World) : (Instr.typeAssert (.iface 127 v) 20 91 true).run Tryz.prog w = .ok (.tuple #[.float .f64 0, .bool false]) w := by kernel_rfl
theorem as127_95 (v : Value) (w : World) : (Instr.typeAssert (.iface 127 v) 20 95 true).run Tryz.prog w = .ok (.tuple #[.string ByteArray.empty, .bool false]) w := by kernel_rfl
theorem as127_103 (v : Value) (w : World) : (Instr.typeAssert (.iface 127 v) 20 103 true).run Tryz.prog w = .ok (.tuple #[.agg #[.string ByteArray.empty], .bool false]) w := by kernel_rfl
theorem as127_105 (v : Value) (w : World) : (Instr.typeAssert (.iface 127 v) 20 105 true).run Tryz.prog w = .ok (.tuple #[.agg #[.string ByteArray.empty, .nilIface], .bool false]) w := by kernel_rfl
theorem as127_121 (v : Value) (w : World) : (Instr.typeAssert (.iface 127 v) 20 121 true).run Tryz.prog w = .ok (.tuple #[.int .u32 0, .bool false]) w := by kernel_rfl
theorem as127_127 (v : Value) (w : World) : (Instr.typeAssert (.iface 127 v) 20 127 true).run Tryz.prog w = .ok (.tuple #[v, .bool true]) w := by kernel_rfl
theorem as127_130 (v : Value) (w : World) : (Instr.typeAssert (.iface 127 v) 20 130 true).run Tryz.prog w = .ok (.tuple #[.int .u8 0, .bool false]) w := by kernel_rfl
theorem as127_131 (v : Value) (w : World) : (Instr.typeAssert (.iface 127 v) 20 131 true).run Tryz.prog w = .ok (.tuple #[.int .u8 0, .bool false]) w := by kernel_rfl
theorem as127_132 (v : Value) (w : World) : (Instr.typeAssert (.iface 127 v) 20 132 true).run Tryz.prog w = .ok (.tuple #[.int .u8 0, .bool false]) w := by kernel_rfl
theorem as127_137 (v : Value) (w : World) : (Instr.typeAssert (.iface 127 v) 20 137 true).run Tryz.prog w = .ok (.tuple #[.int .i32 0, .bool false]) w := by kernel_rfl
theorem as127_146 (v : Value) (w : World) : (Instr.typeAssert (.iface 127 v) 20 146 true).run Tryz.prog w = .ok (.tuple #[.pointer none, .bool false]) w := by kernel_rfl
theorem as91_91f (v : Value) (w : World) : (Instr.typeAssert (.iface 91 v) 20 91 false).run Tryz.prog w = .ok v w := by kernel_rfl
attribute [local go_sem] as2_2 as2_4 as2_5 as2_21 as2_25 as2_43 as2_87 as2_90 as2_121 as2_130 as2_131 as2_132 as5_2 as5_5 as5_21 as5_25 as5_43 as5_87 as5_90 as5_91 as5_137 as21_4 as21_5 as21_21 as21_25 as21_43 as21_87 as21_90 as21_121 as21_130 as21_131 as21_132 as25_2 as25_4 as25_5 as25_21 as25_25 as25_43 as25_87 as25_90 as25_130 as25_131 as25_132 as25_137 as43_4 as43_5 as43_25 as43_43 as43_87 as43_90 as43_121 as43_130 as43_131 as43_132 as87_2 as87_4 as87_5 as87_21 as87_43 as87_87 as87_90 as87_130 as87_131 as87_132 as87_137 as90_2 as90_4 as90_5 as90_21 as90_43 as90_90 as90_130 as90_131 as90_132 as90_137 as91_2 as91_4 as91_5 as91_21 as91_25 as91_43 as91_87 as91_90 as91_91 as91_121 as91_130 as91_131 as91_132 as91_137 as121_2 as121_4 as121_5 as121_9 as121_21 as121_25 as121_43 as121_87 as121_90 as121_91 as121_95 as121_103 as121_105 as121_121 as121_130 as121_131 as121_132 as121_137 as127_2 as127_4 as127_5 as127_9 as127_21 as127_24 as127_25 as127_43 as127_55 as127_87 as127_90 as127_91 as127_95 as127_103 as127_105 as127_121 as127_127 as127_130 as127_131 as127_132 as127_137 as127_146 as91_91f
theorem inf73 : (Tryz.prog.info? 73).map (·.size) = some 2 := by kernel_rfl
set_option maxRecDepth 100000 in
set_option maxHeartbeats 4000000 in
theorem zt_y (x : Int) (w : World) : Calls Tryz.prog 52 #[(.iface 5 (.int .u8 x))] w fun e w' => e = .returned (.string ⟨#[121]⟩) ∧ w' = w := by
  go_enter Tryz.func52, Tryz.ntmps52
  go_wp2
  go_ret
  exact ⟨rfl, rfl⟩
set_option maxRecDepth 100000 in
set_option maxHeartbeats 4000000 in
theorem zv_y (x : Int) (w : World) : Calls Tryz.prog 20 #[(.iface 5 (.int .u8 x))] w fun e w' => e = .returned (.agg #[(.iface 5 (.int .u8 x)), (.string ⟨#[121]⟩)]) ∧ Below w.heap.size w w' := by
  go_enter Tryz.func20, Tryz.ntmps20
  go_wp2_with (go_at_call 52; refine (zt_y x _).mono ?_; rintro e w2 ⟨rfl, rfl⟩)
  refine bodyPost_ret (results_cell_row rfl _ _ w.heap.size 73 _ (0, 0) _ rfl (heap_alloc_new _ _) Tryz.underlying73 rfl inf73) rfl ?_
  exact ⟨rfl, below_alloc (Below.refl _ _) _⟩
set_option maxRecDepth 100000 in
set_option maxHeartbeats 4000000 in
theorem ki_y (w : World) : Calls Tryz.prog 57 #[(.string ⟨#[121]⟩)] w fun e w' => e = .returned (.int .i64 7) ∧ w' = w := by
  go_enter Tryz.func57, Tryz.ntmps57
  go_wp2
  go_ret
  exact ⟨rfl, rfl⟩
set_option maxRecDepth 100000 in
set_option maxHeartbeats 4000000 in
theorem al_y (w : World) : Calls Tryz.prog 23 #[(.string ⟨#[121]⟩)] w fun e w' => e = .returned (.int .i64 1) ∧ w' = w := by
  go_enter Tryz.func23, Tryz.ntmps23
  go_wp2_with (go_at_call 57; refine (ki_y _).mono ?_; rintro e w2 ⟨rfl, rfl⟩)
  go_ret
  exact ⟨rfl, rfl⟩
set_option maxRecDepth 100000 in
set_option maxHeartbeats 4000000 in
theorem vk_y (v : Value) (hv : v.oneCell' = true) (w : World) : Calls Tryz.prog 25 #[.agg #[v, (.string ⟨#[121]⟩)]] w fun e w' => e = .returned (.int .i64 7) ∧ Below w.heap.size w w' := by
  go_enter Tryz.func25, Tryz.ntmps25
  go_wp2_with (go_at_call 57; refine (ki_y _).mono ?_; rintro e w2 ⟨rfl, rfl⟩)
  go_ret
  exact ⟨rfl, below_alloc (Below.refl _ _) _⟩
set_option maxRecDepth 100000 in
set_option maxHeartbeats 4000000 in
theorem ki_ly (w : World) : Calls Tryz.prog 57 #[(.string ⟨#[91, 121]⟩)] w fun e w' => e = .returned (.int .i64 16) ∧ w' = w := by
  go_enter Tryz.func57, Tryz.ntmps57
  go_wp2
  go_ret
  exact ⟨rfl, rfl⟩
set_option maxRecDepth 100000 in
set_option maxHeartbeats 4000000 in
theorem al_ly (w : World) : Calls Tryz.prog 23 #[(.string ⟨#[91, 121]⟩)] w fun e w' => e = .returned (.int .i64 4) ∧ w' = w := by
  go_enter Tryz.func23, Tryz.ntmps23
  go_wp2_with (go_at_call 57; refine (ki_ly _).mono ?_; rintro e w2 ⟨rfl, rfl⟩)
  go_ret
  exact ⟨rfl, rfl⟩
set_option maxRecDepth 100000 in
set_option maxHeartbeats 4000000 in
theorem vk_ly (v : Value) (hv : v.oneCell' = true) (w : World) : Calls Tryz.prog 25 #[.agg #[v, (.string ⟨#[91, 121]⟩)]] w fun e w' => e = .returned (.int .i64 16) ∧ Below w.heap.size w w' := by
  go_enter Tryz.func25, Tryz.ntmps25
  go_wp2_with (go_at_call 57; refine (ki_ly _).mono ?_; rintro e w2 ⟨rfl, rfl⟩)
  go_ret
  exact ⟨rfl, below_alloc (Below.refl _ _) _⟩
set_option maxRecDepth 100000 in
set_option maxHeartbeats 4000000 in
theorem nu_y (x : Int) (h0 : 0 ≤ x) (h1 : x < 256) (w : World) : Calls Tryz.prog 26 #[.agg #[(.iface 5 (.int .u8 x)), (.string ⟨#[121]⟩)]] w fun e w' => e = .returned (.int .u64 x) ∧ Below w.heap.size w w' := by
  have hw : IntKind.u64.wrap x = x := by rw [IntKind.wrap_u64]; omega
  go_enter Tryz.func26, Tryz.ntmps26
  go_wp2
  go_ret
  exact ⟨by simp [hw], below_alloc (Below.refl _ _) _⟩
set_option maxRecDepth 100000 in
set_option maxHeartbeats 4000000 in
theorem zt_n (x : Int) (w : World) : Calls Tryz.prog 52 #[(.iface 43 (.int .i16 x))] w fun e w' => e = .returned (.string ⟨#[110]⟩) ∧ w' = w := by
  go_enter Tryz.func52, Tryz.ntmps52
  go_wp2
  go_ret
  exact ⟨rfl, rfl⟩
set_option maxRecDepth 100000 in
set_option maxHeartbeats 4000000 in
theorem zv_n (x : Int) (w : World) : Calls Tryz.prog 20 #[(.iface 43 (.int .i16 x))] w fun e w' => e = .returned (.agg #[(.iface 43 (.int .i16 x)), (.string ⟨#[110]⟩)]) ∧ Below w.heap.size w w' := by
  go_enter Tryz.func20, Tryz.ntmps20
  go_wp2_with (go_at_call 52; refine (zt_n x _).mono ?_; rintro e w2 ⟨rfl, rfl⟩)
  refine bodyPost_ret (results_cell_row rfl _ _ w.heap.size 73 _ (0, 0) _ rfl (heap_alloc_new _ _) Tryz.underlying73 rfl inf73) rfl ?_
  exact ⟨rfl, below_alloc (Below.refl _ _) _⟩
set_option maxRecDepth 100000 in
set_option maxHeartbeats 4000000 in
theorem ki_n (w : World) : Calls Tryz.prog 57 #[(.string ⟨#[110]⟩)] w fun e w' => e = .returned (.int .i64 3) ∧ w' = w := by
  go_enter Tryz.func57, Tryz.ntmps57
  go_wp2
  go_ret
  exact ⟨rfl, rfl⟩
set_option maxRecDepth 100000 in
set_option maxHeartbeats 4000000 in
theorem al_n (w : World) : Calls Tryz.prog 23 #[(.string ⟨#[110]⟩)] w fun e w' => e = .returned (.int .i64 2) ∧ w' = w := by
  go_enter Tryz.func23, Tryz.ntmps23
  go_wp2_with (go_at_call 57; refine (ki_n _).mono ?_; rintro e w2 ⟨rfl, rfl⟩)
  go_ret
  exact ⟨rfl, rfl⟩
set_option maxRecDepth 100000 in
set_option maxHeartbeats 4000000 in
theorem vk_n (v : Value) (hv : v.oneCell' = true) (w : World) : Calls Tryz.prog 25 #[.agg #[v, (.string ⟨#[110]⟩)]] w fun e w' => e = .returned (.int .i64 3) ∧ Below w.heap.size w w' := by
  go_enter Tryz.func25, Tryz.ntmps25
  go_wp2_with (go_at_call 57; refine (ki_n _).mono ?_; rintro e w2 ⟨rfl, rfl⟩)
  go_ret
  exact ⟨rfl, below_alloc (Below.refl _ _) _⟩
set_option maxRecDepth 100000 in
set_option maxHeartbeats 4000000 in
theorem ki_ln (w : World) : Calls Tryz.prog 57 #[(.string ⟨#[91, 110]⟩)] w fun e w' => e = .returned (.int .i64 16) ∧ w' = w := by
  go_enter Tryz.func57, Tryz.ntmps57
  go_wp2
  go_ret
  exact ⟨rfl, rfl⟩
set_option maxRecDepth 100000 in
set_option maxHeartbeats 4000000 in
theorem al_ln (w : World) : Calls Tryz.prog 23 #[(.string ⟨#[91, 110]⟩)] w fun e w' => e = .returned (.int .i64 4) ∧ w' = w := by
  go_enter Tryz.func23, Tryz.ntmps23
  go_wp2_with (go_at_call 57; refine (ki_ln _).mono ?_; rintro e w2 ⟨rfl, rfl⟩)
  go_ret
  exact ⟨rfl, rfl⟩
set_option maxRecDepth 100000 in
set_option maxHeartbeats 4000000 in
theorem vk_ln (v : Value) (hv : v.oneCell' = true) (w : World) : Calls Tryz.prog 25 #[.agg #[v, (.string ⟨#[91, 110]⟩)]] w fun e w' => e = .returned (.int .i64 16) ∧ Below w.heap.size w w' := by
  go_enter Tryz.func25, Tryz.ntmps25
  go_wp2_with (go_at_call 57; refine (ki_ln _).mono ?_; rintro e w2 ⟨rfl, rfl⟩)
  go_ret
  exact ⟨rfl, below_alloc (Below.refl _ _) _⟩
set_option maxRecDepth 100000 in
set_option maxHeartbeats 4000000 in
theorem nu_n (x : Int) (h0 : -32768 ≤ x) (h1 : x < 32768) (w : World) : Calls Tryz.prog 29 #[.agg #[(.iface 43 (.int .i16 x)), (.string ⟨#[110]⟩)]] w fun e w' => e = .returned (.int .i64 x) ∧ Below w.heap.size w w' := by
  have hw : IntKind.i64.wrap x = x := by rw [IntKind.wrap_i64]; omega
  go_enter Tryz.func29, Tryz.ntmps29
  go_wp2
  go_ret
  exact ⟨by simp [hw], below_alloc (Below.refl _ _) _⟩
set_option maxRecDepth 100000 in
set_option maxHeartbeats 4000000 in
theorem zt_q (x : Int) (w : World) : Calls Tryz.prog 52 #[(.iface 90 (.int .u16 x))] w fun e w' => e = .returned (.string ⟨#[113]⟩) ∧ w' = w := by
  go_enter Tryz.func52, Tryz.ntmps52
  go_wp2
  go_ret
  exact ⟨rfl, rfl⟩
set_option maxRecDepth 100000 in
set_option maxHeartbeats 4000000 in
theorem zv_q (x : Int) (w : World) : Calls Tryz.prog 20 #[(.iface 90 (.int .u16 x))] w fun e w' => e = .returned (.agg #[(.iface 90 (.int .u16 x)), (.string ⟨#[113]⟩)]) ∧ Below w.heap.size w w' := by
  go_enter Tryz.func20, Tryz.ntmps20
  go_wp2_with (go_at_call 52; refine (zt_q x _).mono ?_; rintro e w2 ⟨rfl, rfl⟩)
  refine bodyPost_ret (results_cell_row rfl _ _ w.heap.size 73 _ (0, 0) _ rfl (heap_alloc_new _ _) Tryz.underlying73 rfl inf73) rfl ?_
  exact ⟨rfl, below_alloc (Below.refl _ _) _⟩
set_option maxRecDepth 100000 in
set_option maxHeartbeats 4000000 in
theorem ki_q (w : World) : Calls Tryz.prog 57 #[(.string ⟨#[113]⟩)] w fun e w' => e = .returned (.int .i64 8) ∧ w' = w := by
  go_enter Tryz.func57, Tryz.ntmps57
  go_wp2
  go_ret
  exact ⟨rfl, rfl⟩
set_option maxRecDepth 100000 in
set_option maxHeartbeats 4000000 in
theorem al_q (w : World) : Calls Tryz.prog 23 #[(.string ⟨#[113]⟩)] w fun e w' => e = .returned (.int .i64 2) ∧ w' = w := by
  go_enter Tryz.func23, Tryz.ntmps23
  go_wp2_with (go_at_call 57; refine (ki_q _).mono ?_; rintro e w2 ⟨rfl, rfl⟩)
  go_ret
  exact ⟨rfl, rfl⟩
set_option maxRecDepth 100000 in
set_option maxHeartbeats 4000000 in
theorem vk_q (v : Value) (hv : v.oneCell' = true) (w : World) : Calls Tryz.prog 25 #[.agg #[v, (.string ⟨#[113]⟩)]] w fun e w' => e = .returned (.int .i64 8) ∧ Below w.heap.size w w' := by
  go_enter Tryz.func25, Tryz.ntmps25
  go_wp2_with (go_at_call 57; refine (ki_q _).mono ?_; rintro e w2 ⟨rfl, rfl⟩)
  go_ret
  exact ⟨rfl, below_alloc (Below.refl _ _) _⟩
set_option maxRecDepth 100000 in
set_option maxHeartbeats 4000000 in
theorem ki_lq (w : World) : Calls Tryz.prog 57 #[(.string ⟨#[91, 113]⟩)] w fun e w' => e = .returned (.int .i64 16) ∧ w' = w := by
  go_enter Tryz.func57, Tryz.ntmps57
  go_wp2
  go_ret
  exact ⟨rfl, rfl⟩
set_option maxRecDepth 100000 in
set_option maxHeartbeats 4000000 in
theorem al_lq (w : World) : Calls Tryz.prog 23 #[(.string ⟨#[91, 113]⟩)] w fun e w' => e = .returned (.int .i64 4) ∧ w' = w := by
  go_enter Tryz.func23, Tryz.ntmps23
  go_wp2_with (go_at_call 57; refine (ki_lq _).mono ?_; rintro e w2 ⟨rfl, rfl⟩)
  go_ret
  exact ⟨rfl, rfl⟩
set_option maxRecDepth 100000 in
set_option maxHeartbeats 4000000 in
theorem vk_lq (v : Value) (hv : v.oneCell' = true) (w : World) : Calls Tryz.prog 25 #[.agg #[v, (.string ⟨#[91, 113]⟩)]] w fun e w' => e = .returned (.int .i64 16) ∧ Below w.heap.size w w' := by
  go_enter Tryz.func25, Tryz.ntmps25
  go_wp2_with (go_at_call 57; refine (ki_lq _).mono ?_; rintro e w2 ⟨rfl, rfl⟩)
  go_ret
  exact ⟨rfl, below_alloc (Below.refl _ _) _⟩
set_option maxRecDepth 100000 in
set_option maxHeartbeats 4000000 in
theorem nu_q (x : Int) (h0 : 0 ≤ x) (h1 : x < 65536) (w : World) : Calls Tryz.prog 26 #[.agg #[(.iface 90 (.int .u16 x)), (.string ⟨#[113]⟩)]] w fun e w' => e = .returned (.int .u64 x) ∧ Below w.heap.size w w' := by
  have hw : IntKind.u64.wrap x = x := by rw [IntKind.wrap_u64]; omega
  go_enter Tryz.func26, Tryz.ntmps26
  go_wp2
  go_ret
  exact ⟨by simp [hw], below_alloc (Below.refl _ _) _⟩
set_option maxRecDepth 100000 in
set_option maxHeartbeats 4000000 in
theorem zt_i (x : Int) (w : World) : Calls Tryz.prog 52 #[(.iface 21 (.int .i32 x))] w fun e w' => e = .returned (.string ⟨#[105]⟩) ∧ w' = w := by
  go_enter Tryz.func52, Tryz.ntmps52
  go_wp2
  go_ret
  exact ⟨rfl, rfl⟩
set_option maxRecDepth 100000 in
set_option maxHeartbeats 4000000 in
theorem zv_i (x : Int) (w : World) : Calls Tryz.prog 20 #[(.iface 21 (.int .i32 x))] w fun e w' => e = .returned (.agg #[(.iface 21 (.int .i32 x)), (.string ⟨#[105]⟩)]) ∧ Below w.heap.size w w' := by
  go_enter Tryz.func20, Tryz.ntmps20
  go_wp2_with (go_at_call 52; refine (zt_i x _).mono ?_; rintro e w2 ⟨rfl, rfl⟩)
  refine bodyPost_ret (results_cell_row rfl _ _ w.heap.size 73 _ (0, 0) _ rfl (heap_alloc_new _ _) Tryz.underlying73 rfl inf73) rfl ?_
  exact ⟨rfl, below_alloc (Below.refl _ _) _⟩
set_option maxRecDepth 100000 in
set_option maxHeartbeats 4000000 in
theorem ki_i (w : World) : Calls Tryz.prog 57 #[(.string ⟨#[105]⟩)] w fun e w' => e = .returned (.int .i64 4) ∧ w' = w := by
  go_enter Tryz.func57, Tryz.ntmps57
  go_wp2
  go_ret
  exact ⟨rfl, rfl⟩
set_option maxRecDepth 100000 in
set_option maxHeartbeats 4000000 in
theorem al_i (w : World) : Calls Tryz.prog 23 #[(.string ⟨#[105]⟩)] w fun e w' => e = .returned (.int .i64 4) ∧ w' = w := by
  go_enter Tryz.func23, Tryz.ntmps23
  go_wp2_with (go_at_call 57; refine (ki_i _).mono ?_; rintro e w2 ⟨rfl, rfl⟩)
  go_ret
  exact ⟨rfl, rfl⟩
set_option maxRecDepth 100000 in
set_option maxHeartbeats 4000000 in
theorem vk_i (v : Value) (hv : v.oneCell' = true) (w : World) : Calls Tryz.prog 25 #[.agg #[v, (.string ⟨#[105]⟩)]] w fun e w' => e = .returned (.int .i64 4) ∧ Below w.heap.size w w' := by
  go_enter Tryz.func25, Tryz.ntmps25
  go_wp2_with (go_at_call 57; refine (ki_i _).mono ?_; rintro e w2 ⟨rfl, rfl⟩)
  go_ret
  exact ⟨rfl, below_alloc (Below.refl _ _) _⟩
set_option maxRecDepth 100000 in
set_option maxHeartbeats 4000000 in
theorem ki_li (w : World) : Calls Tryz.prog 57 #[(.string ⟨#[91, 105]⟩)] w fun e w' => e = .returned (.int .i64 16) ∧ w' = w := by
  go_enter Tryz.func57, Tryz.ntmps57
  go_wp2
  go_ret
  exact ⟨rfl, rfl⟩
set_option maxRecDepth 100000 in
set_option maxHeartbeats 4000000 in
theorem al_li (w : World) : Calls Tryz.prog 23 #[(.string ⟨#[91, 105]⟩)] w fun e w' => e = .returned (.int .i64 4) ∧ w' = w := by
  go_enter Tryz.func23, Tryz.ntmps23
  go_wp2_with (go_at_call 57; refine (ki_li _).mono ?_; rintro e w2 ⟨rfl, rfl⟩)
  go_ret
  exact ⟨rfl, rfl⟩
set_option maxRecDepth 100000 in
set_option maxHeartbeats 4000000 in
theorem vk_li (v : Value) (hv : v.oneCell' = true) (w : World) : Calls Tryz.prog 25 #[.agg #[v, (.string ⟨#[91, 105]⟩)]] w fun e w' => e = .returned (.int .i64 16) ∧ Below w.heap.size w w' := by
  go_enter Tryz.func25, Tryz.ntmps25
  go_wp2_with (go_at_call 57; refine (ki_li _).mono ?_; rintro e w2 ⟨rfl, rfl⟩)
  go_ret
  exact ⟨rfl, below_alloc (Below.refl _ _) _⟩
set_option maxRecDepth 100000 in
set_option maxHeartbeats 4000000 in
theorem nu_i (x : Int) (h0 : -2147483648 ≤ x) (h1 : x < 2147483648) (w : World) : Calls Tryz.prog 29 #[.agg #[(.iface 21 (.int .i32 x)), (.string ⟨#[105]⟩)]] w fun e w' => e = .returned (.int .i64 x) ∧ Below w.heap.size w w' := by
  have hw : IntKind.i64.wrap x = x := by rw [IntKind.wrap_i64]; omega
  go_enter Tryz.func29, Tryz.ntmps29
  go_wp2
  go_ret
  exact ⟨by simp [hw], below_alloc (Below.refl _ _) _⟩
set_option maxRecDepth 100000 in
set_option maxHeartbeats 4000000 in
theorem zt_u (x : Int) (w : World) : Calls Tryz.prog 52 #[(.iface 87 (.int .u32 x))] w fun e w' => e = .returned (.string ⟨#[117]⟩) ∧ w' = w := by
  go_enter Tryz.func52, Tryz.ntmps52
  go_wp2
  go_ret
  exact ⟨rfl, rfl⟩
set_option maxRecDepth 100000 in
set_option maxHeartbeats 4000000 in
theorem zv_u (x : Int) (w : World) : Calls Tryz.prog 20 #[(.iface 87 (.int .u32 x))] w fun e w' => e = .returned (.agg #[(.iface 87 (.int .u32 x)), (.string ⟨#[117]⟩)]) ∧ Below w.heap.size w w' := by
  go_enter Tryz.func20, Tryz.ntmps20
  go_wp2_with (go_at_call 52; refine (zt_u x _).mono ?_; rintro e w2 ⟨rfl, rfl⟩)
  refine bodyPost_ret (results_cell_row rfl _ _ w.heap.size 73 _ (0, 0) _ rfl (heap_alloc_new _ _) Tryz.underlying73 rfl inf73) rfl ?_
  exact ⟨rfl, below_alloc (Below.refl _ _) _⟩
set_option maxRecDepth 100000 in
set_option maxHeartbeats 4000000 in
theorem ki_u (w : World) : Calls Tryz.prog 57 #[(.string ⟨#[117]⟩)] w fun e w' => e = .returned (.int .i64 9) ∧ w' = w := by
  go_enter Tryz.func57, Tryz.ntmps57
  go_wp2
  go_ret
  exact ⟨rfl, rfl⟩
set_option maxRecDepth 100000 in
set_option maxHeartbeats 4000000 in
theorem al_u (w : World) : Calls Tryz.prog 23 #[(.string ⟨#[117]⟩)] w fun e w' => e = .returned (.int .i64 4) ∧ w' = w := by
  go_enter Tryz.func23, Tryz.ntmps23
  go_wp2_with (go_at_call 57; refine (ki_u _).mono ?_; rintro e w2 ⟨rfl, rfl⟩)
  go_ret
  exact ⟨rfl, rfl⟩
set_option maxRecDepth 100000 in
set_option maxHeartbeats 4000000 in
theorem vk_u (v : Value) (hv : v.oneCell' = true) (w : World) : Calls Tryz.prog 25 #[.agg #[v, (.string ⟨#[117]⟩)]] w fun e w' => e = .returned (.int .i64 9) ∧ Below w.heap.size w w' := by
  go_enter Tryz.func25, Tryz.ntmps25
  go_wp2_with (go_at_call 57; refine (ki_u _).mono ?_; rintro e w2 ⟨rfl, rfl⟩)
  go_ret
  exact ⟨rfl, below_alloc (Below.refl _ _) _⟩
set_option maxRecDepth 100000 in
set_option maxHeartbeats 4000000 in
theorem ki_lu (w : World) : Calls Tryz.prog 57 #[(.string ⟨#[91, 117]⟩)] w fun e w' => e = .returned (.int .i64 16) ∧ w' = w := by
  go_enter Tryz.func57, Tryz.ntmps57
  go_wp2
  go_ret
  exact ⟨rfl, rfl⟩
set_option maxRecDepth 100000 in
set_option maxHeartbeats 4000000 in
theorem al_lu (w : World) : Calls Tryz.prog 23 #[(.string ⟨#[91, 117]⟩)] w fun e w' => e = .returned (.int .i64 4) ∧ w' = w := by
  go_enter Tryz.func23, Tryz.ntmps23
  go_wp2_with (go_at_call 57; refine (ki_lu _).mono ?_; rintro e w2 ⟨rfl, rfl⟩)
  go_ret
  exact ⟨rfl, rfl⟩
set_option maxRecDepth 100000 in
set_option maxHeartbeats 4000000 in
theorem vk_lu (v : Value) (hv : v.oneCell' = true) (w : World) : Calls Tryz.prog 25 #[.agg #[v, (.string ⟨#[91, 117]⟩)]] w fun e w' => e = .returned (.int .i64 16) ∧ Below w.heap.size w w' := by
  go_enter Tryz.func25, Tryz.ntmps25
  go_wp2_with (go_at_call 57; refine (ki_lu _).mono ?_; rintro e w2 ⟨rfl, rfl⟩)
  go_ret
  exact ⟨rfl, below_alloc (Below.refl _ _) _⟩
set_option maxRecDepth 100000 in
set_option maxHeartbeats 4000000 in
theorem nu_u (x : Int) (h0 : 0 ≤ x) (h1 : x < 4294967296) (w : World) : Calls Tryz.prog 26 #[.agg #[(.iface 87 (.int .u32 x)), (.string ⟨#[117]⟩)]] w fun e w' => e = .returned (.int .u64 x) ∧ Below w.heap.size w w' := by
  have hw : IntKind.u64.wrap x = x := by rw [IntKind.wrap_u64]; omega
  go_enter Tryz.func26, Tryz.ntmps26
  go_wp2
  go_ret
  exact ⟨by simp [hw], below_alloc (Below.refl _ _) _⟩
set_option maxRecDepth 100000 in
set_option maxHeartbeats 4000000 in
theorem zt_x (x : Int) (w : World) : Calls Tryz.prog 52 #[(.iface 2 (.int .i64 x))] w fun e w' => e = .returned (.string ⟨#[120]⟩) ∧ w' = w := by
  go_enter Tryz.func52, Tryz.ntmps52
  go_wp2
  go_ret
  exact ⟨rfl, rfl⟩
set_option maxRecDepth 100000 in
set_option maxHeartbeats 4000000 in
theorem zv_x (x : Int) (w : World) : Calls Tryz.prog 20 #[(.iface 2 (.int .i64 x))] w fun e w' => e = .returned (.agg #[(.iface 2 (.int .i64 x)), (.string ⟨#[120]⟩)]) ∧ Below w.heap.size w w' := by
  go_enter Tryz.func20, Tryz.ntmps20
  go_wp2_with (go_at_call 52; refine (zt_x x _).mono ?_; rintro e w2 ⟨rfl, rfl⟩)
  refine bodyPost_ret (results_cell_row rfl _ _ w.heap.size 73 _ (0, 0) _ rfl (heap_alloc_new _ _) Tryz.underlying73 rfl inf73) rfl ?_
  exact ⟨rfl, below_alloc (Below.refl _ _) _⟩
set_option maxRecDepth 100000 in
set_option maxHeartbeats 4000000 in
theorem ki_x (w : World) : Calls Tryz.prog 57 #[(.string ⟨#[120]⟩)] w fun e w' => e = .returned (.int .i64 5) ∧ w' = w := by
  go_enter Tryz.func57, Tryz.ntmps57
  go_wp2
  go_ret
  exact ⟨rfl, rfl⟩
set_option maxRecDepth 100000 in
set_option maxHeartbeats 4000000 in
theorem al_x (w : World) : Calls Tryz.prog 23 #[(.string ⟨#[120]⟩)] w fun e w' => e = .returned (.int .i64 8) ∧ w' = w := by
  go_enter Tryz.func23, Tryz.ntmps23
  go_wp2_with (go_at_call 57; refine (ki_x _).mono ?_; rintro e w2 ⟨rfl, rfl⟩)
  go_ret
  exact ⟨rfl, rfl⟩
set_option maxRecDepth 100000 in
set_option maxHeartbeats 4000000 in
theorem vk_x (v : Value) (hv : v.oneCell' = true) (w : World) : Calls Tryz.prog 25 #[.agg #[v, (.string ⟨#[120]⟩)]] w fun e w' => e = .returned (.int .i64 5) ∧ Below w.heap.size w w' := by
  go_enter Tryz.func25, Tryz.ntmps25
  go_wp2_with (go_at_call 57; refine (ki_x _).mono ?_; rintro e w2 ⟨rfl, rfl⟩)
  go_ret
  exact ⟨rfl, below_alloc (Below.refl _ _) _⟩
set_option maxRecDepth 100000 in
set_option maxHeartbeats 4000000 in
theorem ki_lx (w : World) : Calls Tryz.prog 57 #[(.string ⟨#[91, 120]⟩)] w fun e w' => e = .returned (.int .i64 16) ∧ w' = w := by
  go_enter Tryz.func57, Tryz.ntmps57
  go_wp2
  go_ret
  exact ⟨rfl, rfl⟩
set_option maxRecDepth 100000 in
set_option maxHeartbeats 4000000 in
theorem al_lx (w : World) : Calls Tryz.prog 23 #[(.string ⟨#[91, 120]⟩)] w fun e w' => e = .returned (.int .i64 4) ∧ w' = w := by
  go_enter Tryz.func23, Tryz.ntmps23
  go_wp2_with (go_at_call 57; refine (ki_lx _).mono ?_; rintro e w2 ⟨rfl, rfl⟩)
  go_ret
  exact ⟨rfl, rfl⟩
set_option maxRecDepth 100000 in
set_option maxHeartbeats 4000000 in
theorem vk_lx (v : Value) (hv : v.oneCell' = true) (w : World) : Calls Tryz.prog 25 #[.agg #[v, (.string ⟨#[91, 120]⟩)]] w fun e w' => e = .returned (.int .i64 16) ∧ Below w.heap.size w w' := by
  go_enter Tryz.func25, Tryz.ntmps25
  go_wp2_with (go_at_call 57; refine (ki_lx _).mono ?_; rintro e w2 ⟨rfl, rfl⟩)
  go_ret
  exact ⟨rfl, below_alloc (Below.refl _ _) _⟩
set_option maxRecDepth 100000 in
set_option maxHeartbeats 4000000 in
theorem nu_x (x : Int) (h0 : -9223372036854775808 ≤ x) (h1 : x < 9223372036854775808) (w : World) : Calls Tryz.prog 29 #[.agg #[(.iface 2 (.int .i64 x)), (.string ⟨#[120]⟩)]] w fun e w' => e = .returned (.int .i64 x) ∧ Below w.heap.size w w' := by
  have hw : IntKind.i64.wrap x = x := by rw [IntKind.wrap_i64]; omega
  go_enter Tryz.func29, Tryz.ntmps29
  go_wp2
  go_ret
  exact ⟨by simp [hw], below_alloc (Below.refl _ _) _⟩
set_option maxRecDepth 100000 in
set_option maxHeartbeats 4000000 in
theorem zt_t (x : Int) (w : World) : Calls Tryz.prog 52 #[(.iface 25 (.int .u64 x))] w fun e w' => e = .returned (.string ⟨#[116]⟩) ∧ w' = w := by
  go_enter Tryz.func52, Tryz.ntmps52
  go_wp2
  go_ret
  exact ⟨rfl, rfl⟩
set_option maxRecDepth 100000 in
set_option maxHeartbeats 4000000 in
theorem zv_t (x : Int) (w : World) : Calls Tryz.prog 20 #[(.iface 25 (.int .u64 x))] w fun e w' => e = .returned (.agg #[(.iface 25 (.int .u64 x)), (.string ⟨#[116]⟩)]) ∧ Below w.heap.size w w' := by
  go_enter Tryz.func20, Tryz.ntmps20
  go_wp2_with (go_at_call 52; refine (zt_t x _).mono ?_; rintro e w2 ⟨rfl, rfl⟩)
  refine bodyPost_ret (results_cell_row rfl _ _ w.heap.size 73 _ (0, 0) _ rfl (heap_alloc_new _ _) Tryz.underlying73 rfl inf73) rfl ?_
  exact ⟨rfl, below_alloc (Below.refl _ _) _⟩
set_option maxRecDepth 100000 in
set_option maxHeartbeats 4000000 in
theorem ki_t (w : World) : Calls Tryz.prog 57 #[(.string ⟨#[116]⟩)] w fun e w' => e = .returned (.int .i64 10) ∧ w' = w := by
  go_enter Tryz.func57, Tryz.ntmps57
  go_wp2
  go_ret
  exact ⟨rfl, rfl⟩
set_option maxRecDepth 100000 in
set_option maxHeartbeats 4000000 in
theorem al_t (w : World) : Calls Tryz.prog 23 #[(.string ⟨#[116]⟩)] w fun e w' => e = .returned (.int .i64 8) ∧ w' = w := by
  go_enter Tryz.func23, Tryz.ntmps23
  go_wp2_with (go_at_call 57; refine (ki_t _).mono ?_; rintro e w2 ⟨rfl, rfl⟩)
  go_ret
  exact ⟨rfl, rfl⟩
set_option maxRecDepth 100000 in
set_option maxHeartbeats 4000000 in
theorem vk_t (v : Value) (hv : v.oneCell' = true) (w : World) : Calls Tryz.prog 25 #[.agg #[v, (.string ⟨#[116]⟩)]] w fun e w' => e = .returned (.int .i64 10) ∧ Below w.heap.size w w' := by
  go_enter Tryz.func25, Tryz.ntmps25
  go_wp2_with (go_at_call 57; refine (ki_t _).mono ?_; rintro e w2 ⟨rfl, rfl⟩)
  go_ret
  exact ⟨rfl, below_alloc (Below.refl _ _) _⟩
set_option maxRecDepth 100000 in
set_option maxHeartbeats 4000000 in
theorem ki_lt (w : World) : Calls Tryz.prog 57 #[(.string ⟨#[91, 116]⟩)] w fun e w' => e = .returned (.int .i64 16) ∧ w' = w := by
  go_enter Tryz.func57, Tryz.ntmps57
  go_wp2
  go_ret
  exact ⟨rfl, rfl⟩
set_option maxRecDepth 100000 in
set_option maxHeartbeats 4000000 in
theorem al_lt (w : World) : Calls Tryz.prog 23 #[(.string ⟨#[91, 116]⟩)] w fun e w' => e = .returned (.int .i64 4) ∧ w' = w := by
  go_enter Tryz.func23, Tryz.ntmps23
  go_wp2_with (go_at_call 57; refine (ki_lt _).mono ?_; rintro e w2 ⟨rfl, rfl⟩)
  go_ret
  exact ⟨rfl, rfl⟩
set_option maxRecDepth 100000 in
set_option maxHeartbeats 4000000 in
theorem vk_lt (v : Value) (hv : v.oneCell' = true) (w : World) : Calls Tryz.prog 25 #[.agg #[v, (.string ⟨#[91, 116]⟩)]] w fun e w' => e = .returned (.int .i64 16) ∧ Below w.heap.size w w' := by
  go_enter Tryz.func25, Tryz.ntmps25
  go_wp2_with (go_at_call 57; refine (ki_lt _).mono ?_; rintro e w2 ⟨rfl, rfl⟩)
  go_ret
  exact ⟨rfl, below_alloc (Below.refl _ _) _⟩
set_option maxRecDepth 100000 in
set_option maxHeartbeats 4000000 in
theorem nu_t (x : Int) (h0 : 0 ≤ x) (h1 : x < 18446744073709551616) (w : World) : Calls Tryz.prog 26 #[.agg #[(.iface 25 (.int .u64 x)), (.string ⟨#[116]⟩)]] w fun e w' => e = .returned (.int .u64 x) ∧ Below w.heap.size w w' := by
  have hw : IntKind.u64.wrap x = x := by rw [IntKind.wrap_u64]; omega
  go_enter Tryz.func26, Tryz.ntmps26
  go_wp2
  go_ret
  exact ⟨by simp [hw], below_alloc (Below.refl _ _) _⟩
set_option maxRecDepth 100000 in
set_option maxHeartbeats 4000000 in
theorem zt_d (x : Nat) (w : World) : Calls Tryz.prog 52 #[(.iface 91 (.float .f64 x))] w fun e w' => e = .returned (.string ⟨#[100]⟩) ∧ w' = w := by
  go_enter Tryz.func52, Tryz.ntmps52
  go_wp2
  go_ret
  exact ⟨rfl, rfl⟩
set_option maxRecDepth 100000 in
set_option maxHeartbeats 4000000 in
theorem zv_d (x : Nat) (w : World) : Calls Tryz.prog 20 #[(.iface 91 (.float .f64 x))] w fun e w' => e = .returned (.agg #[(.iface 91 (.float .f64 x)), (.string ⟨#[100]⟩)]) ∧ Below w.heap.size w w' := by
  go_enter Tryz.func20, Tryz.ntmps20
  go_wp2_with (go_at_call 52; refine (zt_d x _).mono ?_; rintro e w2 ⟨rfl, rfl⟩)
  refine bodyPost_ret (results_cell_row rfl _ _ w.heap.size 73 _ (0, 0) _ rfl (heap_alloc_new _ _) Tryz.underlying73 rfl inf73) rfl ?_
  exact ⟨rfl, below_alloc (Below.refl _ _) _⟩
set_option maxRecDepth 100000 in
set_option maxHeartbeats 4000000 in
theorem ki_d (w : World) : Calls Tryz.prog 57 #[(.string ⟨#[100]⟩)] w fun e w' => e = .returned (.int .i64 11) ∧ w' = w := by
  go_enter Tryz.func57, Tryz.ntmps57
  go_wp2
  go_ret
  exact ⟨rfl, rfl⟩
set_option maxRecDepth 100000 in
set_option maxHeartbeats 4000000 in
theorem al_d (w : World) : Calls Tryz.prog 23 #[(.string ⟨#[100]⟩)] w fun e w' => e = .returned (.int .i64 8) ∧ w' = w := by
  go_enter Tryz.func23, Tryz.ntmps23
  go_wp2_with (go_at_call 57; refine (ki_d _).mono ?_; rintro e w2 ⟨rfl, rfl⟩)
  go_ret
  exact ⟨rfl, rfl⟩
set_option maxRecDepth 100000 in
set_option maxHeartbeats 4000000 in
theorem vk_d (v : Value) (hv : v.oneCell' = true) (w : World) : Calls Tryz.prog 25 #[.agg #[v, (.string ⟨#[100]⟩)]] w fun e w' => e = .returned (.int .i64 11) ∧ Below w.heap.size w w' := by
  go_enter Tryz.func25, Tryz.ntmps25
  go_wp2_with (go_at_call 57; refine (ki_d _).mono ?_; rintro e w2 ⟨rfl, rfl⟩)
  go_ret
  exact ⟨rfl, below_alloc (Below.refl _ _) _⟩
set_option maxRecDepth 100000 in
set_option maxHeartbeats 4000000 in
theorem ki_ld (w : World) : Calls Tryz.prog 57 #[(.string ⟨#[91, 100]⟩)] w fun e w' => e = .returned (.int .i64 16) ∧ w' = w := by
  go_enter Tryz.func57, Tryz.ntmps57
  go_wp2
  go_ret
  exact ⟨rfl, rfl⟩
set_option maxRecDepth 100000 in
set_option maxHeartbeats 4000000 in
theorem al_ld (w : World) : Calls Tryz.prog 23 #[(.string ⟨#[91, 100]⟩)] w fun e w' => e = .returned (.int .i64 4) ∧ w' = w := by
  go_enter Tryz.func23, Tryz.ntmps23
  go_wp2_with (go_at_call 57; refine (ki_ld _).mono ?_; rintro e w2 ⟨rfl, rfl⟩)
  go_ret
  exact ⟨rfl, rfl⟩
set_option maxRecDepth 100000 in
set_option maxHeartbeats 4000000 in
theorem vk_ld (v : Value) (hv : v.oneCell' = true) (w : World) : Calls Tryz.prog 25 #[.agg #[v, (.string ⟨#[91, 100]⟩)]] w fun e w' => e = .returned (.int .i64 16) ∧ Below w.heap.size w w' := by
  go_enter Tryz.func25, Tryz.ntmps25
  go_wp2_with (go_at_call 57; refine (ki_ld _).mono ?_; rintro e w2 ⟨rfl, rfl⟩)
  go_ret
  exact ⟨rfl, below_alloc (Below.refl _ _) _⟩
set_option maxRecDepth 100000 in
set_option maxHeartbeats 4000000 in
theorem nu_d (x : Nat) (w : World) : Calls Tryz.prog 30 #[.agg #[(.iface 91 (.float .f64 x)), (.string ⟨#[100]⟩)]] w fun e w' => e = .returned (.float .f64 x) ∧ Below w.heap.size w w' := by
  go_enter Tryz.func30, Tryz.ntmps30
  go_wp2
  go_ret
  exact ⟨rfl, below_alloc (Below.refl _ _) _⟩
set_option maxRecDepth 100000 in
set_option maxHeartbeats 4000000 in
theorem zt_h (x : Int) (w : World) : Calls Tryz.prog 52 #[(.iface 121 (.int .u32 x))] w fun e w' => e = .returned (.string ⟨#[104]⟩) ∧ w' = w := by
  go_enter Tryz.func52, Tryz.ntmps52
  go_wp2
  go_ret
  exact ⟨rfl, rfl⟩
set_option maxRecDepth 100000 in
set_option maxHeartbeats 4000000 in
theorem zv_h (x : Int) (w : World) : Calls Tryz.prog 20 #[(.iface 121 (.int .u32 x))] w fun e w' => e = .returned (.agg #[(.iface 121 (.int .u32 x)), (.string ⟨#[104]⟩)]) ∧ Below w.heap.size w w' := by
  go_enter Tryz.func20, Tryz.ntmps20
  go_wp2_with (go_at_call 52; refine (zt_h x _).mono ?_; rintro e w2 ⟨rfl, rfl⟩)
  refine bodyPost_ret (results_cell_row rfl _ _ w.heap.size 73 _ (0, 0) _ rfl (heap_alloc_new _ _) Tryz.underlying73 rfl inf73) rfl ?_
  exact ⟨rfl, below_alloc (Below.refl _ _) _⟩
set_option maxRecDepth 100000 in
set_option maxHeartbeats 4000000 in
theorem ki_h (w : World) : Calls Tryz.prog 57 #[(.string ⟨#[104]⟩)] w fun e w' => e = .returned (.int .i64 9) ∧ w' = w := by
  go_enter Tryz.func57, Tryz.ntmps57
  go_wp2
  go_ret
  exact ⟨rfl, rfl⟩
set_option maxRecDepth 100000 in
set_option maxHeartbeats 4000000 in
theorem al_h (w : World) : Calls Tryz.prog 23 #[(.string ⟨#[104]⟩)] w fun e w' => e = .returned (.int .i64 4) ∧ w' = w := by
  go_enter Tryz.func23, Tryz.ntmps23
  go_wp2_with (go_at_call 57; refine (ki_h _).mono ?_; rintro e w2 ⟨rfl, rfl⟩)
  go_ret
  exact ⟨rfl, rfl⟩
set_option maxRecDepth 100000 in
set_option maxHeartbeats 4000000 in
theorem vk_h (v : Value) (hv : v.oneCell' = true) (w : World) : Calls Tryz.prog 25 #[.agg #[v, (.string ⟨#[104]⟩)]] w fun e w' => e = .returned (.int .i64 9) ∧ Below w.heap.size w w' := by
  go_enter Tryz.func25, Tryz.ntmps25
  go_wp2_with (go_at_call 57; refine (ki_h _).mono ?_; rintro e w2 ⟨rfl, rfl⟩)
  go_ret
  exact ⟨rfl, below_alloc (Below.refl _ _) _⟩
set_option maxRecDepth 100000 in
set_option maxHeartbeats 4000000 in
theorem ki_lh (w : World) : Calls Tryz.prog 57 #[(.string ⟨#[91, 104]⟩)] w fun e w' => e = .returned (.int .i64 16) ∧ w' = w := by
  go_enter Tryz.func57, Tryz.ntmps57
  go_wp2
  go_ret
  exact ⟨rfl, rfl⟩
set_option maxRecDepth 100000 in
set_option maxHeartbeats 4000000 in
theorem al_lh (w : World) : Calls Tryz.prog 23 #[(.string ⟨#[91, 104]⟩)] w fun e w' => e = .returned (.int .i64 4) ∧ w' = w := by
  go_enter Tryz.func23, Tryz.ntmps23
  go_wp2_with (go_at_call 57; refine (ki_lh _).mono ?_; rintro e w2 ⟨rfl, rfl⟩)
  go_ret
  exact ⟨rfl, rfl⟩
set_option maxRecDepth 100000 in
set_option maxHeartbeats 4000000 in
theorem vk_lh (v : Value) (hv : v.oneCell' = true) (w : World) : Calls Tryz.prog 25 #[.agg #[v, (.string ⟨#[91, 104]⟩)]] w fun e w' => e = .returned (.int .i64 16) ∧ Below w.heap.size w w' := by
  go_enter Tryz.func25, Tryz.ntmps25
  go_wp2_with (go_at_call 57; refine (ki_lh _).mono ?_; rintro e w2 ⟨rfl, rfl⟩)
  go_ret
  exact ⟨rfl, below_alloc (Below.refl _ _) _⟩
set_option maxRecDepth 100000 in
set_option maxHeartbeats 4000000 in
theorem nu_h (x : Int) (h0 : 0 ≤ x) (h1 : x < 4294967296) (w : World) : Calls Tryz.prog 26 #[.agg #[(.iface 121 (.int .u32 x)), (.string ⟨#[104]⟩)]] w fun e w' => e = .returned (.int .u64 x) ∧ Below w.heap.size w w' := by
  have hw : IntKind.u64.wrap x = x := by rw [IntKind.wrap_u64]; omega
  go_enter Tryz.func26, Tryz.ntmps26
  go_wp2
  go_ret
  exact ⟨by simp [hw], below_alloc (Below.refl _ _) _⟩
set_option maxRecDepth 100000 in
set_option maxHeartbeats 4000000 in
theorem ty_calls (v : Value) (hv : v.oneCell' = true) (s : ByteArray) (w : World) : Calls Tryz.prog 24 #[.agg #[v, .string s]] w fun e w' => e = .returned (.string s) ∧ Below w.heap.size w w' := by
  go_enter Tryz.func24, Tryz.ntmps24
  go_wp2
  go_ret
  exact ⟨rfl, below_alloc (Below.refl _ _) _⟩


end Go.Proofs.YtcnhpiodomknfaaGreatDoor.MFnWrTurned
