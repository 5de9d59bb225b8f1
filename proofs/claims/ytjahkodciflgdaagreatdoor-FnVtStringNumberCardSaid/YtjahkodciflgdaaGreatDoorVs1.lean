-- A trial text of this session.
import Derived.Test.YtjahkodciflgdaaGreatDoorMFnVtStringNumberx0
import Derived.Test.YtjahkodciflgdaaGreatDoorShelf
namespace Go.Proofs.YtjahkodciflgdaaGreatDoor.MFnVtStringNumber
open Go.RowKit Go.Proofs.YtjahkodciflgdaaGreatDoorW.PrintWords Go.Proofs.YtjahkodciflgdaaGreatDoorW.PrintLast Go.Proofs.YtjahkodciflgdaaGreatDoorW.PrintMore
attribute [local go_sem] max2_int min2_int max_two min_two max_three min_three max_four min_four
set_option linter.unusedVariables false
set_option linter.unusedSimpArgs false

theorem as5_2 (v : Value) (w : World) : (Instr.typeAssert (.iface 5 v) 20 2 true).run Tryz.prog w = .ok (.tuple #[.int .i64 0, .bool false]) w := by kernel_rfl
theorem as5_4 (v : Value) (w : World) : (Instr.typeAssert (.iface 5 v) 20 4 true).run Tryz.prog w = .ok (.tuple #[.bool false, .bool false]) w := by kernel_rfl
theorem as5_5 (v : Value) (w : World) : (Instr.typeAssert (.iface 5 v) 20 5 true).run Tryz.prog w = .ok (.tuple #[v, .bool true]) w := by kernel_rfl
theorem as5_21 (v : Value) (w : World) : (Instr.typeAssert (.iface 5 v) 20 21 true).run Tryz.prog w = .ok (.tuple #[.int .i32 0, .bool false]) w := by kernel_rfl
theorem as5_36 (v : Value) (w : World) : (Instr.typeAssert (.iface 5 v) 20 36 true).run Tryz.prog w = .ok (.tuple #[.int .i16 0, .bool false]) w := by kernel_rfl
theorem as5_68 (v : Value) (w : World) : (Instr.typeAssert (.iface 5 v) 20 68 true).run Tryz.prog w = .ok (.tuple #[.float .f64 0, .bool false]) w := by kernel_rfl
theorem as5_137 (v : Value) (w : World) : (Instr.typeAssert (.iface 5 v) 20 137 true).run Tryz.prog w = .ok (.tuple #[.int .i32 0, .bool false]) w := by kernel_rfl
theorem as4_2 (v : Value) (w : World) : (Instr.typeAssert (.iface 4 v) 20 2 true).run Tryz.prog w = .ok (.tuple #[.int .i64 0, .bool false]) w := by kernel_rfl
theorem as4_4 (v : Value) (w : World) : (Instr.typeAssert (.iface 4 v) 20 4 true).run Tryz.prog w = .ok (.tuple #[v, .bool true]) w := by kernel_rfl
theorem as4_5 (v : Value) (w : World) : (Instr.typeAssert (.iface 4 v) 20 5 true).run Tryz.prog w = .ok (.tuple #[.int .u8 0, .bool false]) w := by kernel_rfl
theorem as4_21 (v : Value) (w : World) : (Instr.typeAssert (.iface 4 v) 20 21 true).run Tryz.prog w = .ok (.tuple #[.int .i32 0, .bool false]) w := by kernel_rfl
theorem as4_22 (v : Value) (w : World) : (Instr.typeAssert (.iface 4 v) 20 22 true).run Tryz.prog w = .ok (.tuple #[.int .u64 0, .bool false]) w := by kernel_rfl
theorem as4_36 (v : Value) (w : World) : (Instr.typeAssert (.iface 4 v) 20 36 true).run Tryz.prog w = .ok (.tuple #[.int .i16 0, .bool false]) w := by kernel_rfl
theorem as4_61 (v : Value) (w : World) : (Instr.typeAssert (.iface 4 v) 20 61 true).run Tryz.prog w = .ok (.tuple #[.int .u32 0, .bool false]) w := by kernel_rfl
theorem as4_67 (v : Value) (w : World) : (Instr.typeAssert (.iface 4 v) 20 67 true).run Tryz.prog w = .ok (.tuple #[.int .u16 0, .bool false]) w := by kernel_rfl
theorem as4_68 (v : Value) (w : World) : (Instr.typeAssert (.iface 4 v) 20 68 true).run Tryz.prog w = .ok (.tuple #[.float .f64 0, .bool false]) w := by kernel_rfl
theorem as4_71 (v : Value) (w : World) : (Instr.typeAssert (.iface 4 v) 20 71 true).run Tryz.prog w = .ok (.tuple #[.int .u32 0, .bool false]) w := by kernel_rfl
theorem as4_134 (v : Value) (w : World) : (Instr.typeAssert (.iface 4 v) 20 134 true).run Tryz.prog w = .ok (.tuple #[.int .u8 0, .bool false]) w := by kernel_rfl
theorem as4_135 (v : Value) (w : World) : (Instr.typeAssert (.iface 4 v) 20 135 true).run Tryz.prog w = .ok (.tuple #[.int .u8 0, .bool false]) w := by kernel_rfl
theorem as4_136 (v : Value) (w : World) : (Instr.typeAssert (.iface 4 v) 20 136 true).run Tryz.prog w = .ok (.tuple #[.int .u8 0, .bool false]) w := by kernel_rfl
theorem as4_137 (v : Value) (w : World) : (Instr.typeAssert (.iface 4 v) 20 137 true).run Tryz.prog w = .ok (.tuple #[.int .i32 0, .bool false]) w := by kernel_rfl
theorem as36_2 (v : Value) (w : World) : (Instr.typeAssert (.iface 36 v) 20 2 true).run Tryz.prog w = .ok (.tuple #[.int .i64 0, .bool false]) w := by kernel_rfl
theorem as36_4 (v : Value) (w : World) : (Instr.typeAssert (.iface 36 v) 20 4 true).run Tryz.prog w = .ok (.tuple #[.bool false, .bool false]) w := by kernel_rfl
theorem as36_5 (v : Value) (w : World) : (Instr.typeAssert (.iface 36 v) 20 5 true).run Tryz.prog w = .ok (.tuple #[.int .u8 0, .bool false]) w := by kernel_rfl
theorem as36_21 (v : Value) (w : World) : (Instr.typeAssert (.iface 36 v) 20 21 true).run Tryz.prog w = .ok (.tuple #[.int .i32 0, .bool false]) w := by kernel_rfl
theorem as36_22 (v : Value) (w : World) : (Instr.typeAssert (.iface 36 v) 20 22 true).run Tryz.prog w = .ok (.tuple #[.int .u64 0, .bool false]) w := by kernel_rfl
theorem as36_36 (v : Value) (w : World) : (Instr.typeAssert (.iface 36 v) 20 36 true).run Tryz.prog w = .ok (.tuple #[v, .bool true]) w := by kernel_rfl
theorem as36_61 (v : Value) (w : World) : (Instr.typeAssert (.iface 36 v) 20 61 true).run Tryz.prog w = .ok (.tuple #[.int .u32 0, .bool false]) w := by kernel_rfl
theorem as36_67 (v : Value) (w : World) : (Instr.typeAssert (.iface 36 v) 20 67 true).run Tryz.prog w = .ok (.tuple #[.int .u16 0, .bool false]) w := by kernel_rfl
theorem as36_68 (v : Value) (w : World) : (Instr.typeAssert (.iface 36 v) 20 68 true).run Tryz.prog w = .ok (.tuple #[.float .f64 0, .bool false]) w := by kernel_rfl
theorem as36_71 (v : Value) (w : World) : (Instr.typeAssert (.iface 36 v) 20 71 true).run Tryz.prog w = .ok (.tuple #[.int .u32 0, .bool false]) w := by kernel_rfl
theorem as36_134 (v : Value) (w : World) : (Instr.typeAssert (.iface 36 v) 20 134 true).run Tryz.prog w = .ok (.tuple #[.int .u8 0, .bool false]) w := by kernel_rfl
theorem as36_135 (v : Value) (w : World) : (Instr.typeAssert (.iface 36 v) 20 135 true).run Tryz.prog w = .ok (.tuple #[.int .u8 0, .bool false]) w := by kernel_rfl
theorem as36_136 (v : Value) (w : World) : (Instr.typeAssert (.iface 36 v) 20 136 true).run Tryz.prog w = .ok (.tuple #[.int .u8 0, .bool false]) w := by kernel_rfl
theorem as36_137 (v : Value) (w : World) : (Instr.typeAssert (.iface 36 v) 20 137 true).run Tryz.prog w = .ok (.tuple #[.int .i32 0, .bool false]) w := by kernel_rfl
theorem as67_2 (v : Value) (w : World) : (Instr.typeAssert (.iface 67 v) 20 2 true).run Tryz.prog w = .ok (.tuple #[.int .i64 0, .bool false]) w := by kernel_rfl
theorem as67_4 (v : Value) (w : World) : (Instr.typeAssert (.iface 67 v) 20 4 true).run Tryz.prog w = .ok (.tuple #[.bool false, .bool false]) w := by kernel_rfl
theorem as67_5 (v : Value) (w : World) : (Instr.typeAssert (.iface 67 v) 20 5 true).run Tryz.prog w = .ok (.tuple #[.int .u8 0, .bool false]) w := by kernel_rfl
theorem as67_21 (v : Value) (w : World) : (Instr.typeAssert (.iface 67 v) 20 21 true).run Tryz.prog w = .ok (.tuple #[.int .i32 0, .bool false]) w := by kernel_rfl
theorem as67_36 (v : Value) (w : World) : (Instr.typeAssert (.iface 67 v) 20 36 true).run Tryz.prog w = .ok (.tuple #[.int .i16 0, .bool false]) w := by kernel_rfl
theorem as67_67 (v : Value) (w : World) : (Instr.typeAssert (.iface 67 v) 20 67 true).run Tryz.prog w = .ok (.tuple #[v, .bool true]) w := by kernel_rfl
theorem as67_68 (v : Value) (w : World) : (Instr.typeAssert (.iface 67 v) 20 68 true).run Tryz.prog w = .ok (.tuple #[.float .f64 0, .bool false]) w := by kernel_rfl
theorem as67_134 (v : Value) (w : World) : (Instr.typeAssert (.iface 67 v) 20 134 true).run Tryz.prog w = .ok (.tuple #[.int .u8 0, .bool false]) w := by kernel_rfl
theorem as67_135 (v : Value) (w : World) : (Instr.typeAssert (.iface 67 v) 20 135 true).run Tryz.prog w = .ok (.tuple #[.int .u8 0, .bool false]) w := by kernel_rfl
theorem as67_136 (v : Value) (w : World) : (Instr.typeAssert (.iface 67 v) 20 136 true).run Tryz.prog w = .ok (.tuple #[.int .u8 0, .bool false]) w := by kernel_rfl
theorem as67_137 (v : Value) (w : World) : (Instr.typeAssert (.iface 67 v) 20 137 true).run Tryz.prog w = .ok (.tuple #[.int .i32 0, .bool false]) w := by kernel_rfl
theorem as21_2 (v : Value) (w : World) : (Instr.typeAssert (.iface 21 v) 20 2 true).run Tryz.prog w = .ok (.tuple #[.int .i64 0, .bool false]) w := by kernel_rfl
theorem as21_4 (v : Value) (w : World) : (Instr.typeAssert (.iface 21 v) 20 4 true).run Tryz.prog w = .ok (.tuple #[.bool false, .bool false]) w := by kernel_rfl
theorem as21_5 (v : Value) (w : World) : (Instr.typeAssert (.iface 21 v) 20 5 true).run Tryz.prog w = .ok (.tuple #[.int .u8 0, .bool false]) w := by kernel_rfl
theorem as21_21 (v : Value) (w : World) : (Instr.typeAssert (.iface 21 v) 20 21 true).run Tryz.prog w = .ok (.tuple #[v, .bool true]) w := by kernel_rfl
theorem as21_22 (v : Value) (w : World) : (Instr.typeAssert (.iface 21 v) 20 22 true).run Tryz.prog w = .ok (.tuple #[.int .u64 0, .bool false]) w := by kernel_rfl
theorem as21_36 (v : Value) (w : World) : (Instr.typeAssert (.iface 21 v) 20 36 true).run Tryz.prog w = .ok (.tuple #[.int .i16 0, .bool false]) w := by kernel_rfl
theorem as21_61 (v : Value) (w : World) : (Instr.typeAssert (.iface 21 v) 20 61 true).run Tryz.prog w = .ok (.tuple #[.int .u32 0, .bool false]) w := by kernel_rfl
theorem as21_67 (v : Value) (w : World) : (Instr.typeAssert (.iface 21 v) 20 67 true).run Tryz.prog w = .ok (.tuple #[.int .u16 0, .bool false]) w := by kernel_rfl
theorem as21_68 (v : Value) (w : World) : (Instr.typeAssert (.iface 21 v) 20 68 true).run Tryz.prog w = .ok (.tuple #[.float .f64 0, .bool false]) w := by kernel_rfl
theorem as21_71 (v : Value) (w : World) : (Instr.typeAssert (.iface 21 v) 20 71 true).run Tryz.prog w = .ok (.tuple #[.int .u32 0, .bool false]) w := by kernel_rfl
theorem as21_134 (v : Value) (w : World) : (Instr.typeAssert (.iface 21 v) 20 134 true).run Tryz.prog w = .ok (.tuple #[.int .u8 0, .bool false]) w := by kernel_rfl
theorem as21_135 (v : Value) (w : World) : (Instr.typeAssert (.iface 21 v) 20 135 true).run Tryz.prog w = .ok (.tuple #[.int .u8 0, .bool false]) w := by kernel_rfl
theorem as21_136 (v : Value) (w : World) : (Instr.typeAssert (.iface 21 v) 20 136 true).run Tryz.prog w = .ok (.tuple #[.int .u8 0, .bool false]) w := by kernel_rfl
theorem as21_137 (v : Value) (w : World) : (Instr.typeAssert (.iface 21 v) 20 137 true).run Tryz.prog w = .ok (.tuple #[.int .i32 0, .bool false]) w := by kernel_rfl
theorem as61_2 (v : Value) (w : World) : (Instr.typeAssert (.iface 61 v) 20 2 true).run Tryz.prog w = .ok (.tuple #[.int .i64 0, .bool false]) w := by kernel_rfl
theorem as61_4 (v : Value) (w : World) : (Instr.typeAssert (.iface 61 v) 20 4 true).run Tryz.prog w = .ok (.tuple #[.bool false, .bool false]) w := by kernel_rfl
theorem as61_5 (v : Value) (w : World) : (Instr.typeAssert (.iface 61 v) 20 5 true).run Tryz.prog w = .ok (.tuple #[.int .u8 0, .bool false]) w := by kernel_rfl
theorem as61_21 (v : Value) (w : World) : (Instr.typeAssert (.iface 61 v) 20 21 true).run Tryz.prog w = .ok (.tuple #[.int .i32 0, .bool false]) w := by kernel_rfl
theorem as61_36 (v : Value) (w : World) : (Instr.typeAssert (.iface 61 v) 20 36 true).run Tryz.prog w = .ok (.tuple #[.int .i16 0, .bool false]) w := by kernel_rfl
theorem as61_61 (v : Value) (w : World) : (Instr.typeAssert (.iface 61 v) 20 61 true).run Tryz.prog w = .ok (.tuple #[v, .bool true]) w := by kernel_rfl
theorem as61_67 (v : Value) (w : World) : (Instr.typeAssert (.iface 61 v) 20 67 true).run Tryz.prog w = .ok (.tuple #[.int .u16 0, .bool false]) w := by kernel_rfl
theorem as61_68 (v : Value) (w : World) : (Instr.typeAssert (.iface 61 v) 20 68 true).run Tryz.prog w = .ok (.tuple #[.float .f64 0, .bool false]) w := by kernel_rfl
theorem as61_134 (v : Value) (w : World) : (Instr.typeAssert (.iface 61 v) 20 134 true).run Tryz.prog w = .ok (.tuple #[.int .u8 0, .bool false]) w := by kernel_rfl
theorem as61_135 (v : Value) (w : World) : (Instr.typeAssert (.iface 61 v) 20 135 true).run Tryz.prog w = .ok (.tuple #[.int .u8 0, .bool false]) w := by kernel_rfl
theorem as61_136 (v : Value) (w : World) : (Instr.typeAssert (.iface 61 v) 20 136 true).run Tryz.prog w = .ok (.tuple #[.int .u8 0, .bool false]) w := by kernel_rfl
theorem as61_137 (v : Value) (w : World) : (Instr.typeAssert (.iface 61 v) 20 137 true).run Tryz.prog w = .ok (.tuple #[.int .i32 0, .bool false]) w := by kernel_rfl
theorem as2_2 (v : Value) (w : World) : (Instr.typeAssert (.iface 2 v) 20 2 true).run Tryz.prog w = .ok (.tuple #[v, .bool true]) w := by kernel_rfl
theorem as2_4 (v : Value) (w : World) : (Instr.typeAssert (.iface 2 v) 20 4 true).run Tryz.prog w = .ok (.tuple #[.bool false, .bool false]) w := by kernel_rfl
theorem as2_5 (v : Value) (w : World) : (Instr.typeAssert (.iface 2 v) 20 5 true).run Tryz.prog w = .ok (.tuple #[.int .u8 0, .bool false]) w := by kernel_rfl
theorem as2_21 (v : Value) (w : World) : (Instr.typeAssert (.iface 2 v) 20 21 true).run Tryz.prog w = .ok (.tuple #[.int .i32 0, .bool false]) w := by kernel_rfl
theorem as2_22 (v : Value) (w : World) : (Instr.typeAssert (.iface 2 v) 20 22 true).run Tryz.prog w = .ok (.tuple #[.int .u64 0, .bool false]) w := by kernel_rfl
theorem as2_36 (v : Value) (w : World) : (Instr.typeAssert (.iface 2 v) 20 36 true).run Tryz.prog w = .ok (.tuple #[.int .i16 0, .bool false]) w := by kernel_rfl
theorem as2_61 (v : Value) (w : World) : (Instr.typeAssert (.iface 2 v) 20 61 true).run Tryz.prog w = .ok (.tuple #[.int .u32 0, .bool false]) w := by kernel_rfl
theorem as2_67 (v : Value) (w : World) : (Instr.typeAssert (.iface 2 v) 20 67 true).run Tryz.prog w = .ok (.tuple #[.int .u16 0, .bool false]) w := by kernel_rfl
theorem as2_68 (v : Value) (w : World) : (Instr.typeAssert (.iface 2 v) 20 68 true).run Tryz.prog w = .ok (.tuple #[.float .f64 0, .bool false]) w := by kernel_rfl
theorem as2_71 (v : Value) (w : World) : (Instr.typeAssert (.iface 2 v) 20 71 true).run Tryz.prog w = .ok (.tuple #[.int .u32 0, .bool false]) w := by kernel_rfl
theorem as2_134 (v : Value) (w : World) : (Instr.typeAssert (.iface 2 v) 20 134 true).run Tryz.prog w = .ok (.tuple #[.int .u8 0, .bool false]) w := by kernel_rfl
theorem as2_135 (v : Value) (w : World) : (Instr.typeAssert (.iface 2 v) 20 135 true).run Tryz.prog w = .ok (.tuple #[.int .u8 0, .bool false]) w := by kernel_rfl
theorem as2_136 (v : Value) (w : World) : (Instr.typeAssert (.iface 2 v) 20 136 true).run Tryz.prog w = .ok (.tuple #[.int .u8 0, .bool false]) w := by kernel_rfl
theorem as2_137 (v : Value) (w : World) : (Instr.typeAssert (.iface 2 v) 20 137 true).run Tryz.prog w = .ok (.tuple #[.int .i32 0, .bool false]) w := by kernel_rfl
theorem as22_2 (v : Value) (w : World) : (Instr.typeAssert (.iface 22 v) 20 2 true).run Tryz.prog w = .ok (.tuple #[.int .i64 0, .bool false]) w := by kernel_rfl
theorem as22_4 (v : Value) (w : World) : (Instr.typeAssert (.iface 22 v) 20 4 true).run Tryz.prog w = .ok (.tuple #[.bool false, .bool false]) w := by kernel_rfl
theorem as22_5 (v : Value) (w : World) : (Instr.typeAssert (.iface 22 v) 20 5 true).run Tryz.prog w = .ok (.tuple #[.int .u8 0, .bool false]) w := by kernel_rfl
theorem as22_21 (v : Value) (w : World) : (Instr.typeAssert (.iface 22 v) 20 21 true).run Tryz.prog w = .ok (.tuple #[.int .i32 0, .bool false]) w := by kernel_rfl
theorem as22_22 (v : Value) (w : World) : (Instr.typeAssert (.iface 22 v) 20 22 true).run Tryz.prog w = .ok (.tuple #[v, .bool true]) w := by kernel_rfl
theorem as22_36 (v : Value) (w : World) : (Instr.typeAssert (.iface 22 v) 20 36 true).run Tryz.prog w = .ok (.tuple #[.int .i16 0, .bool false]) w := by kernel_rfl
theorem as22_61 (v : Value) (w : World) : (Instr.typeAssert (.iface 22 v) 20 61 true).run Tryz.prog w = .ok (.tuple #[.int .u32 0, .bool false]) w := by kernel_rfl
theorem as22_67 (v : Value) (w : World) : (Instr.typeAssert (.iface 22 v) 20 67 true).run Tryz.prog w = .ok (.tuple #[.int .u16 0, .bool false]) w := by kernel_rfl
theorem as22_68 (v : Value) (w : World) : (Instr.typeAssert (.iface 22 v) 20 68 true).run Tryz.prog w = .ok (.tuple #[.float .f64 0, .bool false]) w := by kernel_rfl
theorem as22_134 (v : Value) (w : World) : (Instr.typeAssert (.iface 22 v) 20 134 true).run Tryz.prog w = .ok (.tuple #[.int .u8 0, .bool false]) w := by kernel_rfl
theorem as22_135 (v : Value) (w : World) : (Instr.typeAssert (.iface 22 v) 20 135 true).run Tryz.prog w = .ok (.tuple #[.int .u8 0, .bool false]) w := by kernel_rfl
theorem as22_136 (v : Value) (w : World) : (Instr.typeAssert (.iface 22 v) 20 136 true).run Tryz.prog w = .ok (.tuple #[.int .u8 0, .bool false]) w := by kernel_rfl
theorem as22_137 (v : Value) (w : World) : (Instr.typeAssert (.iface 22 v) 20 137 true).run Tryz.prog w = .ok (.tuple #[.int .i32 0, .bool false]) w := by kernel_rfl
theorem as71_2 (v : Value) (w : World) : (Instr.typeAssert (.iface 71 v) 20 2 true).run Tryz.prog w = .ok (.tuple #[.int .i64 0, .bool false]) w := by kernel_rfl
theorem as71_4 (v : Value) (w : World) : (Instr.typeAssert (.iface 71 v) 20 4 true).run Tryz.prog w = .ok (.tuple #[.bool false, .bool false]) w := by kernel_rfl
theorem as71_5 (v : Value) (w : World) : (Instr.typeAssert (.iface 71 v) 20 5 true).run Tryz.prog w = .ok (.tuple #[.int .u8 0, .bool false]) w := by kernel_rfl
theorem as71_9 (v : Value) (w : World) : (Instr.typeAssert (.iface 71 v) 20 9 true).run Tryz.prog w = .ok (.tuple #[.string ByteArray.empty, .bool false]) w := by kernel_rfl
theorem as71_21 (v : Value) (w : World) : (Instr.typeAssert (.iface 71 v) 20 21 true).run Tryz.prog w = .ok (.tuple #[.int .i32 0, .bool false]) w := by kernel_rfl
theorem as71_22 (v : Value) (w : World) : (Instr.typeAssert (.iface 71 v) 20 22 true).run Tryz.prog w = .ok (.tuple #[.int .u64 0, .bool false]) w := by kernel_rfl
theorem as71_36 (v : Value) (w : World) : (Instr.typeAssert (.iface 71 v) 20 36 true).run Tryz.prog w = .ok (.tuple #[.int .i16 0, .bool false]) w := by kernel_rfl
theorem as71_52 (v : Value) (w : World) : (Instr.typeAssert (.iface 71 v) 20 52 true).run Tryz.prog w = .ok (.tuple #[.agg #[.string ByteArray.empty], .bool false]) w := by kernel_rfl
theorem as71_54 (v : Value) (w : World) : (Instr.typeAssert (.iface 71 v) 20 54 true).run Tryz.prog w = .ok (.tuple #[.agg #[.string ByteArray.empty, .nilIface], .bool false]) w := by kernel_rfl
theorem as71_61 (v : Value) (w : World) : (Instr.typeAssert (.iface 71 v) 20 61 true).run Tryz.prog w = .ok (.tuple #[.int .u32 0, .bool false]) w := by kernel_rfl
theorem as71_67 (v : Value) (w : World) : (Instr.typeAssert (.iface 71 v) 20 67 true).run Tryz.prog w = .ok (.tuple #[.int .u16 0, .bool false]) w := by kernel_rfl
theorem as71_68 (v : Value) (w : World) : (Instr.typeAssert (.iface 71 v) 20 68 true).run Tryz.prog w = .ok (.tuple #[.float .f64 0, .bool false]) w := by kernel_rfl
theorem as71_70 (v : Value) (w : World) : (Instr.typeAssert (.iface 71 v) 20 70 true).run Tryz.prog w = .ok (.tuple #[.string ByteArray.empty, .bool false]) w := by kernel_rfl
theorem as71_71 (v : Value) (w : World) : (Instr.typeAssert (.iface 71 v) 20 71 true).run Tryz.prog w = .ok (.tuple #[v, .bool true]) w := by kernel_rfl
theorem as71_134 (v : Value) (w : World) : (Instr.typeAssert (.iface 71 v) 20 134 true).run Tryz.prog w = .ok (.tuple #[.int .u8 0, .bool false]) w := by kernel_rfl
theorem as71_135 (v : Value) (w : World) : (Instr.typeAssert (.iface 71 v) 20 135 true).run Tryz.prog w = .ok (.tuple #[.int .u8 0, .bool false]) w := by kernel_rfl
theorem as71_136 (v : Value) (w : World) : (Instr.typeAssert (.iface 71 v) 20 136 true).run Tryz.prog w = .ok (.tuple #[.int .u8 0, .bool false]) w := by kernel_rfl
theorem as71_137 (v : Value) (w : World) : (Instr.typeAssert (.iface 71 v) 20 137 true).run Tryz.prog w = .ok (.tuple #[.int .i32 0, .bool false]) w := by kernel_rfl
attribute [local go_sem] as5_2 as5_4 as5_5 as5_21 as5_36 as5_68 as5_137 as4_2 as4_4 as4_5 as4_21 as4_22 as4_36 as4_61 as4_67 as4_68 as4_71 as4_134 as4_135 as4_136 as4_137 as36_2 as36_4 as36_5 as36_21 as36_22 as36_36 as36_61 as36_67 as36_68 as36_71 as36_134 as36_135 as36_136 as36_137 as67_2 as67_4 as67_5 as67_21 as67_36 as67_67 as67_68 as67_134 as67_135 as67_136 as67_137 as21_2 as21_4 as21_5 as21_21 as21_22 as21_36 as21_61 as21_67 as21_68 as21_71 as21_134 as21_135 as21_136 as21_137 as61_2 as61_4 as61_5 as61_21 as61_36 as61_61 as61_67 as61_68 as61_134 as61_135 as61_136 as61_137 as2_2 as2_4 as2_5 as2_21 as2_22 as2_36 as2_61 as2_67 as2_68 as2_71 as2_134 as2_135 as2_136 as2_137 as22_2 as22_4 as22_5 as22_21 as22_22 as22_36 as22_61 as22_67 as22_68 as22_134 as22_135 as22_136 as22_137 as71_2 as71_4 as71_5 as71_9 as71_21 as71_22 as71_36 as71_52 as71_54 as71_61 as71_67 as71_68 as71_70 as71_71 as71_134 as71_135 as71_136 as71_137
theorem inf77 : (Tryz.prog.info? 77).map (·.size) = some 2 := by kernel_rfl
set_option maxRecDepth 100000 in
set_option maxHeartbeats 4000000 in
theorem zt_y (x : Int) (w : World) : Calls Tryz.prog 38 #[(.iface 5 (.int .u8 x))] w fun e w' => e = .returned (.string ⟨#[121]⟩) ∧ w' = w := by
  go_enter Tryz.func38, Tryz.ntmps38
  go_wp2
  go_ret
  exact ⟨rfl, rfl⟩
set_option maxRecDepth 100000 in
set_option maxHeartbeats 4000000 in
theorem zv_y (x : Int) (w : World) : Calls Tryz.prog 32 #[(.iface 5 (.int .u8 x))] w fun e w' => e = .returned (.agg #[(.iface 5 (.int .u8 x)), (.string ⟨#[121]⟩)]) ∧ Below w.heap.size w w' := by
  go_enter Tryz.func32, Tryz.ntmps32
  go_wp2_with (go_at_call 38; refine (zt_y x _).mono ?_; rintro e w2 ⟨rfl, rfl⟩)
  refine bodyPost_ret (results_cell_row rfl _ _ w.heap.size 77 _ (0, 0) _ rfl (heap_alloc_new _ _) Tryz.underlying77 rfl inf77) rfl ?_
  exact ⟨rfl, below_alloc (Below.refl _ _) _⟩
set_option maxRecDepth 100000 in
set_option maxHeartbeats 4000000 in
theorem ki_y (w : World) : Calls Tryz.prog 39 #[(.string ⟨#[121]⟩)] w fun e w' => e = .returned (.int .i64 7) ∧ w' = w := by
  go_enter Tryz.func39, Tryz.ntmps39
  go_wp2
  go_ret
  exact ⟨rfl, rfl⟩
set_option maxRecDepth 100000 in
set_option maxHeartbeats 4000000 in
theorem nu_y (x : Int) (h0 : 0 ≤ x) (h1 : x < 256) (w : World) : Calls Tryz.prog 75 #[.agg #[(.iface 5 (.int .u8 x)), (.string ⟨#[121]⟩)]] w fun e w' => e = .returned (.int .u64 x) ∧ Below w.heap.size w w' := by
  have hw : IntKind.u64.wrap x = x := by rw [IntKind.wrap_u64]; omega
  go_enter Tryz.func75, Tryz.ntmps75
  go_wp2
  go_ret
  exact ⟨by simp [hw], below_alloc (Below.refl _ _) _⟩
set_option maxRecDepth 100000 in
set_option maxHeartbeats 4000000 in
theorem zt_b (x : Bool) (w : World) : Calls Tryz.prog 38 #[(.iface 4 (.bool x))] w fun e w' => e = .returned (.string ⟨#[98]⟩) ∧ w' = w := by
  go_enter Tryz.func38, Tryz.ntmps38
  go_wp2
  go_ret
  exact ⟨rfl, rfl⟩
set_option maxRecDepth 100000 in
set_option maxHeartbeats 4000000 in
theorem zv_b (x : Bool) (w : World) : Calls Tryz.prog 32 #[(.iface 4 (.bool x))] w fun e w' => e = .returned (.agg #[(.iface 4 (.bool x)), (.string ⟨#[98]⟩)]) ∧ Below w.heap.size w w' := by
  go_enter Tryz.func32, Tryz.ntmps32
  go_wp2_with (go_at_call 38; refine (zt_b x _).mono ?_; rintro e w2 ⟨rfl, rfl⟩)
  refine bodyPost_ret (results_cell_row rfl _ _ w.heap.size 77 _ (0, 0) _ rfl (heap_alloc_new _ _) Tryz.underlying77 rfl inf77) rfl ?_
  exact ⟨rfl, below_alloc (Below.refl _ _) _⟩
set_option maxRecDepth 100000 in
set_option maxHeartbeats 4000000 in
theorem ki_b (w : World) : Calls Tryz.prog 39 #[(.string ⟨#[98]⟩)] w fun e w' => e = .returned (.int .i64 1) ∧ w' = w := by
  go_enter Tryz.func39, Tryz.ntmps39
  go_wp2
  go_ret
  exact ⟨rfl, rfl⟩
set_option maxRecDepth 100000 in
set_option maxHeartbeats 4000000 in
theorem zt_n (x : Int) (w : World) : Calls Tryz.prog 38 #[(.iface 36 (.int .i16 x))] w fun e w' => e = .returned (.string ⟨#[110]⟩) ∧ w' = w := by
  go_enter Tryz.func38, Tryz.ntmps38
  go_wp2
  go_ret
  exact ⟨rfl, rfl⟩
set_option maxRecDepth 100000 in
set_option maxHeartbeats 4000000 in
theorem zv_n (x : Int) (w : World) : Calls Tryz.prog 32 #[(.iface 36 (.int .i16 x))] w fun e w' => e = .returned (.agg #[(.iface 36 (.int .i16 x)), (.string ⟨#[110]⟩)]) ∧ Below w.heap.size w w' := by
  go_enter Tryz.func32, Tryz.ntmps32
  go_wp2_with (go_at_call 38; refine (zt_n x _).mono ?_; rintro e w2 ⟨rfl, rfl⟩)
  refine bodyPost_ret (results_cell_row rfl _ _ w.heap.size 77 _ (0, 0) _ rfl (heap_alloc_new _ _) Tryz.underlying77 rfl inf77) rfl ?_
  exact ⟨rfl, below_alloc (Below.refl _ _) _⟩
set_option maxRecDepth 100000 in
set_option maxHeartbeats 4000000 in
theorem ki_n (w : World) : Calls Tryz.prog 39 #[(.string ⟨#[110]⟩)] w fun e w' => e = .returned (.int .i64 3) ∧ w' = w := by
  go_enter Tryz.func39, Tryz.ntmps39
  go_wp2
  go_ret
  exact ⟨rfl, rfl⟩
set_option maxRecDepth 100000 in
set_option maxHeartbeats 4000000 in
theorem nu_n (x : Int) (h0 : -32768 ≤ x) (h1 : x < 32768) (w : World) : Calls Tryz.prog 74 #[.agg #[(.iface 36 (.int .i16 x)), (.string ⟨#[110]⟩)]] w fun e w' => e = .returned (.int .i64 x) ∧ Below w.heap.size w w' := by
  have hw : IntKind.i64.wrap x = x := by rw [IntKind.wrap_i64]; omega
  go_enter Tryz.func74, Tryz.ntmps74
  go_wp2
  go_ret
  exact ⟨by simp [hw], below_alloc (Below.refl _ _) _⟩
set_option maxRecDepth 100000 in
set_option maxHeartbeats 4000000 in
theorem zt_q (x : Int) (w : World) : Calls Tryz.prog 38 #[(.iface 67 (.int .u16 x))] w fun e w' => e = .returned (.string ⟨#[113]⟩) ∧ w' = w := by
  go_enter Tryz.func38, Tryz.ntmps38
  go_wp2
  go_ret
  exact ⟨rfl, rfl⟩
set_option maxRecDepth 100000 in
set_option maxHeartbeats 4000000 in
theorem zv_q (x : Int) (w : World) : Calls Tryz.prog 32 #[(.iface 67 (.int .u16 x))] w fun e w' => e = .returned (.agg #[(.iface 67 (.int .u16 x)), (.string ⟨#[113]⟩)]) ∧ Below w.heap.size w w' := by
  go_enter Tryz.func32, Tryz.ntmps32
  go_wp2_with (go_at_call 38; refine (zt_q x _).mono ?_; rintro e w2 ⟨rfl, rfl⟩)
  refine bodyPost_ret (results_cell_row rfl _ _ w.heap.size 77 _ (0, 0) _ rfl (heap_alloc_new _ _) Tryz.underlying77 rfl inf77) rfl ?_
  exact ⟨rfl, below_alloc (Below.refl _ _) _⟩
set_option maxRecDepth 100000 in
set_option maxHeartbeats 4000000 in
theorem ki_q (w : World) : Calls Tryz.prog 39 #[(.string ⟨#[113]⟩)] w fun e w' => e = .returned (.int .i64 8) ∧ w' = w := by
  go_enter Tryz.func39, Tryz.ntmps39
  go_wp2
  go_ret
  exact ⟨rfl, rfl⟩
set_option maxRecDepth 100000 in
set_option maxHeartbeats 4000000 in
theorem nu_q (x : Int) (h0 : 0 ≤ x) (h1 : x < 65536) (w : World) : Calls Tryz.prog 75 #[.agg #[(.iface 67 (.int .u16 x)), (.string ⟨#[113]⟩)]] w fun e w' => e = .returned (.int .u64 x) ∧ Below w.heap.size w w' := by
  have hw : IntKind.u64.wrap x = x := by rw [IntKind.wrap_u64]; omega
  go_enter Tryz.func75, Tryz.ntmps75
  go_wp2
  go_ret
  exact ⟨by simp [hw], below_alloc (Below.refl _ _) _⟩
set_option maxRecDepth 100000 in
set_option maxHeartbeats 4000000 in
theorem zt_i (x : Int) (w : World) : Calls Tryz.prog 38 #[(.iface 21 (.int .i32 x))] w fun e w' => e = .returned (.string ⟨#[105]⟩) ∧ w' = w := by
  go_enter Tryz.func38, Tryz.ntmps38
  go_wp2
  go_ret
  exact ⟨rfl, rfl⟩
set_option maxRecDepth 100000 in
set_option maxHeartbeats 4000000 in
theorem zv_i (x : Int) (w : World) : Calls Tryz.prog 32 #[(.iface 21 (.int .i32 x))] w fun e w' => e = .returned (.agg #[(.iface 21 (.int .i32 x)), (.string ⟨#[105]⟩)]) ∧ Below w.heap.size w w' := by
  go_enter Tryz.func32, Tryz.ntmps32
  go_wp2_with (go_at_call 38; refine (zt_i x _).mono ?_; rintro e w2 ⟨rfl, rfl⟩)
  refine bodyPost_ret (results_cell_row rfl _ _ w.heap.size 77 _ (0, 0) _ rfl (heap_alloc_new _ _) Tryz.underlying77 rfl inf77) rfl ?_
  exact ⟨rfl, below_alloc (Below.refl _ _) _⟩
set_option maxRecDepth 100000 in
set_option maxHeartbeats 4000000 in
theorem ki_i (w : World) : Calls Tryz.prog 39 #[(.string ⟨#[105]⟩)] w fun e w' => e = .returned (.int .i64 4) ∧ w' = w := by
  go_enter Tryz.func39, Tryz.ntmps39
  go_wp2
  go_ret
  exact ⟨rfl, rfl⟩
set_option maxRecDepth 100000 in
set_option maxHeartbeats 4000000 in
theorem nu_i (x : Int) (h0 : -2147483648 ≤ x) (h1 : x < 2147483648) (w : World) : Calls Tryz.prog 74 #[.agg #[(.iface 21 (.int .i32 x)), (.string ⟨#[105]⟩)]] w fun e w' => e = .returned (.int .i64 x) ∧ Below w.heap.size w w' := by
  have hw : IntKind.i64.wrap x = x := by rw [IntKind.wrap_i64]; omega
  go_enter Tryz.func74, Tryz.ntmps74
  go_wp2
  go_ret
  exact ⟨by simp [hw], below_alloc (Below.refl _ _) _⟩
set_option maxRecDepth 100000 in
set_option maxHeartbeats 4000000 in
theorem zt_u (x : Int) (w : World) : Calls Tryz.prog 38 #[(.iface 61 (.int .u32 x))] w fun e w' => e = .returned (.string ⟨#[117]⟩) ∧ w' = w := by
  go_enter Tryz.func38, Tryz.ntmps38
  go_wp2
  go_ret
  exact ⟨rfl, rfl⟩
set_option maxRecDepth 100000 in
set_option maxHeartbeats 4000000 in
theorem zv_u (x : Int) (w : World) : Calls Tryz.prog 32 #[(.iface 61 (.int .u32 x))] w fun e w' => e = .returned (.agg #[(.iface 61 (.int .u32 x)), (.string ⟨#[117]⟩)]) ∧ Below w.heap.size w w' := by
  go_enter Tryz.func32, Tryz.ntmps32
  go_wp2_with (go_at_call 38; refine (zt_u x _).mono ?_; rintro e w2 ⟨rfl, rfl⟩)
  refine bodyPost_ret (results_cell_row rfl _ _ w.heap.size 77 _ (0, 0) _ rfl (heap_alloc_new _ _) Tryz.underlying77 rfl inf77) rfl ?_
  exact ⟨rfl, below_alloc (Below.refl _ _) _⟩
set_option maxRecDepth 100000 in
set_option maxHeartbeats 4000000 in
theorem ki_u (w : World) : Calls Tryz.prog 39 #[(.string ⟨#[117]⟩)] w fun e w' => e = .returned (.int .i64 9) ∧ w' = w := by
  go_enter Tryz.func39, Tryz.ntmps39
  go_wp2
  go_ret
  exact ⟨rfl, rfl⟩
set_option maxRecDepth 100000 in
set_option maxHeartbeats 4000000 in
theorem nu_u (x : Int) (h0 : 0 ≤ x) (h1 : x < 4294967296) (w : World) : Calls Tryz.prog 75 #[.agg #[(.iface 61 (.int .u32 x)), (.string ⟨#[117]⟩)]] w fun e w' => e = .returned (.int .u64 x) ∧ Below w.heap.size w w' := by
  have hw : IntKind.u64.wrap x = x := by rw [IntKind.wrap_u64]; omega
  go_enter Tryz.func75, Tryz.ntmps75
  go_wp2
  go_ret
  exact ⟨by simp [hw], below_alloc (Below.refl _ _) _⟩
set_option maxRecDepth 100000 in
set_option maxHeartbeats 4000000 in
theorem zt_x (x : Int) (w : World) : Calls Tryz.prog 38 #[(.iface 2 (.int .i64 x))] w fun e w' => e = .returned (.string ⟨#[120]⟩) ∧ w' = w := by
  go_enter Tryz.func38, Tryz.ntmps38
  go_wp2
  go_ret
  exact ⟨rfl, rfl⟩
set_option maxRecDepth 100000 in
set_option maxHeartbeats 4000000 in
theorem zv_x (x : Int) (w : World) : Calls Tryz.prog 32 #[(.iface 2 (.int .i64 x))] w fun e w' => e = .returned (.agg #[(.iface 2 (.int .i64 x)), (.string ⟨#[120]⟩)]) ∧ Below w.heap.size w w' := by
  go_enter Tryz.func32, Tryz.ntmps32
  go_wp2_with (go_at_call 38; refine (zt_x x _).mono ?_; rintro e w2 ⟨rfl, rfl⟩)
  refine bodyPost_ret (results_cell_row rfl _ _ w.heap.size 77 _ (0, 0) _ rfl (heap_alloc_new _ _) Tryz.underlying77 rfl inf77) rfl ?_
  exact ⟨rfl, below_alloc (Below.refl _ _) _⟩
set_option maxRecDepth 100000 in
set_option maxHeartbeats 4000000 in
theorem ki_x (w : World) : Calls Tryz.prog 39 #[(.string ⟨#[120]⟩)] w fun e w' => e = .returned (.int .i64 5) ∧ w' = w := by
  go_enter Tryz.func39, Tryz.ntmps39
  go_wp2
  go_ret
  exact ⟨rfl, rfl⟩
set_option maxRecDepth 100000 in
set_option maxHeartbeats 4000000 in
theorem nu_x (x : Int) (h0 : -9223372036854775808 ≤ x) (h1 : x < 9223372036854775808) (w : World) : Calls Tryz.prog 74 #[.agg #[(.iface 2 (.int .i64 x)), (.string ⟨#[120]⟩)]] w fun e w' => e = .returned (.int .i64 x) ∧ Below w.heap.size w w' := by
  have hw : IntKind.i64.wrap x = x := by rw [IntKind.wrap_i64]; omega
  go_enter Tryz.func74, Tryz.ntmps74
  go_wp2
  go_ret
  exact ⟨by simp [hw], below_alloc (Below.refl _ _) _⟩
set_option maxRecDepth 100000 in
set_option maxHeartbeats 4000000 in
theorem zt_t (x : Int) (w : World) : Calls Tryz.prog 38 #[(.iface 22 (.int .u64 x))] w fun e w' => e = .returned (.string ⟨#[116]⟩) ∧ w' = w := by
  go_enter Tryz.func38, Tryz.ntmps38
  go_wp2
  go_ret
  exact ⟨rfl, rfl⟩
set_option maxRecDepth 100000 in
set_option maxHeartbeats 4000000 in
theorem zv_t (x : Int) (w : World) : Calls Tryz.prog 32 #[(.iface 22 (.int .u64 x))] w fun e w' => e = .returned (.agg #[(.iface 22 (.int .u64 x)), (.string ⟨#[116]⟩)]) ∧ Below w.heap.size w w' := by
  go_enter Tryz.func32, Tryz.ntmps32
  go_wp2_with (go_at_call 38; refine (zt_t x _).mono ?_; rintro e w2 ⟨rfl, rfl⟩)
  refine bodyPost_ret (results_cell_row rfl _ _ w.heap.size 77 _ (0, 0) _ rfl (heap_alloc_new _ _) Tryz.underlying77 rfl inf77) rfl ?_
  exact ⟨rfl, below_alloc (Below.refl _ _) _⟩
set_option maxRecDepth 100000 in
set_option maxHeartbeats 4000000 in
theorem ki_t (w : World) : Calls Tryz.prog 39 #[(.string ⟨#[116]⟩)] w fun e w' => e = .returned (.int .i64 10) ∧ w' = w := by
  go_enter Tryz.func39, Tryz.ntmps39
  go_wp2
  go_ret
  exact ⟨rfl, rfl⟩
set_option maxRecDepth 100000 in
set_option maxHeartbeats 4000000 in
theorem nu_t (x : Int) (h0 : 0 ≤ x) (h1 : x < 18446744073709551616) (w : World) : Calls Tryz.prog 75 #[.agg #[(.iface 22 (.int .u64 x)), (.string ⟨#[116]⟩)]] w fun e w' => e = .returned (.int .u64 x) ∧ Below w.heap.size w w' := by
  have hw : IntKind.u64.wrap x = x := by rw [IntKind.wrap_u64]; omega
  go_enter Tryz.func75, Tryz.ntmps75
  go_wp2
  go_ret
  exact ⟨by simp [hw], below_alloc (Below.refl _ _) _⟩
set_option maxRecDepth 100000 in
set_option maxHeartbeats 4000000 in
theorem zt_h (x : Int) (w : World) : Calls Tryz.prog 38 #[(.iface 71 (.int .u32 x))] w fun e w' => e = .returned (.string ⟨#[104]⟩) ∧ w' = w := by
  go_enter Tryz.func38, Tryz.ntmps38
  go_wp2
  go_ret
  exact ⟨rfl, rfl⟩
set_option maxRecDepth 100000 in
set_option maxHeartbeats 4000000 in
theorem zv_h (x : Int) (w : World) : Calls Tryz.prog 32 #[(.iface 71 (.int .u32 x))] w fun e w' => e = .returned (.agg #[(.iface 71 (.int .u32 x)), (.string ⟨#[104]⟩)]) ∧ Below w.heap.size w w' := by
  go_enter Tryz.func32, Tryz.ntmps32
  go_wp2_with (go_at_call 38; refine (zt_h x _).mono ?_; rintro e w2 ⟨rfl, rfl⟩)
  refine bodyPost_ret (results_cell_row rfl _ _ w.heap.size 77 _ (0, 0) _ rfl (heap_alloc_new _ _) Tryz.underlying77 rfl inf77) rfl ?_
  exact ⟨rfl, below_alloc (Below.refl _ _) _⟩
set_option maxRecDepth 100000 in
set_option maxHeartbeats 4000000 in
theorem ki_h (w : World) : Calls Tryz.prog 39 #[(.string ⟨#[104]⟩)] w fun e w' => e = .returned (.int .i64 9) ∧ w' = w := by
  go_enter Tryz.func39, Tryz.ntmps39
  go_wp2
  go_ret
  exact ⟨rfl, rfl⟩
set_option maxRecDepth 100000 in
set_option maxHeartbeats 4000000 in
theorem nu_h (x : Int) (h0 : 0 ≤ x) (h1 : x < 4294967296) (w : World) : Calls Tryz.prog 75 #[.agg #[(.iface 71 (.int .u32 x)), (.string ⟨#[104]⟩)]] w fun e w' => e = .returned (.int .u64 x) ∧ Below w.heap.size w w' := by
  have hw : IntKind.u64.wrap x = x := by rw [IntKind.wrap_u64]; omega
  go_enter Tryz.func75, Tryz.ntmps75
  go_wp2
  go_ret
  exact ⟨by simp [hw], below_alloc (Below.refl _ _) _⟩


end Go.Proofs.YtjahkodciflgdaaGreatDoor.MFnVtStringNumber
