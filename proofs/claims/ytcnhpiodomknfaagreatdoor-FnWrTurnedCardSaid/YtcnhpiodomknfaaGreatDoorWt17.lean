-- A trial text of this session.
import Derived.Test.YtcnhpiodomknfaaGreatDoorWt16
import Derived.Test.YtcnhpiodomknfaaGreatDoorMFnWrTurnedx12
namespace Go.Proofs.YtcnhpiodomknfaaGreatDoor.MFnWrTurned
open Go.RowKit Go.Proofs.YtcnhpiodomknfaaGreatDoorW.PrintWords Go.Proofs.YtcnhpiodomknfaaGreatDoorW.PrintLast Go.Proofs.YtcnhpiodomknfaaGreatDoorW.PrintMore
attribute [local go_sem] max2_int min2_int max_two min_two max_three min_three max_four min_four
set_option linter.unusedVariables false
set_option linter.unusedSimpArgs false

attribute [local go_sem] as2_2 as2_4 as2_5 as2_21 as2_25 as2_43 as2_87 as2_90 as2_121 as2_130 as2_131 as2_132 as5_2 as5_5 as5_21 as5_25 as5_43 as5_87 as5_90 as5_91 as5_137 as21_4 as21_5 as21_21 as21_25 as21_43 as21_87 as21_90 as21_121 as21_130 as21_131 as21_132 as25_2 as25_4 as25_5 as25_21 as25_25 as25_43 as25_87 as25_90 as25_130 as25_131 as25_132 as25_137 as43_4 as43_5 as43_25 as43_43 as43_87 as43_90 as43_121 as43_130 as43_131 as43_132 as87_2 as87_4 as87_5 as87_21 as87_43 as87_87 as87_90 as87_130 as87_131 as87_132 as87_137 as90_2 as90_4 as90_5 as90_21 as90_43 as90_90 as90_130 as90_131 as90_132 as90_137 as91_2 as91_4 as91_5 as91_21 as91_25 as91_43 as91_87 as91_90 as91_91 as91_121 as91_130 as91_131 as91_132 as91_137 as121_2 as121_4 as121_5 as121_9 as121_21 as121_25 as121_43 as121_87 as121_90 as121_91 as121_95 as121_103 as121_105 as121_121 as121_130 as121_131 as121_132 as121_137 as127_2 as127_4 as127_5 as127_9 as127_21 as127_24 as127_25 as127_43 as127_55 as127_87 as127_90 as127_91 as127_95 as127_103 as127_105 as127_121 as127_127 as127_130 as127_131 as127_132 as127_137 as127_146 as91_91f
set_option maxRecDepth 100000 in
set_option maxHeartbeats 4000000 in
theorem di_y (N x : Int) (hN : IntKind.u8.wrap N = x) (s : ByteArray) (A : Option Addr) (n3 c3 : Nat) (w : World) : Calls Tryz.prog 21 #[.agg #[.int .u8 121, .int .u64 N, .string s, .slice A n3 c3]] w fun e w' => e = .returned (.iface 5 (.int .u8 x)) ∧ Below w.heap.size w w' := by
  go_enter Tryz.func21, Tryz.ntmps21
  go_wp2
  go_ret
  exact ⟨by simp [hN], below_alloc (Below.refl _ _) _⟩
set_option maxRecDepth 100000 in
set_option maxHeartbeats 4000000 in
theorem dt_y (w : World) : Calls Tryz.prog 55 #[.string ⟨#[121]⟩] w fun e w' => e = .returned (.string ⟨#[121]⟩) ∧ Drawn0 w w' := by
  have hz := fun w => dbus_zzSigToType.calls 121 ⟨#[121]⟩ true w (by simp [dbus_zzSigToType.f])
  go_enter Tryz.func55, Tryz.ntmps55
  go_wp2_with (go_at_call 71; refine (hz _).mono ?_; rintro e1 w2 ⟨rfl, k, rfl⟩)
  go_ret
  exact ⟨rfl, k, rfl⟩
set_option maxRecDepth 100000 in
set_option maxHeartbeats 4000000 in
theorem di_n (N x : Int) (hN : IntKind.i16.wrap N = x) (s : ByteArray) (A : Option Addr) (n3 c3 : Nat) (w : World) : Calls Tryz.prog 21 #[.agg #[.int .u8 110, .int .u64 N, .string s, .slice A n3 c3]] w fun e w' => e = .returned (.iface 43 (.int .i16 x)) ∧ Below w.heap.size w w' := by
  go_enter Tryz.func21, Tryz.ntmps21
  go_wp2
  go_ret
  exact ⟨by simp [hN], below_alloc (Below.refl _ _) _⟩
set_option maxRecDepth 100000 in
set_option maxHeartbeats 4000000 in
theorem dt_n (w : World) : Calls Tryz.prog 55 #[.string ⟨#[110]⟩] w fun e w' => e = .returned (.string ⟨#[110]⟩) ∧ Drawn0 w w' := by
  have hz := fun w => dbus_zzSigToType.calls 110 ⟨#[110]⟩ true w (by simp [dbus_zzSigToType.f])
  go_enter Tryz.func55, Tryz.ntmps55
  go_wp2_with (go_at_call 71; refine (hz _).mono ?_; rintro e1 w2 ⟨rfl, k, rfl⟩)
  go_ret
  exact ⟨rfl, k, rfl⟩
set_option maxRecDepth 100000 in
set_option maxHeartbeats 4000000 in
theorem di_q (N x : Int) (hN : IntKind.u16.wrap N = x) (s : ByteArray) (A : Option Addr) (n3 c3 : Nat) (w : World) : Calls Tryz.prog 21 #[.agg #[.int .u8 113, .int .u64 N, .string s, .slice A n3 c3]] w fun e w' => e = .returned (.iface 90 (.int .u16 x)) ∧ Below w.heap.size w w' := by
  go_enter Tryz.func21, Tryz.ntmps21
  go_wp2
  go_ret
  exact ⟨by simp [hN], below_alloc (Below.refl _ _) _⟩
set_option maxRecDepth 100000 in
set_option maxHeartbeats 4000000 in
theorem dt_q (w : World) : Calls Tryz.prog 55 #[.string ⟨#[113]⟩] w fun e w' => e = .returned (.string ⟨#[113]⟩) ∧ Drawn0 w w' := by
  have hz := fun w => dbus_zzSigToType.calls 113 ⟨#[113]⟩ true w (by simp [dbus_zzSigToType.f])
  go_enter Tryz.func55, Tryz.ntmps55
  go_wp2_with (go_at_call 71; refine (hz _).mono ?_; rintro e1 w2 ⟨rfl, k, rfl⟩)
  go_ret
  exact ⟨rfl, k, rfl⟩
set_option maxRecDepth 100000 in
set_option maxHeartbeats 4000000 in
theorem di_i (N x : Int) (hN : IntKind.i32.wrap N = x) (s : ByteArray) (A : Option Addr) (n3 c3 : Nat) (w : World) : Calls Tryz.prog 21 #[.agg #[.int .u8 105, .int .u64 N, .string s, .slice A n3 c3]] w fun e w' => e = .returned (.iface 21 (.int .i32 x)) ∧ Below w.heap.size w w' := by
  go_enter Tryz.func21, Tryz.ntmps21
  go_wp2
  go_ret
  exact ⟨by simp [hN], below_alloc (Below.refl _ _) _⟩
set_option maxRecDepth 100000 in
set_option maxHeartbeats 4000000 in
theorem dt_i (w : World) : Calls Tryz.prog 55 #[.string ⟨#[105]⟩] w fun e w' => e = .returned (.string ⟨#[105]⟩) ∧ Drawn0 w w' := by
  have hz := fun w => dbus_zzSigToType.calls 105 ⟨#[105]⟩ true w (by simp [dbus_zzSigToType.f])
  go_enter Tryz.func55, Tryz.ntmps55
  go_wp2_with (go_at_call 71; refine (hz _).mono ?_; rintro e1 w2 ⟨rfl, k, rfl⟩)
  go_ret
  exact ⟨rfl, k, rfl⟩
set_option maxRecDepth 100000 in
set_option maxHeartbeats 4000000 in
theorem di_u (N x : Int) (hN : IntKind.u32.wrap N = x) (s : ByteArray) (A : Option Addr) (n3 c3 : Nat) (w : World) : Calls Tryz.prog 21 #[.agg #[.int .u8 117, .int .u64 N, .string s, .slice A n3 c3]] w fun e w' => e = .returned (.iface 87 (.int .u32 x)) ∧ Below w.heap.size w w' := by
  go_enter Tryz.func21, Tryz.ntmps21
  go_wp2
  go_ret
  exact ⟨by simp [hN], below_alloc (Below.refl _ _) _⟩
set_option maxRecDepth 100000 in
set_option maxHeartbeats 4000000 in
theorem dt_u (w : World) : Calls Tryz.prog 55 #[.string ⟨#[117]⟩] w fun e w' => e = .returned (.string ⟨#[117]⟩) ∧ Drawn0 w w' := by
  have hz := fun w => dbus_zzSigToType.calls 117 ⟨#[117]⟩ true w (by simp [dbus_zzSigToType.f])
  go_enter Tryz.func55, Tryz.ntmps55
  go_wp2_with (go_at_call 71; refine (hz _).mono ?_; rintro e1 w2 ⟨rfl, k, rfl⟩)
  go_ret
  exact ⟨rfl, k, rfl⟩
set_option maxRecDepth 100000 in
set_option maxHeartbeats 4000000 in
theorem di_x (N x : Int) (hN : IntKind.i64.wrap N = x) (s : ByteArray) (A : Option Addr) (n3 c3 : Nat) (w : World) : Calls Tryz.prog 21 #[.agg #[.int .u8 120, .int .u64 N, .string s, .slice A n3 c3]] w fun e w' => e = .returned (.iface 2 (.int .i64 x)) ∧ Below w.heap.size w w' := by
  go_enter Tryz.func21, Tryz.ntmps21
  go_wp2
  go_ret
  exact ⟨by simp [hN], below_alloc (Below.refl _ _) _⟩
set_option maxRecDepth 100000 in
set_option maxHeartbeats 4000000 in
theorem dt_x (w : World) : Calls Tryz.prog 55 #[.string ⟨#[120]⟩] w fun e w' => e = .returned (.string ⟨#[120]⟩) ∧ Drawn0 w w' := by
  have hz := fun w => dbus_zzSigToType.calls 120 ⟨#[120]⟩ true w (by simp [dbus_zzSigToType.f])
  go_enter Tryz.func55, Tryz.ntmps55
  go_wp2_with (go_at_call 71; refine (hz _).mono ?_; rintro e1 w2 ⟨rfl, k, rfl⟩)
  go_ret
  exact ⟨rfl, k, rfl⟩
set_option maxRecDepth 100000 in
set_option maxHeartbeats 4000000 in
theorem di_t (N : Int) (s : ByteArray) (A : Option Addr) (n3 c3 : Nat) (w : World) : Calls Tryz.prog 21 #[.agg #[.int .u8 116, .int .u64 N, .string s, .slice A n3 c3]] w fun e w' => e = .returned (.iface 25 (.int .u64 N)) ∧ Below w.heap.size w w' := by
  go_enter Tryz.func21, Tryz.ntmps21
  go_wp2
  go_ret
  exact ⟨rfl, below_alloc (Below.refl _ _) _⟩
set_option maxRecDepth 100000 in
set_option maxHeartbeats 4000000 in
theorem dt_t (w : World) : Calls Tryz.prog 55 #[.string ⟨#[116]⟩] w fun e w' => e = .returned (.string ⟨#[116]⟩) ∧ Drawn0 w w' := by
  have hz := fun w => dbus_zzSigToType.calls 116 ⟨#[116]⟩ true w (by simp [dbus_zzSigToType.f])
  go_enter Tryz.func55, Tryz.ntmps55
  go_wp2_with (go_at_call 71; refine (hz _).mono ?_; rintro e1 w2 ⟨rfl, k, rfl⟩)
  go_ret
  exact ⟨rfl, k, rfl⟩
set_option maxRecDepth 100000 in
set_option maxHeartbeats 4000000 in
theorem di_d (N : Int) (s : ByteArray) (A : Option Addr) (n3 c3 : Nat) (w : World) : Calls Tryz.prog 21 #[.agg #[.int .u8 100, .int .u64 N, .string s, .slice A n3 c3]] w fun e w' => e = .returned (.iface 91 (.float .f64 N.toNat)) ∧ Below w.heap.size w w' := by
  have hfb := run_frombits N
  go_enter Tryz.func21, Tryz.ntmps21
  go_wp2
  go_ret
  exact ⟨rfl, below_alloc (Below.refl _ _) _⟩
set_option maxRecDepth 100000 in
set_option maxHeartbeats 4000000 in
theorem dt_d (w : World) : Calls Tryz.prog 55 #[.string ⟨#[100]⟩] w fun e w' => e = .returned (.string ⟨#[100]⟩) ∧ Drawn0 w w' := by
  have hz := fun w => dbus_zzSigToType.calls 100 ⟨#[100]⟩ true w (by simp [dbus_zzSigToType.f])
  go_enter Tryz.func55, Tryz.ntmps55
  go_wp2_with (go_at_call 71; refine (hz _).mono ?_; rintro e1 w2 ⟨rfl, k, rfl⟩)
  go_ret
  exact ⟨rfl, k, rfl⟩
set_option maxRecDepth 100000 in
set_option maxHeartbeats 4000000 in
theorem di_h (N x : Int) (hN : IntKind.u32.wrap N = x) (s : ByteArray) (A : Option Addr) (n3 c3 : Nat) (w : World) : Calls Tryz.prog 21 #[.agg #[.int .u8 104, .int .u64 N, .string s, .slice A n3 c3]] w fun e w' => e = .returned (.iface 121 (.int .u32 x)) ∧ Below w.heap.size w w' := by
  go_enter Tryz.func21, Tryz.ntmps21
  go_wp2
  go_ret
  exact ⟨by simp [hN], below_alloc (Below.refl _ _) _⟩
set_option maxRecDepth 100000 in
set_option maxHeartbeats 4000000 in
theorem dt_h (w : World) : Calls Tryz.prog 55 #[.string ⟨#[104]⟩] w fun e w' => e = .returned (.string ⟨#[104]⟩) ∧ Drawn0 w w' := by
  have hz := fun w => dbus_zzSigToType.calls 104 ⟨#[104]⟩ true w (by simp [dbus_zzSigToType.f])
  go_enter Tryz.func55, Tryz.ntmps55
  go_wp2_with (go_at_call 71; refine (hz _).mono ?_; rintro e1 w2 ⟨rfl, k, rfl⟩)
  go_ret
  exact ⟨rfl, k, rfl⟩


end Go.Proofs.YtcnhpiodomknfaaGreatDoor.MFnWrTurned
