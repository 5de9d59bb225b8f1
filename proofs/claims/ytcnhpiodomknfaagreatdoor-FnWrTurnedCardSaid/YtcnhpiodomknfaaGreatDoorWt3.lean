-- A trial text of this session.
import Derived.Test.YtcnhpiodomknfaaGreatDoorWt2
import Derived.Laws.Externs
namespace Go.Proofs.YtcnhpiodomknfaaGreatDoor.MFnWrTurned
open Go.RowKit Go.Proofs.YtcnhpiodomknfaaGreatDoorW.PrintWords Go.Proofs.YtcnhpiodomknfaaGreatDoorW.PrintLast Go.Proofs.YtcnhpiodomknfaaGreatDoorW.PrintMore
attribute [local go_sem] max2_int min2_int max_two min_two max_three min_three max_four min_four
set_option linter.unusedVariables false
set_option linter.unusedSimpArgs false

attribute [local go_sem] as2_2 as2_4 as2_5 as2_21 as2_25 as2_43 as2_87 as2_90 as2_121 as2_130 as2_131 as2_132 as5_2 as5_5 as5_21 as5_25 as5_43 as5_87 as5_90 as5_91 as5_137 as21_4 as21_5 as21_21 as21_25 as21_43 as21_87 as21_90 as21_121 as21_130 as21_131 as21_132 as25_2 as25_4 as25_5 as25_21 as25_25 as25_43 as25_87 as25_90 as25_130 as25_131 as25_132 as25_137 as43_4 as43_5 as43_25 as43_43 as43_87 as43_90 as43_121 as43_130 as43_131 as43_132 as87_2 as87_4 as87_5 as87_21 as87_43 as87_87 as87_90 as87_130 as87_131 as87_132 as87_137 as90_2 as90_4 as90_5 as90_21 as90_43 as90_90 as90_130 as90_131 as90_132 as90_137 as91_2 as91_4 as91_5 as91_21 as91_25 as91_43 as91_87 as91_90 as91_91 as91_121 as91_130 as91_131 as91_132 as91_137 as121_2 as121_4 as121_5 as121_9 as121_21 as121_25 as121_43 as121_87 as121_90 as121_91 as121_95 as121_103 as121_105 as121_121 as121_130 as121_131 as121_132 as121_137 as127_2 as127_4 as127_5 as127_9 as127_21 as127_24 as127_25 as127_43 as127_55 as127_87 as127_90 as127_91 as127_95 as127_103 as127_105 as127_121 as127_127 as127_130 as127_131 as127_132 as127_137 as127_146 as91_91f
theorem run_tobits (n : Nat) (w : World) : (callFunc 58 #[.float .f64 n]).run Tryz.prog w = .ok (.value (.int .u64 (n : Int))) w := by
  rw [run_callFunc_extern (e := Extern.MathFloatBits.float64bits) Tryz.func58 (by kernel_rfl) (by kernel_rfl) (by kernel_rfl) (by kernel_rfl)]
  rfl
theorem run_frombits (n : Int) (w : World) : (callFunc 53 #[.int .u64 n]).run Tryz.prog w = .ok (.value (.float .f64 n.toNat)) w := by
  rw [run_callFunc_extern (e := Extern.MathFloatBits.float64frombits) Tryz.func53 (by kernel_rfl) (by kernel_rfl) (by kernel_rfl) (by kernel_rfl)]
  rfl
set_option maxRecDepth 100000 in
set_option maxHeartbeats 4000000 in
theorem bw_n67 (x : Int) (m : Nat) (hx : IntKind.u16.wrap x = (m : Int)) (w : World) (e b : Nat) (pos : Int) (he : w.heap[e]? = some (.cells #[.iface 50 (.pointer (some ⟨b, 0, none⟩)), .slice none 0 0, .iface 67 (.agg #[]), .int .i64 pos] 65 (0, 0))) (Q : World → Prop)
    (HW : ∀ W1, Below w.heap.size w W1 → ∀ a T, w.heap.size ≤ a → W1.heap[a]? = some (.cells #[.int .u8 ((m : Int) / 256 % 256), .int .u8 ((m : Int) % 256)] T (0, 0)) → Calls Tryz.prog 98 #[.pointer (some ⟨b, 0, none⟩), .slice (some ⟨a, 0, none⟩) 2 2] W1 fun e w' => e = .returned (.tuple #[.int .i64 2, .nilIface]) ∧ Q w') :
    Calls Tryz.prog 28 #[.pointer (some ⟨e, 0, none⟩), .iface 43 (.int .i16 x)] w fun e w' => e = .returned (.tuple #[]) ∧ Q w' := by
  have c0 : w.cell? ⟨e, 0, none⟩ = some (.iface 50 (.pointer (some ⟨b, 0, none⟩))) := (cell_of_row w e 0 _ 65 (0, 0) he).trans rfl
  have c2 : w.cell? ⟨e, 2, none⟩ = some (.iface 67 (.agg #[])) := (cell_of_row w e 2 _ 65 (0, 0) he).trans rfl
  have c0a : ∀ o, (w.alloc o).cell? ⟨e, 0, none⟩ = some (.iface 50 (.pointer (some ⟨b, 0, none⟩))) := fun o => pw_cell_below (below_alloc (Below.refl _ _) o) c0
  have c2a : ∀ o, (w.alloc o).cell? ⟨e, 2, none⟩ = some (.iface 67 (.agg #[])) := fun o => pw_cell_below (below_alloc (Below.refl _ _) o) c2
  have c0b : ∀ o o2, ((w.alloc o).alloc o2).cell? ⟨e, 0, none⟩ = some (.iface 50 (.pointer (some ⟨b, 0, none⟩))) := fun o o2 => pw_cell_below (below_alloc (Below.refl _ _) o2) (c0a o)
  have hmk := fun W : World => mk_slice 2 (by omega) #[.int .u8 0, .int .u8 0] (by kernel_rfl) 2 rfl W
  have hmr := m_67_0
  have hmw := m_write b
  have hnw := nil_write b
  have htb := run_tobits
  have HC := Aside0.mk HW
  clear he HW
  go_enter Tryz.func28, Tryz.ntmps28
  go_wp2_with (first | (go_at_call 104; refine (pu_67_2 m _).mono ?_; rintro e w2 ⟨rfl, rfl⟩) | (go_at_call 98; refine (HC.out _ (below_alloc (below_alloc (Below.refl _ _) _) _) _ 5 (Nat.le_refl _) (by rw [heap_alloc_old _ _ (by simp)]; exact heap_alloc_new _ _)).mono ?_; rintro e w3 ⟨rfl, hq⟩; have HQ := Aside0.mk hq; clear hq))
  all_goals
    go_end0
    exact ⟨rfl, HQ.out⟩
set_option maxRecDepth 100000 in
set_option maxHeartbeats 4000000 in
theorem bw_n68 (x : Int) (m : Nat) (hx : IntKind.u16.wrap x = (m : Int)) (w : World) (e b : Nat) (pos : Int) (he : w.heap[e]? = some (.cells #[.iface 50 (.pointer (some ⟨b, 0, none⟩)), .slice none 0 0, .iface 68 (.agg #[]), .int .i64 pos] 65 (0, 0))) (Q : World → Prop)
    (HW : ∀ W1, Below w.heap.size w W1 → ∀ a T, w.heap.size ≤ a → W1.heap[a]? = some (.cells #[.int .u8 ((m : Int) % 256), .int .u8 ((m : Int) / 256 % 256)] T (0, 0)) → Calls Tryz.prog 98 #[.pointer (some ⟨b, 0, none⟩), .slice (some ⟨a, 0, none⟩) 2 2] W1 fun e w' => e = .returned (.tuple #[.int .i64 2, .nilIface]) ∧ Q w') :
    Calls Tryz.prog 28 #[.pointer (some ⟨e, 0, none⟩), .iface 43 (.int .i16 x)] w fun e w' => e = .returned (.tuple #[]) ∧ Q w' := by
  have c0 : w.cell? ⟨e, 0, none⟩ = some (.iface 50 (.pointer (some ⟨b, 0, none⟩))) := (cell_of_row w e 0 _ 65 (0, 0) he).trans rfl
  have c2 : w.cell? ⟨e, 2, none⟩ = some (.iface 68 (.agg #[])) := (cell_of_row w e 2 _ 65 (0, 0) he).trans rfl
  have c0a : ∀ o, (w.alloc o).cell? ⟨e, 0, none⟩ = some (.iface 50 (.pointer (some ⟨b, 0, none⟩))) := fun o => pw_cell_below (below_alloc (Below.refl _ _) o) c0
  have c2a : ∀ o, (w.alloc o).cell? ⟨e, 2, none⟩ = some (.iface 68 (.agg #[])) := fun o => pw_cell_below (below_alloc (Below.refl _ _) o) c2
  have c0b : ∀ o o2, ((w.alloc o).alloc o2).cell? ⟨e, 0, none⟩ = some (.iface 50 (.pointer (some ⟨b, 0, none⟩))) := fun o o2 => pw_cell_below (below_alloc (Below.refl _ _) o2) (c0a o)
  have hmk := fun W : World => mk_slice 2 (by omega) #[.int .u8 0, .int .u8 0] (by kernel_rfl) 2 rfl W
  have hmr := m_68_0
  have hmw := m_write b
  have hnw := nil_write b
  have htb := run_tobits
  have HC := Aside0.mk HW
  clear he HW
  go_enter Tryz.func28, Tryz.ntmps28
  go_wp2_with (first | (go_at_call 112; refine (pu_68_2 m _).mono ?_; rintro e w2 ⟨rfl, rfl⟩) | (go_at_call 98; refine (HC.out _ (below_alloc (below_alloc (Below.refl _ _) _) _) _ 5 (Nat.le_refl _) (by rw [heap_alloc_old _ _ (by simp)]; exact heap_alloc_new _ _)).mono ?_; rintro e w3 ⟨rfl, hq⟩; have HQ := Aside0.mk hq; clear hq))
  all_goals
    go_end0
    exact ⟨rfl, HQ.out⟩
set_option maxRecDepth 100000 in
set_option maxHeartbeats 4000000 in
theorem bw_q67 (m : Nat) (w : World) (e b : Nat) (pos : Int) (he : w.heap[e]? = some (.cells #[.iface 50 (.pointer (some ⟨b, 0, none⟩)), .slice none 0 0, .iface 67 (.agg #[]), .int .i64 pos] 65 (0, 0))) (Q : World → Prop)
    (HW : ∀ W1, Below w.heap.size w W1 → ∀ a T, w.heap.size ≤ a → W1.heap[a]? = some (.cells #[.int .u8 ((m : Int) / 256 % 256), .int .u8 ((m : Int) % 256)] T (0, 0)) → Calls Tryz.prog 98 #[.pointer (some ⟨b, 0, none⟩), .slice (some ⟨a, 0, none⟩) 2 2] W1 fun e w' => e = .returned (.tuple #[.int .i64 2, .nilIface]) ∧ Q w') :
    Calls Tryz.prog 28 #[.pointer (some ⟨e, 0, none⟩), .iface 90 (.int .u16 (m : Int))] w fun e w' => e = .returned (.tuple #[]) ∧ Q w' := by
  have c0 : w.cell? ⟨e, 0, none⟩ = some (.iface 50 (.pointer (some ⟨b, 0, none⟩))) := (cell_of_row w e 0 _ 65 (0, 0) he).trans rfl
  have c2 : w.cell? ⟨e, 2, none⟩ = some (.iface 67 (.agg #[])) := (cell_of_row w e 2 _ 65 (0, 0) he).trans rfl
  have c0a : ∀ o, (w.alloc o).cell? ⟨e, 0, none⟩ = some (.iface 50 (.pointer (some ⟨b, 0, none⟩))) := fun o => pw_cell_below (below_alloc (Below.refl _ _) o) c0
  have c2a : ∀ o, (w.alloc o).cell? ⟨e, 2, none⟩ = some (.iface 67 (.agg #[])) := fun o => pw_cell_below (below_alloc (Below.refl _ _) o) c2
  have c0b : ∀ o o2, ((w.alloc o).alloc o2).cell? ⟨e, 0, none⟩ = some (.iface 50 (.pointer (some ⟨b, 0, none⟩))) := fun o o2 => pw_cell_below (below_alloc (Below.refl _ _) o2) (c0a o)
  have hmk := fun W : World => mk_slice 2 (by omega) #[.int .u8 0, .int .u8 0] (by kernel_rfl) 2 rfl W
  have hmr := m_67_0
  have hmw := m_write b
  have hnw := nil_write b
  have htb := run_tobits
  have HC := Aside0.mk HW
  clear he HW
  go_enter Tryz.func28, Tryz.ntmps28
  go_wp2_with (first | (go_at_call 104; refine (pu_67_2 m _).mono ?_; rintro e w2 ⟨rfl, rfl⟩) | (go_at_call 98; refine (HC.out _ (below_alloc (below_alloc (Below.refl _ _) _) _) _ 5 (Nat.le_refl _) (by rw [heap_alloc_old _ _ (by simp)]; exact heap_alloc_new _ _)).mono ?_; rintro e w3 ⟨rfl, hq⟩; have HQ := Aside0.mk hq; clear hq))
  all_goals
    go_end0
    exact ⟨rfl, HQ.out⟩
set_option maxRecDepth 100000 in
set_option maxHeartbeats 4000000 in
theorem bw_q68 (m : Nat) (w : World) (e b : Nat) (pos : Int) (he : w.heap[e]? = some (.cells #[.iface 50 (.pointer (some ⟨b, 0, none⟩)), .slice none 0 0, .iface 68 (.agg #[]), .int .i64 pos] 65 (0, 0))) (Q : World → Prop)
    (HW : ∀ W1, Below w.heap.size w W1 → ∀ a T, w.heap.size ≤ a → W1.heap[a]? = some (.cells #[.int .u8 ((m : Int) % 256), .int .u8 ((m : Int) / 256 % 256)] T (0, 0)) → Calls Tryz.prog 98 #[.pointer (some ⟨b, 0, none⟩), .slice (some ⟨a, 0, none⟩) 2 2] W1 fun e w' => e = .returned (.tuple #[.int .i64 2, .nilIface]) ∧ Q w') :
    Calls Tryz.prog 28 #[.pointer (some ⟨e, 0, none⟩), .iface 90 (.int .u16 (m : Int))] w fun e w' => e = .returned (.tuple #[]) ∧ Q w' := by
  have c0 : w.cell? ⟨e, 0, none⟩ = some (.iface 50 (.pointer (some ⟨b, 0, none⟩))) := (cell_of_row w e 0 _ 65 (0, 0) he).trans rfl
  have c2 : w.cell? ⟨e, 2, none⟩ = some (.iface 68 (.agg #[])) := (cell_of_row w e 2 _ 65 (0, 0) he).trans rfl
  have c0a : ∀ o, (w.alloc o).cell? ⟨e, 0, none⟩ = some (.iface 50 (.pointer (some ⟨b, 0, none⟩))) := fun o => pw_cell_below (below_alloc (Below.refl _ _) o) c0
  have c2a : ∀ o, (w.alloc o).cell? ⟨e, 2, none⟩ = some (.iface 68 (.agg #[])) := fun o => pw_cell_below (below_alloc (Below.refl _ _) o) c2
  have c0b : ∀ o o2, ((w.alloc o).alloc o2).cell? ⟨e, 0, none⟩ = some (.iface 50 (.pointer (some ⟨b, 0, none⟩))) := fun o o2 => pw_cell_below (below_alloc (Below.refl _ _) o2) (c0a o)
  have hmk := fun W : World => mk_slice 2 (by omega) #[.int .u8 0, .int .u8 0] (by kernel_rfl) 2 rfl W
  have hmr := m_68_0
  have hmw := m_write b
  have hnw := nil_write b
  have htb := run_tobits
  have HC := Aside0.mk HW
  clear he HW
  go_enter Tryz.func28, Tryz.ntmps28
  go_wp2_with (first | (go_at_call 112; refine (pu_68_2 m _).mono ?_; rintro e w2 ⟨rfl, rfl⟩) | (go_at_call 98; refine (HC.out _ (below_alloc (below_alloc (Below.refl _ _) _) _) _ 5 (Nat.le_refl _) (by rw [heap_alloc_old _ _ (by simp)]; exact heap_alloc_new _ _)).mono ?_; rintro e w3 ⟨rfl, hq⟩; have HQ := Aside0.mk hq; clear hq))
  all_goals
    go_end0
    exact ⟨rfl, HQ.out⟩
set_option maxRecDepth 100000 in
set_option maxHeartbeats 4000000 in
theorem bw_i67 (x : Int) (m : Nat) (hx : IntKind.u32.wrap x = (m : Int)) (w : World) (e b : Nat) (pos : Int) (he : w.heap[e]? = some (.cells #[.iface 50 (.pointer (some ⟨b, 0, none⟩)), .slice none 0 0, .iface 67 (.agg #[]), .int .i64 pos] 65 (0, 0))) (Q : World → Prop)
    (HW : ∀ W1, Below w.heap.size w W1 → ∀ a T, w.heap.size ≤ a → W1.heap[a]? = some (.cells #[.int .u8 ((m : Int) / 16777216 % 256), .int .u8 ((m : Int) / 65536 % 256), .int .u8 ((m : Int) / 256 % 256), .int .u8 ((m : Int) % 256)] T (0, 0)) → Calls Tryz.prog 98 #[.pointer (some ⟨b, 0, none⟩), .slice (some ⟨a, 0, none⟩) 4 4] W1 fun e w' => e = .returned (.tuple #[.int .i64 4, .nilIface]) ∧ Q w') :
    Calls Tryz.prog 28 #[.pointer (some ⟨e, 0, none⟩), .iface 21 (.int .i32 x)] w fun e w' => e = .returned (.tuple #[]) ∧ Q w' := by
  have c0 : w.cell? ⟨e, 0, none⟩ = some (.iface 50 (.pointer (some ⟨b, 0, none⟩))) := (cell_of_row w e 0 _ 65 (0, 0) he).trans rfl
  have c2 : w.cell? ⟨e, 2, none⟩ = some (.iface 67 (.agg #[])) := (cell_of_row w e 2 _ 65 (0, 0) he).trans rfl
  have c0a : ∀ o, (w.alloc o).cell? ⟨e, 0, none⟩ = some (.iface 50 (.pointer (some ⟨b, 0, none⟩))) := fun o => pw_cell_below (below_alloc (Below.refl _ _) o) c0
  have c2a : ∀ o, (w.alloc o).cell? ⟨e, 2, none⟩ = some (.iface 67 (.agg #[])) := fun o => pw_cell_below (below_alloc (Below.refl _ _) o) c2
  have c0b : ∀ o o2, ((w.alloc o).alloc o2).cell? ⟨e, 0, none⟩ = some (.iface 50 (.pointer (some ⟨b, 0, none⟩))) := fun o o2 => pw_cell_below (below_alloc (Below.refl _ _) o2) (c0a o)
  have hmk := fun W : World => mk_slice 4 (by omega) #[.int .u8 0, .int .u8 0, .int .u8 0, .int .u8 0] (by kernel_rfl) 4 rfl W
  have hmr := m_67_1
  have hmw := m_write b
  have hnw := nil_write b
  have htb := run_tobits
  have HC := Aside0.mk HW
  clear he HW
  go_enter Tryz.func28, Tryz.ntmps28
  go_wp2_with (first | (go_at_call 105; refine (pu_67_4 m _).mono ?_; rintro e w2 ⟨rfl, rfl⟩) | (go_at_call 98; refine (HC.out _ (below_alloc (below_alloc (Below.refl _ _) _) _) _ 5 (Nat.le_refl _) (by rw [heap_alloc_old _ _ (by simp)]; exact heap_alloc_new _ _)).mono ?_; rintro e w3 ⟨rfl, hq⟩; have HQ := Aside0.mk hq; clear hq))
  all_goals
    go_end0
    exact ⟨rfl, HQ.out⟩
set_option maxRecDepth 100000 in
set_option maxHeartbeats 4000000 in
theorem bw_i68 (x : Int) (m : Nat) (hx : IntKind.u32.wrap x = (m : Int)) (w : World) (e b : Nat) (pos : Int) (he : w.heap[e]? = some (.cells #[.iface 50 (.pointer (some ⟨b, 0, none⟩)), .slice none 0 0, .iface 68 (.agg #[]), .int .i64 pos] 65 (0, 0))) (Q : World → Prop)
    (HW : ∀ W1, Below w.heap.size w W1 → ∀ a T, w.heap.size ≤ a → W1.heap[a]? = some (.cells #[.int .u8 ((m : Int) % 256), .int .u8 ((m : Int) / 256 % 256), .int .u8 ((m : Int) / 65536 % 256), .int .u8 ((m : Int) / 16777216 % 256)] T (0, 0)) → Calls Tryz.prog 98 #[.pointer (some ⟨b, 0, none⟩), .slice (some ⟨a, 0, none⟩) 4 4] W1 fun e w' => e = .returned (.tuple #[.int .i64 4, .nilIface]) ∧ Q w') :
    Calls Tryz.prog 28 #[.pointer (some ⟨e, 0, none⟩), .iface 21 (.int .i32 x)] w fun e w' => e = .returned (.tuple #[]) ∧ Q w' := by
  have c0 : w.cell? ⟨e, 0, none⟩ = some (.iface 50 (.pointer (some ⟨b, 0, none⟩))) := (cell_of_row w e 0 _ 65 (0, 0) he).trans rfl
  have c2 : w.cell? ⟨e, 2, none⟩ = some (.iface 68 (.agg #[])) := (cell_of_row w e 2 _ 65 (0, 0) he).trans rfl
  have c0a : ∀ o, (w.alloc o).cell? ⟨e, 0, none⟩ = some (.iface 50 (.pointer (some ⟨b, 0, none⟩))) := fun o => pw_cell_below (below_alloc (Below.refl _ _) o) c0
  have c2a : ∀ o, (w.alloc o).cell? ⟨e, 2, none⟩ = some (.iface 68 (.agg #[])) := fun o => pw_cell_below (below_alloc (Below.refl _ _) o) c2
  have c0b : ∀ o o2, ((w.alloc o).alloc o2).cell? ⟨e, 0, none⟩ = some (.iface 50 (.pointer (some ⟨b, 0, none⟩))) := fun o o2 => pw_cell_below (below_alloc (Below.refl _ _) o2) (c0a o)
  have hmk := fun W : World => mk_slice 4 (by omega) #[.int .u8 0, .int .u8 0, .int .u8 0, .int .u8 0] (by kernel_rfl) 4 rfl W
  have hmr := m_68_1
  have hmw := m_write b
  have hnw := nil_write b
  have htb := run_tobits
  have HC := Aside0.mk HW
  clear he HW
  go_enter Tryz.func28, Tryz.ntmps28
  go_wp2_with (first | (go_at_call 113; refine (pu_68_4 m _).mono ?_; rintro e w2 ⟨rfl, rfl⟩) | (go_at_call 98; refine (HC.out _ (below_alloc (below_alloc (Below.refl _ _) _) _) _ 5 (Nat.le_refl _) (by rw [heap_alloc_old _ _ (by simp)]; exact heap_alloc_new _ _)).mono ?_; rintro e w3 ⟨rfl, hq⟩; have HQ := Aside0.mk hq; clear hq))
  all_goals
    go_end0
    exact ⟨rfl, HQ.out⟩
set_option maxRecDepth 100000 in
set_option maxHeartbeats 4000000 in
theorem bw_u67 (m : Nat) (w : World) (e b : Nat) (pos : Int) (he : w.heap[e]? = some (.cells #[.iface 50 (.pointer (some ⟨b, 0, none⟩)), .slice none 0 0, .iface 67 (.agg #[]), .int .i64 pos] 65 (0, 0))) (Q : World → Prop)
    (HW : ∀ W1, Below w.heap.size w W1 → ∀ a T, w.heap.size ≤ a → W1.heap[a]? = some (.cells #[.int .u8 ((m : Int) / 16777216 % 256), .int .u8 ((m : Int) / 65536 % 256), .int .u8 ((m : Int) / 256 % 256), .int .u8 ((m : Int) % 256)] T (0, 0)) → Calls Tryz.prog 98 #[.pointer (some ⟨b, 0, none⟩), .slice (some ⟨a, 0, none⟩) 4 4] W1 fun e w' => e = .returned (.tuple #[.int .i64 4, .nilIface]) ∧ Q w') :
    Calls Tryz.prog 28 #[.pointer (some ⟨e, 0, none⟩), .iface 87 (.int .u32 (m : Int))] w fun e w' => e = .returned (.tuple #[]) ∧ Q w' := by
  have c0 : w.cell? ⟨e, 0, none⟩ = some (.iface 50 (.pointer (some ⟨b, 0, none⟩))) := (cell_of_row w e 0 _ 65 (0, 0) he).trans rfl
  have c2 : w.cell? ⟨e, 2, none⟩ = some (.iface 67 (.agg #[])) := (cell_of_row w e 2 _ 65 (0, 0) he).trans rfl
  have c0a : ∀ o, (w.alloc o).cell? ⟨e, 0, none⟩ = some (.iface 50 (.pointer (some ⟨b, 0, none⟩))) := fun o => pw_cell_below (below_alloc (Below.refl _ _) o) c0
  have c2a : ∀ o, (w.alloc o).cell? ⟨e, 2, none⟩ = some (.iface 67 (.agg #[])) := fun o => pw_cell_below (below_alloc (Below.refl _ _) o) c2
  have c0b : ∀ o o2, ((w.alloc o).alloc o2).cell? ⟨e, 0, none⟩ = some (.iface 50 (.pointer (some ⟨b, 0, none⟩))) := fun o o2 => pw_cell_below (below_alloc (Below.refl _ _) o2) (c0a o)
  have hmk := fun W : World => mk_slice 4 (by omega) #[.int .u8 0, .int .u8 0, .int .u8 0, .int .u8 0] (by kernel_rfl) 4 rfl W
  have hmr := m_67_1
  have hmw := m_write b
  have hnw := nil_write b
  have htb := run_tobits
  have HC := Aside0.mk HW
  clear he HW
  go_enter Tryz.func28, Tryz.ntmps28
  go_wp2_with (first | (go_at_call 105; refine (pu_67_4 m _).mono ?_; rintro e w2 ⟨rfl, rfl⟩) | (go_at_call 98; refine (HC.out _ (below_alloc (below_alloc (Below.refl _ _) _) _) _ 5 (Nat.le_refl _) (by rw [heap_alloc_old _ _ (by simp)]; exact heap_alloc_new _ _)).mono ?_; rintro e w3 ⟨rfl, hq⟩; have HQ := Aside0.mk hq; clear hq))
  all_goals
    go_end0
    exact ⟨rfl, HQ.out⟩
set_option maxRecDepth 100000 in
set_option maxHeartbeats 4000000 in
theorem bw_u68 (m : Nat) (w : World) (e b : Nat) (pos : Int) (he : w.heap[e]? = some (.cells #[.iface 50 (.pointer (some ⟨b, 0, none⟩)), .slice none 0 0, .iface 68 (.agg #[]), .int .i64 pos] 65 (0, 0))) (Q : World → Prop)
    (HW : ∀ W1, Below w.heap.size w W1 → ∀ a T, w.heap.size ≤ a → W1.heap[a]? = some (.cells #[.int .u8 ((m : Int) % 256), .int .u8 ((m : Int) / 256 % 256), .int .u8 ((m : Int) / 65536 % 256), .int .u8 ((m : Int) / 16777216 % 256)] T (0, 0)) → Calls Tryz.prog 98 #[.pointer (some ⟨b, 0, none⟩), .slice (some ⟨a, 0, none⟩) 4 4] W1 fun e w' => e = .returned (.tuple #[.int .i64 4, .nilIface]) ∧ Q w') :
    Calls Tryz.prog 28 #[.pointer (some ⟨e, 0, none⟩), .iface 87 (.int .u32 (m : Int))] w fun e w' => e = .returned (.tuple #[]) ∧ Q w' := by
  have c0 : w.cell? ⟨e, 0, none⟩ = some (.iface 50 (.pointer (some ⟨b, 0, none⟩))) := (cell_of_row w e 0 _ 65 (0, 0) he).trans rfl
  have c2 : w.cell? ⟨e, 2, none⟩ = some (.iface 68 (.agg #[])) := (cell_of_row w e 2 _ 65 (0, 0) he).trans rfl
  have c0a : ∀ o, (w.alloc o).cell? ⟨e, 0, none⟩ = some (.iface 50 (.pointer (some ⟨b, 0, none⟩))) := fun o => pw_cell_below (below_alloc (Below.refl _ _) o) c0
  have c2a : ∀ o, (w.alloc o).cell? ⟨e, 2, none⟩ = some (.iface 68 (.agg #[])) := fun o => pw_cell_below (below_alloc (Below.refl _ _) o) c2
  have c0b : ∀ o o2, ((w.alloc o).alloc o2).cell? ⟨e, 0, none⟩ = some (.iface 50 (.pointer (some ⟨b, 0, none⟩))) := fun o o2 => pw_cell_below (below_alloc (Below.refl _ _) o2) (c0a o)
  have hmk := fun W : World => mk_slice 4 (by omega) #[.int .u8 0, .int .u8 0, .int .u8 0, .int .u8 0] (by kernel_rfl) 4 rfl W
  have hmr := m_68_1
  have hmw := m_write b
  have hnw := nil_write b
  have htb := run_tobits
  have HC := Aside0.mk HW
  clear he HW
  go_enter Tryz.func28, Tryz.ntmps28
  go_wp2_with (first | (go_at_call 113; refine (pu_68_4 m _).mono ?_; rintro e w2 ⟨rfl, rfl⟩) | (go_at_call 98; refine (HC.out _ (below_alloc (below_alloc (Below.refl _ _) _) _) _ 5 (Nat.le_refl _) (by rw [heap_alloc_old _ _ (by simp)]; exact heap_alloc_new _ _)).mono ?_; rintro e w3 ⟨rfl, hq⟩; have HQ := Aside0.mk hq; clear hq))
  all_goals
    go_end0
    exact ⟨rfl, HQ.out⟩
set_option maxRecDepth 100000 in
set_option maxHeartbeats 4000000 in
theorem bw_x67 (x : Int) (m : Nat) (hx : IntKind.u64.wrap x = (m : Int)) (w : World) (e b : Nat) (pos : Int) (he : w.heap[e]? = some (.cells #[.iface 50 (.pointer (some ⟨b, 0, none⟩)), .slice none 0 0, .iface 67 (.agg #[]), .int .i64 pos] 65 (0, 0))) (Q : World → Prop)
    (HW : ∀ W1, Below w.heap.size w W1 → ∀ a T, w.heap.size ≤ a → W1.heap[a]? = some (.cells #[.int .u8 ((m : Int) / 72057594037927936 % 256), .int .u8 ((m : Int) / 281474976710656 % 256), .int .u8 ((m : Int) / 1099511627776 % 256), .int .u8 ((m : Int) / 4294967296 % 256), .int .u8 ((m : Int) / 16777216 % 256), .int .u8 ((m : Int) / 65536 % 256), .int .u8 ((m : Int) / 256 % 256), .int .u8 ((m : Int) % 256)] T (0, 0)) → Calls Tryz.prog 98 #[.pointer (some ⟨b, 0, none⟩), .slice (some ⟨a, 0, none⟩) 8 8] W1 fun e w' => e = .returned (.tuple #[.int .i64 8, .nilIface]) ∧ Q w') :
    Calls Tryz.prog 28 #[.pointer (some ⟨e, 0, none⟩), .iface 2 (.int .i64 x)] w fun e w' => e = .returned (.tuple #[]) ∧ Q w' := by
  have c0 : w.cell? ⟨e, 0, none⟩ = some (.iface 50 (.pointer (some ⟨b, 0, none⟩))) := (cell_of_row w e 0 _ 65 (0, 0) he).trans rfl
  have c2 : w.cell? ⟨e, 2, none⟩ = some (.iface 67 (.agg #[])) := (cell_of_row w e 2 _ 65 (0, 0) he).trans rfl
  have c0a : ∀ o, (w.alloc o).cell? ⟨e, 0, none⟩ = some (.iface 50 (.pointer (some ⟨b, 0, none⟩))) := fun o => pw_cell_below (below_alloc (Below.refl _ _) o) c0
  have c2a : ∀ o, (w.alloc o).cell? ⟨e, 2, none⟩ = some (.iface 67 (.agg #[])) := fun o => pw_cell_below (below_alloc (Below.refl _ _) o) c2
  have c0b : ∀ o o2, ((w.alloc o).alloc o2).cell? ⟨e, 0, none⟩ = some (.iface 50 (.pointer (some ⟨b, 0, none⟩))) := fun o o2 => pw_cell_below (below_alloc (Below.refl _ _) o2) (c0a o)
  have hmk := fun W : World => mk_slice 8 (by omega) #[.int .u8 0, .int .u8 0, .int .u8 0, .int .u8 0, .int .u8 0, .int .u8 0, .int .u8 0, .int .u8 0] (by kernel_rfl) 8 rfl W
  have hmr := m_67_2
  have hmw := m_write b
  have hnw := nil_write b
  have htb := run_tobits
  have HC := Aside0.mk HW
  clear he HW
  go_enter Tryz.func28, Tryz.ntmps28
  go_wp2_with (first | (go_at_call 106; refine (pu_67_8 m _).mono ?_; rintro e w2 ⟨rfl, rfl⟩) | (go_at_call 98; refine (HC.out _ (below_alloc (below_alloc (Below.refl _ _) _) _) _ 5 (Nat.le_refl _) (by rw [heap_alloc_old _ _ (by simp)]; exact heap_alloc_new _ _)).mono ?_; rintro e w3 ⟨rfl, hq⟩; have HQ := Aside0.mk hq; clear hq))
  all_goals
    go_end0
    exact ⟨rfl, HQ.out⟩
set_option maxRecDepth 100000 in
set_option maxHeartbeats 4000000 in
theorem bw_x68 (x : Int) (m : Nat) (hx : IntKind.u64.wrap x = (m : Int)) (w : World) (e b : Nat) (pos : Int) (he : w.heap[e]? = some (.cells #[.iface 50 (.pointer (some ⟨b, 0, none⟩)), .slice none 0 0, .iface 68 (.agg #[]), .int .i64 pos] 65 (0, 0))) (Q : World → Prop)
    (HW : ∀ W1, Below w.heap.size w W1 → ∀ a T, w.heap.size ≤ a → W1.heap[a]? = some (.cells #[.int .u8 ((m : Int) % 256), .int .u8 ((m : Int) / 256 % 256), .int .u8 ((m : Int) / 65536 % 256), .int .u8 ((m : Int) / 16777216 % 256), .int .u8 ((m : Int) / 4294967296 % 256), .int .u8 ((m : Int) / 1099511627776 % 256), .int .u8 ((m : Int) / 281474976710656 % 256), .int .u8 ((m : Int) / 72057594037927936 % 256)] T (0, 0)) → Calls Tryz.prog 98 #[.pointer (some ⟨b, 0, none⟩), .slice (some ⟨a, 0, none⟩) 8 8] W1 fun e w' => e = .returned (.tuple #[.int .i64 8, .nilIface]) ∧ Q w') :
    Calls Tryz.prog 28 #[.pointer (some ⟨e, 0, none⟩), .iface 2 (.int .i64 x)] w fun e w' => e = .returned (.tuple #[]) ∧ Q w' := by
  have c0 : w.cell? ⟨e, 0, none⟩ = some (.iface 50 (.pointer (some ⟨b, 0, none⟩))) := (cell_of_row w e 0 _ 65 (0, 0) he).trans rfl
  have c2 : w.cell? ⟨e, 2, none⟩ = some (.iface 68 (.agg #[])) := (cell_of_row w e 2 _ 65 (0, 0) he).trans rfl
  have c0a : ∀ o, (w.alloc o).cell? ⟨e, 0, none⟩ = some (.iface 50 (.pointer (some ⟨b, 0, none⟩))) := fun o => pw_cell_below (below_alloc (Below.refl _ _) o) c0
  have c2a : ∀ o, (w.alloc o).cell? ⟨e, 2, none⟩ = some (.iface 68 (.agg #[])) := fun o => pw_cell_below (below_alloc (Below.refl _ _) o) c2
  have c0b : ∀ o o2, ((w.alloc o).alloc o2).cell? ⟨e, 0, none⟩ = some (.iface 50 (.pointer (some ⟨b, 0, none⟩))) := fun o o2 => pw_cell_below (below_alloc (Below.refl _ _) o2) (c0a o)
  have hmk := fun W : World => mk_slice 8 (by omega) #[.int .u8 0, .int .u8 0, .int .u8 0, .int .u8 0, .int .u8 0, .int .u8 0, .int .u8 0, .int .u8 0] (by kernel_rfl) 8 rfl W
  have hmr := m_68_2
  have hmw := m_write b
  have hnw := nil_write b
  have htb := run_tobits
  have HC := Aside0.mk HW
  clear he HW
  go_enter Tryz.func28, Tryz.ntmps28
  go_wp2_with (first | (go_at_call 114; refine (pu_68_8 m _).mono ?_; rintro e w2 ⟨rfl, rfl⟩) | (go_at_call 98; refine (HC.out _ (below_alloc (below_alloc (Below.refl _ _) _) _) _ 5 (Nat.le_refl _) (by rw [heap_alloc_old _ _ (by simp)]; exact heap_alloc_new _ _)).mono ?_; rintro e w3 ⟨rfl, hq⟩; have HQ := Aside0.mk hq; clear hq))
  all_goals
    go_end0
    exact ⟨rfl, HQ.out⟩
set_option maxRecDepth 100000 in
set_option maxHeartbeats 4000000 in
theorem bw_t67 (m : Nat) (w : World) (e b : Nat) (pos : Int) (he : w.heap[e]? = some (.cells #[.iface 50 (.pointer (some ⟨b, 0, none⟩)), .slice none 0 0, .iface 67 (.agg #[]), .int .i64 pos] 65 (0, 0))) (Q : World → Prop)
    (HW : ∀ W1, Below w.heap.size w W1 → ∀ a T, w.heap.size ≤ a → W1.heap[a]? = some (.cells #[.int .u8 ((m : Int) / 72057594037927936 % 256), .int .u8 ((m : Int) / 281474976710656 % 256), .int .u8 ((m : Int) / 1099511627776 % 256), .int .u8 ((m : Int) / 4294967296 % 256), .int .u8 ((m : Int) / 16777216 % 256), .int .u8 ((m : Int) / 65536 % 256), .int .u8 ((m : Int) / 256 % 256), .int .u8 ((m : Int) % 256)] T (0, 0)) → Calls Tryz.prog 98 #[.pointer (some ⟨b, 0, none⟩), .slice (some ⟨a, 0, none⟩) 8 8] W1 fun e w' => e = .returned (.tuple #[.int .i64 8, .nilIface]) ∧ Q w') :
    Calls Tryz.prog 28 #[.pointer (some ⟨e, 0, none⟩), .iface 25 (.int .u64 (m : Int))] w fun e w' => e = .returned (.tuple #[]) ∧ Q w' := by
  have c0 : w.cell? ⟨e, 0, none⟩ = some (.iface 50 (.pointer (some ⟨b, 0, none⟩))) := (cell_of_row w e 0 _ 65 (0, 0) he).trans rfl
  have c2 : w.cell? ⟨e, 2, none⟩ = some (.iface 67 (.agg #[])) := (cell_of_row w e 2 _ 65 (0, 0) he).trans rfl
  have c0a : ∀ o, (w.alloc o).cell? ⟨e, 0, none⟩ = some (.iface 50 (.pointer (some ⟨b, 0, none⟩))) := fun o => pw_cell_below (below_alloc (Below.refl _ _) o) c0
  have c2a : ∀ o, (w.alloc o).cell? ⟨e, 2, none⟩ = some (.iface 67 (.agg #[])) := fun o => pw_cell_below (below_alloc (Below.refl _ _) o) c2
  have c0b : ∀ o o2, ((w.alloc o).alloc o2).cell? ⟨e, 0, none⟩ = some (.iface 50 (.pointer (some ⟨b, 0, none⟩))) := fun o o2 => pw_cell_below (below_alloc (Below.refl _ _) o2) (c0a o)
  have hmk := fun W : World => mk_slice 8 (by omega) #[.int .u8 0, .int .u8 0, .int .u8 0, .int .u8 0, .int .u8 0, .int .u8 0, .int .u8 0, .int .u8 0] (by kernel_rfl) 8 rfl W
  have hmr := m_67_2
  have hmw := m_write b
  have hnw := nil_write b
  have htb := run_tobits
  have HC := Aside0.mk HW
  clear he HW
  go_enter Tryz.func28, Tryz.ntmps28
  go_wp2_with (first | (go_at_call 106; refine (pu_67_8 m _).mono ?_; rintro e w2 ⟨rfl, rfl⟩) | (go_at_call 98; refine (HC.out _ (below_alloc (below_alloc (Below.refl _ _) _) _) _ 5 (Nat.le_refl _) (by rw [heap_alloc_old _ _ (by simp)]; exact heap_alloc_new _ _)).mono ?_; rintro e w3 ⟨rfl, hq⟩; have HQ := Aside0.mk hq; clear hq))
  all_goals
    go_end0
    exact ⟨rfl, HQ.out⟩
set_option maxRecDepth 100000 in
set_option maxHeartbeats 4000000 in
theorem bw_t68 (m : Nat) (w : World) (e b : Nat) (pos : Int) (he : w.heap[e]? = some (.cells #[.iface 50 (.pointer (some ⟨b, 0, none⟩)), .slice none 0 0, .iface 68 (.agg #[]), .int .i64 pos] 65 (0, 0))) (Q : World → Prop)
    (HW : ∀ W1, Below w.heap.size w W1 → ∀ a T, w.heap.size ≤ a → W1.heap[a]? = some (.cells #[.int .u8 ((m : Int) % 256), .int .u8 ((m : Int) / 256 % 256), .int .u8 ((m : Int) / 65536 % 256), .int .u8 ((m : Int) / 16777216 % 256), .int .u8 ((m : Int) / 4294967296 % 256), .int .u8 ((m : Int) / 1099511627776 % 256), .int .u8 ((m : Int) / 281474976710656 % 256), .int .u8 ((m : Int) / 72057594037927936 % 256)] T (0, 0)) → Calls Tryz.prog 98 #[.pointer (some ⟨b, 0, none⟩), .slice (some ⟨a, 0, none⟩) 8 8] W1 fun e w' => e = .returned (.tuple #[.int .i64 8, .nilIface]) ∧ Q w') :
    Calls Tryz.prog 28 #[.pointer (some ⟨e, 0, none⟩), .iface 25 (.int .u64 (m : Int))] w fun e w' => e = .returned (.tuple #[]) ∧ Q w' := by
  have c0 : w.cell? ⟨e, 0, none⟩ = some (.iface 50 (.pointer (some ⟨b, 0, none⟩))) := (cell_of_row w e 0 _ 65 (0, 0) he).trans rfl
  have c2 : w.cell? ⟨e, 2, none⟩ = some (.iface 68 (.agg #[])) := (cell_of_row w e 2 _ 65 (0, 0) he).trans rfl
  have c0a : ∀ o, (w.alloc o).cell? ⟨e, 0, none⟩ = some (.iface 50 (.pointer (some ⟨b, 0, none⟩))) := fun o => pw_cell_below (below_alloc (Below.refl _ _) o) c0
  have c2a : ∀ o, (w.alloc o).cell? ⟨e, 2, none⟩ = some (.iface 68 (.agg #[])) := fun o => pw_cell_below (below_alloc (Below.refl _ _) o) c2
  have c0b : ∀ o o2, ((w.alloc o).alloc o2).cell? ⟨e, 0, none⟩ = some (.iface 50 (.pointer (some ⟨b, 0, none⟩))) := fun o o2 => pw_cell_below (below_alloc (Below.refl _ _) o2) (c0a o)
  have hmk := fun W : World => mk_slice 8 (by omega) #[.int .u8 0, .int .u8 0, .int .u8 0, .int .u8 0, .int .u8 0, .int .u8 0, .int .u8 0, .int .u8 0] (by kernel_rfl) 8 rfl W
  have hmr := m_68_2
  have hmw := m_write b
  have hnw := nil_write b
  have htb := run_tobits
  have HC := Aside0.mk HW
  clear he HW
  go_enter Tryz.func28, Tryz.ntmps28
  go_wp2_with (first | (go_at_call 114; refine (pu_68_8 m _).mono ?_; rintro e w2 ⟨rfl, rfl⟩) | (go_at_call 98; refine (HC.out _ (below_alloc (below_alloc (Below.refl _ _) _) _) _ 5 (Nat.le_refl _) (by rw [heap_alloc_old _ _ (by simp)]; exact heap_alloc_new _ _)).mono ?_; rintro e w3 ⟨rfl, hq⟩; have HQ := Aside0.mk hq; clear hq))
  all_goals
    go_end0
    exact ⟨rfl, HQ.out⟩
set_option maxRecDepth 100000 in
set_option maxHeartbeats 4000000 in
theorem bw_d67 (m : Nat) (w : World) (e b : Nat) (pos : Int) (he : w.heap[e]? = some (.cells #[.iface 50 (.pointer (some ⟨b, 0, none⟩)), .slice none 0 0, .iface 67 (.agg #[]), .int .i64 pos] 65 (0, 0))) (Q : World → Prop)
    (HW : ∀ W1, Below w.heap.size w W1 → ∀ a T, w.heap.size ≤ a → W1.heap[a]? = some (.cells #[.int .u8 ((m : Int) / 72057594037927936 % 256), .int .u8 ((m : Int) / 281474976710656 % 256), .int .u8 ((m : Int) / 1099511627776 % 256), .int .u8 ((m : Int) / 4294967296 % 256), .int .u8 ((m : Int) / 16777216 % 256), .int .u8 ((m : Int) / 65536 % 256), .int .u8 ((m : Int) / 256 % 256), .int .u8 ((m : Int) % 256)] T (0, 0)) → Calls Tryz.prog 98 #[.pointer (some ⟨b, 0, none⟩), .slice (some ⟨a, 0, none⟩) 8 8] W1 fun e w' => e = .returned (.tuple #[.int .i64 8, .nilIface]) ∧ Q w') :
    Calls Tryz.prog 28 #[.pointer (some ⟨e, 0, none⟩), .iface 91 (.float .f64 m)] w fun e w' => e = .returned (.tuple #[]) ∧ Q w' := by
  have c0 : w.cell? ⟨e, 0, none⟩ = some (.iface 50 (.pointer (some ⟨b, 0, none⟩))) := (cell_of_row w e 0 _ 65 (0, 0) he).trans rfl
  have c2 : w.cell? ⟨e, 2, none⟩ = some (.iface 67 (.agg #[])) := (cell_of_row w e 2 _ 65 (0, 0) he).trans rfl
  have c0a : ∀ o, (w.alloc o).cell? ⟨e, 0, none⟩ = some (.iface 50 (.pointer (some ⟨b, 0, none⟩))) := fun o => pw_cell_below (below_alloc (Below.refl _ _) o) c0
  have c2a : ∀ o, (w.alloc o).cell? ⟨e, 2, none⟩ = some (.iface 67 (.agg #[])) := fun o => pw_cell_below (below_alloc (Below.refl _ _) o) c2
  have c0b : ∀ o o2, ((w.alloc o).alloc o2).cell? ⟨e, 0, none⟩ = some (.iface 50 (.pointer (some ⟨b, 0, none⟩))) := fun o o2 => pw_cell_below (below_alloc (Below.refl _ _) o2) (c0a o)
  have hmk := fun W : World => mk_slice 8 (by omega) #[.int .u8 0, .int .u8 0, .int .u8 0, .int .u8 0, .int .u8 0, .int .u8 0, .int .u8 0, .int .u8 0] (by kernel_rfl) 8 rfl W
  have hmr := m_67_2
  have hmw := m_write b
  have hnw := nil_write b
  have htb := run_tobits
  have HC := Aside0.mk HW
  clear he HW
  go_enter Tryz.func28, Tryz.ntmps28
  go_wp2_with (first | (go_at_call 106; refine (pu_67_8 m _).mono ?_; rintro e w2 ⟨rfl, rfl⟩) | (go_at_call 98; refine (HC.out _ (below_alloc (below_alloc (Below.refl _ _) _) _) _ 5 (Nat.le_refl _) (by rw [heap_alloc_old _ _ (by simp)]; exact heap_alloc_new _ _)).mono ?_; rintro e w3 ⟨rfl, hq⟩; have HQ := Aside0.mk hq; clear hq))
  go_region_with (first | (go_at_call 106; refine (pu_67_8 m w.drew).mono ?_; rintro e w2 ⟨rfl, rfl⟩))
  all_goals
    have c0c : ∀ o o2, ((w.drew.alloc o).alloc o2).cell? ⟨e, 0, none⟩ = some (.iface 50 (.pointer (some ⟨b, 0, none⟩))) := fun o o2 => c0b o o2
    go_wp2_with (go_at_call 98; refine (HC.out _ (below_alloc (below_alloc (below_drew1 (Below.refl _ _)) _) _) w.heap.size 5 (Nat.le_refl _) (by rw [heap_alloc_old _ _ (by simp)]; exact heap_alloc_new w.drew _)).mono ?_; rintro e w3 ⟨rfl, hq⟩; have HQ := Aside0.mk hq; clear hq)
    go_end0
    exact ⟨rfl, HQ.out⟩
set_option maxRecDepth 100000 in
set_option maxHeartbeats 4000000 in
theorem bw_d68 (m : Nat) (w : World) (e b : Nat) (pos : Int) (he : w.heap[e]? = some (.cells #[.iface 50 (.pointer (some ⟨b, 0, none⟩)), .slice none 0 0, .iface 68 (.agg #[]), .int .i64 pos] 65 (0, 0))) (Q : World → Prop)
    (HW : ∀ W1, Below w.heap.size w W1 → ∀ a T, w.heap.size ≤ a → W1.heap[a]? = some (.cells #[.int .u8 ((m : Int) % 256), .int .u8 ((m : Int) / 256 % 256), .int .u8 ((m : Int) / 65536 % 256), .int .u8 ((m : Int) / 16777216 % 256), .int .u8 ((m : Int) / 4294967296 % 256), .int .u8 ((m : Int) / 1099511627776 % 256), .int .u8 ((m : Int) / 281474976710656 % 256), .int .u8 ((m : Int) / 72057594037927936 % 256)] T (0, 0)) → Calls Tryz.prog 98 #[.pointer (some ⟨b, 0, none⟩), .slice (some ⟨a, 0, none⟩) 8 8] W1 fun e w' => e = .returned (.tuple #[.int .i64 8, .nilIface]) ∧ Q w') :
    Calls Tryz.prog 28 #[.pointer (some ⟨e, 0, none⟩), .iface 91 (.float .f64 m)] w fun e w' => e = .returned (.tuple #[]) ∧ Q w' := by
  have c0 : w.cell? ⟨e, 0, none⟩ = some (.iface 50 (.pointer (some ⟨b, 0, none⟩))) := (cell_of_row w e 0 _ 65 (0, 0) he).trans rfl
  have c2 : w.cell? ⟨e, 2, none⟩ = some (.iface 68 (.agg #[])) := (cell_of_row w e 2 _ 65 (0, 0) he).trans rfl
  have c0a : ∀ o, (w.alloc o).cell? ⟨e, 0, none⟩ = some (.iface 50 (.pointer (some ⟨b, 0, none⟩))) := fun o => pw_cell_below (below_alloc (Below.refl _ _) o) c0
  have c2a : ∀ o, (w.alloc o).cell? ⟨e, 2, none⟩ = some (.iface 68 (.agg #[])) := fun o => pw_cell_below (below_alloc (Below.refl _ _) o) c2
  have c0b : ∀ o o2, ((w.alloc o).alloc o2).cell? ⟨e, 0, none⟩ = some (.iface 50 (.pointer (some ⟨b, 0, none⟩))) := fun o o2 => pw_cell_below (below_alloc (Below.refl _ _) o2) (c0a o)
  have hmk := fun W : World => mk_slice 8 (by omega) #[.int .u8 0, .int .u8 0, .int .u8 0, .int .u8 0, .int .u8 0, .int .u8 0, .int .u8 0, .int .u8 0] (by kernel_rfl) 8 rfl W
  have hmr := m_68_2
  have hmw := m_write b
  have hnw := nil_write b
  have htb := run_tobits
  have HC := Aside0.mk HW
  clear he HW
  go_enter Tryz.func28, Tryz.ntmps28
  go_wp2_with (first | (go_at_call 114; refine (pu_68_8 m _).mono ?_; rintro e w2 ⟨rfl, rfl⟩) | (go_at_call 98; refine (HC.out _ (below_alloc (below_alloc (Below.refl _ _) _) _) _ 5 (Nat.le_refl _) (by rw [heap_alloc_old _ _ (by simp)]; exact heap_alloc_new _ _)).mono ?_; rintro e w3 ⟨rfl, hq⟩; have HQ := Aside0.mk hq; clear hq))
  go_region_with (first | (go_at_call 114; refine (pu_68_8 m w.drew).mono ?_; rintro e w2 ⟨rfl, rfl⟩))
  all_goals
    have c0c : ∀ o o2, ((w.drew.alloc o).alloc o2).cell? ⟨e, 0, none⟩ = some (.iface 50 (.pointer (some ⟨b, 0, none⟩))) := fun o o2 => c0b o o2
    go_wp2_with (go_at_call 98; refine (HC.out _ (below_alloc (below_alloc (below_drew1 (Below.refl _ _)) _) _) w.heap.size 5 (Nat.le_refl _) (by rw [heap_alloc_old _ _ (by simp)]; exact heap_alloc_new w.drew _)).mono ?_; rintro e w3 ⟨rfl, hq⟩; have HQ := Aside0.mk hq; clear hq)
    go_end0
    exact ⟨rfl, HQ.out⟩


end Go.Proofs.YtcnhpiodomknfaaGreatDoor.MFnWrTurned
