-- A trial text of this session.
import Derived.Test.YtcnhpiodomknfaaGreatDoorWt23
namespace Go.Proofs.YtcnhpiodomknfaaGreatDoor.MFnWrTurned
open Go.RowKit Go.Proofs.YtcnhpiodomknfaaGreatDoorW.PrintWords Go.Proofs.YtcnhpiodomknfaaGreatDoorW.PrintLast Go.Proofs.YtcnhpiodomknfaaGreatDoorW.PrintMore
attribute [local go_sem] max2_int min2_int max_two min_two max_three min_three max_four min_four
set_option linter.unusedVariables false
set_option linter.unusedSimpArgs false

set_option maxRecDepth 100000 in
set_option maxHeartbeats 4000000 in
theorem sz_y (w : World) : Calls Tryz.prog 4 #[.int .u8 121] w fun e w' => e = .returned (.int .i64 1) ∧ w' = w := by
  go_enter Tryz.func4, Tryz.ntmps4
  go_wp2
  go_ret
  exact ⟨rfl, rfl⟩
set_option maxRecDepth 100000 in
set_option maxHeartbeats 4000000 in
theorem wi_y (m : Nat) (hm : m < 256) (w : World) : Calls Tryz.prog 8 #[.int .u8 121, .int .u64 (m : Int)] w fun e w' => e = .returned (.int .u64 ((m : Int))) ∧ w' = w := by
  go_enter Tryz.func8, Tryz.ntmps8
  go_wp2
  go_ret
  exact ⟨rfl, rfl⟩
set_option maxRecDepth 100000 in
set_option maxHeartbeats 4000000 in
theorem sz_n (w : World) : Calls Tryz.prog 4 #[.int .u8 110] w fun e w' => e = .returned (.int .i64 2) ∧ w' = w := by
  go_enter Tryz.func4, Tryz.ntmps4
  go_wp2
  go_ret
  exact ⟨rfl, rfl⟩
set_option maxRecDepth 100000 in
set_option maxHeartbeats 4000000 in
theorem wi_n (m : Nat) (hm : m < 65536) (w : World) : Calls Tryz.prog 8 #[.int .u8 110, .int .u64 (m : Int)] w fun e w' => e = .returned (.int .u64 (IntKind.u64.wrap (sx 2 m))) ∧ w' = w := by
  have h1 : (2 : Nat) ^ (8 * 2 - 1) = 32768 := by decide
  have h2 : (2 : Int) ^ (8 * 2) = 65536 := by decide
  have h : wrap64 (IntKind.i16.wrap (m : Int)) = sx 2 m := by unfold sx wrap64; rw [h1, h2]; simp [IntKind.wrap, IntKind.bits, IntKind.signed]; split <;> split <;> omega
  clear h1 h2
  go_enter Tryz.func8, Tryz.ntmps8
  go_wp2
  go_ret
  exact ⟨by simp [h], rfl⟩
set_option maxRecDepth 100000 in
set_option maxHeartbeats 4000000 in
theorem sz_q (w : World) : Calls Tryz.prog 4 #[.int .u8 113] w fun e w' => e = .returned (.int .i64 2) ∧ w' = w := by
  go_enter Tryz.func4, Tryz.ntmps4
  go_wp2
  go_ret
  exact ⟨rfl, rfl⟩
set_option maxRecDepth 100000 in
set_option maxHeartbeats 4000000 in
theorem wi_q (m : Nat) (hm : m < 65536) (w : World) : Calls Tryz.prog 8 #[.int .u8 113, .int .u64 (m : Int)] w fun e w' => e = .returned (.int .u64 ((m : Int))) ∧ w' = w := by
  go_enter Tryz.func8, Tryz.ntmps8
  go_wp2
  go_ret
  exact ⟨rfl, rfl⟩
set_option maxRecDepth 100000 in
set_option maxHeartbeats 4000000 in
theorem sz_i (w : World) : Calls Tryz.prog 4 #[.int .u8 105] w fun e w' => e = .returned (.int .i64 4) ∧ w' = w := by
  go_enter Tryz.func4, Tryz.ntmps4
  go_wp2
  go_ret
  exact ⟨rfl, rfl⟩
set_option maxRecDepth 100000 in
set_option maxHeartbeats 4000000 in
theorem wi_i (m : Nat) (hm : m < 4294967296) (w : World) : Calls Tryz.prog 8 #[.int .u8 105, .int .u64 (m : Int)] w fun e w' => e = .returned (.int .u64 (IntKind.u64.wrap (sx 4 m))) ∧ w' = w := by
  have h1 : (2 : Nat) ^ (8 * 4 - 1) = 2147483648 := by decide
  have h2 : (2 : Int) ^ (8 * 4) = 4294967296 := by decide
  have h : wrap64 (wrap32 (m : Int)) = sx 4 m := by unfold sx wrap64 wrap32; rw [h1, h2]; split <;> omega
  clear h1 h2
  go_enter Tryz.func8, Tryz.ntmps8
  go_wp2
  go_ret
  exact ⟨by simp [h], rfl⟩
set_option maxRecDepth 100000 in
set_option maxHeartbeats 4000000 in
theorem sz_u (w : World) : Calls Tryz.prog 4 #[.int .u8 117] w fun e w' => e = .returned (.int .i64 4) ∧ w' = w := by
  go_enter Tryz.func4, Tryz.ntmps4
  go_wp2
  go_ret
  exact ⟨rfl, rfl⟩
set_option maxRecDepth 100000 in
set_option maxHeartbeats 4000000 in
theorem wi_u (m : Nat) (hm : m < 4294967296) (w : World) : Calls Tryz.prog 8 #[.int .u8 117, .int .u64 (m : Int)] w fun e w' => e = .returned (.int .u64 ((m : Int))) ∧ w' = w := by
  go_enter Tryz.func8, Tryz.ntmps8
  go_wp2
  go_ret
  exact ⟨rfl, rfl⟩
set_option maxRecDepth 100000 in
set_option maxHeartbeats 4000000 in
theorem sz_x (w : World) : Calls Tryz.prog 4 #[.int .u8 120] w fun e w' => e = .returned (.int .i64 8) ∧ w' = w := by
  go_enter Tryz.func4, Tryz.ntmps4
  go_wp2
  go_ret
  exact ⟨rfl, rfl⟩
set_option maxRecDepth 100000 in
set_option maxHeartbeats 4000000 in
theorem wi_x (m : Nat) (hm : m < 18446744073709551616) (w : World) : Calls Tryz.prog 8 #[.int .u8 120, .int .u64 (m : Int)] w fun e w' => e = .returned (.int .u64 (IntKind.u64.wrap (sx 8 m))) ∧ w' = w := by
  have h := (sx_x m hm).2.2
  go_enter Tryz.func8, Tryz.ntmps8
  go_wp2
  go_ret
  exact ⟨by simp [h], rfl⟩
set_option maxRecDepth 100000 in
set_option maxHeartbeats 4000000 in
theorem sz_t (w : World) : Calls Tryz.prog 4 #[.int .u8 116] w fun e w' => e = .returned (.int .i64 8) ∧ w' = w := by
  go_enter Tryz.func4, Tryz.ntmps4
  go_wp2
  go_ret
  exact ⟨rfl, rfl⟩
set_option maxRecDepth 100000 in
set_option maxHeartbeats 4000000 in
theorem wi_t (m : Nat) (hm : m < 18446744073709551616) (w : World) : Calls Tryz.prog 8 #[.int .u8 116, .int .u64 (m : Int)] w fun e w' => e = .returned (.int .u64 ((m : Int))) ∧ w' = w := by
  go_enter Tryz.func8, Tryz.ntmps8
  go_wp2
  go_ret
  exact ⟨rfl, rfl⟩
set_option maxRecDepth 100000 in
set_option maxHeartbeats 4000000 in
theorem sz_d (w : World) : Calls Tryz.prog 4 #[.int .u8 100] w fun e w' => e = .returned (.int .i64 8) ∧ w' = w := by
  go_enter Tryz.func4, Tryz.ntmps4
  go_wp2
  go_ret
  exact ⟨rfl, rfl⟩
set_option maxRecDepth 100000 in
set_option maxHeartbeats 4000000 in
theorem wi_d (m : Nat) (hm : m < 18446744073709551616) (w : World) : Calls Tryz.prog 8 #[.int .u8 100, .int .u64 (m : Int)] w fun e w' => e = .returned (.int .u64 ((m : Int))) ∧ w' = w := by
  go_enter Tryz.func8, Tryz.ntmps8
  go_wp2
  go_ret
  exact ⟨rfl, rfl⟩
set_option maxRecDepth 100000 in
set_option maxHeartbeats 4000000 in
theorem sz_h (w : World) : Calls Tryz.prog 4 #[.int .u8 104] w fun e w' => e = .returned (.int .i64 4) ∧ w' = w := by
  go_enter Tryz.func4, Tryz.ntmps4
  go_wp2
  go_ret
  exact ⟨rfl, rfl⟩
set_option maxRecDepth 100000 in
set_option maxHeartbeats 4000000 in
theorem wi_h (m : Nat) (hm : m < 4294967296) (w : World) : Calls Tryz.prog 8 #[.int .u8 104, .int .u64 (m : Int)] w fun e w' => e = .returned (.int .u64 ((m : Int))) ∧ w' = w := by
  go_enter Tryz.func8, Tryz.ntmps8
  go_wp2
  go_ret
  exact ⟨rfl, rfl⟩
theorem mk1 (v : Nat) (hv : v < 18446744073709551616) : bits BinOp.and IntKind.u64 (v : Int) 255 = ((v % 256 : Nat) : Int) := by
  have h := Nat.and_two_pow_sub_one_eq_mod v 8
  have h1 : v % 2 ^ IntKind.u64.bits = v := Nat.mod_eq_of_lt (by simpa [IntKind.bits] using hv)
  have h2 : 255 % 2 ^ IntKind.u64.bits = 2 ^ 8 - 1 := by decide
  simp [bits]
  rw [h1, h2, h, IntKind.wrap_u64]
  omega
theorem mk2 (v : Nat) (hv : v < 18446744073709551616) : bits BinOp.and IntKind.u64 (v : Int) 65535 = ((v % 65536 : Nat) : Int) := by
  have h := Nat.and_two_pow_sub_one_eq_mod v 16
  have h1 : v % 2 ^ IntKind.u64.bits = v := Nat.mod_eq_of_lt (by simpa [IntKind.bits] using hv)
  have h2 : 65535 % 2 ^ IntKind.u64.bits = 2 ^ 16 - 1 := by decide
  simp [bits]
  rw [h1, h2, h, IntKind.wrap_u64]
  omega
theorem mk4 (v : Nat) (hv : v < 18446744073709551616) : bits BinOp.and IntKind.u64 (v : Int) 4294967295 = ((v % 4294967296 : Nat) : Int) := by
  have h := Nat.and_two_pow_sub_one_eq_mod v 32
  have h1 : v % 2 ^ IntKind.u64.bits = v := Nat.mod_eq_of_lt (by simpa [IntKind.bits] using hv)
  have h2 : 4294967295 % 2 ^ IntKind.u64.bits = 2 ^ 32 - 1 := by decide
  simp [bits]
  rw [h1, h2, h, IntKind.wrap_u64]
  omega
theorem inf28 : (Tryz.prog.info? 28).map (·.size) = some 4 := by kernel_rfl
set_option maxRecDepth 100000 in
set_option maxHeartbeats 16000000 in
theorem wn1 (c N : Int) (m v : Nat) (hv : v < 18446744073709551616) (hm : v % 256 = m) (hS : ∀ W, Calls Tryz.prog 4 #[.int .u8 c] W fun e w' => e = .returned (.int .i64 1) ∧ w' = W) (hW : ∀ W, Calls Tryz.prog 8 #[.int .u8 c, .int .u64 (m : Int)] W fun e w' => e = .returned (.int .u64 N) ∧ w' = W) (w : World) :
    Calls Tryz.prog 5 #[.int .u8 c, .int .u64 (v : Int), .bool false] w fun e w' => ∃ t, e = .returned (.tuple #[.agg #[.int .u8 c, .int .u64 N, .string ⟨#[]⟩, .slice none 0 0], .string t]) ∧ Below w.heap.size w w' := by
  have hmk := fun W : World => mk_slice 1 (by omega) #[.int .u8 0] (by kernel_rfl) 1 rfl W
  have HS := Aside0.mk hS
  have HW := Aside0.mk hW
  clear hS hW
  have hmk2 := mk1 v hv
  rw [hm] at hmk2
  go_enter Tryz.func5, Tryz.ntmps5
  go_wp2_with (first
    | (go_at_call 4; refine (HS.out _).mono ?_; rintro e1 w2 ⟨rfl, rfl⟩))
  go_loopg [27] 1 (fun kq v27 wr => ∃ (i : Nat) (xs : List Int), v27 = .int .i64 (i : Int) ∧ i ≤ 1 ∧ Aside0 (xs.length = 1 ∧ kq = 1 - i ∧ Below w.heap.size w wr ∧ wr.heap[w.heap.size + 1]? = some (.cells (nums .u8 xs).toArray 5 (0, 0)) ∧ wr.heap[w.heap.size]? = some (.cells #[.int .u8 0, .int .u64 0, .string ⟨#[]⟩, .slice none 0 0] 28 (0, 0))))
  case atStart =>
    refine ⟨0, List.replicate 1 0, rfl, by omega, ⟨rfl, rfl, below_alloc (below_alloc (Below.refl _ _) _) _, ?_, ?_⟩⟩
    · have h := heap_alloc_new (w.alloc (.cells #[.int .u8 0, .int .u64 0, .string ⟨#[]⟩, .slice none 0 0] 28)) (.cells #[.int .u8 0] 5)
      simpa [nums] using h
    · rw [heap_alloc_old _ _ (by simp)]
      exact heap_alloc_new _ _
  case round =>
    obtain ⟨i, xs, rfl, hi, HI⟩ := hrel
    by_cases hlt : i < 1
    · have hd : decide ((i : Int) < 1) = true := by simp; omega
      have hwi : IntKind.i64.wrap ((i : Int) + 1) = ((i + 1 : Nat) : Int) := by rw [IntKind.wrap_i64]; omega
      have hlen := HI.out.1
      have hc : wr.cell? ⟨w.heap.size + 1, i, none⟩ = some (.int .u8 (xs.getD i 0)) := (cell_of_row wr (w.heap.size + 1) i _ 5 (0, 0) HI.out.2.2.2.1).trans (by simp [nums, List.getElem?_eq_getElem (show i < xs.length by omega), List.getD_eq_getElem?_getD])
      have hfz := frozen_of_row wr (w.heap.size + 1) i _ 5 HI.out.2.2.2.1
      have HSET : Aside0 (∀ Y, (wr.setCell ⟨w.heap.size + 1, i, none⟩ (.int .u8 Y)).heap[w.heap.size + 1]? = some (.cells (nums .u8 (xs.set i Y)).toArray 5 (0, 0))) := ⟨fun Y => (heap_setCell_same wr (w.heap.size + 1) i _ 5 (.int .u8 Y) HI.out.2.2.2.1).trans (by simp [nums, List.map_set])⟩
      go_wp2_with fail
      go_roundg (1 - (i + 1))
      case measure => have := HI.out.2.1; omega
      case rel => exact ⟨i + 1, xs.set i _, by first | rfl | simp, by omega, ⟨by rw [List.length_set]; exact hlen, rfl, HI.out.2.2.1.setCell (by show w.heap.size ≤ w.heap.size + 1; omega) _, HSET.out _, (Below.heap_setCell wr ⟨w.heap.size + 1, i, none⟩ _ w.heap.size (by show w.heap.size ≠ w.heap.size + 1; omega)).trans HI.out.2.2.2.2⟩⟩
    · have hd : decide ((i : Int) < 1) = false := by simp; omega
      have hlen := HI.out.1
      have hcv : ∀ W : World, W.heap[w.heap.size + 1]? = some (.cells (nums .u8 xs).toArray 5 (0, 0)) → (convert 24 9 (.slice (some ⟨w.heap.size + 1, 0, none⟩) 1 1)).run Tryz.prog W = .ok (.string (strOfNums xs)) W := fun W h =>
        own_string (base := w.heap.size + 1) (e' := 5) Tryz.underlying24 Tryz.underlying5 Tryz.underlying9 (n := 1) ⟨by simp [nums, hlen], .inr ⟨w.heap.size + 1, 1, (nums .u8 xs).toArray, rfl, Nat.le_refl _, h, Nat.le_refl _, by decide, by simp [nums, hlen], by rw [Nat.mul_one]; exact List.take_of_length_le (by simp [nums, hlen])⟩⟩
      have hset : (((((wr.drew.setCell ⟨w.heap.size, 0, none⟩ (.int .u8 c)).setCell ⟨w.heap.size, 1, none⟩ (.int .u64 N)).setCell ⟨w.heap.size, 2, none⟩ (.string ⟨#[]⟩)).setCell ⟨w.heap.size, 3, none⟩ (.slice none 0 0)).heap[w.heap.size + 1]? = some (.cells (nums .u8 xs).toArray 5 (0, 0))) := by
        rw [Below.heap_setCell _ ⟨w.heap.size, 3, none⟩ _ _ (by show w.heap.size + 1 ≠ w.heap.size; omega), Below.heap_setCell _ ⟨w.heap.size, 2, none⟩ _ _ (by show w.heap.size + 1 ≠ w.heap.size; omega), Below.heap_setCell _ ⟨w.heap.size, 1, none⟩ _ _ (by show w.heap.size + 1 ≠ w.heap.size; omega), Below.heap_setCell _ ⟨w.heap.size, 0, none⟩ _ _ (by show w.heap.size + 1 ≠ w.heap.size; omega)]
        exact HI.out.2.2.2.1
      have hv0 := hcv wr.drew HI.out.2.2.2.1
      have hv1 := hcv _ hset
      have hv2 := hcv ((((wr.setCell ⟨w.heap.size, 0, none⟩ (.int .u8 c)).setCell ⟨w.heap.size, 1, none⟩ (.int .u64 N)).setCell ⟨w.heap.size, 2, none⟩ (.string ⟨#[]⟩)).setCell ⟨w.heap.size, 3, none⟩ (.slice none 0 0)).drew hset
      have h6 := HI.out.2.2.2.2
      have b0 : wr.drew.cell? ⟨w.heap.size, 0, none⟩ = some (.int .u8 0) := (cell_of_row wr w.heap.size 0 _ 28 (0, 0) h6).trans rfl
      have b1 : wr.drew.cell? ⟨w.heap.size, 1, none⟩ = some (.int .u64 0) := (cell_of_row wr w.heap.size 1 _ 28 (0, 0) h6).trans rfl
      have b2 : wr.drew.cell? ⟨w.heap.size, 2, none⟩ = some (.string ⟨#[]⟩) := (cell_of_row wr w.heap.size 2 _ 28 (0, 0) h6).trans rfl
      have b3 : wr.drew.cell? ⟨w.heap.size, 3, none⟩ = some (.slice none 0 0) := (cell_of_row wr w.heap.size 3 _ 28 (0, 0) h6).trans rfl
      have z0 : wr.drew.frozen? ⟨w.heap.size, 0, none⟩ = false := frozen_of_row wr w.heap.size 0 _ 28 h6
      have z1 : wr.drew.frozen? ⟨w.heap.size, 1, none⟩ = false := frozen_of_row wr w.heap.size 1 _ 28 h6
      have z2 : wr.drew.frozen? ⟨w.heap.size, 2, none⟩ = false := frozen_of_row wr w.heap.size 2 _ 28 h6
      have z3 : wr.drew.frozen? ⟨w.heap.size, 3, none⟩ = false := frozen_of_row wr w.heap.size 3 _ 28 h6
      have c0 : wr.cell? ⟨w.heap.size, 0, none⟩ = some (.int .u8 0) := b0
      have c1 : wr.cell? ⟨w.heap.size, 1, none⟩ = some (.int .u64 0) := b1
      have c2 : wr.cell? ⟨w.heap.size, 2, none⟩ = some (.string ⟨#[]⟩) := b2
      have c3 : wr.cell? ⟨w.heap.size, 3, none⟩ = some (.slice none 0 0) := b3
      have y0 := frozen_of_row wr w.heap.size 0 _ 28 h6
      have y1 := frozen_of_row wr w.heap.size 1 _ 28 h6
      have y2 := frozen_of_row wr w.heap.size 2 _ 28 h6
      have y3 := frozen_of_row wr w.heap.size 3 _ 28 h6
      have hq := heap_setCell_same (((wr.setCell ⟨w.heap.size, 0, none⟩ (.int .u8 c)).setCell ⟨w.heap.size, 1, none⟩ (.int .u64 N)).setCell ⟨w.heap.size, 2, none⟩ (.string ⟨#[]⟩)) w.heap.size 3 _ 28 (.slice none 0 0) (heap_setCell_same ((wr.setCell ⟨w.heap.size, 0, none⟩ (.int .u8 c)).setCell ⟨w.heap.size, 1, none⟩ (.int .u64 N)) w.heap.size 2 _ 28 (.string ⟨#[]⟩) (heap_setCell_same (wr.setCell ⟨w.heap.size, 0, none⟩ (.int .u8 c)) w.heap.size 1 _ 28 (.int .u64 N) (heap_setCell_same wr w.heap.size 0 _ 28 (.int .u8 c) h6)))
      have hbq := ((((HI.out.2.2.1.setCell (p := ⟨w.heap.size, 0, none⟩) (Nat.le_refl _) (.int .u8 c)).setCell (p := ⟨w.heap.size, 1, none⟩) (Nat.le_refl _) (.int .u64 N)).setCell (p := ⟨w.heap.size, 2, none⟩) (Nat.le_refl _) (.string ⟨#[]⟩)).setCell (p := ⟨w.heap.size, 3, none⟩) (Nat.le_refl _) (.slice none 0 0))
      have HQ := Aside0.mk hq
      have HBQ := Aside0.mk hbq
      clear hcv hset h6 hq hbq
      go_wp2_with fail
      go_region_with (go_at_call 8; refine (HW.out _).mono ?_; rintro e1 w9 ⟨rfl, rfl⟩)
      all_goals
        go_wp2
        refine bodyPost_ret (results_ct rfl _ _ w.heap.size 28 _ (0, 0) _ rfl HQ.out Tryz.underlying28 rfl inf28) rfl ?_
        exact ⟨_, rfl, below_drew1 HBQ.out⟩

set_option maxRecDepth 100000 in
set_option maxHeartbeats 16000000 in
theorem wn2 (c N : Int) (m v : Nat) (hv : v < 18446744073709551616) (hm : v % 65536 = m) (hS : ∀ W, Calls Tryz.prog 4 #[.int .u8 c] W fun e w' => e = .returned (.int .i64 2) ∧ w' = W) (hW : ∀ W, Calls Tryz.prog 8 #[.int .u8 c, .int .u64 (m : Int)] W fun e w' => e = .returned (.int .u64 N) ∧ w' = W) (w : World) :
    Calls Tryz.prog 5 #[.int .u8 c, .int .u64 (v : Int), .bool false] w fun e w' => ∃ t, e = .returned (.tuple #[.agg #[.int .u8 c, .int .u64 N, .string ⟨#[]⟩, .slice none 0 0], .string t]) ∧ Below w.heap.size w w' := by
  have hmk := fun W : World => mk_slice 2 (by omega) #[.int .u8 0, .int .u8 0] (by kernel_rfl) 2 rfl W
  have HS := Aside0.mk hS
  have HW := Aside0.mk hW
  clear hS hW
  have hmk2 := mk2 v hv
  rw [hm] at hmk2
  go_enter Tryz.func5, Tryz.ntmps5
  go_wp2_with (first
    | (go_at_call 4; refine (HS.out _).mono ?_; rintro e1 w2 ⟨rfl, rfl⟩))
  go_loopg [27] 2 (fun kq v27 wr => ∃ (i : Nat) (xs : List Int), v27 = .int .i64 (i : Int) ∧ i ≤ 2 ∧ Aside0 (xs.length = 2 ∧ kq = 2 - i ∧ Below w.heap.size w wr ∧ wr.heap[w.heap.size + 1]? = some (.cells (nums .u8 xs).toArray 5 (0, 0)) ∧ wr.heap[w.heap.size]? = some (.cells #[.int .u8 0, .int .u64 0, .string ⟨#[]⟩, .slice none 0 0] 28 (0, 0))))
  case atStart =>
    refine ⟨0, List.replicate 2 0, rfl, by omega, ⟨rfl, rfl, below_alloc (below_alloc (Below.refl _ _) _) _, ?_, ?_⟩⟩
    · have h := heap_alloc_new (w.alloc (.cells #[.int .u8 0, .int .u64 0, .string ⟨#[]⟩, .slice none 0 0] 28)) (.cells #[.int .u8 0, .int .u8 0] 5)
      simpa [nums] using h
    · rw [heap_alloc_old _ _ (by simp)]
      exact heap_alloc_new _ _
  case round =>
    obtain ⟨i, xs, rfl, hi, HI⟩ := hrel
    by_cases hlt : i < 2
    · have hd : decide ((i : Int) < 2) = true := by simp; omega
      have hwi : IntKind.i64.wrap ((i : Int) + 1) = ((i + 1 : Nat) : Int) := by rw [IntKind.wrap_i64]; omega
      have hlen := HI.out.1
      have hc : wr.cell? ⟨w.heap.size + 1, i, none⟩ = some (.int .u8 (xs.getD i 0)) := (cell_of_row wr (w.heap.size + 1) i _ 5 (0, 0) HI.out.2.2.2.1).trans (by simp [nums, List.getElem?_eq_getElem (show i < xs.length by omega), List.getD_eq_getElem?_getD])
      have hfz := frozen_of_row wr (w.heap.size + 1) i _ 5 HI.out.2.2.2.1
      have HSET : Aside0 (∀ Y, (wr.setCell ⟨w.heap.size + 1, i, none⟩ (.int .u8 Y)).heap[w.heap.size + 1]? = some (.cells (nums .u8 (xs.set i Y)).toArray 5 (0, 0))) := ⟨fun Y => (heap_setCell_same wr (w.heap.size + 1) i _ 5 (.int .u8 Y) HI.out.2.2.2.1).trans (by simp [nums, List.map_set])⟩
      go_wp2_with fail
      go_roundg (2 - (i + 1))
      case measure => have := HI.out.2.1; omega
      case rel => exact ⟨i + 1, xs.set i _, by first | rfl | simp, by omega, ⟨by rw [List.length_set]; exact hlen, rfl, HI.out.2.2.1.setCell (by show w.heap.size ≤ w.heap.size + 1; omega) _, HSET.out _, (Below.heap_setCell wr ⟨w.heap.size + 1, i, none⟩ _ w.heap.size (by show w.heap.size ≠ w.heap.size + 1; omega)).trans HI.out.2.2.2.2⟩⟩
    · have hd : decide ((i : Int) < 2) = false := by simp; omega
      have hlen := HI.out.1
      have hcv : ∀ W : World, W.heap[w.heap.size + 1]? = some (.cells (nums .u8 xs).toArray 5 (0, 0)) → (convert 24 9 (.slice (some ⟨w.heap.size + 1, 0, none⟩) 2 2)).run Tryz.prog W = .ok (.string (strOfNums xs)) W := fun W h =>
        own_string (base := w.heap.size + 1) (e' := 5) Tryz.underlying24 Tryz.underlying5 Tryz.underlying9 (n := 2) ⟨by simp [nums, hlen], .inr ⟨w.heap.size + 1, 2, (nums .u8 xs).toArray, rfl, Nat.le_refl _, h, Nat.le_refl _, by decide, by simp [nums, hlen], by rw [Nat.mul_one]; exact List.take_of_length_le (by simp [nums, hlen])⟩⟩
      have hset : (((((wr.drew.setCell ⟨w.heap.size, 0, none⟩ (.int .u8 c)).setCell ⟨w.heap.size, 1, none⟩ (.int .u64 N)).setCell ⟨w.heap.size, 2, none⟩ (.string ⟨#[]⟩)).setCell ⟨w.heap.size, 3, none⟩ (.slice none 0 0)).heap[w.heap.size + 1]? = some (.cells (nums .u8 xs).toArray 5 (0, 0))) := by
        rw [Below.heap_setCell _ ⟨w.heap.size, 3, none⟩ _ _ (by show w.heap.size + 1 ≠ w.heap.size; omega), Below.heap_setCell _ ⟨w.heap.size, 2, none⟩ _ _ (by show w.heap.size + 1 ≠ w.heap.size; omega), Below.heap_setCell _ ⟨w.heap.size, 1, none⟩ _ _ (by show w.heap.size + 1 ≠ w.heap.size; omega), Below.heap_setCell _ ⟨w.heap.size, 0, none⟩ _ _ (by show w.heap.size + 1 ≠ w.heap.size; omega)]
        exact HI.out.2.2.2.1
      have hv0 := hcv wr.drew HI.out.2.2.2.1
      have hv1 := hcv _ hset
      have hv2 := hcv ((((wr.setCell ⟨w.heap.size, 0, none⟩ (.int .u8 c)).setCell ⟨w.heap.size, 1, none⟩ (.int .u64 N)).setCell ⟨w.heap.size, 2, none⟩ (.string ⟨#[]⟩)).setCell ⟨w.heap.size, 3, none⟩ (.slice none 0 0)).drew hset
      have h6 := HI.out.2.2.2.2
      have b0 : wr.drew.cell? ⟨w.heap.size, 0, none⟩ = some (.int .u8 0) := (cell_of_row wr w.heap.size 0 _ 28 (0, 0) h6).trans rfl
      have b1 : wr.drew.cell? ⟨w.heap.size, 1, none⟩ = some (.int .u64 0) := (cell_of_row wr w.heap.size 1 _ 28 (0, 0) h6).trans rfl
      have b2 : wr.drew.cell? ⟨w.heap.size, 2, none⟩ = some (.string ⟨#[]⟩) := (cell_of_row wr w.heap.size 2 _ 28 (0, 0) h6).trans rfl
      have b3 : wr.drew.cell? ⟨w.heap.size, 3, none⟩ = some (.slice none 0 0) := (cell_of_row wr w.heap.size 3 _ 28 (0, 0) h6).trans rfl
      have z0 : wr.drew.frozen? ⟨w.heap.size, 0, none⟩ = false := frozen_of_row wr w.heap.size 0 _ 28 h6
      have z1 : wr.drew.frozen? ⟨w.heap.size, 1, none⟩ = false := frozen_of_row wr w.heap.size 1 _ 28 h6
      have z2 : wr.drew.frozen? ⟨w.heap.size, 2, none⟩ = false := frozen_of_row wr w.heap.size 2 _ 28 h6
      have z3 : wr.drew.frozen? ⟨w.heap.size, 3, none⟩ = false := frozen_of_row wr w.heap.size 3 _ 28 h6
      have c0 : wr.cell? ⟨w.heap.size, 0, none⟩ = some (.int .u8 0) := b0
      have c1 : wr.cell? ⟨w.heap.size, 1, none⟩ = some (.int .u64 0) := b1
      have c2 : wr.cell? ⟨w.heap.size, 2, none⟩ = some (.string ⟨#[]⟩) := b2
      have c3 : wr.cell? ⟨w.heap.size, 3, none⟩ = some (.slice none 0 0) := b3
      have y0 := frozen_of_row wr w.heap.size 0 _ 28 h6
      have y1 := frozen_of_row wr w.heap.size 1 _ 28 h6
      have y2 := frozen_of_row wr w.heap.size 2 _ 28 h6
      have y3 := frozen_of_row wr w.heap.size 3 _ 28 h6
      have hq := heap_setCell_same (((wr.setCell ⟨w.heap.size, 0, none⟩ (.int .u8 c)).setCell ⟨w.heap.size, 1, none⟩ (.int .u64 N)).setCell ⟨w.heap.size, 2, none⟩ (.string ⟨#[]⟩)) w.heap.size 3 _ 28 (.slice none 0 0) (heap_setCell_same ((wr.setCell ⟨w.heap.size, 0, none⟩ (.int .u8 c)).setCell ⟨w.heap.size, 1, none⟩ (.int .u64 N)) w.heap.size 2 _ 28 (.string ⟨#[]⟩) (heap_setCell_same (wr.setCell ⟨w.heap.size, 0, none⟩ (.int .u8 c)) w.heap.size 1 _ 28 (.int .u64 N) (heap_setCell_same wr w.heap.size 0 _ 28 (.int .u8 c) h6)))
      have hbq := ((((HI.out.2.2.1.setCell (p := ⟨w.heap.size, 0, none⟩) (Nat.le_refl _) (.int .u8 c)).setCell (p := ⟨w.heap.size, 1, none⟩) (Nat.le_refl _) (.int .u64 N)).setCell (p := ⟨w.heap.size, 2, none⟩) (Nat.le_refl _) (.string ⟨#[]⟩)).setCell (p := ⟨w.heap.size, 3, none⟩) (Nat.le_refl _) (.slice none 0 0))
      have HQ := Aside0.mk hq
      have HBQ := Aside0.mk hbq
      clear hcv hset h6 hq hbq
      go_wp2_with fail
      go_region_with (go_at_call 8; refine (HW.out _).mono ?_; rintro e1 w9 ⟨rfl, rfl⟩)
      all_goals
        go_wp2
        refine bodyPost_ret (results_ct rfl _ _ w.heap.size 28 _ (0, 0) _ rfl HQ.out Tryz.underlying28 rfl inf28) rfl ?_
        exact ⟨_, rfl, below_drew1 HBQ.out⟩

set_option maxRecDepth 100000 in
set_option maxHeartbeats 16000000 in
theorem wn4 (c N : Int) (m v : Nat) (hv : v < 18446744073709551616) (hm : v % 4294967296 = m) (hS : ∀ W, Calls Tryz.prog 4 #[.int .u8 c] W fun e w' => e = .returned (.int .i64 4) ∧ w' = W) (hW : ∀ W, Calls Tryz.prog 8 #[.int .u8 c, .int .u64 (m : Int)] W fun e w' => e = .returned (.int .u64 N) ∧ w' = W) (w : World) :
    Calls Tryz.prog 5 #[.int .u8 c, .int .u64 (v : Int), .bool false] w fun e w' => ∃ t, e = .returned (.tuple #[.agg #[.int .u8 c, .int .u64 N, .string ⟨#[]⟩, .slice none 0 0], .string t]) ∧ Below w.heap.size w w' := by
  have hmk := fun W : World => mk_slice 4 (by omega) #[.int .u8 0, .int .u8 0, .int .u8 0, .int .u8 0] (by kernel_rfl) 4 rfl W
  have HS := Aside0.mk hS
  have HW := Aside0.mk hW
  clear hS hW
  have hmk2 := mk4 v hv
  rw [hm] at hmk2
  go_enter Tryz.func5, Tryz.ntmps5
  go_wp2_with (first
    | (go_at_call 4; refine (HS.out _).mono ?_; rintro e1 w2 ⟨rfl, rfl⟩))
  go_loopg [27] 4 (fun kq v27 wr => ∃ (i : Nat) (xs : List Int), v27 = .int .i64 (i : Int) ∧ i ≤ 4 ∧ Aside0 (xs.length = 4 ∧ kq = 4 - i ∧ Below w.heap.size w wr ∧ wr.heap[w.heap.size + 1]? = some (.cells (nums .u8 xs).toArray 5 (0, 0)) ∧ wr.heap[w.heap.size]? = some (.cells #[.int .u8 0, .int .u64 0, .string ⟨#[]⟩, .slice none 0 0] 28 (0, 0))))
  case atStart =>
    refine ⟨0, List.replicate 4 0, rfl, by omega, ⟨rfl, rfl, below_alloc (below_alloc (Below.refl _ _) _) _, ?_, ?_⟩⟩
    · have h := heap_alloc_new (w.alloc (.cells #[.int .u8 0, .int .u64 0, .string ⟨#[]⟩, .slice none 0 0] 28)) (.cells #[.int .u8 0, .int .u8 0, .int .u8 0, .int .u8 0] 5)
      simpa [nums] using h
    · rw [heap_alloc_old _ _ (by simp)]
      exact heap_alloc_new _ _
  case round =>
    obtain ⟨i, xs, rfl, hi, HI⟩ := hrel
    by_cases hlt : i < 4
    · have hd : decide ((i : Int) < 4) = true := by simp; omega
      have hwi : IntKind.i64.wrap ((i : Int) + 1) = ((i + 1 : Nat) : Int) := by rw [IntKind.wrap_i64]; omega
      have hlen := HI.out.1
      have hc : wr.cell? ⟨w.heap.size + 1, i, none⟩ = some (.int .u8 (xs.getD i 0)) := (cell_of_row wr (w.heap.size + 1) i _ 5 (0, 0) HI.out.2.2.2.1).trans (by simp [nums, List.getElem?_eq_getElem (show i < xs.length by omega), List.getD_eq_getElem?_getD])
      have hfz := frozen_of_row wr (w.heap.size + 1) i _ 5 HI.out.2.2.2.1
      have HSET : Aside0 (∀ Y, (wr.setCell ⟨w.heap.size + 1, i, none⟩ (.int .u8 Y)).heap[w.heap.size + 1]? = some (.cells (nums .u8 (xs.set i Y)).toArray 5 (0, 0))) := ⟨fun Y => (heap_setCell_same wr (w.heap.size + 1) i _ 5 (.int .u8 Y) HI.out.2.2.2.1).trans (by simp [nums, List.map_set])⟩
      go_wp2_with fail
      go_roundg (4 - (i + 1))
      case measure => have := HI.out.2.1; omega
      case rel => exact ⟨i + 1, xs.set i _, by first | rfl | simp, by omega, ⟨by rw [List.length_set]; exact hlen, rfl, HI.out.2.2.1.setCell (by show w.heap.size ≤ w.heap.size + 1; omega) _, HSET.out _, (Below.heap_setCell wr ⟨w.heap.size + 1, i, none⟩ _ w.heap.size (by show w.heap.size ≠ w.heap.size + 1; omega)).trans HI.out.2.2.2.2⟩⟩
    · have hd : decide ((i : Int) < 4) = false := by simp; omega
      have hlen := HI.out.1
      have hcv : ∀ W : World, W.heap[w.heap.size + 1]? = some (.cells (nums .u8 xs).toArray 5 (0, 0)) → (convert 24 9 (.slice (some ⟨w.heap.size + 1, 0, none⟩) 4 4)).run Tryz.prog W = .ok (.string (strOfNums xs)) W := fun W h =>
        own_string (base := w.heap.size + 1) (e' := 5) Tryz.underlying24 Tryz.underlying5 Tryz.underlying9 (n := 4) ⟨by simp [nums, hlen], .inr ⟨w.heap.size + 1, 4, (nums .u8 xs).toArray, rfl, Nat.le_refl _, h, Nat.le_refl _, by decide, by simp [nums, hlen], by rw [Nat.mul_one]; exact List.take_of_length_le (by simp [nums, hlen])⟩⟩
      have hset : (((((wr.drew.setCell ⟨w.heap.size, 0, none⟩ (.int .u8 c)).setCell ⟨w.heap.size, 1, none⟩ (.int .u64 N)).setCell ⟨w.heap.size, 2, none⟩ (.string ⟨#[]⟩)).setCell ⟨w.heap.size, 3, none⟩ (.slice none 0 0)).heap[w.heap.size + 1]? = some (.cells (nums .u8 xs).toArray 5 (0, 0))) := by
        rw [Below.heap_setCell _ ⟨w.heap.size, 3, none⟩ _ _ (by show w.heap.size + 1 ≠ w.heap.size; omega), Below.heap_setCell _ ⟨w.heap.size, 2, none⟩ _ _ (by show w.heap.size + 1 ≠ w.heap.size; omega), Below.heap_setCell _ ⟨w.heap.size, 1, none⟩ _ _ (by show w.heap.size + 1 ≠ w.heap.size; omega), Below.heap_setCell _ ⟨w.heap.size, 0, none⟩ _ _ (by show w.heap.size + 1 ≠ w.heap.size; omega)]
        exact HI.out.2.2.2.1
      have hv0 := hcv wr.drew HI.out.2.2.2.1
      have hv1 := hcv _ hset
      have hv2 := hcv ((((wr.setCell ⟨w.heap.size, 0, none⟩ (.int .u8 c)).setCell ⟨w.heap.size, 1, none⟩ (.int .u64 N)).setCell ⟨w.heap.size, 2, none⟩ (.string ⟨#[]⟩)).setCell ⟨w.heap.size, 3, none⟩ (.slice none 0 0)).drew hset
      have h6 := HI.out.2.2.2.2
      have b0 : wr.drew.cell? ⟨w.heap.size, 0, none⟩ = some (.int .u8 0) := (cell_of_row wr w.heap.size 0 _ 28 (0, 0) h6).trans rfl
      have b1 : wr.drew.cell? ⟨w.heap.size, 1, none⟩ = some (.int .u64 0) := (cell_of_row wr w.heap.size 1 _ 28 (0, 0) h6).trans rfl
      have b2 : wr.drew.cell? ⟨w.heap.size, 2, none⟩ = some (.string ⟨#[]⟩) := (cell_of_row wr w.heap.size 2 _ 28 (0, 0) h6).trans rfl
      have b3 : wr.drew.cell? ⟨w.heap.size, 3, none⟩ = some (.slice none 0 0) := (cell_of_row wr w.heap.size 3 _ 28 (0, 0) h6).trans rfl
      have z0 : wr.drew.frozen? ⟨w.heap.size, 0, none⟩ = false := frozen_of_row wr w.heap.size 0 _ 28 h6
      have z1 : wr.drew.frozen? ⟨w.heap.size, 1, none⟩ = false := frozen_of_row wr w.heap.size 1 _ 28 h6
      have z2 : wr.drew.frozen? ⟨w.heap.size, 2, none⟩ = false := frozen_of_row wr w.heap.size 2 _ 28 h6
      have z3 : wr.drew.frozen? ⟨w.heap.size, 3, none⟩ = false := frozen_of_row wr w.heap.size 3 _ 28 h6
      have c0 : wr.cell? ⟨w.heap.size, 0, none⟩ = some (.int .u8 0) := b0
      have c1 : wr.cell? ⟨w.heap.size, 1, none⟩ = some (.int .u64 0) := b1
      have c2 : wr.cell? ⟨w.heap.size, 2, none⟩ = some (.string ⟨#[]⟩) := b2
      have c3 : wr.cell? ⟨w.heap.size, 3, none⟩ = some (.slice none 0 0) := b3
      have y0 := frozen_of_row wr w.heap.size 0 _ 28 h6
      have y1 := frozen_of_row wr w.heap.size 1 _ 28 h6
      have y2 := frozen_of_row wr w.heap.size 2 _ 28 h6
      have y3 := frozen_of_row wr w.heap.size 3 _ 28 h6
      have hq := heap_setCell_same (((wr.setCell ⟨w.heap.size, 0, none⟩ (.int .u8 c)).setCell ⟨w.heap.size, 1, none⟩ (.int .u64 N)).setCell ⟨w.heap.size, 2, none⟩ (.string ⟨#[]⟩)) w.heap.size 3 _ 28 (.slice none 0 0) (heap_setCell_same ((wr.setCell ⟨w.heap.size, 0, none⟩ (.int .u8 c)).setCell ⟨w.heap.size, 1, none⟩ (.int .u64 N)) w.heap.size 2 _ 28 (.string ⟨#[]⟩) (heap_setCell_same (wr.setCell ⟨w.heap.size, 0, none⟩ (.int .u8 c)) w.heap.size 1 _ 28 (.int .u64 N) (heap_setCell_same wr w.heap.size 0 _ 28 (.int .u8 c) h6)))
      have hbq := ((((HI.out.2.2.1.setCell (p := ⟨w.heap.size, 0, none⟩) (Nat.le_refl _) (.int .u8 c)).setCell (p := ⟨w.heap.size, 1, none⟩) (Nat.le_refl _) (.int .u64 N)).setCell (p := ⟨w.heap.size, 2, none⟩) (Nat.le_refl _) (.string ⟨#[]⟩)).setCell (p := ⟨w.heap.size, 3, none⟩) (Nat.le_refl _) (.slice none 0 0))
      have HQ := Aside0.mk hq
      have HBQ := Aside0.mk hbq
      clear hcv hset h6 hq hbq
      go_wp2_with fail
      go_region_with (go_at_call 8; refine (HW.out _).mono ?_; rintro e1 w9 ⟨rfl, rfl⟩)
      all_goals
        go_wp2
        refine bodyPost_ret (results_ct rfl _ _ w.heap.size 28 _ (0, 0) _ rfl HQ.out Tryz.underlying28 rfl inf28) rfl ?_
        exact ⟨_, rfl, below_drew1 HBQ.out⟩

set_option maxRecDepth 100000 in
set_option maxHeartbeats 16000000 in
theorem wn8 (c N : Int) (m v : Nat) (hv : v < 18446744073709551616) (hm : v % 18446744073709551616 = m) (hS : ∀ W, Calls Tryz.prog 4 #[.int .u8 c] W fun e w' => e = .returned (.int .i64 8) ∧ w' = W) (hW : ∀ W, Calls Tryz.prog 8 #[.int .u8 c, .int .u64 (m : Int)] W fun e w' => e = .returned (.int .u64 N) ∧ w' = W) (w : World) :
    Calls Tryz.prog 5 #[.int .u8 c, .int .u64 (v : Int), .bool false] w fun e w' => ∃ t, e = .returned (.tuple #[.agg #[.int .u8 c, .int .u64 N, .string ⟨#[]⟩, .slice none 0 0], .string t]) ∧ Below w.heap.size w w' := by
  have hmk := fun W : World => mk_slice 8 (by omega) #[.int .u8 0, .int .u8 0, .int .u8 0, .int .u8 0, .int .u8 0, .int .u8 0, .int .u8 0, .int .u8 0] (by kernel_rfl) 8 rfl W
  have HS := Aside0.mk hS
  have HW := Aside0.mk hW
  clear hS hW
  have hmv : v = m := by omega
  subst hmv
  go_enter Tryz.func5, Tryz.ntmps5
  go_wp2_with (first
    | (go_at_call 4; refine (HS.out _).mono ?_; rintro e1 w2 ⟨rfl, rfl⟩))
  go_loopg [27] 8 (fun kq v27 wr => ∃ (i : Nat) (xs : List Int), v27 = .int .i64 (i : Int) ∧ i ≤ 8 ∧ Aside0 (xs.length = 8 ∧ kq = 8 - i ∧ Below w.heap.size w wr ∧ wr.heap[w.heap.size + 1]? = some (.cells (nums .u8 xs).toArray 5 (0, 0)) ∧ wr.heap[w.heap.size]? = some (.cells #[.int .u8 0, .int .u64 0, .string ⟨#[]⟩, .slice none 0 0] 28 (0, 0))))
  case atStart =>
    refine ⟨0, List.replicate 8 0, rfl, by omega, ⟨rfl, rfl, below_alloc (below_alloc (Below.refl _ _) _) _, ?_, ?_⟩⟩
    · have h := heap_alloc_new (w.alloc (.cells #[.int .u8 0, .int .u64 0, .string ⟨#[]⟩, .slice none 0 0] 28)) (.cells #[.int .u8 0, .int .u8 0, .int .u8 0, .int .u8 0, .int .u8 0, .int .u8 0, .int .u8 0, .int .u8 0] 5)
      simpa [nums] using h
    · rw [heap_alloc_old _ _ (by simp)]
      exact heap_alloc_new _ _
  case round =>
    obtain ⟨i, xs, rfl, hi, HI⟩ := hrel
    by_cases hlt : i < 8
    · have hd : decide ((i : Int) < 8) = true := by simp; omega
      have hwi : IntKind.i64.wrap ((i : Int) + 1) = ((i + 1 : Nat) : Int) := by rw [IntKind.wrap_i64]; omega
      have hlen := HI.out.1
      have hc : wr.cell? ⟨w.heap.size + 1, i, none⟩ = some (.int .u8 (xs.getD i 0)) := (cell_of_row wr (w.heap.size + 1) i _ 5 (0, 0) HI.out.2.2.2.1).trans (by simp [nums, List.getElem?_eq_getElem (show i < xs.length by omega), List.getD_eq_getElem?_getD])
      have hfz := frozen_of_row wr (w.heap.size + 1) i _ 5 HI.out.2.2.2.1
      have HSET : Aside0 (∀ Y, (wr.setCell ⟨w.heap.size + 1, i, none⟩ (.int .u8 Y)).heap[w.heap.size + 1]? = some (.cells (nums .u8 (xs.set i Y)).toArray 5 (0, 0))) := ⟨fun Y => (heap_setCell_same wr (w.heap.size + 1) i _ 5 (.int .u8 Y) HI.out.2.2.2.1).trans (by simp [nums, List.map_set])⟩
      go_wp2_with fail
      go_roundg (8 - (i + 1))
      case measure => have := HI.out.2.1; omega
      case rel => exact ⟨i + 1, xs.set i _, by first | rfl | simp, by omega, ⟨by rw [List.length_set]; exact hlen, rfl, HI.out.2.2.1.setCell (by show w.heap.size ≤ w.heap.size + 1; omega) _, HSET.out _, (Below.heap_setCell wr ⟨w.heap.size + 1, i, none⟩ _ w.heap.size (by show w.heap.size ≠ w.heap.size + 1; omega)).trans HI.out.2.2.2.2⟩⟩
    · have hd : decide ((i : Int) < 8) = false := by simp; omega
      have hlen := HI.out.1
      have hcv : ∀ W : World, W.heap[w.heap.size + 1]? = some (.cells (nums .u8 xs).toArray 5 (0, 0)) → (convert 24 9 (.slice (some ⟨w.heap.size + 1, 0, none⟩) 8 8)).run Tryz.prog W = .ok (.string (strOfNums xs)) W := fun W h =>
        own_string (base := w.heap.size + 1) (e' := 5) Tryz.underlying24 Tryz.underlying5 Tryz.underlying9 (n := 8) ⟨by simp [nums, hlen], .inr ⟨w.heap.size + 1, 8, (nums .u8 xs).toArray, rfl, Nat.le_refl _, h, Nat.le_refl _, by decide, by simp [nums, hlen], by rw [Nat.mul_one]; exact List.take_of_length_le (by simp [nums, hlen])⟩⟩
      have hset : (((((wr.drew.setCell ⟨w.heap.size, 0, none⟩ (.int .u8 c)).setCell ⟨w.heap.size, 1, none⟩ (.int .u64 N)).setCell ⟨w.heap.size, 2, none⟩ (.string ⟨#[]⟩)).setCell ⟨w.heap.size, 3, none⟩ (.slice none 0 0)).heap[w.heap.size + 1]? = some (.cells (nums .u8 xs).toArray 5 (0, 0))) := by
        rw [Below.heap_setCell _ ⟨w.heap.size, 3, none⟩ _ _ (by show w.heap.size + 1 ≠ w.heap.size; omega), Below.heap_setCell _ ⟨w.heap.size, 2, none⟩ _ _ (by show w.heap.size + 1 ≠ w.heap.size; omega), Below.heap_setCell _ ⟨w.heap.size, 1, none⟩ _ _ (by show w.heap.size + 1 ≠ w.heap.size; omega), Below.heap_setCell _ ⟨w.heap.size, 0, none⟩ _ _ (by show w.heap.size + 1 ≠ w.heap.size; omega)]
        exact HI.out.2.2.2.1
      have hv0 := hcv wr.drew HI.out.2.2.2.1
      have hv1 := hcv _ hset
      have hv2 := hcv ((((wr.setCell ⟨w.heap.size, 0, none⟩ (.int .u8 c)).setCell ⟨w.heap.size, 1, none⟩ (.int .u64 N)).setCell ⟨w.heap.size, 2, none⟩ (.string ⟨#[]⟩)).setCell ⟨w.heap.size, 3, none⟩ (.slice none 0 0)).drew hset
      have h6 := HI.out.2.2.2.2
      have b0 : wr.drew.cell? ⟨w.heap.size, 0, none⟩ = some (.int .u8 0) := (cell_of_row wr w.heap.size 0 _ 28 (0, 0) h6).trans rfl
      have b1 : wr.drew.cell? ⟨w.heap.size, 1, none⟩ = some (.int .u64 0) := (cell_of_row wr w.heap.size 1 _ 28 (0, 0) h6).trans rfl
      have b2 : wr.drew.cell? ⟨w.heap.size, 2, none⟩ = some (.string ⟨#[]⟩) := (cell_of_row wr w.heap.size 2 _ 28 (0, 0) h6).trans rfl
      have b3 : wr.drew.cell? ⟨w.heap.size, 3, none⟩ = some (.slice none 0 0) := (cell_of_row wr w.heap.size 3 _ 28 (0, 0) h6).trans rfl
      have z0 : wr.drew.frozen? ⟨w.heap.size, 0, none⟩ = false := frozen_of_row wr w.heap.size 0 _ 28 h6
      have z1 : wr.drew.frozen? ⟨w.heap.size, 1, none⟩ = false := frozen_of_row wr w.heap.size 1 _ 28 h6
      have z2 : wr.drew.frozen? ⟨w.heap.size, 2, none⟩ = false := frozen_of_row wr w.heap.size 2 _ 28 h6
      have z3 : wr.drew.frozen? ⟨w.heap.size, 3, none⟩ = false := frozen_of_row wr w.heap.size 3 _ 28 h6
      have c0 : wr.cell? ⟨w.heap.size, 0, none⟩ = some (.int .u8 0) := b0
      have c1 : wr.cell? ⟨w.heap.size, 1, none⟩ = some (.int .u64 0) := b1
      have c2 : wr.cell? ⟨w.heap.size, 2, none⟩ = some (.string ⟨#[]⟩) := b2
      have c3 : wr.cell? ⟨w.heap.size, 3, none⟩ = some (.slice none 0 0) := b3
      have y0 := frozen_of_row wr w.heap.size 0 _ 28 h6
      have y1 := frozen_of_row wr w.heap.size 1 _ 28 h6
      have y2 := frozen_of_row wr w.heap.size 2 _ 28 h6
      have y3 := frozen_of_row wr w.heap.size 3 _ 28 h6
      have hq := heap_setCell_same (((wr.setCell ⟨w.heap.size, 0, none⟩ (.int .u8 c)).setCell ⟨w.heap.size, 1, none⟩ (.int .u64 N)).setCell ⟨w.heap.size, 2, none⟩ (.string ⟨#[]⟩)) w.heap.size 3 _ 28 (.slice none 0 0) (heap_setCell_same ((wr.setCell ⟨w.heap.size, 0, none⟩ (.int .u8 c)).setCell ⟨w.heap.size, 1, none⟩ (.int .u64 N)) w.heap.size 2 _ 28 (.string ⟨#[]⟩) (heap_setCell_same (wr.setCell ⟨w.heap.size, 0, none⟩ (.int .u8 c)) w.heap.size 1 _ 28 (.int .u64 N) (heap_setCell_same wr w.heap.size 0 _ 28 (.int .u8 c) h6)))
      have hbq := ((((HI.out.2.2.1.setCell (p := ⟨w.heap.size, 0, none⟩) (Nat.le_refl _) (.int .u8 c)).setCell (p := ⟨w.heap.size, 1, none⟩) (Nat.le_refl _) (.int .u64 N)).setCell (p := ⟨w.heap.size, 2, none⟩) (Nat.le_refl _) (.string ⟨#[]⟩)).setCell (p := ⟨w.heap.size, 3, none⟩) (Nat.le_refl _) (.slice none 0 0))
      have HQ := Aside0.mk hq
      have HBQ := Aside0.mk hbq
      clear hcv hset h6 hq hbq
      go_wp2_with fail
      go_region_with (go_at_call 8; refine (HW.out _).mono ?_; rintro e1 w9 ⟨rfl, rfl⟩)
      all_goals
        go_wp2
        refine bodyPost_ret (results_ct rfl _ _ w.heap.size 28 _ (0, 0) _ rfl HQ.out Tryz.underlying28 rfl inf28) rfl ?_
        exact ⟨_, rfl, below_drew1 HBQ.out⟩



end Go.Proofs.YtcnhpiodomknfaaGreatDoor.MFnWrTurned
