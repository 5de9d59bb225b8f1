-- A trial text of this session.
import Derived.Test.YtjahkodciflgdaaGreatDoorVs7
namespace Go.Proofs.YtjahkodciflgdaaGreatDoor.MFnVtStringNumber
open Go.RowKit Go.Proofs.YtjahkodciflgdaaGreatDoorW.PrintWords Go.Proofs.YtjahkodciflgdaaGreatDoorW.PrintLast Go.Proofs.YtjahkodciflgdaaGreatDoorW.PrintMore
attribute [local go_sem] max2_int min2_int max_two min_two max_three min_three max_four min_four
set_option linter.unusedVariables false
set_option linter.unusedSimpArgs false

theorem and_mask (n : Nat) (hn : n < 18446744073709551616) (k : Nat) (hk : k ≤ 63) (M : Int) (hM : M = ((2 ^ k - 1 : Nat) : Int)) (m : Nat) (hm : m = n % 2 ^ k) : Go.bits BinOp.and IntKind.u64 (n : Int) M = (m : Int) := by
  subst hM hm
  have h2 : 2 ^ k ≤ 2 ^ 63 := Nat.pow_le_pow_right (by omega) hk
  rw [u64_and_nat n (2 ^ k - 1) hn (by omega), Nat.and_two_pow_sub_one_eq_mod]
theorem nx_u64 {x : Int} (h0 : -9223372036854775808 ≤ x) (h1 : x < 9223372036854775808) : IntKind.u64.wrap x = nx x := by unfold nx; rw [IntKind.wrap_u64]; split <;> omega
theorem nx_i64 {x : Int} (h0 : -9223372036854775808 ≤ x) (h1 : x < 9223372036854775808) : IntKind.i64.wrap (nx x) = x := by unfold nx; rw [IntKind.wrap_i64]; split <;> omega
theorem str1 (w : World) (c : UInt8) (t : Nat) (z : Int) (hz : z = (c.toNat : Int)) : (convert 26 9 (.slice (some ⟨w.heap.size, 0, none⟩) 1 1)).run Tryz.prog (w.alloc (.cells #[.int .u8 z] t)) = .ok (.string ⟨#[c]⟩) (w.alloc (.cells #[.int .u8 z] t)) := by
  subst hz
  exact run_convert_bytes_back (P := Tryz.prog) _ 26 9 5 ⟨w.heap.size, 0, none⟩ 1 [c] Tryz.underlying26 Tryz.underlying5 Tryz.underlying9 (fun j hj => by
    obtain rfl : j = 0 := by simpa using hj
    simp [Addr.add])
/-- The least premises on the world: the table of powers, two cells of a table. -/
def Gv (w : World) : Prop := Lib.TabIs Tryz.prog w "internal/strconv.uint64pow10" .u64 Lib.pow10Tab ∧ Gt w
theorem Gv.up {w W : World} (h : Gv w) (hb : Below w.heap.size w W) : Gv W := ⟨tab_up h.1 hb, h.2.up hb⟩
set_option maxRecDepth 100000 in
set_option maxHeartbeats 4000000 in
theorem sz_y (w : World) : Calls Tryz.prog 4 #[.int .u8 121] w fun e w' => e = .returned (.int .i64 1) ∧ w' = w := by
  go_enter Tryz.func4, Tryz.ntmps4
  go_wp2
  go_ret
  exact ⟨rfl, rfl⟩
set_option maxRecDepth 100000 in
set_option maxHeartbeats 4000000 in
theorem wd_y (m : Int) (w : World) : Calls Tryz.prog 5 #[.int .u8 121, .int .u64 m] w fun e w' => e = .returned (.int .u64 m) ∧ w' = w := by
  go_enter Tryz.func5, Tryz.ntmps5
  go_wp2
  go_ret
  exact ⟨rfl, rfl⟩
set_option maxRecDepth 100000 in
set_option maxHeartbeats 4000000 in
theorem law_y (n which : Nat) (hn : n < 18446744073709551616) (hw : which % 9 = 0) (w : World) (hG : Gv w) : Calls Tryz.prog 3 #[.int .u64 (n : Int), .int .u8 (which : Int)] w fun e w' => e = .returned (.bool true) ∧ Below w.heap.size w w' := by
  have hr : (which : Int).tmod 9 = 0 := by rw [Int.tmod_eq_emod_of_nonneg (by omega)]; omega
  have hix : ∀ h, ((⟨#[121, 98, 110, 113, 105, 117, 120, 116, 104]⟩ : ByteArray)[0]'h).toNat = 121 := fun _ => rfl
  obtain ⟨m, hm⟩ : ∃ m, m = n % 256 := ⟨_, rfl⟩
  have hmb : m < 256 := by omega
  have hand := and_mask n hn 8 (by omega) 255 (by decide) m hm
  have hlen := dg_len hmb
  have hq0 : ¬ (9223372036854775807 < 2 + (digs 16 m).length) := by omega
  have hq : ¬ (9223372036854775807 < 3 + (2 + (digs 16 m).length)) := by omega
  have HF := Aside0.mk (fun W => fu_calls 16 4 15 (.inr ⟨rfl, rfl, rfl⟩) m (by omega) W)
  have HV := Aside0.mk (fun W => vs_y m hmb W)
  have HG := Aside0.mk hG
  have hst := str1 w 121 5 121 rfl
  clear hG
  clear hm
  clear hmb
  clear hlen
  clear hw hn
  go_enter Tryz.func3, Tryz.ntmps3
  go_wp2_with (first | (go_at_call 4; refine (sz_y _).mono ?_; rintro e w2 ⟨rfl, rfl⟩) | (go_at_call 5; refine (wd_y _ _).mono ?_; rintro e w2 ⟨rfl, rfl⟩) | (go_at_call 6; refine (HF.out _ (HG.out.up (below_alloc (Below.refl _ _) _)).2).mono ?_; rintro e w5 ⟨rfl, hb5⟩; have H5 := Aside0.mk (below_step (below_alloc (Below.refl _ _) _) hb5); clear hb5) | (go_at_call 8; refine (HV.out _ (HG.out.up H5.out).2).mono ?_; rintro e w6 ⟨rfl, hb6⟩; have H6 := Aside0.mk (below_step H5.out hb6); clear hb6))
  go_ret
  exact ⟨by simp, H6.out⟩
set_option maxRecDepth 100000 in
set_option maxHeartbeats 4000000 in
theorem sz_b (w : World) : Calls Tryz.prog 4 #[.int .u8 98] w fun e w' => e = .returned (.int .i64 4) ∧ w' = w := by
  go_enter Tryz.func4, Tryz.ntmps4
  go_wp2
  go_ret
  exact ⟨rfl, rfl⟩
set_option maxRecDepth 100000 in
set_option maxHeartbeats 4000000 in
theorem wd_b (m : Int) (w : World) : Calls Tryz.prog 5 #[.int .u8 98, .int .u64 m] w fun e w' => e = .returned (.int .u64 m) ∧ w' = w := by
  go_enter Tryz.func5, Tryz.ntmps5
  go_wp2
  go_ret
  exact ⟨rfl, rfl⟩
set_option maxRecDepth 100000 in
set_option maxHeartbeats 4000000 in
theorem law_b0 (n which : Nat) (hn : n < 18446744073709551616) (hw : which % 9 = 1) (hbit : n % 2 = 0) (w : World) (hG : Gv w) : Calls Tryz.prog 3 #[.int .u64 (n : Int), .int .u8 (which : Int)] w fun e w' => e = .returned (.bool true) ∧ Below w.heap.size w w' := by
  have hr : (which : Int).tmod 9 = 1 := by rw [Int.tmod_eq_emod_of_nonneg (by omega)]; omega
  have hix : ∀ h, ((⟨#[121, 98, 110, 113, 105, 117, 120, 116, 104]⟩ : ByteArray)[1]'h).toNat = 98 := fun _ => rfl
  obtain ⟨m, hm⟩ : ∃ m, m = n % 4294967296 := ⟨_, rfl⟩
  have hmb : m < 4294967296 := by omega
  have hand := and_mask n hn 32 (by omega) 4294967295 (by decide) m hm
  have hm2 : Go.bits BinOp.and IntKind.u64 (m : Int) 1 = 0 := (and_mask m (by omega) 1 (by omega) 1 (by decide) (m % 2) rfl).trans (by rw [show m % 2 = 0 by omega]; rfl)
  have hidx : ∀ W : World, (Instr.index 28 (.agg #[.string ⟨#[102, 97, 108, 115, 101]⟩, .string ⟨#[116, 114, 117, 101]⟩]) (.int .u64 0)).run Tryz.prog W = .ok (.string ⟨#[102, 97, 108, 115, 101]⟩) W := fun _ => by kernel_rfl
  have hst := str1 w 98 5 98 rfl
  clear hm hmb hbit hG hw hn
  go_enter Tryz.func3, Tryz.ntmps3
  go_wp2_with (first | (go_at_call 4; refine (sz_b _).mono ?_; rintro e w2 ⟨rfl, rfl⟩) | (go_at_call 5; refine (wd_b _ _).mono ?_; rintro e w2 ⟨rfl, rfl⟩) | (go_at_call 8; refine (vs_b false _).mono ?_; rintro e w6 ⟨rfl, hb6⟩; have H6 := Aside0.mk (below_step (below_alloc (Below.refl _ _) _) hb6); clear hb6))
  go_ret
  exact ⟨by simp [bTxt], H6.out⟩
set_option maxRecDepth 100000 in
set_option maxHeartbeats 4000000 in
theorem law_b1 (n which : Nat) (hn : n < 18446744073709551616) (hw : which % 9 = 1) (hbit : n % 2 = 1) (w : World) (hG : Gv w) : Calls Tryz.prog 3 #[.int .u64 (n : Int), .int .u8 (which : Int)] w fun e w' => e = .returned (.bool true) ∧ Below w.heap.size w w' := by
  have hr : (which : Int).tmod 9 = 1 := by rw [Int.tmod_eq_emod_of_nonneg (by omega)]; omega
  have hix : ∀ h, ((⟨#[121, 98, 110, 113, 105, 117, 120, 116, 104]⟩ : ByteArray)[1]'h).toNat = 98 := fun _ => rfl
  obtain ⟨m, hm⟩ : ∃ m, m = n % 4294967296 := ⟨_, rfl⟩
  have hmb : m < 4294967296 := by omega
  have hand := and_mask n hn 32 (by omega) 4294967295 (by decide) m hm
  have hm2 : Go.bits BinOp.and IntKind.u64 (m : Int) 1 = 1 := (and_mask m (by omega) 1 (by omega) 1 (by decide) (m % 2) rfl).trans (by rw [show m % 2 = 1 by omega]; rfl)
  have hidx : ∀ W : World, (Instr.index 28 (.agg #[.string ⟨#[102, 97, 108, 115, 101]⟩, .string ⟨#[116, 114, 117, 101]⟩]) (.int .u64 1)).run Tryz.prog W = .ok (.string ⟨#[116, 114, 117, 101]⟩) W := fun _ => by kernel_rfl
  have hst := str1 w 98 5 98 rfl
  clear hm hmb hbit hG hw hn
  go_enter Tryz.func3, Tryz.ntmps3
  go_wp2_with (first | (go_at_call 4; refine (sz_b _).mono ?_; rintro e w2 ⟨rfl, rfl⟩) | (go_at_call 5; refine (wd_b _ _).mono ?_; rintro e w2 ⟨rfl, rfl⟩) | (go_at_call 8; refine (vs_b true _).mono ?_; rintro e w6 ⟨rfl, hb6⟩; have H6 := Aside0.mk (below_step (below_alloc (Below.refl _ _) _) hb6); clear hb6))
  go_ret
  exact ⟨by simp [bTxt], H6.out⟩
theorem law_b (n which : Nat) (hn : n < 18446744073709551616) (hw : which % 9 = 1) (w : World) (hG : Gv w) : Calls Tryz.prog 3 #[.int .u64 (n : Int), .int .u8 (which : Int)] w fun e w' => e = .returned (.bool true) ∧ Below w.heap.size w w' := by
  rcases Nat.mod_two_eq_zero_or_one n with h | h
  · exact law_b0 n which hn hw h w hG
  · exact law_b1 n which hn hw h w hG
set_option maxRecDepth 100000 in
set_option maxHeartbeats 4000000 in
theorem sz_n (w : World) : Calls Tryz.prog 4 #[.int .u8 110] w fun e w' => e = .returned (.int .i64 2) ∧ w' = w := by
  go_enter Tryz.func4, Tryz.ntmps4
  go_wp2
  go_ret
  exact ⟨rfl, rfl⟩
set_option maxRecDepth 100000 in
set_option maxHeartbeats 4000000 in
theorem wd_n (m : Nat) (hm : m < 65536) (x : Int) (hx : x = if m < 32768 then (m : Int) else (m : Int) - 65536) (w : World) : Calls Tryz.prog 5 #[.int .u8 110, .int .u64 (m : Int)] w fun e w' => e = .returned (.int .u64 (nx x)) ∧ w' = w := by
  have hb : -32768 ≤ x ∧ x < 32768 := by subst hx; split <;> omega
  have e1 : IntKind.i16.wrap (m : Int) = x := by subst hx; split <;> (simp [IntKind.wrap, IntKind.bits, IntKind.signed]; omega)
  have e2 : IntKind.i64.wrap x = x := by rw [IntKind.wrap_i64]; omega
  have e3 : IntKind.u64.wrap x = nx x := nx_u64 (by omega) (by omega)
  clear hx hb
  go_enter Tryz.func5, Tryz.ntmps5
  go_wp2
  go_ret
  exact ⟨by simp [e1, e2, e3], rfl⟩
set_option maxRecDepth 100000 in
set_option maxHeartbeats 4000000 in
theorem law_n (n which : Nat) (hn : n < 18446744073709551616) (hw : which % 9 = 2) (w : World) (hG : Gv w) : Calls Tryz.prog 3 #[.int .u64 (n : Int), .int .u8 (which : Int)] w fun e w' => e = .returned (.bool true) ∧ Below w.heap.size w w' := by
  have hr : (which : Int).tmod 9 = 2 := by rw [Int.tmod_eq_emod_of_nonneg (by omega)]; omega
  have hix : ∀ h, ((⟨#[121, 98, 110, 113, 105, 117, 120, 116, 104]⟩ : ByteArray)[2]'h).toNat = 110 := fun _ => rfl
  obtain ⟨m, hm⟩ : ∃ m, m = n % 65536 := ⟨_, rfl⟩
  have hmb : m < 65536 := by omega
  have hand := and_mask n hn 16 (by omega) 65535 (by decide) m hm
  obtain ⟨x, hx⟩ : ∃ x : Int, x = if m < 32768 then (m : Int) else (m : Int) - 65536 := ⟨_, rfl⟩
  have hxb : -32768 ≤ x ∧ x < 32768 := by subst hx; split <;> omega
  have hcx := nx_i64 (x := x) (by omega) (by omega)
  have HW := Aside0.mk (fun W => wd_n m hmb x hx W)
  have hlen := it_len (x := x) (by omega) (by omega)
  have hq : ¬ (9223372036854775807 < 3 + (Lib.itoa x).length) := by omega
  have HF := Aside0.mk (fun W => fi10_calls x (by omega) (by omega) W)
  have HV := Aside0.mk (fun W => vs_n x (by omega) (by omega) W)
  have HG := Aside0.mk hG
  have hst := str1 w 110 5 110 rfl
  clear hG
  clear hm
  clear hmb
  clear hlen
  clear hx
  clear hxb
  clear hw hn
  go_enter Tryz.func3, Tryz.ntmps3
  go_wp2_with (first | (go_at_call 4; refine (sz_n _).mono ?_; rintro e w2 ⟨rfl, rfl⟩) | (go_at_call 5; refine (HW.out _).mono ?_; rintro e w2 ⟨rfl, rfl⟩) | (go_at_call 7; refine (HF.out _ (HG.out.up (below_alloc (Below.refl _ _) _)).1).mono ?_; rintro e w5 ⟨rfl, hb5⟩; have H5 := Aside0.mk (below_step (below_alloc (Below.refl _ _) _) hb5); clear hb5) | (go_at_call 8; refine (HV.out _ (HG.out.up H5.out).1).mono ?_; rintro e w6 ⟨rfl, hb6⟩; have H6 := Aside0.mk (below_step H5.out hb6); clear hb6))
  go_ret
  exact ⟨by simp, H6.out⟩
set_option maxRecDepth 100000 in
set_option maxHeartbeats 4000000 in
theorem sz_q (w : World) : Calls Tryz.prog 4 #[.int .u8 113] w fun e w' => e = .returned (.int .i64 2) ∧ w' = w := by
  go_enter Tryz.func4, Tryz.ntmps4
  go_wp2
  go_ret
  exact ⟨rfl, rfl⟩
set_option maxRecDepth 100000 in
set_option maxHeartbeats 4000000 in
theorem wd_q (m : Int) (w : World) : Calls Tryz.prog 5 #[.int .u8 113, .int .u64 m] w fun e w' => e = .returned (.int .u64 m) ∧ w' = w := by
  go_enter Tryz.func5, Tryz.ntmps5
  go_wp2
  go_ret
  exact ⟨rfl, rfl⟩
set_option maxRecDepth 100000 in
set_option maxHeartbeats 4000000 in
theorem law_q (n which : Nat) (hn : n < 18446744073709551616) (hw : which % 9 = 3) (w : World) (hG : Gv w) : Calls Tryz.prog 3 #[.int .u64 (n : Int), .int .u8 (which : Int)] w fun e w' => e = .returned (.bool true) ∧ Below w.heap.size w w' := by
  have hr : (which : Int).tmod 9 = 3 := by rw [Int.tmod_eq_emod_of_nonneg (by omega)]; omega
  have hix : ∀ h, ((⟨#[121, 98, 110, 113, 105, 117, 120, 116, 104]⟩ : ByteArray)[3]'h).toNat = 113 := fun _ => rfl
  obtain ⟨m, hm⟩ : ∃ m, m = n % 65536 := ⟨_, rfl⟩
  have hmb : m < 65536 := by omega
  have hand := and_mask n hn 16 (by omega) 65535 (by decide) m hm
  have hlen := dd_len (u := m) (by omega)
  have hq : ¬ (9223372036854775807 < 3 + (Lib.decDigits m).length) := by omega
  have HF := Aside0.mk (fun W => fu10_calls m (by omega) W)
  have HV := Aside0.mk (fun W => vs_q m (by omega) W)
  have HG := Aside0.mk hG
  have hst := str1 w 113 5 113 rfl
  clear hG
  clear hm
  clear hmb
  clear hlen
  clear hw hn
  go_enter Tryz.func3, Tryz.ntmps3
  go_wp2_with (first | (go_at_call 4; refine (sz_q _).mono ?_; rintro e w2 ⟨rfl, rfl⟩) | (go_at_call 5; refine (wd_q _ _).mono ?_; rintro e w2 ⟨rfl, rfl⟩) | (go_at_call 6; refine (HF.out _ (HG.out.up (below_alloc (Below.refl _ _) _)).1).mono ?_; rintro e w5 ⟨rfl, hb5⟩; have H5 := Aside0.mk (below_step (below_alloc (Below.refl _ _) _) hb5); clear hb5) | (go_at_call 8; refine (HV.out _ (HG.out.up H5.out).1).mono ?_; rintro e w6 ⟨rfl, hb6⟩; have H6 := Aside0.mk (below_step H5.out hb6); clear hb6))
  go_ret
  exact ⟨by simp, H6.out⟩
set_option maxRecDepth 100000 in
set_option maxHeartbeats 4000000 in
theorem sz_i (w : World) : Calls Tryz.prog 4 #[.int .u8 105] w fun e w' => e = .returned (.int .i64 4) ∧ w' = w := by
  go_enter Tryz.func4, Tryz.ntmps4
  go_wp2
  go_ret
  exact ⟨rfl, rfl⟩
set_option maxRecDepth 100000 in
set_option maxHeartbeats 4000000 in
theorem wd_i (m : Nat) (hm : m < 4294967296) (x : Int) (hx : x = if m < 2147483648 then (m : Int) else (m : Int) - 4294967296) (w : World) : Calls Tryz.prog 5 #[.int .u8 105, .int .u64 (m : Int)] w fun e w' => e = .returned (.int .u64 (nx x)) ∧ w' = w := by
  have hb : -2147483648 ≤ x ∧ x < 2147483648 := by subst hx; split <;> omega
  have e1 : IntKind.i32.wrap (m : Int) = x := by subst hx; split <;> (simp [IntKind.wrap, IntKind.bits, IntKind.signed]; omega)
  have e2 : IntKind.i64.wrap x = x := by rw [IntKind.wrap_i64]; omega
  have e3 : IntKind.u64.wrap x = nx x := nx_u64 (by omega) (by omega)
  clear hx hb
  go_enter Tryz.func5, Tryz.ntmps5
  go_wp2
  go_ret
  exact ⟨by simp [e1, e2, e3], rfl⟩
set_option maxRecDepth 100000 in
set_option maxHeartbeats 4000000 in
theorem law_i (n which : Nat) (hn : n < 18446744073709551616) (hw : which % 9 = 4) (w : World) (hG : Gv w) : Calls Tryz.prog 3 #[.int .u64 (n : Int), .int .u8 (which : Int)] w fun e w' => e = .returned (.bool true) ∧ Below w.heap.size w w' := by
  have hr : (which : Int).tmod 9 = 4 := by rw [Int.tmod_eq_emod_of_nonneg (by omega)]; omega
  have hix : ∀ h, ((⟨#[121, 98, 110, 113, 105, 117, 120, 116, 104]⟩ : ByteArray)[4]'h).toNat = 105 := fun _ => rfl
  obtain ⟨m, hm⟩ : ∃ m, m = n % 4294967296 := ⟨_, rfl⟩
  have hmb : m < 4294967296 := by omega
  have hand := and_mask n hn 32 (by omega) 4294967295 (by decide) m hm
  obtain ⟨x, hx⟩ : ∃ x : Int, x = if m < 2147483648 then (m : Int) else (m : Int) - 4294967296 := ⟨_, rfl⟩
  have hxb : -2147483648 ≤ x ∧ x < 2147483648 := by subst hx; split <;> omega
  have hcx := nx_i64 (x := x) (by omega) (by omega)
  have HW := Aside0.mk (fun W => wd_i m hmb x hx W)
  have hlen := it_len (x := x) (by omega) (by omega)
  have hq : ¬ (9223372036854775807 < 3 + (Lib.itoa x).length) := by omega
  have HF := Aside0.mk (fun W => fi10_calls x (by omega) (by omega) W)
  have HV := Aside0.mk (fun W => vs_i x (by omega) (by omega) W)
  have HG := Aside0.mk hG
  have hst := str1 w 105 5 105 rfl
  clear hG
  clear hm
  clear hmb
  clear hlen
  clear hx
  clear hxb
  clear hw hn
  go_enter Tryz.func3, Tryz.ntmps3
  go_wp2_with (first | (go_at_call 4; refine (sz_i _).mono ?_; rintro e w2 ⟨rfl, rfl⟩) | (go_at_call 5; refine (HW.out _).mono ?_; rintro e w2 ⟨rfl, rfl⟩) | (go_at_call 7; refine (HF.out _ (HG.out.up (below_alloc (Below.refl _ _) _)).1).mono ?_; rintro e w5 ⟨rfl, hb5⟩; have H5 := Aside0.mk (below_step (below_alloc (Below.refl _ _) _) hb5); clear hb5) | (go_at_call 8; refine (HV.out _ (HG.out.up H5.out).1).mono ?_; rintro e w6 ⟨rfl, hb6⟩; have H6 := Aside0.mk (below_step H5.out hb6); clear hb6))
  go_ret
  exact ⟨by simp, H6.out⟩
set_option maxRecDepth 100000 in
set_option maxHeartbeats 4000000 in
theorem sz_u (w : World) : Calls Tryz.prog 4 #[.int .u8 117] w fun e w' => e = .returned (.int .i64 4) ∧ w' = w := by
  go_enter Tryz.func4, Tryz.ntmps4
  go_wp2
  go_ret
  exact ⟨rfl, rfl⟩
set_option maxRecDepth 100000 in
set_option maxHeartbeats 4000000 in
theorem wd_u (m : Int) (w : World) : Calls Tryz.prog 5 #[.int .u8 117, .int .u64 m] w fun e w' => e = .returned (.int .u64 m) ∧ w' = w := by
  go_enter Tryz.func5, Tryz.ntmps5
  go_wp2
  go_ret
  exact ⟨rfl, rfl⟩
set_option maxRecDepth 100000 in
set_option maxHeartbeats 4000000 in
theorem law_u (n which : Nat) (hn : n < 18446744073709551616) (hw : which % 9 = 5) (w : World) (hG : Gv w) : Calls Tryz.prog 3 #[.int .u64 (n : Int), .int .u8 (which : Int)] w fun e w' => e = .returned (.bool true) ∧ Below w.heap.size w w' := by
  have hr : (which : Int).tmod 9 = 5 := by rw [Int.tmod_eq_emod_of_nonneg (by omega)]; omega
  have hix : ∀ h, ((⟨#[121, 98, 110, 113, 105, 117, 120, 116, 104]⟩ : ByteArray)[5]'h).toNat = 117 := fun _ => rfl
  obtain ⟨m, hm⟩ : ∃ m, m = n % 4294967296 := ⟨_, rfl⟩
  have hmb : m < 4294967296 := by omega
  have hand := and_mask n hn 32 (by omega) 4294967295 (by decide) m hm
  have hlen := dd_len (u := m) (by omega)
  have hq : ¬ (9223372036854775807 < 3 + (Lib.decDigits m).length) := by omega
  have HF := Aside0.mk (fun W => fu10_calls m (by omega) W)
  have HV := Aside0.mk (fun W => vs_u m (by omega) W)
  have HG := Aside0.mk hG
  have hst := str1 w 117 5 117 rfl
  clear hG
  clear hm
  clear hmb
  clear hlen
  clear hw hn
  go_enter Tryz.func3, Tryz.ntmps3
  go_wp2_with (first | (go_at_call 4; refine (sz_u _).mono ?_; rintro e w2 ⟨rfl, rfl⟩) | (go_at_call 5; refine (wd_u _ _).mono ?_; rintro e w2 ⟨rfl, rfl⟩) | (go_at_call 6; refine (HF.out _ (HG.out.up (below_alloc (Below.refl _ _) _)).1).mono ?_; rintro e w5 ⟨rfl, hb5⟩; have H5 := Aside0.mk (below_step (below_alloc (Below.refl _ _) _) hb5); clear hb5) | (go_at_call 8; refine (HV.out _ (HG.out.up H5.out).1).mono ?_; rintro e w6 ⟨rfl, hb6⟩; have H6 := Aside0.mk (below_step H5.out hb6); clear hb6))
  go_ret
  exact ⟨by simp, H6.out⟩
set_option maxRecDepth 100000 in
set_option maxHeartbeats 4000000 in
theorem sz_x (w : World) : Calls Tryz.prog 4 #[.int .u8 120] w fun e w' => e = .returned (.int .i64 8) ∧ w' = w := by
  go_enter Tryz.func4, Tryz.ntmps4
  go_wp2
  go_ret
  exact ⟨rfl, rfl⟩
set_option maxRecDepth 100000 in
set_option maxHeartbeats 4000000 in
theorem wd_x (m : Int) (w : World) : Calls Tryz.prog 5 #[.int .u8 120, .int .u64 m] w fun e w' => e = .returned (.int .u64 m) ∧ w' = w := by
  go_enter Tryz.func5, Tryz.ntmps5
  go_wp2
  go_ret
  exact ⟨rfl, rfl⟩
set_option maxRecDepth 100000 in
set_option maxHeartbeats 4000000 in
theorem law_x (n which : Nat) (hn : n < 18446744073709551616) (hw : which % 9 = 6) (w : World) (hG : Gv w) : Calls Tryz.prog 3 #[.int .u64 (n : Int), .int .u8 (which : Int)] w fun e w' => e = .returned (.bool true) ∧ Below w.heap.size w w' := by
  have hr : (which : Int).tmod 9 = 6 := by rw [Int.tmod_eq_emod_of_nonneg (by omega)]; omega
  have hix : ∀ h, ((⟨#[121, 98, 110, 113, 105, 117, 120, 116, 104]⟩ : ByteArray)[6]'h).toNat = 120 := fun _ => rfl
  obtain ⟨x, hx⟩ : ∃ x : Int, x = if n < 9223372036854775808 then (n : Int) else (n : Int) - 18446744073709551616 := ⟨_, rfl⟩
  have hxb : -9223372036854775808 ≤ x ∧ x < 9223372036854775808 := by subst hx; split <;> omega
  have hcx := nx_i64 (x := x) (by omega) (by omega)
  have hnx : (n : Int) = nx x := by subst hx; unfold nx; split <;> split <;> omega
  rw [hnx]
  have hlen := it_len (x := x) (by omega) (by omega)
  have hq : ¬ (9223372036854775807 < 3 + (Lib.itoa x).length) := by omega
  have HF := Aside0.mk (fun W => fi10_calls x (by omega) (by omega) W)
  have HV := Aside0.mk (fun W => vs_x x (by omega) (by omega) W)
  have HG := Aside0.mk hG
  have hst := str1 w 120 5 120 rfl
  clear hG
  clear hlen
  clear hx
  clear hxb
  clear hw hn
  go_enter Tryz.func3, Tryz.ntmps3
  go_wp2_with (first | (go_at_call 4; refine (sz_x _).mono ?_; rintro e w2 ⟨rfl, rfl⟩) | (go_at_call 5; refine (wd_x _ _).mono ?_; rintro e w2 ⟨rfl, rfl⟩) | (go_at_call 7; refine (HF.out _ (HG.out.up (below_alloc (Below.refl _ _) _)).1).mono ?_; rintro e w5 ⟨rfl, hb5⟩; have H5 := Aside0.mk (below_step (below_alloc (Below.refl _ _) _) hb5); clear hb5) | (go_at_call 8; refine (HV.out _ (HG.out.up H5.out).1).mono ?_; rintro e w6 ⟨rfl, hb6⟩; have H6 := Aside0.mk (below_step H5.out hb6); clear hb6))
  go_ret
  exact ⟨by simp, H6.out⟩
set_option maxRecDepth 100000 in
set_option maxHeartbeats 4000000 in
theorem sz_t (w : World) : Calls Tryz.prog 4 #[.int .u8 116] w fun e w' => e = .returned (.int .i64 8) ∧ w' = w := by
  go_enter Tryz.func4, Tryz.ntmps4
  go_wp2
  go_ret
  exact ⟨rfl, rfl⟩
set_option maxRecDepth 100000 in
set_option maxHeartbeats 4000000 in
theorem wd_t (m : Int) (w : World) : Calls Tryz.prog 5 #[.int .u8 116, .int .u64 m] w fun e w' => e = .returned (.int .u64 m) ∧ w' = w := by
  go_enter Tryz.func5, Tryz.ntmps5
  go_wp2
  go_ret
  exact ⟨rfl, rfl⟩
set_option maxRecDepth 100000 in
set_option maxHeartbeats 4000000 in
theorem law_t (n which : Nat) (hn : n < 18446744073709551616) (hw : which % 9 = 7) (w : World) (hG : Gv w) : Calls Tryz.prog 3 #[.int .u64 (n : Int), .int .u8 (which : Int)] w fun e w' => e = .returned (.bool true) ∧ Below w.heap.size w w' := by
  have hr : (which : Int).tmod 9 = 7 := by rw [Int.tmod_eq_emod_of_nonneg (by omega)]; omega
  have hix : ∀ h, ((⟨#[121, 98, 110, 113, 105, 117, 120, 116, 104]⟩ : ByteArray)[7]'h).toNat = 116 := fun _ => rfl
  have hlen := dd_len (u := n) (by omega)
  have hq : ¬ (9223372036854775807 < 3 + (Lib.decDigits n).length) := by omega
  have HF := Aside0.mk (fun W => fu10_calls n (by omega) W)
  have HV := Aside0.mk (fun W => vs_t n (by omega) W)
  have HG := Aside0.mk hG
  have hst := str1 w 116 5 116 rfl
  clear hG
  clear hlen
  clear hw hn
  go_enter Tryz.func3, Tryz.ntmps3
  go_wp2_with (first | (go_at_call 4; refine (sz_t _).mono ?_; rintro e w2 ⟨rfl, rfl⟩) | (go_at_call 5; refine (wd_t _ _).mono ?_; rintro e w2 ⟨rfl, rfl⟩) | (go_at_call 6; refine (HF.out _ (HG.out.up (below_alloc (Below.refl _ _) _)).1).mono ?_; rintro e w5 ⟨rfl, hb5⟩; have H5 := Aside0.mk (below_step (below_alloc (Below.refl _ _) _) hb5); clear hb5) | (go_at_call 8; refine (HV.out _ (HG.out.up H5.out).1).mono ?_; rintro e w6 ⟨rfl, hb6⟩; have H6 := Aside0.mk (below_step H5.out hb6); clear hb6))
  go_ret
  exact ⟨by simp, H6.out⟩
set_option maxRecDepth 100000 in
set_option maxHeartbeats 4000000 in
theorem sz_h (w : World) : Calls Tryz.prog 4 #[.int .u8 104] w fun e w' => e = .returned (.int .i64 4) ∧ w' = w := by
  go_enter Tryz.func4, Tryz.ntmps4
  go_wp2
  go_ret
  exact ⟨rfl, rfl⟩
set_option maxRecDepth 100000 in
set_option maxHeartbeats 4000000 in
theorem wd_h (m : Int) (w : World) : Calls Tryz.prog 5 #[.int .u8 104, .int .u64 m] w fun e w' => e = .returned (.int .u64 m) ∧ w' = w := by
  go_enter Tryz.func5, Tryz.ntmps5
  go_wp2
  go_ret
  exact ⟨rfl, rfl⟩
set_option maxRecDepth 100000 in
set_option maxHeartbeats 4000000 in
theorem law_h (n which : Nat) (hn : n < 18446744073709551616) (hw : which % 9 = 8) (w : World) (hG : Gv w) : Calls Tryz.prog 3 #[.int .u64 (n : Int), .int .u8 (which : Int)] w fun e w' => e = .returned (.bool true) ∧ Below w.heap.size w w' := by
  have hr : (which : Int).tmod 9 = 8 := by rw [Int.tmod_eq_emod_of_nonneg (by omega)]; omega
  have hix : ∀ h, ((⟨#[121, 98, 110, 113, 105, 117, 120, 116, 104]⟩ : ByteArray)[8]'h).toNat = 104 := fun _ => rfl
  obtain ⟨m, hm⟩ : ∃ m, m = n % 4294967296 := ⟨_, rfl⟩
  have hmb : m < 4294967296 := by omega
  have hand := and_mask n hn 32 (by omega) 4294967295 (by decide) m hm
  have hlen := dd_len (u := m) (by omega)
  have hq : ¬ (9223372036854775807 < 3 + (Lib.decDigits m).length) := by omega
  have HF := Aside0.mk (fun W => fu10_calls m (by omega) W)
  have HV := Aside0.mk (fun W => vs_h m (by omega) W)
  have HG := Aside0.mk hG
  have hst := str1 w 104 5 104 rfl
  clear hG
  clear hm
  clear hmb
  clear hlen
  clear hw hn
  go_enter Tryz.func3, Tryz.ntmps3
  go_wp2_with (first | (go_at_call 4; refine (sz_h _).mono ?_; rintro e w2 ⟨rfl, rfl⟩) | (go_at_call 5; refine (wd_h _ _).mono ?_; rintro e w2 ⟨rfl, rfl⟩) | (go_at_call 6; refine (HF.out _ (HG.out.up (below_alloc (Below.refl _ _) _)).1).mono ?_; rintro e w5 ⟨rfl, hb5⟩; have H5 := Aside0.mk (below_step (below_alloc (Below.refl _ _) _) hb5); clear hb5) | (go_at_call 8; refine (HV.out _ (HG.out.up H5.out).1).mono ?_; rintro e w6 ⟨rfl, hb6⟩; have H6 := Aside0.mk (below_step H5.out hb6); clear hb6))
  go_ret
  exact ⟨by simp, H6.out⟩
theorem law_walk (a0 a1 : Int) (w : World) (hG : Gv w) (h0 : 0 ≤ a0 ∧ a0 ≤ 18446744073709551615) (h1 : 0 ≤ a1 ∧ a1 ≤ 255) : Calls Tryz.prog 3 #[.int .u64 a0, .int .u8 a1] w fun e w' => e = .returned (.bool true) ∧ Below w.heap.size w w' := by
  obtain ⟨n, rfl⟩ : ∃ n : Nat, a0 = (n : Int) := ⟨a0.toNat, by omega⟩
  obtain ⟨m, rfl⟩ : ∃ m : Nat, a1 = (m : Int) := ⟨a1.toNat, by omega⟩
  have hn : n < 18446744073709551616 := by omega
  have hc : m % 9 = 0 ∨ m % 9 = 1 ∨ m % 9 = 2 ∨ m % 9 = 3 ∨ m % 9 = 4 ∨ m % 9 = 5 ∨ m % 9 = 6 ∨ m % 9 = 7 ∨ m % 9 = 8 := by omega
  rcases hc with h | h | h | h | h | h | h | h | h
  · exact law_y n m hn h w hG
  · exact law_b n m hn h w hG
  · exact law_n n m hn h w hG
  · exact law_q n m hn h w hG
  · exact law_i n m hn h w hG
  · exact law_u n m hn h w hG
  · exact law_x n m hn h w hG
  · exact law_t n m hn h w hG
  · exact law_h n m hn h w hG


end Go.Proofs.YtjahkodciflgdaaGreatDoor.MFnVtStringNumber
