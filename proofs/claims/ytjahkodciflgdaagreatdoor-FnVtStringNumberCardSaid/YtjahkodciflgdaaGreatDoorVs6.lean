-- A trial text of this session.
import Derived.Test.YtjahkodciflgdaaGreatDoorVs5
namespace Go.Proofs.YtjahkodciflgdaaGreatDoor.MFnVtStringNumber
open Go.RowKit Go.Proofs.YtjahkodciflgdaaGreatDoorW.PrintWords Go.Proofs.YtjahkodciflgdaaGreatDoorW.PrintLast Go.Proofs.YtjahkodciflgdaaGreatDoorW.PrintMore
attribute [local go_sem] max2_int min2_int max_two min_two max_three min_three max_four min_four
set_option linter.unusedVariables false
set_option linter.unusedSimpArgs false

theorem as5_5f (v : Value) (w : World) : (Instr.typeAssert (.iface 5 v) 20 5 false).run Tryz.prog w = .ok v w := by kernel_rfl
attribute [local go_sem] as5_5f
attribute [local go_sem] as5_2 as5_4 as5_5 as5_21 as5_36 as5_68 as5_137 as4_2 as4_4 as4_5 as4_21 as4_22 as4_36 as4_61 as4_67 as4_68 as4_71 as4_134 as4_135 as4_136 as4_137 as36_2 as36_4 as36_5 as36_21 as36_22 as36_36 as36_61 as36_67 as36_68 as36_71 as36_134 as36_135 as36_136 as36_137 as67_2 as67_4 as67_5 as67_21 as67_36 as67_67 as67_68 as67_134 as67_135 as67_136 as67_137 as21_2 as21_4 as21_5 as21_21 as21_22 as21_36 as21_61 as21_67 as21_68 as21_71 as21_134 as21_135 as21_136 as21_137 as61_2 as61_4 as61_5 as61_21 as61_36 as61_61 as61_67 as61_68 as61_134 as61_135 as61_136 as61_137 as2_2 as2_4 as2_5 as2_21 as2_22 as2_36 as2_61 as2_67 as2_68 as2_71 as2_134 as2_135 as2_136 as2_137 as22_2 as22_4 as22_5 as22_21 as22_22 as22_36 as22_61 as22_67 as22_68 as22_134 as22_135 as22_136 as22_137 as71_2 as71_4 as71_5 as71_9 as71_21 as71_22 as71_36 as71_52 as71_54 as71_61 as71_67 as71_68 as71_70 as71_71 as71_134 as71_135 as71_136 as71_137
theorem dg_len {x : Nat} (h : x < 256) : (digs 16 x).length ≤ 2 := by
  by_cases h1 : x < 16
  · rw [digs_small h1]; simp
  · rw [digs_step (by omega) (by omega), digs_small (show x / 16 < 16 by omega)]; simp
theorem dd_len {u : Nat} (h : u < 18446744073709551616) : (Lib.decDigits u).length ≤ 20 := by
  rw [Lib.decDigits_length]
  by_cases h1 : 1 ≤ u
  · have := Lib.numDigits_eq u h1 h; split at this <;> omega
  · have e : u = 0 := by omega
    subst e
    decide +kernel
theorem it_len {x : Int} (h0 : -9223372036854775808 ≤ x) (h1 : x ≤ 9223372036854775807) : (Lib.itoa x).length ≤ 21 := by
  by_cases h : 0 ≤ x
  · obtain ⟨u, rfl⟩ : ∃ u : Nat, x = u := ⟨x.toNat, by omega⟩
    rw [Lib.itoa_nonneg]
    have := dd_len (u := u) (by omega)
    omega
  · obtain ⟨u, rfl⟩ : ∃ u : Nat, x = -(u : Int) := ⟨x.natAbs, by omega⟩
    rw [Lib.itoa_neg u (by omega)]
    have := dd_len (u := u) (by omega)
    simp only [List.length_cons]
    omega
set_option maxRecDepth 100000 in
set_option maxHeartbeats 4000000 in
theorem fm_y (x : Nat) (hx : x < 256) (w : World) (hG : Gt w) : Calls Tryz.prog 34 #[.agg #[.string ⟨#[121]⟩, .iface 5 (.int .u8 (x : Int))]] w fun e w' => e = .returned (.tuple #[.string (⟨#[48, 120]⟩ ++ ⟨(digs 16 x).toArray⟩), .bool false]) ∧ Below w.heap.size w w' := by
  have hw : IntKind.u64.wrap (x : Int) = (x : Int) := by rw [IntKind.wrap_u64]; omega
  have hq : ¬ (9223372036854775807 < 2 + (digs 16 x).length) := by have := dg_len hx; omega
  have HF := Aside0.mk (fun W => fu_calls 16 4 15 (.inr ⟨rfl, rfl, rfl⟩) x (by omega) W)
  have HG := Aside0.mk hG
  clear hG
  go_enter Tryz.func34, Tryz.ntmps34
  go_wp2_with (go_at_call 6; refine (HF.out _ (HG.out.up (below_alloc (Below.refl _ _) _))).mono ?_; rintro e w4 ⟨rfl, hb4⟩; have H4 := Aside0.mk (below_step (below_alloc (Below.refl _ _) _) hb4); clear hb4)
  go_ret2
  exact ⟨rfl, H4.out⟩
set_option maxRecDepth 100000 in
set_option maxHeartbeats 4000000 in
theorem st_y (x : Nat) (hx : x < 256) (w : World) (hG : Gt w) : Calls Tryz.prog 20 #[.agg #[.string ⟨#[121]⟩, .iface 5 (.int .u8 (x : Int))]] w fun e w' => e = .returned (.string (⟨#[64]⟩ ++ ⟨#[121]⟩ ++ ⟨#[32]⟩ ++ (⟨#[48, 120]⟩ ++ ⟨(digs 16 x).toArray⟩))) ∧ Below w.heap.size w w' := by
  have HT := Aside0.mk hG
  clear hG
  have HS := Aside0.mk (fun W => fm_y x hx W)
  have hq : ¬ (9223372036854775807 < 3 + (2 + (digs 16 x).length)) := by have := dg_len hx; omega
  go_enter Tryz.func20, Tryz.ntmps20
  go_wp2_with (go_at_call 34; refine (HS.out _ (HT.out.up (below_alloc (Below.refl _ _) _))).mono ?_; rintro e w4 ⟨rfl, hb4⟩; have h9 := pw_cell_below hb4 (show World.cell? (w.alloc (.cells #[.string ⟨#[121]⟩, .iface 5 (.int .u8 (x : Int))] 54)) ⟨w.heap.size, 0, none⟩ = some (.string ⟨#[121]⟩) by simp); have H4 := Aside0.mk (below_step (below_alloc (Below.refl _ _) _) hb4); clear hb4)
  go_ret
  exact ⟨rfl, H4.out⟩
set_option maxRecDepth 100000 in
set_option maxHeartbeats 4000000 in
theorem sp_b (x : Bool) (w : World) : Calls Tryz.prog 46 #[.iface 4 (.bool x)] w fun e w' => e = .returned (.string (bTxt x)) ∧ Below w.heap.size w w' := by
  go_enter Tryz.func46, Tryz.ntmps46
  go_wp2_with (go_at_call 71; refine (fb_bool x _).mono ?_; rintro e w2 ⟨rfl, rfl⟩)
  go_ret
  exact ⟨rfl, Below.refl _ _⟩
set_option maxRecDepth 100000 in
set_option maxHeartbeats 4000000 in
theorem fm_b (x : Bool) (w : World)  : Calls Tryz.prog 34 #[.agg #[.string ⟨#[98]⟩, .iface 4 (.bool x)]] w fun e w' => e = .returned (.tuple #[.string (bTxt x), .bool true]) ∧ Below w.heap.size w w' := by
  go_enter Tryz.func34, Tryz.ntmps34
  go_wp2_with (go_at_call 46; refine (sp_b x _).mono ?_; rintro e w4 ⟨rfl, hb4⟩; have H4 := Aside0.mk (below_step (below_alloc (Below.refl _ _) _) hb4); clear hb4)
  go_ret2
  exact ⟨rfl, H4.out⟩
set_option maxRecDepth 100000 in
set_option maxHeartbeats 4000000 in
theorem st_b (x : Bool) (w : World)  : Calls Tryz.prog 20 #[.agg #[.string ⟨#[98]⟩, .iface 4 (.bool x)]] w fun e w' => e = .returned (.string (bTxt x)) ∧ Below w.heap.size w w' := by
  go_enter Tryz.func20, Tryz.ntmps20
  go_wp2_with (go_at_call 34; refine (fm_b x _).mono ?_; rintro e w4 ⟨rfl, hb4⟩; have h9 := pw_cell_below hb4 (show World.cell? (w.alloc (.cells #[.string ⟨#[98]⟩, .iface 4 (.bool x)] 54)) ⟨w.heap.size, 0, none⟩ = some (.string ⟨#[98]⟩) by simp); have H4 := Aside0.mk (below_step (below_alloc (Below.refl _ _) _) hb4); clear hb4)
  go_ret
  exact ⟨rfl, H4.out⟩
set_option maxRecDepth 100000 in
set_option maxHeartbeats 4000000 in
theorem sp_n (x : Int) (h0 : -32768 ≤ x) (h1 : x < 32768) (w : World) (htab : Lib.TabIs Tryz.prog w "internal/strconv.uint64pow10" .u64 Lib.pow10Tab) : Calls Tryz.prog 46 #[.iface 36 (.int .i16 x)] w fun e w' => e = .returned (.string ⟨(Lib.itoa x).toArray⟩) ∧ Below w.heap.size w w' := by
  have HN := Aside0.mk (fun W => nu_n x h0 h1 W)
  have HF := Aside0.mk (fun W => fi10_calls x (by omega) (by omega) W)
  have HT := Aside0.mk htab
  clear htab
  go_enter Tryz.func46, Tryz.ntmps46
  go_wp2_with (first | (go_at_call 32; refine (zv_n _ _).mono ?_; rintro e w2 ⟨rfl, hb2⟩; have H2 := Aside0.mk hb2; clear hb2) | (go_at_call 74; refine (HN.out _).mono ?_; rintro e w3 ⟨rfl, hb3⟩; have H3 := Aside0.mk (below_step H2.out hb3); clear hb3) | (go_at_call 7; refine (HF.out _ (tab_up HT.out H3.out)).mono ?_; rintro e w4 ⟨rfl, hb4⟩; have H4 := Aside0.mk (below_step H3.out hb4); clear hb4))
  go_ret
  exact ⟨rfl, H4.out⟩
set_option maxRecDepth 100000 in
set_option maxHeartbeats 4000000 in
theorem fm_n (x : Int) (h0 : -32768 ≤ x) (h1 : x < 32768) (w : World) (htab : Lib.TabIs Tryz.prog w "internal/strconv.uint64pow10" .u64 Lib.pow10Tab) : Calls Tryz.prog 34 #[.agg #[.string ⟨#[110]⟩, .iface 36 (.int .i16 x)]] w fun e w' => e = .returned (.tuple #[.string ⟨(Lib.itoa x).toArray⟩, .bool false]) ∧ Below w.heap.size w w' := by
  have HT := Aside0.mk htab
  clear htab
  have HS := Aside0.mk (fun W => sp_n x h0 h1 W)
  go_enter Tryz.func34, Tryz.ntmps34
  go_wp2_with (go_at_call 46; refine (HS.out _ (tab_up HT.out (below_alloc (Below.refl _ _) _))).mono ?_; rintro e w4 ⟨rfl, hb4⟩; have H4 := Aside0.mk (below_step (below_alloc (Below.refl _ _) _) hb4); clear hb4)
  go_ret2
  exact ⟨rfl, H4.out⟩
set_option maxRecDepth 100000 in
set_option maxHeartbeats 4000000 in
theorem st_n (x : Int) (h0 : -32768 ≤ x) (h1 : x < 32768) (w : World) (htab : Lib.TabIs Tryz.prog w "internal/strconv.uint64pow10" .u64 Lib.pow10Tab) : Calls Tryz.prog 20 #[.agg #[.string ⟨#[110]⟩, .iface 36 (.int .i16 x)]] w fun e w' => e = .returned (.string (⟨#[64]⟩ ++ ⟨#[110]⟩ ++ ⟨#[32]⟩ ++ ⟨(Lib.itoa x).toArray⟩)) ∧ Below w.heap.size w w' := by
  have HT := Aside0.mk htab
  clear htab
  have HS := Aside0.mk (fun W => fm_n x h0 h1 W)
  have hq : ¬ (9223372036854775807 < 3 + ((Lib.itoa x).length)) := by have := it_len (x := x) (by omega) (by omega); omega
  go_enter Tryz.func20, Tryz.ntmps20
  go_wp2_with (go_at_call 34; refine (HS.out _ (tab_up HT.out (below_alloc (Below.refl _ _) _))).mono ?_; rintro e w4 ⟨rfl, hb4⟩; have h9 := pw_cell_below hb4 (show World.cell? (w.alloc (.cells #[.string ⟨#[110]⟩, .iface 36 (.int .i16 x)] 54)) ⟨w.heap.size, 0, none⟩ = some (.string ⟨#[110]⟩) by simp); have H4 := Aside0.mk (below_step (below_alloc (Below.refl _ _) _) hb4); clear hb4)
  go_ret
  exact ⟨rfl, H4.out⟩
set_option maxRecDepth 100000 in
set_option maxHeartbeats 4000000 in
theorem sp_q (x : Nat) (hx : x < 65536) (w : World) (htab : Lib.TabIs Tryz.prog w "internal/strconv.uint64pow10" .u64 Lib.pow10Tab) : Calls Tryz.prog 46 #[.iface 67 (.int .u16 (x : Int))] w fun e w' => e = .returned (.string ⟨(Lib.decDigits x).toArray⟩) ∧ Below w.heap.size w w' := by
  have HN := Aside0.mk (fun W => nu_q (x : Int) (by omega) (by omega) W)
  have HF := Aside0.mk (fun W => fu10_calls x (by omega) W)
  have HT := Aside0.mk htab
  clear htab
  go_enter Tryz.func46, Tryz.ntmps46
  go_wp2_with (first | (go_at_call 32; refine (zv_q _ _).mono ?_; rintro e w2 ⟨rfl, hb2⟩; have H2 := Aside0.mk hb2; clear hb2) | (go_at_call 75; refine (HN.out _).mono ?_; rintro e w3 ⟨rfl, hb3⟩; have H3 := Aside0.mk (below_step H2.out hb3); clear hb3) | (go_at_call 6; refine (HF.out _ (tab_up HT.out H3.out)).mono ?_; rintro e w4 ⟨rfl, hb4⟩; have H4 := Aside0.mk (below_step H3.out hb4); clear hb4))
  go_ret
  exact ⟨rfl, H4.out⟩
set_option maxRecDepth 100000 in
set_option maxHeartbeats 4000000 in
theorem fm_q (x : Nat) (hx : x < 65536) (w : World) (htab : Lib.TabIs Tryz.prog w "internal/strconv.uint64pow10" .u64 Lib.pow10Tab) : Calls Tryz.prog 34 #[.agg #[.string ⟨#[113]⟩, .iface 67 (.int .u16 (x : Int))]] w fun e w' => e = .returned (.tuple #[.string ⟨(Lib.decDigits x).toArray⟩, .bool false]) ∧ Below w.heap.size w w' := by
  have HT := Aside0.mk htab
  clear htab
  have HS := Aside0.mk (fun W => sp_q x hx W)
  go_enter Tryz.func34, Tryz.ntmps34
  go_wp2_with (go_at_call 46; refine (HS.out _ (tab_up HT.out (below_alloc (Below.refl _ _) _))).mono ?_; rintro e w4 ⟨rfl, hb4⟩; have H4 := Aside0.mk (below_step (below_alloc (Below.refl _ _) _) hb4); clear hb4)
  go_ret2
  exact ⟨rfl, H4.out⟩
set_option maxRecDepth 100000 in
set_option maxHeartbeats 4000000 in
theorem st_q (x : Nat) (hx : x < 65536) (w : World) (htab : Lib.TabIs Tryz.prog w "internal/strconv.uint64pow10" .u64 Lib.pow10Tab) : Calls Tryz.prog 20 #[.agg #[.string ⟨#[113]⟩, .iface 67 (.int .u16 (x : Int))]] w fun e w' => e = .returned (.string (⟨#[64]⟩ ++ ⟨#[113]⟩ ++ ⟨#[32]⟩ ++ ⟨(Lib.decDigits x).toArray⟩)) ∧ Below w.heap.size w w' := by
  have HT := Aside0.mk htab
  clear htab
  have HS := Aside0.mk (fun W => fm_q x hx W)
  have hq : ¬ (9223372036854775807 < 3 + ((Lib.decDigits x).length)) := by have := dd_len (u := x) (by omega); omega
  go_enter Tryz.func20, Tryz.ntmps20
  go_wp2_with (go_at_call 34; refine (HS.out _ (tab_up HT.out (below_alloc (Below.refl _ _) _))).mono ?_; rintro e w4 ⟨rfl, hb4⟩; have h9 := pw_cell_below hb4 (show World.cell? (w.alloc (.cells #[.string ⟨#[113]⟩, .iface 67 (.int .u16 (x : Int))] 54)) ⟨w.heap.size, 0, none⟩ = some (.string ⟨#[113]⟩) by simp); have H4 := Aside0.mk (below_step (below_alloc (Below.refl _ _) _) hb4); clear hb4)
  go_ret
  exact ⟨rfl, H4.out⟩
set_option maxRecDepth 100000 in
set_option maxHeartbeats 4000000 in
theorem sp_i (x : Int) (h0 : -2147483648 ≤ x) (h1 : x < 2147483648) (w : World) (htab : Lib.TabIs Tryz.prog w "internal/strconv.uint64pow10" .u64 Lib.pow10Tab) : Calls Tryz.prog 46 #[.iface 21 (.int .i32 x)] w fun e w' => e = .returned (.string ⟨(Lib.itoa x).toArray⟩) ∧ Below w.heap.size w w' := by
  have HN := Aside0.mk (fun W => nu_i x h0 h1 W)
  have HF := Aside0.mk (fun W => fi10_calls x (by omega) (by omega) W)
  have HT := Aside0.mk htab
  clear htab
  go_enter Tryz.func46, Tryz.ntmps46
  go_wp2_with (first | (go_at_call 32; refine (zv_i _ _).mono ?_; rintro e w2 ⟨rfl, hb2⟩; have H2 := Aside0.mk hb2; clear hb2) | (go_at_call 74; refine (HN.out _).mono ?_; rintro e w3 ⟨rfl, hb3⟩; have H3 := Aside0.mk (below_step H2.out hb3); clear hb3) | (go_at_call 7; refine (HF.out _ (tab_up HT.out H3.out)).mono ?_; rintro e w4 ⟨rfl, hb4⟩; have H4 := Aside0.mk (below_step H3.out hb4); clear hb4))
  go_ret
  exact ⟨rfl, H4.out⟩
set_option maxRecDepth 100000 in
set_option maxHeartbeats 4000000 in
theorem fm_i (x : Int) (h0 : -2147483648 ≤ x) (h1 : x < 2147483648) (w : World) (htab : Lib.TabIs Tryz.prog w "internal/strconv.uint64pow10" .u64 Lib.pow10Tab) : Calls Tryz.prog 34 #[.agg #[.string ⟨#[105]⟩, .iface 21 (.int .i32 x)]] w fun e w' => e = .returned (.tuple #[.string ⟨(Lib.itoa x).toArray⟩, .bool true]) ∧ Below w.heap.size w w' := by
  have HT := Aside0.mk htab
  clear htab
  have HS := Aside0.mk (fun W => sp_i x h0 h1 W)
  go_enter Tryz.func34, Tryz.ntmps34
  go_wp2_with (go_at_call 46; refine (HS.out _ (tab_up HT.out (below_alloc (Below.refl _ _) _))).mono ?_; rintro e w4 ⟨rfl, hb4⟩; have H4 := Aside0.mk (below_step (below_alloc (Below.refl _ _) _) hb4); clear hb4)
  go_ret2
  exact ⟨rfl, H4.out⟩
set_option maxRecDepth 100000 in
set_option maxHeartbeats 4000000 in
theorem st_i (x : Int) (h0 : -2147483648 ≤ x) (h1 : x < 2147483648) (w : World) (htab : Lib.TabIs Tryz.prog w "internal/strconv.uint64pow10" .u64 Lib.pow10Tab) : Calls Tryz.prog 20 #[.agg #[.string ⟨#[105]⟩, .iface 21 (.int .i32 x)]] w fun e w' => e = .returned (.string ⟨(Lib.itoa x).toArray⟩) ∧ Below w.heap.size w w' := by
  have HT := Aside0.mk htab
  clear htab
  have HS := Aside0.mk (fun W => fm_i x h0 h1 W)
  go_enter Tryz.func20, Tryz.ntmps20
  go_wp2_with (go_at_call 34; refine (HS.out _ (tab_up HT.out (below_alloc (Below.refl _ _) _))).mono ?_; rintro e w4 ⟨rfl, hb4⟩; have h9 := pw_cell_below hb4 (show World.cell? (w.alloc (.cells #[.string ⟨#[105]⟩, .iface 21 (.int .i32 x)] 54)) ⟨w.heap.size, 0, none⟩ = some (.string ⟨#[105]⟩) by simp); have H4 := Aside0.mk (below_step (below_alloc (Below.refl _ _) _) hb4); clear hb4)
  go_ret
  exact ⟨rfl, H4.out⟩
set_option maxRecDepth 100000 in
set_option maxHeartbeats 4000000 in
theorem sp_u (x : Nat) (hx : x < 4294967296) (w : World) (htab : Lib.TabIs Tryz.prog w "internal/strconv.uint64pow10" .u64 Lib.pow10Tab) : Calls Tryz.prog 46 #[.iface 61 (.int .u32 (x : Int))] w fun e w' => e = .returned (.string ⟨(Lib.decDigits x).toArray⟩) ∧ Below w.heap.size w w' := by
  have HN := Aside0.mk (fun W => nu_u (x : Int) (by omega) (by omega) W)
  have HF := Aside0.mk (fun W => fu10_calls x (by omega) W)
  have HT := Aside0.mk htab
  clear htab
  go_enter Tryz.func46, Tryz.ntmps46
  go_wp2_with (first | (go_at_call 32; refine (zv_u _ _).mono ?_; rintro e w2 ⟨rfl, hb2⟩; have H2 := Aside0.mk hb2; clear hb2) | (go_at_call 75; refine (HN.out _).mono ?_; rintro e w3 ⟨rfl, hb3⟩; have H3 := Aside0.mk (below_step H2.out hb3); clear hb3) | (go_at_call 6; refine (HF.out _ (tab_up HT.out H3.out)).mono ?_; rintro e w4 ⟨rfl, hb4⟩; have H4 := Aside0.mk (below_step H3.out hb4); clear hb4))
  go_ret
  exact ⟨rfl, H4.out⟩
set_option maxRecDepth 100000 in
set_option maxHeartbeats 4000000 in
theorem fm_u (x : Nat) (hx : x < 4294967296) (w : World) (htab : Lib.TabIs Tryz.prog w "internal/strconv.uint64pow10" .u64 Lib.pow10Tab) : Calls Tryz.prog 34 #[.agg #[.string ⟨#[117]⟩, .iface 61 (.int .u32 (x : Int))]] w fun e w' => e = .returned (.tuple #[.string ⟨(Lib.decDigits x).toArray⟩, .bool false]) ∧ Below w.heap.size w w' := by
  have HT := Aside0.mk htab
  clear htab
  have HS := Aside0.mk (fun W => sp_u x hx W)
  go_enter Tryz.func34, Tryz.ntmps34
  go_wp2_with (go_at_call 46; refine (HS.out _ (tab_up HT.out (below_alloc (Below.refl _ _) _))).mono ?_; rintro e w4 ⟨rfl, hb4⟩; have H4 := Aside0.mk (below_step (below_alloc (Below.refl _ _) _) hb4); clear hb4)
  go_ret2
  exact ⟨rfl, H4.out⟩
set_option maxRecDepth 100000 in
set_option maxHeartbeats 4000000 in
theorem st_u (x : Nat) (hx : x < 4294967296) (w : World) (htab : Lib.TabIs Tryz.prog w "internal/strconv.uint64pow10" .u64 Lib.pow10Tab) : Calls Tryz.prog 20 #[.agg #[.string ⟨#[117]⟩, .iface 61 (.int .u32 (x : Int))]] w fun e w' => e = .returned (.string (⟨#[64]⟩ ++ ⟨#[117]⟩ ++ ⟨#[32]⟩ ++ ⟨(Lib.decDigits x).toArray⟩)) ∧ Below w.heap.size w w' := by
  have HT := Aside0.mk htab
  clear htab
  have HS := Aside0.mk (fun W => fm_u x hx W)
  have hq : ¬ (9223372036854775807 < 3 + ((Lib.decDigits x).length)) := by have := dd_len (u := x) (by omega); omega
  go_enter Tryz.func20, Tryz.ntmps20
  go_wp2_with (go_at_call 34; refine (HS.out _ (tab_up HT.out (below_alloc (Below.refl _ _) _))).mono ?_; rintro e w4 ⟨rfl, hb4⟩; have h9 := pw_cell_below hb4 (show World.cell? (w.alloc (.cells #[.string ⟨#[117]⟩, .iface 61 (.int .u32 (x : Int))] 54)) ⟨w.heap.size, 0, none⟩ = some (.string ⟨#[117]⟩) by simp); have H4 := Aside0.mk (below_step (below_alloc (Below.refl _ _) _) hb4); clear hb4)
  go_ret
  exact ⟨rfl, H4.out⟩
set_option maxRecDepth 100000 in
set_option maxHeartbeats 4000000 in
theorem sp_x (x : Int) (h0 : -9223372036854775808 ≤ x) (h1 : x < 9223372036854775808) (w : World) (htab : Lib.TabIs Tryz.prog w "internal/strconv.uint64pow10" .u64 Lib.pow10Tab) : Calls Tryz.prog 46 #[.iface 2 (.int .i64 x)] w fun e w' => e = .returned (.string ⟨(Lib.itoa x).toArray⟩) ∧ Below w.heap.size w w' := by
  have HN := Aside0.mk (fun W => nu_x x h0 h1 W)
  have HF := Aside0.mk (fun W => fi10_calls x (by omega) (by omega) W)
  have HT := Aside0.mk htab
  clear htab
  go_enter Tryz.func46, Tryz.ntmps46
  go_wp2_with (first | (go_at_call 32; refine (zv_x _ _).mono ?_; rintro e w2 ⟨rfl, hb2⟩; have H2 := Aside0.mk hb2; clear hb2) | (go_at_call 74; refine (HN.out _).mono ?_; rintro e w3 ⟨rfl, hb3⟩; have H3 := Aside0.mk (below_step H2.out hb3); clear hb3) | (go_at_call 7; refine (HF.out _ (tab_up HT.out H3.out)).mono ?_; rintro e w4 ⟨rfl, hb4⟩; have H4 := Aside0.mk (below_step H3.out hb4); clear hb4))
  go_ret
  exact ⟨rfl, H4.out⟩
set_option maxRecDepth 100000 in
set_option maxHeartbeats 4000000 in
theorem fm_x (x : Int) (h0 : -9223372036854775808 ≤ x) (h1 : x < 9223372036854775808) (w : World) (htab : Lib.TabIs Tryz.prog w "internal/strconv.uint64pow10" .u64 Lib.pow10Tab) : Calls Tryz.prog 34 #[.agg #[.string ⟨#[120]⟩, .iface 2 (.int .i64 x)]] w fun e w' => e = .returned (.tuple #[.string ⟨(Lib.itoa x).toArray⟩, .bool false]) ∧ Below w.heap.size w w' := by
  have HT := Aside0.mk htab
  clear htab
  have HS := Aside0.mk (fun W => sp_x x h0 h1 W)
  go_enter Tryz.func34, Tryz.ntmps34
  go_wp2_with (go_at_call 46; refine (HS.out _ (tab_up HT.out (below_alloc (Below.refl _ _) _))).mono ?_; rintro e w4 ⟨rfl, hb4⟩; have H4 := Aside0.mk (below_step (below_alloc (Below.refl _ _) _) hb4); clear hb4)
  go_ret2
  exact ⟨rfl, H4.out⟩
set_option maxRecDepth 100000 in
set_option maxHeartbeats 4000000 in
theorem st_x (x : Int) (h0 : -9223372036854775808 ≤ x) (h1 : x < 9223372036854775808) (w : World) (htab : Lib.TabIs Tryz.prog w "internal/strconv.uint64pow10" .u64 Lib.pow10Tab) : Calls Tryz.prog 20 #[.agg #[.string ⟨#[120]⟩, .iface 2 (.int .i64 x)]] w fun e w' => e = .returned (.string (⟨#[64]⟩ ++ ⟨#[120]⟩ ++ ⟨#[32]⟩ ++ ⟨(Lib.itoa x).toArray⟩)) ∧ Below w.heap.size w w' := by
  have HT := Aside0.mk htab
  clear htab
  have HS := Aside0.mk (fun W => fm_x x h0 h1 W)
  have hq : ¬ (9223372036854775807 < 3 + ((Lib.itoa x).length)) := by have := it_len (x := x) (by omega) (by omega); omega
  go_enter Tryz.func20, Tryz.ntmps20
  go_wp2_with (go_at_call 34; refine (HS.out _ (tab_up HT.out (below_alloc (Below.refl _ _) _))).mono ?_; rintro e w4 ⟨rfl, hb4⟩; have h9 := pw_cell_below hb4 (show World.cell? (w.alloc (.cells #[.string ⟨#[120]⟩, .iface 2 (.int .i64 x)] 54)) ⟨w.heap.size, 0, none⟩ = some (.string ⟨#[120]⟩) by simp); have H4 := Aside0.mk (below_step (below_alloc (Below.refl _ _) _) hb4); clear hb4)
  go_ret
  exact ⟨rfl, H4.out⟩
set_option maxRecDepth 100000 in
set_option maxHeartbeats 4000000 in
theorem sp_t (x : Nat) (hx : x < 18446744073709551616) (w : World) (htab : Lib.TabIs Tryz.prog w "internal/strconv.uint64pow10" .u64 Lib.pow10Tab) : Calls Tryz.prog 46 #[.iface 22 (.int .u64 (x : Int))] w fun e w' => e = .returned (.string ⟨(Lib.decDigits x).toArray⟩) ∧ Below w.heap.size w w' := by
  have HN := Aside0.mk (fun W => nu_t (x : Int) (by omega) (by omega) W)
  have HF := Aside0.mk (fun W => fu10_calls x (by omega) W)
  have HT := Aside0.mk htab
  clear htab
  go_enter Tryz.func46, Tryz.ntmps46
  go_wp2_with (first | (go_at_call 32; refine (zv_t _ _).mono ?_; rintro e w2 ⟨rfl, hb2⟩; have H2 := Aside0.mk hb2; clear hb2) | (go_at_call 75; refine (HN.out _).mono ?_; rintro e w3 ⟨rfl, hb3⟩; have H3 := Aside0.mk (below_step H2.out hb3); clear hb3) | (go_at_call 6; refine (HF.out _ (tab_up HT.out H3.out)).mono ?_; rintro e w4 ⟨rfl, hb4⟩; have H4 := Aside0.mk (below_step H3.out hb4); clear hb4))
  go_ret
  exact ⟨rfl, H4.out⟩
set_option maxRecDepth 100000 in
set_option maxHeartbeats 4000000 in
theorem fm_t (x : Nat) (hx : x < 18446744073709551616) (w : World) (htab : Lib.TabIs Tryz.prog w "internal/strconv.uint64pow10" .u64 Lib.pow10Tab) : Calls Tryz.prog 34 #[.agg #[.string ⟨#[116]⟩, .iface 22 (.int .u64 (x : Int))]] w fun e w' => e = .returned (.tuple #[.string ⟨(Lib.decDigits x).toArray⟩, .bool false]) ∧ Below w.heap.size w w' := by
  have HT := Aside0.mk htab
  clear htab
  have HS := Aside0.mk (fun W => sp_t x hx W)
  go_enter Tryz.func34, Tryz.ntmps34
  go_wp2_with (go_at_call 46; refine (HS.out _ (tab_up HT.out (below_alloc (Below.refl _ _) _))).mono ?_; rintro e w4 ⟨rfl, hb4⟩; have H4 := Aside0.mk (below_step (below_alloc (Below.refl _ _) _) hb4); clear hb4)
  go_ret2
  exact ⟨rfl, H4.out⟩
set_option maxRecDepth 100000 in
set_option maxHeartbeats 4000000 in
theorem st_t (x : Nat) (hx : x < 18446744073709551616) (w : World) (htab : Lib.TabIs Tryz.prog w "internal/strconv.uint64pow10" .u64 Lib.pow10Tab) : Calls Tryz.prog 20 #[.agg #[.string ⟨#[116]⟩, .iface 22 (.int .u64 (x : Int))]] w fun e w' => e = .returned (.string (⟨#[64]⟩ ++ ⟨#[116]⟩ ++ ⟨#[32]⟩ ++ ⟨(Lib.decDigits x).toArray⟩)) ∧ Below w.heap.size w w' := by
  have HT := Aside0.mk htab
  clear htab
  have HS := Aside0.mk (fun W => fm_t x hx W)
  have hq : ¬ (9223372036854775807 < 3 + ((Lib.decDigits x).length)) := by have := dd_len (u := x) (by omega); omega
  go_enter Tryz.func20, Tryz.ntmps20
  go_wp2_with (go_at_call 34; refine (HS.out _ (tab_up HT.out (below_alloc (Below.refl _ _) _))).mono ?_; rintro e w4 ⟨rfl, hb4⟩; have h9 := pw_cell_below hb4 (show World.cell? (w.alloc (.cells #[.string ⟨#[116]⟩, .iface 22 (.int .u64 (x : Int))] 54)) ⟨w.heap.size, 0, none⟩ = some (.string ⟨#[116]⟩) by simp); have H4 := Aside0.mk (below_step (below_alloc (Below.refl _ _) _) hb4); clear hb4)
  go_ret
  exact ⟨rfl, H4.out⟩
set_option maxRecDepth 100000 in
set_option maxHeartbeats 4000000 in
theorem sp_h (x : Nat) (hx : x < 4294967296) (w : World) (htab : Lib.TabIs Tryz.prog w "internal/strconv.uint64pow10" .u64 Lib.pow10Tab) : Calls Tryz.prog 46 #[.iface 71 (.int .u32 (x : Int))] w fun e w' => e = .returned (.string ⟨(Lib.decDigits x).toArray⟩) ∧ Below w.heap.size w w' := by
  have HN := Aside0.mk (fun W => nu_h (x : Int) (by omega) (by omega) W)
  have HF := Aside0.mk (fun W => fu10_calls x (by omega) W)
  have HT := Aside0.mk htab
  clear htab
  go_enter Tryz.func46, Tryz.ntmps46
  go_wp2_with (first | (go_at_call 32; refine (zv_h _ _).mono ?_; rintro e w2 ⟨rfl, hb2⟩; have H2 := Aside0.mk hb2; clear hb2) | (go_at_call 75; refine (HN.out _).mono ?_; rintro e w3 ⟨rfl, hb3⟩; have H3 := Aside0.mk (below_step H2.out hb3); clear hb3) | (go_at_call 6; refine (HF.out _ (tab_up HT.out H3.out)).mono ?_; rintro e w4 ⟨rfl, hb4⟩; have H4 := Aside0.mk (below_step H3.out hb4); clear hb4))
  go_ret
  exact ⟨rfl, H4.out⟩
set_option maxRecDepth 100000 in
set_option maxHeartbeats 4000000 in
theorem fm_h (x : Nat) (hx : x < 4294967296) (w : World) (htab : Lib.TabIs Tryz.prog w "internal/strconv.uint64pow10" .u64 Lib.pow10Tab) : Calls Tryz.prog 34 #[.agg #[.string ⟨#[104]⟩, .iface 71 (.int .u32 (x : Int))]] w fun e w' => e = .returned (.tuple #[.string ⟨(Lib.decDigits x).toArray⟩, .bool false]) ∧ Below w.heap.size w w' := by
  have HT := Aside0.mk htab
  clear htab
  have HS := Aside0.mk (fun W => sp_h x hx W)
  go_enter Tryz.func34, Tryz.ntmps34
  go_wp2_with (go_at_call 46; refine (HS.out _ (tab_up HT.out (below_alloc (Below.refl _ _) _))).mono ?_; rintro e w4 ⟨rfl, hb4⟩; have H4 := Aside0.mk (below_step (below_alloc (Below.refl _ _) _) hb4); clear hb4)
  go_ret2
  exact ⟨rfl, H4.out⟩
set_option maxRecDepth 100000 in
set_option maxHeartbeats 4000000 in
theorem st_h (x : Nat) (hx : x < 4294967296) (w : World) (htab : Lib.TabIs Tryz.prog w "internal/strconv.uint64pow10" .u64 Lib.pow10Tab) : Calls Tryz.prog 20 #[.agg #[.string ⟨#[104]⟩, .iface 71 (.int .u32 (x : Int))]] w fun e w' => e = .returned (.string (⟨#[64]⟩ ++ ⟨#[104]⟩ ++ ⟨#[32]⟩ ++ ⟨(Lib.decDigits x).toArray⟩)) ∧ Below w.heap.size w w' := by
  have HT := Aside0.mk htab
  clear htab
  have HS := Aside0.mk (fun W => fm_h x hx W)
  have hq : ¬ (9223372036854775807 < 3 + ((Lib.decDigits x).length)) := by have := dd_len (u := x) (by omega); omega
  go_enter Tryz.func20, Tryz.ntmps20
  go_wp2_with (go_at_call 34; refine (HS.out _ (tab_up HT.out (below_alloc (Below.refl _ _) _))).mono ?_; rintro e w4 ⟨rfl, hb4⟩; have h9 := pw_cell_below hb4 (show World.cell? (w.alloc (.cells #[.string ⟨#[104]⟩, .iface 71 (.int .u32 (x : Int))] 54)) ⟨w.heap.size, 0, none⟩ = some (.string ⟨#[104]⟩) by simp); have H4 := Aside0.mk (below_step (below_alloc (Below.refl _ _) _) hb4); clear hb4)
  go_ret
  exact ⟨rfl, H4.out⟩


end Go.Proofs.YtjahkodciflgdaaGreatDoor.MFnVtStringNumber
