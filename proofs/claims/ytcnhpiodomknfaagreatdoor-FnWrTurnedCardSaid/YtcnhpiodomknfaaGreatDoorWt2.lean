-- A trial text of this session.
import Derived.Test.YtcnhpiodomknfaaGreatDoorWt1
namespace Go.Proofs.YtcnhpiodomknfaaGreatDoor.MFnWrTurned
open Go.RowKit Go.Proofs.YtcnhpiodomknfaaGreatDoorW.PrintWords Go.Proofs.YtcnhpiodomknfaaGreatDoorW.PrintLast Go.Proofs.YtcnhpiodomknfaaGreatDoorW.PrintMore
attribute [local go_sem] max2_int min2_int max_two min_two max_three min_three max_four min_four
set_option linter.unusedVariables false
set_option linter.unusedSimpArgs false

attribute [local go_sem] as2_2 as2_4 as2_5 as2_21 as2_25 as2_43 as2_87 as2_90 as2_121 as2_130 as2_131 as2_132 as5_2 as5_5 as5_21 as5_25 as5_43 as5_87 as5_90 as5_91 as5_137 as21_4 as21_5 as21_21 as21_25 as21_43 as21_87 as21_90 as21_121 as21_130 as21_131 as21_132 as25_2 as25_4 as25_5 as25_21 as25_25 as25_43 as25_87 as25_90 as25_130 as25_131 as25_132 as25_137 as43_4 as43_5 as43_25 as43_43 as43_87 as43_90 as43_121 as43_130 as43_131 as43_132 as87_2 as87_4 as87_5 as87_21 as87_43 as87_87 as87_90 as87_130 as87_131 as87_132 as87_137 as90_2 as90_4 as90_5 as90_21 as90_43 as90_90 as90_130 as90_131 as90_132 as90_137 as91_2 as91_4 as91_5 as91_21 as91_25 as91_43 as91_87 as91_90 as91_91 as91_121 as91_130 as91_131 as91_132 as91_137 as121_2 as121_4 as121_5 as121_9 as121_21 as121_25 as121_43 as121_87 as121_90 as121_91 as121_95 as121_103 as121_105 as121_121 as121_130 as121_131 as121_132 as121_137 as127_2 as127_4 as127_5 as127_9 as127_21 as127_24 as127_25 as127_43 as127_55 as127_87 as127_90 as127_91 as127_95 as127_103 as127_105 as127_121 as127_127 as127_130 as127_131 as127_132 as127_137 as127_146 as91_91f

theorem info5y : (Tryz.prog.info? 5).map (fun i => (i.zero, i.size, i.bytes)) = some (some (.int .u8 0), 1, 1) := by kernel_rfl
theorem mk_slice (n : Nat) (hn : n ≤ 1000) (cs : Array Value) (hc : cs = madeCells (Value.int .u8 0).cells n) (m : Int) (hm : m = (n : Int)) (W : World) : (Instr.makeSlice 24 (.int .i64 m) (.int .i64 m)).run Tryz.prog W = .ok (.slice (some ⟨W.heap.size, 0, none⟩) n n) (W.alloc (.cells cs 5)) := by
  subst hc hm
  obtain ⟨i, hi, hz⟩ := Option.map_eq_some_iff.1 info5y
  simp only [Prod.mk.injEq] at hz
  have h := run_make (P := Tryz.prog) W 24 5 i (.int .u8 0) Tryz.underlying24 hi hz.1 .i64 .i64 (n : Int) (n : Int) (by omega) (by omega) (by rw [hz.2.2]; omega) (by omega)
  simpa [hz.2.1] using h
theorem info50w : (Tryz.prog.info? 50).bind (fun i => (i.methods.find? (·.name == "Write")).map (fun m => (m.path.toList, m.func))) = some ([], some (98, true)) := by kernel_rfl
theorem nil_write (g : Nat) (W : World) : (nilAhead 296 50 (.pointer (some ⟨g, 0, none⟩)) "Write").run Tryz.prog W = .ok (some false) W := by
  obtain ⟨i, hi, h2⟩ := Option.bind_eq_some_iff.1 info50w
  obtain ⟨m, hm, h3⟩ := Option.map_eq_some_iff.1 h2
  simp only [Prod.mk.injEq] at h3
  have h : ∀ fuel, (nilAhead (fuel + 1) 50 (.pointer (some ⟨g, 0, none⟩)) "Write").run Tryz.prog W = .ok (some false) W := by
    intro fuel
    simp [nilAhead, typeInfo, hi, hm, h3.1, h3.2, followBlind, run_underlying Tryz.underlying50]
  exact h 295
theorem m_write (g : Nat) (W : World) : (method 296 50 (.pointer (some ⟨g, 0, none⟩)) "Write").run Tryz.prog W = .ok (98, .pointer (some ⟨g, 0, none⟩)) W := by
  obtain ⟨i, hi, h2⟩ := Option.bind_eq_some_iff.1 info50w
  obtain ⟨m, hm, h3⟩ := Option.map_eq_some_iff.1 h2
  simp only [Prod.mk.injEq] at h3
  have h : ∀ fuel, (method (fuel + 1) 50 (.pointer (some ⟨g, 0, none⟩)) "Write").run Tryz.prog W = .ok (98, .pointer (some ⟨g, 0, none⟩)) W := by
    intro fuel
    simp [method, typeInfo, hi, hm, h3.1, h3.2, follow, receiverAt, Place.get, run_underlying Tryz.underlying50]
  exact h 295
theorem info67_0 : (Tryz.prog.info? 67).bind (fun i => (i.methods.find? (·.name == "PutUint16")).map (fun m => (m.path.toList, m.func))) = some ([], some (104, false)) := by kernel_rfl
theorem m_67_0 (W : World) : (method 296 67 (.agg #[]) "PutUint16").run Tryz.prog W = .ok (104, .agg #[]) W := by
  obtain ⟨i, hi, h2⟩ := Option.bind_eq_some_iff.1 info67_0
  obtain ⟨m, hm, h3⟩ := Option.map_eq_some_iff.1 h2
  simp only [Prod.mk.injEq] at h3
  have h : ∀ fuel, (method (fuel + 1) 67 (.agg #[]) "PutUint16").run Tryz.prog W = .ok (104, .agg #[]) W := by
    intro fuel
    simp [method, typeInfo, hi, hm, h3.1, h3.2, follow, receiverAt, Place.get, run_underlying Tryz.underlying67]
  exact h 295
theorem info67_1 : (Tryz.prog.info? 67).bind (fun i => (i.methods.find? (·.name == "PutUint32")).map (fun m => (m.path.toList, m.func))) = some ([], some (105, false)) := by kernel_rfl
theorem m_67_1 (W : World) : (method 296 67 (.agg #[]) "PutUint32").run Tryz.prog W = .ok (105, .agg #[]) W := by
  obtain ⟨i, hi, h2⟩ := Option.bind_eq_some_iff.1 info67_1
  obtain ⟨m, hm, h3⟩ := Option.map_eq_some_iff.1 h2
  simp only [Prod.mk.injEq] at h3
  have h : ∀ fuel, (method (fuel + 1) 67 (.agg #[]) "PutUint32").run Tryz.prog W = .ok (105, .agg #[]) W := by
    intro fuel
    simp [method, typeInfo, hi, hm, h3.1, h3.2, follow, receiverAt, Place.get, run_underlying Tryz.underlying67]
  exact h 295
theorem info67_2 : (Tryz.prog.info? 67).bind (fun i => (i.methods.find? (·.name == "PutUint64")).map (fun m => (m.path.toList, m.func))) = some ([], some (106, false)) := by kernel_rfl
theorem m_67_2 (W : World) : (method 296 67 (.agg #[]) "PutUint64").run Tryz.prog W = .ok (106, .agg #[]) W := by
  obtain ⟨i, hi, h2⟩ := Option.bind_eq_some_iff.1 info67_2
  obtain ⟨m, hm, h3⟩ := Option.map_eq_some_iff.1 h2
  simp only [Prod.mk.injEq] at h3
  have h : ∀ fuel, (method (fuel + 1) 67 (.agg #[]) "PutUint64").run Tryz.prog W = .ok (106, .agg #[]) W := by
    intro fuel
    simp [method, typeInfo, hi, hm, h3.1, h3.2, follow, receiverAt, Place.get, run_underlying Tryz.underlying67]
  exact h 295
theorem info68_0 : (Tryz.prog.info? 68).bind (fun i => (i.methods.find? (·.name == "PutUint16")).map (fun m => (m.path.toList, m.func))) = some ([], some (112, false)) := by kernel_rfl
theorem m_68_0 (W : World) : (method 296 68 (.agg #[]) "PutUint16").run Tryz.prog W = .ok (112, .agg #[]) W := by
  obtain ⟨i, hi, h2⟩ := Option.bind_eq_some_iff.1 info68_0
  obtain ⟨m, hm, h3⟩ := Option.map_eq_some_iff.1 h2
  simp only [Prod.mk.injEq] at h3
  have h : ∀ fuel, (method (fuel + 1) 68 (.agg #[]) "PutUint16").run Tryz.prog W = .ok (112, .agg #[]) W := by
    intro fuel
    simp [method, typeInfo, hi, hm, h3.1, h3.2, follow, receiverAt, Place.get, run_underlying Tryz.underlying68]
  exact h 295
theorem info68_1 : (Tryz.prog.info? 68).bind (fun i => (i.methods.find? (·.name == "PutUint32")).map (fun m => (m.path.toList, m.func))) = some ([], some (113, false)) := by kernel_rfl
theorem m_68_1 (W : World) : (method 296 68 (.agg #[]) "PutUint32").run Tryz.prog W = .ok (113, .agg #[]) W := by
  obtain ⟨i, hi, h2⟩ := Option.bind_eq_some_iff.1 info68_1
  obtain ⟨m, hm, h3⟩ := Option.map_eq_some_iff.1 h2
  simp only [Prod.mk.injEq] at h3
  have h : ∀ fuel, (method (fuel + 1) 68 (.agg #[]) "PutUint32").run Tryz.prog W = .ok (113, .agg #[]) W := by
    intro fuel
    simp [method, typeInfo, hi, hm, h3.1, h3.2, follow, receiverAt, Place.get, run_underlying Tryz.underlying68]
  exact h 295
theorem info68_2 : (Tryz.prog.info? 68).bind (fun i => (i.methods.find? (·.name == "PutUint64")).map (fun m => (m.path.toList, m.func))) = some ([], some (114, false)) := by kernel_rfl
theorem m_68_2 (W : World) : (method 296 68 (.agg #[]) "PutUint64").run Tryz.prog W = .ok (114, .agg #[]) W := by
  obtain ⟨i, hi, h2⟩ := Option.bind_eq_some_iff.1 info68_2
  obtain ⟨m, hm, h3⟩ := Option.map_eq_some_iff.1 h2
  simp only [Prod.mk.injEq] at h3
  have h : ∀ fuel, (method (fuel + 1) 68 (.agg #[]) "PutUint64").run Tryz.prog W = .ok (114, .agg #[]) W := by
    intro fuel
    simp [method, typeInfo, hi, hm, h3.1, h3.2, follow, receiverAt, Place.get, run_underlying Tryz.underlying68]
  exact h 295

set_option maxRecDepth 100000 in
set_option maxHeartbeats 4000000 in
theorem pu_67_2 (m : Nat) (w : World) : Calls Tryz.prog 104 #[.agg #[], .slice (some ⟨w.heap.size, 0, none⟩) 2 2, .int .u16 (m : Int)] (w.alloc (.cells #[.int .u8 0, .int .u8 0] 5)) fun e w' => e = .returned (.tuple #[]) ∧ w' = (w.alloc (.cells #[.int .u8 ((m : Int) / 256 % 256), .int .u8 ((m : Int) % 256)] 5)).alloc (.cells #[] 67) := by
  go_enter Tryz.func104, Tryz.ntmps104
  go_wp2
  go_end0
  exact ⟨rfl, rfl⟩
set_option maxRecDepth 100000 in
set_option maxHeartbeats 4000000 in
theorem pu_67_4 (m : Nat) (w : World) : Calls Tryz.prog 105 #[.agg #[], .slice (some ⟨w.heap.size, 0, none⟩) 4 4, .int .u32 (m : Int)] (w.alloc (.cells #[.int .u8 0, .int .u8 0, .int .u8 0, .int .u8 0] 5)) fun e w' => e = .returned (.tuple #[]) ∧ w' = (w.alloc (.cells #[.int .u8 ((m : Int) / 16777216 % 256), .int .u8 ((m : Int) / 65536 % 256), .int .u8 ((m : Int) / 256 % 256), .int .u8 ((m : Int) % 256)] 5)).alloc (.cells #[] 67) := by
  go_enter Tryz.func105, Tryz.ntmps105
  go_wp2
  go_end0
  exact ⟨rfl, rfl⟩
set_option maxRecDepth 100000 in
set_option maxHeartbeats 4000000 in
theorem pu_67_8 (m : Nat) (w : World) : Calls Tryz.prog 106 #[.agg #[], .slice (some ⟨w.heap.size, 0, none⟩) 8 8, .int .u64 (m : Int)] (w.alloc (.cells #[.int .u8 0, .int .u8 0, .int .u8 0, .int .u8 0, .int .u8 0, .int .u8 0, .int .u8 0, .int .u8 0] 5)) fun e w' => e = .returned (.tuple #[]) ∧ w' = (w.alloc (.cells #[.int .u8 ((m : Int) / 72057594037927936 % 256), .int .u8 ((m : Int) / 281474976710656 % 256), .int .u8 ((m : Int) / 1099511627776 % 256), .int .u8 ((m : Int) / 4294967296 % 256), .int .u8 ((m : Int) / 16777216 % 256), .int .u8 ((m : Int) / 65536 % 256), .int .u8 ((m : Int) / 256 % 256), .int .u8 ((m : Int) % 256)] 5)).alloc (.cells #[] 67) := by
  go_enter Tryz.func106, Tryz.ntmps106
  go_wp2
  go_end0
  exact ⟨rfl, rfl⟩
set_option maxRecDepth 100000 in
set_option maxHeartbeats 4000000 in
theorem pu_68_2 (m : Nat) (w : World) : Calls Tryz.prog 112 #[.agg #[], .slice (some ⟨w.heap.size, 0, none⟩) 2 2, .int .u16 (m : Int)] (w.alloc (.cells #[.int .u8 0, .int .u8 0] 5)) fun e w' => e = .returned (.tuple #[]) ∧ w' = (w.alloc (.cells #[.int .u8 ((m : Int) % 256), .int .u8 ((m : Int) / 256 % 256)] 5)).alloc (.cells #[] 68) := by
  go_enter Tryz.func112, Tryz.ntmps112
  go_wp2
  go_end0
  exact ⟨rfl, rfl⟩
set_option maxRecDepth 100000 in
set_option maxHeartbeats 4000000 in
theorem pu_68_4 (m : Nat) (w : World) : Calls Tryz.prog 113 #[.agg #[], .slice (some ⟨w.heap.size, 0, none⟩) 4 4, .int .u32 (m : Int)] (w.alloc (.cells #[.int .u8 0, .int .u8 0, .int .u8 0, .int .u8 0] 5)) fun e w' => e = .returned (.tuple #[]) ∧ w' = (w.alloc (.cells #[.int .u8 ((m : Int) % 256), .int .u8 ((m : Int) / 256 % 256), .int .u8 ((m : Int) / 65536 % 256), .int .u8 ((m : Int) / 16777216 % 256)] 5)).alloc (.cells #[] 68) := by
  go_enter Tryz.func113, Tryz.ntmps113
  go_wp2
  go_end0
  exact ⟨rfl, rfl⟩
set_option maxRecDepth 100000 in
set_option maxHeartbeats 4000000 in
theorem pu_68_8 (m : Nat) (w : World) : Calls Tryz.prog 114 #[.agg #[], .slice (some ⟨w.heap.size, 0, none⟩) 8 8, .int .u64 (m : Int)] (w.alloc (.cells #[.int .u8 0, .int .u8 0, .int .u8 0, .int .u8 0, .int .u8 0, .int .u8 0, .int .u8 0, .int .u8 0] 5)) fun e w' => e = .returned (.tuple #[]) ∧ w' = (w.alloc (.cells #[.int .u8 ((m : Int) % 256), .int .u8 ((m : Int) / 256 % 256), .int .u8 ((m : Int) / 65536 % 256), .int .u8 ((m : Int) / 16777216 % 256), .int .u8 ((m : Int) / 4294967296 % 256), .int .u8 ((m : Int) / 1099511627776 % 256), .int .u8 ((m : Int) / 281474976710656 % 256), .int .u8 ((m : Int) / 72057594037927936 % 256)] 5)).alloc (.cells #[] 68) := by
  go_enter Tryz.func114, Tryz.ntmps114
  go_wp2
  go_end0
  exact ⟨rfl, rfl⟩
set_option maxRecDepth 100000 in
set_option maxHeartbeats 4000000 in
theorem pad0_calls (w : World) (e : Nat) (c0 c1 c2 : Value) (pos off n : Int) (he : w.heap[e]? = some (.cells #[c0, c1, c2, .int .i64 pos] 65 (0, 0))) (hp : 0 ≤ pos) (hp2 : pos ≤ 100000) (ho : 0 ≤ off) (ho2 : off ≤ 100000) (hn : 1 ≤ n) (hn2 : n ≤ 8) (hr : (pos + off) % n = 0) :
    Calls Tryz.prog 37 #[.pointer (some ⟨e, 0, none⟩), .int .i64 off, .int .i64 n] w fun e w' => e = .returned (.int .i64 0) ∧ w' = w := by
  have c3 : w.cell? ⟨e, 3, none⟩ = some (.int .i64 pos) := (cell_of_row w e 3 _ 65 (0, 0) he).trans rfl
  have hw : IntKind.i64.wrap (pos + off) = pos + off := by rw [IntKind.wrap_i64]; omega
  have hr2 : (pos + off).tmod n = 0 := by rw [Int.tmod_eq_emod_of_nonneg (by omega)]; exact hr
  have hn0 : (n == 0) = false := by simp; omega
  have hn1 : ¬ n = 0 := by omega
  clear he
  go_enter Tryz.func37, Tryz.ntmps37
  go_wp2
  go_ret
  exact ⟨rfl, rfl⟩
theorem w4 : wrap64 (Go.bits BinOp.and IntKind.i64 11 (Go.bits BinOp.xor IntKind.i64 (-1) 7) - 4) = 4 := by decide +kernel
theorem pad4_calls (w : World) (e : Nat) (c0 c1 c2 : Value) (pos off : Int) (he : w.heap[e]? = some (.cells #[c0, c1, c2, .int .i64 pos] 65 (0, 0))) (hr : pos + off = 4) :
    Calls Tryz.prog 37 #[.pointer (some ⟨e, 0, none⟩), .int .i64 off, .int .i64 8] w fun e w' => e = .returned (.int .i64 4) ∧ w' = w := by
  have c3 : w.cell? ⟨e, 3, none⟩ = some (.int .i64 pos) := (cell_of_row w e 3 _ 65 (0, 0) he).trans rfl
  clear he
  go_enter Tryz.func37, Tryz.ntmps37
  go_wp2
  all_goals
    go_ret
    exact ⟨by rw [w4]; rfl, rfl⟩
theorem align0_calls (w : World) (e : Nat) (c0 c1 c2 : Value) (pos n : Int) (he : w.heap[e]? = some (.cells #[c0, c1, c2, .int .i64 pos] 65 (0, 0))) (hp : 0 ≤ pos) (hp2 : pos ≤ 100000) (hn : 1 ≤ n) (hn2 : n ≤ 8) (hr : pos % n = 0) :
    Calls Tryz.prog 22 #[.pointer (some ⟨e, 0, none⟩), .int .i64 n] w fun e w' => e = .returned (.tuple #[]) ∧ w' = w := by
  have HP := Aside0.mk (fun W (h : W.heap[e]? = some (.cells #[c0, c1, c2, .int .i64 pos] 65 (0, 0))) => pad0_calls W e c0 c1 c2 pos 0 n h hp hp2 (by omega) (by omega) hn hn2 (by simpa using hr))
  have HE := Aside0.mk he
  clear he hp hp2 hn hn2 hr
  go_enter Tryz.func22, Tryz.ntmps22
  go_wp2_with (go_at_call 37; refine (HP.out _ HE.out).mono ?_; rintro e w2 ⟨rfl, rfl⟩)
  go_end0
  exact ⟨rfl, rfl⟩


end Go.Proofs.YtcnhpiodomknfaaGreatDoor.MFnWrTurned
