-- A trial text of this session.
import Derived.Test.YtjahkodciflgdaaGreatDoorVs4
namespace Go.Proofs.YtjahkodciflgdaaGreatDoor.MFnVtStringNumber
open Go.RowKit Go.Proofs.YtjahkodciflgdaaGreatDoorW.PrintWords Go.Proofs.YtjahkodciflgdaaGreatDoorW.PrintLast Go.Proofs.YtjahkodciflgdaaGreatDoorW.PrintMore
attribute [local go_sem] max2_int min2_int max_two min_two max_three min_three max_four min_four
set_option linter.unusedVariables false
set_option linter.unusedSimpArgs false

/-- The table's two cells that are read. -/
def Gt (w : World) : Prop := w.cell? ⟨4, 7, none⟩ = some (.int .u8 3) ∧ w.cell? ⟨4, 15, none⟩ = some (.int .u8 4)
theorem Gt.up {w W : World} (h : Gt w) (hb : Below w.heap.size w W) : Gt W := ⟨pw_cell_below hb h.1, pw_cell_below hb h.2⟩
theorem tz_calls (B S : Int) (hB : (B = 8 ∧ S = 3) ∨ (B = 16 ∧ S = 4)) (w : World) (hG : Gt w) : Calls Tryz.prog 36 #[.int .u64 B] w fun e w' => e = .returned (.int .i64 S) ∧ w' = w := by
  obtain ⟨g1, g2⟩ := hG
  rcases hB with ⟨rfl, rfl⟩ | ⟨rfl, rfl⟩
  · have hq : IntKind.u64.wrap (Go.bits BinOp.and IntKind.u64 8 (IntKind.u64.wrap (-8)) * 285870213051353865) / 288230376151711744 = 7 := by decide +kernel
    go_enter Tryz.func36, Tryz.ntmps36
    go_wp2
    go_ret
    simp
  · have hq : IntKind.u64.wrap (Go.bits BinOp.and IntKind.u64 16 (IntKind.u64.wrap (-16)) * 285870213051353865) / 288230376151711744 = 15 := by decide +kernel
    go_enter Tryz.func36, Tryz.ntmps36
    go_wp2
    go_ret
    simp
theorem tz2_calls (B S : Int) (hB : (B = 8 ∧ S = 3) ∨ (B = 16 ∧ S = 4)) (w : World) (hG : Gt w) : Calls Tryz.prog 25 #[.int .u64 B] w fun e w' => e = .returned (.int .i64 S) ∧ w' = w := by
  have HT := Aside0.mk (tz_calls B S hB w hG)
  clear hG hB
  go_enter Tryz.func25, Tryz.ntmps25
  go_wp2_with (go_at_call 36; refine HT.out.mono ?_; rintro e w2 ⟨rfl, rfl⟩)
  go_ret
  simp
theorem pow2_calls (B : Int) (hB : B = 8 ∨ B = 16) (w : World) : Calls Tryz.prog 24 #[.int .i64 B] w fun e w' => e = .returned (.bool true) ∧ w' = w := by
  rcases hB with rfl | rfl
  · have hq : (Go.bits BinOp.and IntKind.i64 8 7 == 0) = true := by decide +kernel
    go_enter Tryz.func24, Tryz.ntmps24
    go_wp2
    go_ret
    simp [hq]
  · have hq : (Go.bits BinOp.and IntKind.i64 16 15 == 0) = true := by decide +kernel
    go_enter Tryz.func24, Tryz.ntmps24
    go_wp2
    go_ret
    simp [hq]
theorem info5y : (Tryz.prog.info? 5).map (fun i => (i.zero, i.size, i.bytes)) = some (some (.int .u8 0), 1, 1) := by kernel_rfl
def Z65 : Array Value := (List.replicate 65 (Value.int .u8 0)).toArray
theorem info62x : (Tryz.prog.info? 62).map (fun i => (i.zero, i.size)) = some (some (.agg Z65), 65) := by kernel_rfl
theorem zero62 (W : World) : (zeroValue 62).run Tryz.prog W = .ok (.agg Z65) W := by
  obtain ⟨i, hi, hz⟩ := Option.map_eq_some_iff.1 info62x
  simp only [Prod.mk.injEq] at hz
  simp [zeroValue, typeInfo, hi, hz.1]
def dch (d : Nat) : UInt8 := if d < 10 then UInt8.ofNat (48 + d) else UInt8.ofNat (87 + d)
/-- A number's digits. -/
def digs (B u : Nat) : List UInt8 := if h : u < B ∨ B < 2 then [dch u] else digs B (u / B) ++ [dch (u % B)]
termination_by u
decreasing_by
  have : 2 ≤ B := by omega
  exact Nat.div_lt_self (by omega) (by omega)
theorem digs_small {B u : Nat} (h : u < B) : digs B u = [dch u] := by
  rw [digs.eq_def]
  simp [h]
theorem digs_step {B u : Nat} (hB : 2 ≤ B) (h : B ≤ u) : digs B u = digs B (u / B) ++ [dch (u % B)] := by
  rw [digs.eq_def, dif_neg (by omega)]
theorem and7 : ∀ n : Fin 512, Go.bits BinOp.and IntKind.u64 (n.val : Int) 7 = ((n.val % 8 : Nat) : Int) := by decide +kernel
theorem and15 : ∀ n : Fin 512, Go.bits BinOp.and IntKind.u64 (n.val : Int) 15 = ((n.val % 16 : Nat) : Int) := by decide +kernel
theorem lit_fin : ∀ n : Fin 36, (#[48, 49, 50, 51, 52, 53, 54, 55, 56, 57, 97, 98, 99, 100, 101, 102, 103, 104, 105, 106, 107, 108, 109, 110, 111, 112, 113, 114, 115, 116, 117, 118, 119, 120, 121, 122] : Array UInt8)[n.val]! = dch n.val := by decide +kernel
theorem lit_at {d : Nat} (hd : d < 36) (h : d < (⟨#[48, 49, 50, 51, 52, 53, 54, 55, 56, 57, 97, 98, 99, 100, 101, 102, 103, 104, 105, 106, 107, 108, 109, 110, 111, 112, 113, 114, 115, 116, 117, 118, 119, 120, 121, 122]⟩ : ByteArray).size) :
    (⟨#[48, 49, 50, 51, 52, 53, 54, 55, 56, 57, 97, 98, 99, 100, 101, 102, 103, 104, 105, 106, 107, 108, 109, 110, 111, 112, 113, 114, 115, 116, 117, 118, 119, 120, 121, 122]⟩ : ByteArray)[d]'h = dch d := by
  have := lit_fin ⟨d, hd⟩
  simp only at this
  rw [← this]
  exact (getElem!_pos (#[48, 49, 50, 51, 52, 53, 54, 55, 56, 57, 97, 98, 99, 100, 101, 102, 103, 104, 105, 106, 107, 108, 109, 110, 111, 112, 113, 114, 115, 116, 117, 118, 119, 120, 121, 122] : Array UInt8) d h).symm
theorem row_set {w wr : World} {b j : Nat} {arr : Array Value} {suf : List UInt8} {c : UInt8} (hb : wr.heap[b]? = some (.cells arr 62 (0, 0))) (hs : arr.size = 65) (hj : j < 65) (hd : arr.toList.drop (j + 1) = Lib.byteCells suf) (hB : Below b w wr) :
    (wr.setCell ⟨b, j, none⟩ (.int .u8 (c.toNat : Int))).heap[b]? = some (.cells (arr.setIfInBounds j (.int .u8 (c.toNat : Int))) 62 (0, 0)) ∧ (arr.setIfInBounds j (.int .u8 (c.toNat : Int))).size = 65 ∧
    (arr.setIfInBounds j (.int .u8 (c.toNat : Int))).toList.drop j = Lib.byteCells (c :: suf) ∧ Below b w (wr.setCell ⟨b, j, none⟩ (.int .u8 (c.toNat : Int))) := by
  refine ⟨heap_setCell_same wr b j arr 62 _ hb, by simpa using hs, ?_, hB.setCell (Nat.le_refl _) _⟩
  rw [Array.toList_setIfInBounds, List.drop_eq_getElem_cons (by rw [List.length_set, Array.length_toList]; omega), List.drop_set_of_lt (by omega), hd]
  simp [Lib.byteCells]
set_option maxHeartbeats 2000000 in
set_option maxRecDepth 100000 in
theorem fb_calls (B S M : Int) (hB : (B = 8 ∧ S = 3 ∧ M = 7) ∨ (B = 16 ∧ S = 4 ∧ M = 15)) (n : Nat) (hn : n ≤ 511) (w : World) (hG : Gt w) :
    Calls Tryz.prog 16 #[.slice none 0 0, .int .u64 (n : Int), .int .i64 B, .bool false, .bool false] w fun e w' => e = .returned (.tuple #[.slice none 0 0, .string ⟨(digs B.toNat n).toArray⟩]) ∧ Below w.heap.size w w' := by
  have hz := zero62
  have HG := Aside0.mk hG
  clear hG
  rcases hB with ⟨rfl, rfl, rfl⟩ | ⟨rfl, rfl, rfl⟩
  · have HP := Aside0.mk (fun W => pow2_calls 8 (.inl rfl) W)
    have HT := Aside0.mk (fun W => tz2_calls 8 3 (.inl ⟨rfl, rfl⟩) W)
    go_enter Tryz.func16, Tryz.ntmps16
    go_wp2_with (first | (go_at_call 24; refine (HP.out _).mono ?_; rintro e w2 ⟨rfl, rfl⟩) | (go_at_call 25; refine (HT.out _ ?hg).mono ?_; (case hg => exact ⟨pw_cell_below (below_alloc (Below.refl _ _) _) HG.out.1, pw_cell_below (below_alloc (Below.refl _ _) _) HG.out.2⟩); rintro e w2 ⟨rfl, rfl⟩))
    go_loopg [1, 13] n (fun kq v1 v13 w' => ∃ (u i : Nat) (arr : Array Value) (suf : List UInt8), v1 = .int .u64 (u : Int) ∧ v13 = .int .i64 (i : Int) ∧ u ≤ 511 ∧ i + suf.length = 65 ∧ 1 ≤ i ∧
      Aside0 (kq = u ∧ u * 8 ^ suf.length ≤ 511 ∧ digs 8 n = digs 8 u ++ suf ∧ w'.heap[w.heap.size]? = some (.cells arr 62 (0, 0)) ∧ arr.size = 65 ∧ arr.toList.drop i = Lib.byteCells suf ∧ Below w.heap.size w w'))
    case atStart => exact ⟨n, 65, Z65, [], rfl, rfl, hn, rfl, by omega, ⟨rfl, by simp; omega, by simp, heap_alloc_new _ _, rfl, rfl, below_alloc (Below.refl _ _) _⟩⟩
    case round =>
      obtain ⟨u, i, arr, suf, rfl, rfl, hu, hi, hi1, HA⟩ := hrel
      by_cases hb : 8 ≤ u
      · have hd1 : decide ((8 : Int) ≤ (u : Int)) = true := by simp; omega
        have hand := and7 ⟨u, by omega⟩
        simp only at hand
        obtain ⟨j, rfl⟩ : ∃ j, i = j + 1 := ⟨i - 1, by omega⟩
        have hwi : IntKind.i64.wrap (((j + 1 : Nat) : Int) - 1) = (j : Int) := by rw [IntKind.wrap_i64]; omega
        have hj : j < arr.size := by have := HA.out.2.2.2.2.1; omega
        have hc : wr.cell? ⟨w.heap.size, j, none⟩ = some arr[j] := by rw [cell_of_row wr w.heap.size j _ 62 (0, 0) HA.out.2.2.2.1]; simp [hj]
        have hf := frozen_of_row wr w.heap.size j _ 62 HA.out.2.2.2.1
        have hj0 : (0 : Int) ≤ (j : Int) := by omega
        have hj1 : (j : Int) < 65 := by omega
        have hm0 : u % 8 < 8 := Nat.mod_lt _ (by omega)
        have hm36 : u % 8 < 36 := by omega
        have hlit := fun h => lit_at (d := u % 8) hm36 h
        have HL := Aside0.mk hlit
        clear hlit
        go_wp2
        go_roundg (u / 8)
        case measure => have := HA.out.1; omega
        case rel =>
          have h1 := HA.out
          have R := row_set (c := dch (u % 8)) h1.2.2.2.1 h1.2.2.2.2.1 (by omega) h1.2.2.2.2.2.1 h1.2.2.2.2.2.2
          rw [HL.out]
          have hp : u / 8 * 8 ^ (suf.length + 1) ≤ 511 := by
            have q := h1.2.1
            have q2 : u / 8 * 8 ≤ u := Nat.div_mul_le_self u 8
            have e1 : u / 8 * 8 ^ (suf.length + 1) = u / 8 * 8 * 8 ^ suf.length := by rw [Nat.pow_succ, Nat.mul_comm (8 ^ suf.length) 8, Nat.mul_assoc]
            rw [e1]
            exact Nat.le_trans (Nat.mul_le_mul_right _ q2) q
          have hs3 : suf.length ≤ 2 := by
            rcases Nat.lt_or_ge 2 suf.length with q | q
            · have q3 : 8 ^ 3 ≤ 8 ^ suf.length := Nat.pow_le_pow_right (by omega) q
              have q4 := h1.2.1
              have q5 : 8 * 8 ^ suf.length ≤ u * 8 ^ suf.length := Nat.mul_le_mul_right _ hb
              omega
            · exact q
          exact ⟨u / 8, j, _, dch (u % 8) :: suf, by first | rfl | simp, rfl, by omega, by simp; omega, by omega, ⟨rfl, hp, by rw [h1.2.2.1, digs_step (by omega) hb, List.append_assoc]; rfl, R.1, R.2.1, R.2.2.1, R.2.2.2⟩⟩
      · have hd1 : decide ((8 : Int) ≤ (u : Int)) = false := by simp; omega
        obtain ⟨j, rfl⟩ : ∃ j, i = j + 1 := ⟨i - 1, by omega⟩
        have hwi : IntKind.i64.wrap (((j + 1 : Nat) : Int) - 1) = (j : Int) := by rw [IntKind.wrap_i64]; omega
        have hj : j < arr.size := by have := HA.out.2.2.2.2.1; omega
        have hc : wr.cell? ⟨w.heap.size, j, none⟩ = some arr[j] := by rw [cell_of_row wr w.heap.size j _ 62 (0, 0) HA.out.2.2.2.1]; simp [hj]
        have hf := frozen_of_row wr w.heap.size j _ 62 HA.out.2.2.2.1
        have hj0 : (0 : Int) ≤ (j : Int) := by omega
        have hj1 : (j : Int) < 65 := by omega
        have hm36 : u < 36 := by omega
        have hlit := fun h => lit_at (d := u) hm36 h
        have hsl : ∀ W : World, (Instr.sliceAt 62 (.pointer (some ⟨w.heap.size, 0, none⟩)) (some (.int .i64 (j : Int))) none none).run Tryz.prog W = .ok (.slice (some ⟨w.heap.size, j, none⟩) (65 - j) (65 - j)) W := by
          intro W
          have hal : Tryz.prog.arrayLen 62 = 65 := by kernel_rfl
          have hel : Tryz.prog.elem 62 = 5 := by kernel_rfl
          obtain ⟨i0, hi5, hz5⟩ := Option.map_eq_some_iff.1 info5y
          simp only [Prod.mk.injEq] at hz5
          rw [run_sliceAt_array_l W 62 ⟨w.heap.size, 0, none⟩ (by rw [hel]; simp [Program.arrayLen, Tryz.underlying62]) .i64 (j : Int) hj0 (by rw [hal]; omega)]
          simp [sizeOf, typeInfo, hel, hi5, hz5.2.1, hal, sliced, Result.andThen, Addr.add_lit]
          clear hwi
          have hq9 := HA.out.2.2.2.2.1
          have hq8 : ¬ (65 : Nat) = j := by omega
          simp [slicedAt, hq8, Ne.symm hq8, Addr.add_lit]
        have h1 := HA.out
        have R := row_set (c := dch u) h1.2.2.2.1 h1.2.2.2.2.1 (by clear hwi; omega) h1.2.2.2.2.2.1 h1.2.2.2.2.2.2
        have hds : digs 8 n = dch u :: suf := by rw [h1.2.2.1, digs_small (by clear hwi; omega)]; rfl
        have hl5 : (dch u :: suf).length = 65 - j := by simp only [List.length_cons]; clear hwi; omega
        have hcv := run_convert_bytes_back (P := Tryz.prog) (wr.setCell ⟨w.heap.size, j, none⟩ (.int .u8 ((dch u).toNat : Int))) 26 9 5 ⟨w.heap.size, j, none⟩ (65 - j) (dch u :: suf) Tryz.underlying26 Tryz.underlying5 Tryz.underlying9 (fun q hq => by
          rw [Addr.add_lit, cell_of_row _ w.heap.size (j + q) _ 62 (0, 0) R.1]
          have e1 : ((arr.setIfInBounds j (.int .u8 ((dch u).toNat : Int))).toList.drop j)[q]? = some (.int .u8 ((dch u :: suf)[q].toNat : Int)) := by
            rw [R.2.2.1]
            rw [Lib.byteCells, List.getElem?_map, List.getElem?_eq_getElem hq]
            rfl
          rw [List.getElem?_drop, Array.getElem?_toList] at e1
          exact e1)
        rw [hl5] at hcv
        have RB := Aside0.mk R.2.2.2
        have HDS := Aside0.mk hds
        clear h1 R hds hl5
        go_wp2
        go_ret2
        exact ⟨by rw [← HDS.out]; rfl, RB.out⟩
  · have HP := Aside0.mk (fun W => pow2_calls 16 (.inr rfl) W)
    have HT := Aside0.mk (fun W => tz2_calls 16 4 (.inr ⟨rfl, rfl⟩) W)
    go_enter Tryz.func16, Tryz.ntmps16
    go_wp2_with (first | (go_at_call 24; refine (HP.out _).mono ?_; rintro e w2 ⟨rfl, rfl⟩) | (go_at_call 25; refine (HT.out _ ?hg).mono ?_; (case hg => exact ⟨pw_cell_below (below_alloc (Below.refl _ _) _) HG.out.1, pw_cell_below (below_alloc (Below.refl _ _) _) HG.out.2⟩); rintro e w2 ⟨rfl, rfl⟩))
    go_loopg [1, 13] n (fun kq v1 v13 w' => ∃ (u i : Nat) (arr : Array Value) (suf : List UInt8), v1 = .int .u64 (u : Int) ∧ v13 = .int .i64 (i : Int) ∧ u ≤ 511 ∧ i + suf.length = 65 ∧ 1 ≤ i ∧
      Aside0 (kq = u ∧ u * 16 ^ suf.length ≤ 511 ∧ digs 16 n = digs 16 u ++ suf ∧ w'.heap[w.heap.size]? = some (.cells arr 62 (0, 0)) ∧ arr.size = 65 ∧ arr.toList.drop i = Lib.byteCells suf ∧ Below w.heap.size w w'))
    case atStart => exact ⟨n, 65, Z65, [], rfl, rfl, hn, rfl, by omega, ⟨rfl, by simp; omega, by simp, heap_alloc_new _ _, rfl, rfl, below_alloc (Below.refl _ _) _⟩⟩
    case round =>
      obtain ⟨u, i, arr, suf, rfl, rfl, hu, hi, hi1, HA⟩ := hrel
      by_cases hb : 16 ≤ u
      · have hd1 : decide ((16 : Int) ≤ (u : Int)) = true := by simp; omega
        have hand := and15 ⟨u, by omega⟩
        simp only at hand
        obtain ⟨j, rfl⟩ : ∃ j, i = j + 1 := ⟨i - 1, by omega⟩
        have hwi : IntKind.i64.wrap (((j + 1 : Nat) : Int) - 1) = (j : Int) := by rw [IntKind.wrap_i64]; omega
        have hj : j < arr.size := by have := HA.out.2.2.2.2.1; omega
        have hc : wr.cell? ⟨w.heap.size, j, none⟩ = some arr[j] := by rw [cell_of_row wr w.heap.size j _ 62 (0, 0) HA.out.2.2.2.1]; simp [hj]
        have hf := frozen_of_row wr w.heap.size j _ 62 HA.out.2.2.2.1
        have hj0 : (0 : Int) ≤ (j : Int) := by omega
        have hj1 : (j : Int) < 65 := by omega
        have hm0 : u % 16 < 16 := Nat.mod_lt _ (by omega)
        have hm36 : u % 16 < 36 := by omega
        have hlit := fun h => lit_at (d := u % 16) hm36 h
        have HL := Aside0.mk hlit
        clear hlit
        go_wp2
        go_roundg (u / 16)
        case measure => have := HA.out.1; omega
        case rel =>
          have h1 := HA.out
          have R := row_set (c := dch (u % 16)) h1.2.2.2.1 h1.2.2.2.2.1 (by omega) h1.2.2.2.2.2.1 h1.2.2.2.2.2.2
          rw [HL.out]
          have hp : u / 16 * 16 ^ (suf.length + 1) ≤ 511 := by
            have q := h1.2.1
            have q2 : u / 16 * 16 ≤ u := Nat.div_mul_le_self u 16
            have e1 : u / 16 * 16 ^ (suf.length + 1) = u / 16 * 16 * 16 ^ suf.length := by rw [Nat.pow_succ, Nat.mul_comm (16 ^ suf.length) 16, Nat.mul_assoc]
            rw [e1]
            exact Nat.le_trans (Nat.mul_le_mul_right _ q2) q
          have hs3 : suf.length ≤ 2 := by
            rcases Nat.lt_or_ge 2 suf.length with q | q
            · have q3 : 16 ^ 3 ≤ 16 ^ suf.length := Nat.pow_le_pow_right (by omega) q
              have q4 := h1.2.1
              have q5 : 16 * 16 ^ suf.length ≤ u * 16 ^ suf.length := Nat.mul_le_mul_right _ hb
              omega
            · exact q
          exact ⟨u / 16, j, _, dch (u % 16) :: suf, by first | rfl | simp, rfl, by omega, by simp; omega, by omega, ⟨rfl, hp, by rw [h1.2.2.1, digs_step (by omega) hb, List.append_assoc]; rfl, R.1, R.2.1, R.2.2.1, R.2.2.2⟩⟩
      · have hd1 : decide ((16 : Int) ≤ (u : Int)) = false := by simp; omega
        obtain ⟨j, rfl⟩ : ∃ j, i = j + 1 := ⟨i - 1, by omega⟩
        have hwi : IntKind.i64.wrap (((j + 1 : Nat) : Int) - 1) = (j : Int) := by rw [IntKind.wrap_i64]; omega
        have hj : j < arr.size := by have := HA.out.2.2.2.2.1; omega
        have hc : wr.cell? ⟨w.heap.size, j, none⟩ = some arr[j] := by rw [cell_of_row wr w.heap.size j _ 62 (0, 0) HA.out.2.2.2.1]; simp [hj]
        have hf := frozen_of_row wr w.heap.size j _ 62 HA.out.2.2.2.1
        have hj0 : (0 : Int) ≤ (j : Int) := by omega
        have hj1 : (j : Int) < 65 := by omega
        have hm36 : u < 36 := by omega
        have hlit := fun h => lit_at (d := u) hm36 h
        have hsl : ∀ W : World, (Instr.sliceAt 62 (.pointer (some ⟨w.heap.size, 0, none⟩)) (some (.int .i64 (j : Int))) none none).run Tryz.prog W = .ok (.slice (some ⟨w.heap.size, j, none⟩) (65 - j) (65 - j)) W := by
          intro W
          have hal : Tryz.prog.arrayLen 62 = 65 := by kernel_rfl
          have hel : Tryz.prog.elem 62 = 5 := by kernel_rfl
          obtain ⟨i0, hi5, hz5⟩ := Option.map_eq_some_iff.1 info5y
          simp only [Prod.mk.injEq] at hz5
          rw [run_sliceAt_array_l W 62 ⟨w.heap.size, 0, none⟩ (by rw [hel]; simp [Program.arrayLen, Tryz.underlying62]) .i64 (j : Int) hj0 (by rw [hal]; omega)]
          simp [sizeOf, typeInfo, hel, hi5, hz5.2.1, hal, sliced, Result.andThen, Addr.add_lit]
          clear hwi
          have hq9 := HA.out.2.2.2.2.1
          have hq8 : ¬ (65 : Nat) = j := by omega
          simp [slicedAt, hq8, Ne.symm hq8, Addr.add_lit]
        have h1 := HA.out
        have R := row_set (c := dch u) h1.2.2.2.1 h1.2.2.2.2.1 (by clear hwi; omega) h1.2.2.2.2.2.1 h1.2.2.2.2.2.2
        have hds : digs 16 n = dch u :: suf := by rw [h1.2.2.1, digs_small (by clear hwi; omega)]; rfl
        have hl5 : (dch u :: suf).length = 65 - j := by simp only [List.length_cons]; clear hwi; omega
        have hcv := run_convert_bytes_back (P := Tryz.prog) (wr.setCell ⟨w.heap.size, j, none⟩ (.int .u8 ((dch u).toNat : Int))) 26 9 5 ⟨w.heap.size, j, none⟩ (65 - j) (dch u :: suf) Tryz.underlying26 Tryz.underlying5 Tryz.underlying9 (fun q hq => by
          rw [Addr.add_lit, cell_of_row _ w.heap.size (j + q) _ 62 (0, 0) R.1]
          have e1 : ((arr.setIfInBounds j (.int .u8 ((dch u).toNat : Int))).toList.drop j)[q]? = some (.int .u8 ((dch u :: suf)[q].toNat : Int)) := by
            rw [R.2.2.1]
            rw [Lib.byteCells, List.getElem?_map, List.getElem?_eq_getElem hq]
            rfl
          rw [List.getElem?_drop, Array.getElem?_toList] at e1
          exact e1)
        rw [hl5] at hcv
        have RB := Aside0.mk R.2.2.2
        have HDS := Aside0.mk hds
        clear h1 R hds hl5
        go_wp2
        go_ret2
        exact ⟨by rw [← HDS.out]; rfl, RB.out⟩
theorem fu14_calls (B S M : Int) (hB : (B = 8 ∧ S = 3 ∧ M = 7) ∨ (B = 16 ∧ S = 4 ∧ M = 15)) (n : Nat) (hn : n ≤ 511) (w : World) (hG : Gt w) :
    Calls Tryz.prog 9 #[.int .u64 (n : Int), .int .i64 B] w fun e w' => e = .returned (.string ⟨(digs B.toNat n).toArray⟩) ∧ Below w.heap.size w w' := by
  have HF := Aside0.mk (fb_calls B S M hB n hn w hG)
  have hb : (B == 10) = false := by rcases hB with ⟨rfl, _⟩ | ⟨rfl, _⟩ <;> rfl
  clear hG hB
  go_enter Tryz.func9, Tryz.ntmps9
  go_wp2_with (go_at_call 16; refine HF.out.mono ?_; rintro e w2 ⟨rfl, hb2⟩; have HB := Aside0.mk hb2; clear hb2)
  go_ret
  exact ⟨rfl, HB.out⟩
theorem fu_calls (B S M : Int) (hB : (B = 8 ∧ S = 3 ∧ M = 7) ∨ (B = 16 ∧ S = 4 ∧ M = 15)) (n : Nat) (hn : n ≤ 511) (w : World) (hG : Gt w) :
    Calls Tryz.prog 6 #[.int .u64 (n : Int), .int .i64 B] w fun e w' => e = .returned (.string ⟨(digs B.toNat n).toArray⟩) ∧ Below w.heap.size w w' := by
  have HF := Aside0.mk (fu14_calls B S M hB n hn w hG)
  clear hG hB
  go_enter Tryz.func6, Tryz.ntmps6
  go_wp2_with (go_at_call 9; refine HF.out.mono ?_; rintro e w2 ⟨rfl, hb2⟩; have HB := Aside0.mk hb2; clear hb2)
  go_ret
  exact ⟨rfl, HB.out⟩


end Go.Proofs.YtjahkodciflgdaaGreatDoor.MFnVtStringNumber
