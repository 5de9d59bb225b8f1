-- A trial text of this session.
import Derived.Test.YtcnhpiodomknfaaGreatDoorWt25
namespace Go.Proofs.YtcnhpiodomknfaaGreatDoor.MFnWrTurned
open Go.RowKit Go.Proofs.YtcnhpiodomknfaaGreatDoorW.PrintWords Go.Proofs.YtcnhpiodomknfaaGreatDoorW.PrintLast Go.Proofs.YtcnhpiodomknfaaGreatDoorW.PrintMore
attribute [local go_sem] max2_int min2_int max_two min_two max_three min_three max_four min_four
set_option linter.unusedVariables false
set_option linter.unusedSimpArgs false

attribute [-go_sem] Builtin.append_
set_option maxRecDepth 100000 in
set_option maxHeartbeats 16000000 in
theorem law_gen (c : UInt8) (ix k hh : Nat) (nv : Nat → Int) (Z : ByteArray) (ST : Bool → List Nat → ByteArray) (hix9 : ix < 9) (hb : ∀ h, (((⟨#[121, 110, 113, 105, 117, 120, 116, 100, 104]⟩ : ByteArray)[ix]'h).toNat : Int) = (c.toNat : Int)) (hk : 1 ≤ k) (hk8 : k ≤ 8) (hZ : hh = 4 + Z.size) (hZ4 : Z.size ≤ 4)
    (hSZ : ∀ W, Calls Tryz.prog 4 #[.int .u8 (c.toNat : Int)] W fun e w' => e = .returned (.int .i64 (k : Int)) ∧ w' = W)
    (hWN : ∀ v : Nat, v < 18446744073709551616 → ∀ W, Calls Tryz.prog 5 #[.int .u8 (c.toNat : Int), .int .u64 (v : Int), .bool false] W fun e w' => ∃ t, e = .returned (.tuple #[.agg #[.int .u8 (c.toNat : Int), .int .u64 (nv (v % 256 ^ k)), .string ⟨#[]⟩, .slice none 0 0], .string t]) ∧ Below W.heap.size W w')
    (hWE : ∀ t (ms : List Nat), (∀ m ∈ ms, m < 256 ^ k) → ms.length ≤ 200 → ∀ A W, Kd.C k28 W A 1 [⟨97, 0, ⟨#[c]⟩, ms.map fun m => (⟨(c.toNat : Int), nv m, ⟨#[]⟩, []⟩ : S28)⟩] → Calls Tryz.prog 6 #[.slice A 1 1, .bool t, .int .i64 0] W fun e w' => e = .returned (.tuple #[.string (ST t ms), .bool true]) ∧ Below W.heap.size W w')
    (hWZ : ∀ W, Calls Tryz.prog 7 #[.int .i64 4, .int .i64 (k : Int)] W fun e w' => e = .returned (.string Z) ∧ Below W.heap.size W w')
    (hlenS : ∀ t ms, (∀ m ∈ ms, m < 256 ^ k) → (ST t ms).size = hh + k * ms.length)
    (hT1 : ∀ ms, (∀ m ∈ ms, m < 256 ^ k) → ms.length ≤ 200 → ∀ i, i < 4 → ∀ h1 h2, ((ST true ms)[i]'h1).toNat = ((ST false ms)[3 - i]'h2).toNat)
    (hT2 : ∀ ms, (∀ m ∈ ms, m < 256 ^ k) → ∀ i, hh ≤ i → i < hh + k * ms.length → ∀ h1 h2, ((ST true ms)[i]'h1).toNat = ((ST false ms)[2 * (i - (i - hh) % k) + k - 1 - i]'h2).toNat)
    (a1 : Int) (hrem : a1.tmod 9 = (ix : Int)) (A : Option Addr) (vs : List Nat) (cp : Nat) (w : World) (hn : vs.length ≤ 200) (hvs : ∀ v ∈ vs, v < 18446744073709551616) (hR : ReadsInt w .u64 A vs.length (vs.map fun v : Nat => (v : Int))) :
    Calls Tryz.prog 3 #[.slice A vs.length cp, .int .u8 a1] w fun e w' => e = .returned (.bool true) ∧ Below w.heap.size w w' := by
  have hd1 : decide ((2147483647 : Int) < (vs.length : Int)) = false := by simp; omega
  have hd2 : decide ((200 : Int) < (vs.length : Int)) = false := by simp; omega
  have hix1 : (ix : Int) < 9 := by omega
  have hcv : ∀ W : World, (convert 24 9 (.slice (some ⟨W.heap.size, 0, none⟩) 1 1)).run Tryz.prog (W.alloc (.cells #[.int .u8 (c.toNat : Int)] 5)) = .ok (.string ⟨#[c]⟩) (W.alloc (.cells #[.int .u8 (c.toNat : Int)] 5)) := fun W => by
    rw [← str1 c]
    exact own_string (base := W.heap.size) (e' := 5) Tryz.underlying24 Tryz.underlying5 Tryz.underlying9 (n := 1) (xs := [(c.toNat : Int)]) ⟨rfl, .inr ⟨W.heap.size, 1, #[.int .u8 (c.toNat : Int)], rfl, Nat.le_refl _, heap_alloc_new W _, Nat.le_refl _, by decide, rfl, rfl⟩⟩
  have HR := Aside0.mk hR
  have HVS := Aside0.mk hvs
  have HSZ := Aside0.mk hSZ
  have HWN := Aside0.mk hWN
  have HWE := Aside0.mk hWE
  have HWZ := Aside0.mk hWZ
  have HLEN := Aside0.mk hlenS
  have HT1 := Aside0.mk hT1
  have HT2 := Aside0.mk hT2
  have HZ := Aside0.mk (And.intro hZ hZ4)
  obtain ⟨C, hC⟩ : ∃ C, (c.toNat : Int) = C := ⟨_, rfl⟩
  clear hR hvs hSZ hWN hWE hWZ hlenS hT1 hT2 hZ hZ4
  rw [hC] at hcv
  simp only [hC] at hb HSZ HWN HWE
  clear hC
  go_enter Tryz.func3, Tryz.ntmps3
  go_wp2_with (first
    | (go_at_call 4; refine (HSZ.out _).mono ?_; rintro e1 w2 ⟨rfl, hw⟩; obtain rfl := hw.symm; clear hw)
    | fail)
  go_loopg [37] vs.length (fun kq v37 wr => ∃ (i : Nat) (Av : Option Addr) (cv : Nat), v37 = .int .i64 (i : Int) ∧ i ≤ vs.length ∧ Aside0 (kq = vs.length - i ∧ Below w.heap.size w wr ∧ wr.heap[w.heap.size + 1]? = some (.cells #[.int .u8 97, .int .u64 0, .string ⟨#[c]⟩, .slice Av i cv] 28 (0, 0)) ∧ wr.ownsRow (w.heap.size + 2) 28 4 (.slice Av i cv) i (((vs.take i).map fun v => v % 256 ^ k).flatMap fun m => c4 C (nv m))))
  case atStart =>
    refine ⟨0, none, 0, rfl, by omega, ⟨rfl, below_alloc (below_alloc (Below.refl _ _) _) _, ?_, by simpa using World.ownsRow_nil _ _ _ _⟩⟩
    have h := heap_alloc_new (w.alloc (.cells #[.int .u8 C] 5)) (.cells #[.int .u8 97, .int .u64 0, .string ⟨#[c]⟩, .slice none 0 0] 28)
    simpa using h
  case round =>
    obtain ⟨i, Av, cv, rfl, hi, HI⟩ := hrel
    by_cases hlt : i < vs.length
    · have hd : decide ((i : Int) < (vs.length : Int)) = true := by simpa using hlt
      have hwi : IntKind.i64.wrap ((i : Int) + 1) = ((i + 1 : Nat) : Int) := by rw [IntKind.wrap_i64]; omega
      obtain ⟨v, hv⟩ : ∃ v, vs[i]? = some v := ⟨vs[i], List.getElem?_eq_getElem hlt⟩
      obtain ⟨ad, rfl, hc⟩ := HR.out.at_ (i : Int) (by omega) (by omega)
      have hrd : rd (vs.map fun v : Nat => (v : Int)) (i : Int) = (v : Int) := by
        unfold rd
        rw [Int.toNat_natCast, List.getD_eq_getElem?_getD, List.getElem?_map, hv]
        rfl
      rw [hrd] at hc
      replace hc := pw_cell_below HI.out.2.1 hc
      simp only [Int.toNat_natCast] at hc
      have HV := Aside0.mk hv
      clear hv hrd
      obtain ⟨N, hN⟩ : ∃ N, nv (v % 256 ^ k) = N := ⟨_, rfl⟩
      have HWv := Aside0.mk (HWN.out v (HVS.out v (List.mem_of_getElem? HV.out)))
      rw [hN] at HWv
      have HN := Aside0.mk hN
      clear hN
      go_wp2_with (first
        | (go_at_call 5; refine (HWv.out _).mono ?_; rintro e1 w3 ⟨tx, rfl, hb⟩; have HB3 := Aside0.mk (below_step HI.out.2.1 hb); have HL3 := Aside0.mk (up_heap3 hb HI.out.2.2.1); have HO3 := Aside0.mk (pw_own_below HI.out.2.2.2 hb); clear hb;
            have l3 := fun o => pw_cell_below (below_alloc (Below.refl w3.heap.size w3) o) ((cell_of_row w3 (w.heap.size + 1) 3 _ 28 (0, 0) HL3.out).trans rfl);
            have hx := heap_alloc_new w3 (.cells #[.int .u8 C, .int .u64 N, .string ⟨#[]⟩, .slice none 0 0] 28);
            have x0 := (cell_of_row _ w3.heap.size 0 _ 28 (0, 0) hx).trans rfl; have x1 := (cell_of_row _ w3.heap.size 1 _ 28 (0, 0) hx).trans rfl; have x2 := (cell_of_row _ w3.heap.size 2 _ 28 (0, 0) hx).trans rfl; have x3 := (cell_of_row _ w3.heap.size 3 _ 28 (0, 0) hx).trans rfl;
            obtain ⟨A1, c1, w7, hr, ho7, hb7, hl7⟩ := app4 C N i cv Av _ (w.heap.size + 2) (w.heap.size + 1) ⟨#[c]⟩ w3 (by omega) HO3.out (by omega) HL3.out (by have h1 := (Array.getElem?_eq_some_iff.1 HL3.out).1; omega);
            simp only [c4] at hr;
            have y7 := (cell_of_row w7 (w.heap.size + 1) 3 _ 28 (0, 0) hl7).trans rfl; have f7 := frozen_of_row w7 (w.heap.size + 1) 3 _ 28 hl7; have HO7 := Aside0.mk ho7; have HB7 := Aside0.mk hb7; have HL7 := Aside0.mk hl7; clear ho7 hb7 hl7 hx)
        | fail)
      go_roundg (vs.length - (i + 1))
      case measure => have := HI.out.1; omega
      case rel =>
        refine ⟨i + 1, A1, c1, by simp, by omega, ⟨rfl, (HB3.out.trans (below_weaken HB7.out (by omega))).setCell (by show w.heap.size ≤ w.heap.size + 1; omega) _, heap_setCell_same w7 (w.heap.size + 1) 3 _ 28 _ HL7.out, ?_⟩⟩
        rw [take_c4 C nv k vs i v HV.out, HN.out]
        exact own_move HO7.out fun q hq => Below.heap_setCell w7 ⟨w.heap.size + 1, 3, none⟩ _ q (by have := own_base HO7.out q hq; show q ≠ w.heap.size + 1; omega)
    · have hd : decide ((i : Int) < (vs.length : Int)) = false := by simpa using hlt
      obtain rfl : i = vs.length := by omega
      rw [List.take_length] at HI
      have hl6 := HI.out.2.2.1
      have b0 : wr.cell? ⟨w.heap.size + 1, 0, none⟩ = some (.int .u8 97) := (cell_of_row wr (w.heap.size + 1) 0 _ 28 (0, 0) hl6).trans rfl
      have b1 : wr.cell? ⟨w.heap.size + 1, 1, none⟩ = some (.int .u64 0) := (cell_of_row wr (w.heap.size + 1) 1 _ 28 (0, 0) hl6).trans rfl
      have b2 : wr.cell? ⟨w.heap.size + 1, 2, none⟩ = some (.string ⟨#[c]⟩) := (cell_of_row wr (w.heap.size + 1) 2 _ 28 (0, 0) hl6).trans rfl
      have b3 : wr.cell? ⟨w.heap.size + 1, 3, none⟩ = some (.slice Av vs.length cv) := (cell_of_row wr (w.heap.size + 1) 3 _ 28 (0, 0) hl6).trans rfl
      obtain ⟨ms, hms⟩ : ∃ ms, (vs.map fun v => v % 256 ^ k) = ms := ⟨_, rfl⟩
      rw [hms] at HI
      have hml : ms.length = vs.length := by rw [← hms]; simp
      have hmo : ∀ m ∈ ms, m < 256 ^ k := by
        intro m hm
        rw [← hms] at hm
        obtain ⟨v, _, rfl⟩ := List.mem_map.1 hm
        exact Nat.mod_lt _ (Nat.pow_pos (by decide))
      obtain ⟨M, hM⟩ : ∃ M, k * ms.length = M := ⟨_, rfl⟩
      have hM1 : M ≤ 1600 := by have h8 : k * ms.length ≤ 8 * 200 := Nat.mul_le_mul hk8 (by omega); omega
      have hz4 := HZ.out.2
      have hhz := HZ.out.1
      obtain ⟨S1, hS1⟩ : ∃ S, ST true ms = S := ⟨_, rfl⟩
      obtain ⟨S2, hS2⟩ : ∃ S, ST false ms = S := ⟨_, rfl⟩
      obtain ⟨L, hL⟩ : ∃ L, hh + M = L := ⟨_, rfl⟩
      have hs1 : S1.size = L := by rw [← hS1, HLEN.out true ms hmo, hM, hL]
      have hs2 : S2.size = L := by rw [← hS2, HLEN.out false ms hmo, hM, hL]
      have hwm : IntKind.i64.wrap ((k : Int) * (vs.length : Int)) = (M : Int) := by
        have h1 : (k : Int) * (vs.length : Int) = (M : Int) := by rw [← hM, hml]; simp
        rw [h1, IntKind.wrap_i64]; omega
      have hwa : IntKind.i64.wrap ((hh : Int) + (M : Int)) = (L : Int) := by rw [IntKind.wrap_i64]; omega
      have hwz : IntKind.i64.wrap (4 + (Z.size : Int)) = (hh : Int) := by rw [IntKind.wrap_i64]; omega
      have HL := Aside0.mk (And.intro hM (And.intro hL hhz))
      have HMO := Aside0.mk (And.intro hmo (And.intro hml (And.intro hS1 hS2)))
      have HWE1 := Aside0.mk (HWE.out true ms hmo (by omega))
      have HWE2 := Aside0.mk (HWE.out false ms hmo (by omega))
      rw [hS1] at HWE1
      rw [hS2] at HWE2
      have hLl : L ≤ 1608 := by omega
      clear hM hL hhz hmo hml hS1 hS2 hms hl6
      go_wp2_with fail
      refine (HWE1.out _ _ (kids_C2 C nv ms _ HMO.out.2.1 _ _ Av cv (w.heap.size + 2) HI.out.2.2.2)).mono ?_
      rintro e1 w3 ⟨rfl, hb3⟩
      have HB3 := Aside0.mk (below_step (below_alloc HI.out.2.1 _) hb3)
      have HO3 := Aside0.mk (pw_own_below (HI.out.2.2.2.alloc _) hb3)
      have c0 := pw_cell_below hb3 (pw_cell_below (below_alloc (Below.refl _ _) _) b0)
      have c1 := pw_cell_below hb3 (pw_cell_below (below_alloc (Below.refl _ _) _) b1)
      have c2 := pw_cell_below hb3 (pw_cell_below (below_alloc (Below.refl _ _) _) b2)
      have c3 := pw_cell_below hb3 (pw_cell_below (below_alloc (Below.refl _ _) _) b3)
      clear hb3
      go_wp2_with fail
      refine (HWE2.out _ _ (kids_C2 C nv ms _ HMO.out.2.1 _ _ Av cv (w.heap.size + 2) HO3.out)).mono ?_
      rintro e1 w4 ⟨rfl, hb4⟩
      have HB4 := Aside0.mk (below_step (below_alloc HB3.out _) hb4)
      clear hb4
      go_wp2_with fail
      refine (HWZ.out _).mono ?_
      rintro e1 w5 ⟨rfl, hb5⟩
      have HB5 := Aside0.mk (below_step HB4.out hb5)
      clear hb5
      go_wp2_with fail
      go_loopg [17] 4 (fun kq v17 wq => ∃ (j : Nat), v17 = .int .i64 (j : Int) ∧ j ≤ 4 ∧ Aside0 (kq = 4 - j ∧ Below w.heap.size w wq))
      case atStart => exact ⟨0, rfl, by omega, ⟨rfl, HB5.out⟩⟩
      case round =>
        obtain ⟨j, rfl, hj, HJ⟩ := hrel
        by_cases hj4 : j < 4
        · have hdj : decide ((j : Int) < 4) = true := by simp; omega
          have hwj : IntKind.i64.wrap ((j : Int) + 1) = ((j + 1 : Nat) : Int) := by rw [IntKind.wrap_i64]; omega
          have hwk : IntKind.i64.wrap (3 - (j : Int)) = ((3 - j : Nat) : Int) := by rw [IntKind.wrap_i64]; omega
          have ht1 := HT1.out ms HMO.out.1 (by have := HMO.out.2.1; omega) j hj4
          rw [HMO.out.2.2.1, HMO.out.2.2.2] at ht1
          have hL4 : 4 ≤ L := by have := HL.out; omega
          obtain ⟨j3, hj3⟩ : ∃ j3, 3 - j = j3 := ⟨_, rfl⟩
          rw [hj3] at hwk ht1
          have hj34 : j3 < 4 := by omega
          clear hj3
          have hj1 : (j : Int) < (S1.size : Int) := by omega
          have hj2 : (j3 : Int) < (S2.size : Int) := by omega
          obtain ⟨B, hB1⟩ : ∃ B, ((S1[j]'(by omega)).toNat : Int) = B := ⟨_, rfl⟩
          have hB2 : ∀ h, ((S2[j3]'h).toNat : Int) = B := fun h => by rw [← hB1, ht1 (by omega) h]
          replace hB1 : ∀ h, ((S1[j]'h).toNat : Int) = B := fun _ => hB1
          clear hs1 hs2 ht1
          go_wp2_with fail
          go_quiet (fail)
          go_wp2_with fail
          go_roundg (4 - (j + 1))
          case measure => have := HJ.out.1; omega
          case rel => exact ⟨j + 1, by simp, by omega, ⟨rfl, by first | exact pw_below_drewN HJ.out.2 _ | exact HJ.out.2⟩⟩
        · have hdj : decide ((j : Int) < 4) = false := by simp; omega
          have hhL := HL.out.2.1
          go_wp2_with fail
          go_loopg [18] (L - hh) (fun kq v18 wq2 => ∃ (i : Nat), v18 = .int .i64 (i : Int) ∧ hh ≤ i ∧ i ≤ L ∧ Aside0 (kq = L - i ∧ Below w.heap.size w wq2))
          case atStart => exact ⟨hh, rfl, by omega, by omega, ⟨by omega, HJ.out.2⟩⟩
          case round =>
            obtain ⟨i, rfl, hi0, hi, HJ2⟩ := hrel
            by_cases hi4 : i < L
            · have hdi : decide ((i : Int) < (L : Int)) = true := by simp; omega
              have hwj : IntKind.i64.wrap ((i : Int) + 1) = ((i + 1 : Nat) : Int) := by rw [IntKind.wrap_i64]; omega
              obtain ⟨d, hd0⟩ : ∃ d, i - hh = d := ⟨_, rfl⟩
              have hwd : IntKind.i64.wrap ((i : Int) - (hh : Int)) = (d : Int) := by rw [IntKind.wrap_i64]; omega
              obtain ⟨r, hr0⟩ : ∃ r, d % k = r := ⟨_, rfl⟩
              have hwr : Int.tmod (d : Int) (k : Int) = (r : Int) := by rw [← hr0, Int.tmod_eq_emod_of_nonneg (by omega)]; simp
              have hrk : r < k := by rw [← hr0]; exact Nat.mod_lt _ (by omega)
              have hrd : r ≤ d := by rw [← hr0]; exact Nat.mod_le _ _
              obtain ⟨b, hb0⟩ : ∃ b, i - r = b := ⟨_, rfl⟩
              have hwb : IntKind.i64.wrap ((i : Int) - (r : Int)) = (b : Int) := by rw [IntKind.wrap_i64]; omega
              obtain ⟨x1, hx1⟩ : ∃ x, 2 * b = x := ⟨_, rfl⟩
              have hw1 : IntKind.i64.wrap (2 * (b : Int)) = (x1 : Int) := by rw [IntKind.wrap_i64]; omega
              obtain ⟨x2, hx2⟩ : ∃ x, x1 + k = x := ⟨_, rfl⟩
              have hw2 : IntKind.i64.wrap ((x1 : Int) + (k : Int)) = (x2 : Int) := by rw [IntKind.wrap_i64]; omega
              obtain ⟨x3, hx3⟩ : ∃ x, x2 - 1 = x := ⟨_, rfl⟩
              have hw3 : IntKind.i64.wrap ((x2 : Int) - 1) = (x3 : Int) := by rw [IntKind.wrap_i64]; omega
              obtain ⟨x4, hx4⟩ : ∃ x, x3 - i = x := ⟨_, rfl⟩
              have hw4 : IntKind.i64.wrap ((x3 : Int) - (i : Int)) = (x4 : Int) := by rw [IntKind.wrap_i64]; omega
              have ht2 := HT2.out ms HMO.out.1 i hi0 (by have h1 := HL.out.1; omega)
              have hxe : 2 * (i - (i - hh) % k) + k - 1 - i = x4 := by rw [hd0, hr0]; omega
              rw [HMO.out.2.2.1, HMO.out.2.2.2, hxe] at ht2
              have hkz : decide ((k : Int) = 0) = false := by simp; omega
              have hk0 : (k : Int) ≠ 0 := by omega
              have hx4L : x4 < L := by
                have h1 : d / k < ms.length := by
                  have h2 := HL.out.1
                  exact Nat.div_lt_of_lt_mul (by omega)
                have h2 : k * (d / k) + r = d := by rw [← hr0]; exact Nat.div_add_mod d k
                have h3 : k * (d / k + 1) ≤ k * ms.length := Nat.mul_le_mul_left k h1
                have h4 := HL.out.1
                rw [Nat.mul_add] at h3
                omega
              have hj1 : (i : Int) < (S1.size : Int) := by omega
              have hj2 : (x4 : Int) < (S2.size : Int) := by omega
              obtain ⟨B, hB1⟩ : ∃ B, ((S1[i]'(by omega)).toNat : Int) = B := ⟨_, rfl⟩
              have hB2 : ∀ h, ((S2[x4]'h).toNat : Int) = B := fun h => by rw [← hB1, ht2 (by omega) h]
              replace hB1 : ∀ h, ((S1[i]'h).toNat : Int) = B := fun _ => hB1
              clear hs1 hs2 ht2 hx1 hx2 hx3 hx4 hxe hb0 hr0 hd0 hrk hrd hx4L
              go_wp2_with fail
              go_quiet (fail)
              go_wp2_with fail
              go_roundg (L - (i + 1))
              case measure => have := HJ2.out.1; omega
              case rel => exact ⟨i + 1, by simp, by omega, by omega, ⟨rfl, by first | exact pw_below_drewN HJ2.out.2 _ | exact HJ2.out.2⟩⟩
            · have hdi : decide ((i : Int) < (L : Int)) = false := by simp; omega
              go_wp2_with fail
              go_ret
              exact ⟨rfl, HJ2.out.2⟩


end Go.Proofs.YtcnhpiodomknfaaGreatDoor.MFnWrTurned
