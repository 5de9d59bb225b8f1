-- Written by a program of this session (myprint.py, out of the translation). Not trusted: Lean checks it.
import Derived.Test.YtngbhojjjkdofaaDoorMFnVtBytesHexx0
namespace Go.Proofs.YtngbhojjjkdofaaDoor.MFnVtBytesHex
open Go.RowKit Go.Proofs.YtngbhojjjkdofaaDoorW.PrintWords Go.Proofs.YtngbhojjjkdofaaDoorW.PrintLast Go.Proofs.YtngbhojjjkdofaaDoorW.PrintMore
attribute [local go_sem] max2_int min2_int max_two min_two max_three min_three max_four min_four   -- for this text's walks alone
set_option linter.unusedVariables false
set_option linter.unusedSimpArgs false

/-! ### impl_VtBytes: function 7 -/
-- GIVENTEXT
/-! ### strconv.ParseUint of two hexadecimal or three octal digits -/
/-- A digit's number. -/
def dig (c : UInt8) : Option Nat := if 48 ≤ c.toNat ∧ c.toNat ≤ 57 then some (c.toNat - 48) else if 97 ≤ (c ||| 32).toNat ∧ (c ||| 32).toNat ≤ 122 then some ((c ||| 32).toNat - 87) else none
def numOf (base : Nat) : List UInt8 → Nat → Option Nat
  | [], n => some n
  | c :: r, n => match dig c with
    | none => none
    | some d => if base ≤ d then none else if 255 < n * base + d then none else numOf base r (n * base + d)
theorem lower_eq (c : UInt8) : Go.bits .or .u8 (c.toNat : Int) 32 = ((c ||| 32).toNat : Int) := by
  have : ∀ n : Fin 256, Go.bits .or .u8 (n.val : Int) 32 = ((UInt8.ofNat n.val ||| 32).toNat : Int) := by decide +kernel
  have h := this ⟨c.toNat, c.toNat_lt⟩
  simpa using h
theorem lower_calls (c : UInt8) (w : World) : Calls Tryd.prog 31 #[.int .u8 (c.toNat : Int)] w fun e w' => e = .returned (.int .u8 ((c ||| 32).toNat : Int)) ∧ w' = w := by
  have hl := lower_eq c
  go_enter Tryd.func31, Tryd.ntmps31
  go_wp2
  go_ret
  simp [hl]
def InnPost (B : Nat) (l : List UInt8) (W : World) (e : Ending) (w' : World) : Prop :=
  Below W.heap.size W w' ∧ ∃ (x : Int) (err : Value), e = .returned (.tuple #[.int .u64 x, err]) ∧ ((∃ n : Nat, x = (n : Int) ∧ numOf B l 0 = some n ∧ err = .nilIface) ∨ (numOf B l 0 = none ∧ ∃ c : Int, (c = 1 ∨ c = 2) ∧ err = .iface 64 (.int .i64 c)))
theorem num_step {B n i : Nat} {l : List UInt8} (h : i < l.length) : numOf B (l.drop i) n = match dig l[i] with
    | none => none
    | some d => if B ≤ d then none else if 255 < n * B + d then none else numOf B (l.drop (i + 1)) (n * B + d) := by
  rw [List.drop_eq_getElem_cons h]
  rfl
theorem dig_95 : dig 95 = none := by decide
theorem dig_no {c : UInt8} {L : Nat} (hL : L = (c ||| 32).toNat) (h : ¬ (48 ≤ c.toNat ∧ c.toNat ≤ 57)) (h2 : ¬ (97 ≤ L ∧ L ≤ 122)) : dig c = none := by subst hL; unfold dig; rw [if_neg h, if_neg h2]
theorem dig_let {c : UInt8} {L : Nat} (hL : L = (c ||| 32).toNat) (h : ¬ (48 ≤ c.toNat ∧ c.toNat ≤ 57)) (h2 : 97 ≤ L ∧ L ≤ 122) : dig c = some (L - 87) := by subst hL; unfold dig; rw [if_neg h, if_pos h2]
theorem lower_calls' {c : UInt8} {L : Nat} (hL : L = (c ||| 32).toNat) (w : World) : Calls Tryd.prog 31 #[.int .u8 (c.toNat : Int)] w fun e w' => e = .returned (.int .u8 (L : Int)) ∧ w' = w := by subst hL; exact lower_calls c w
theorem inn_big {B i n d : Nat} {l : List UInt8} {c : UInt8} {w w' : World} {x k : Int} (hb : Below w.heap.size w w') (h : numOf B l 0 = numOf B (l.drop i) n) (hi : i < l.length) (hc : c = l[i]) (hd : dig c = some d) (hk : k = 1 ∨ k = 2) (hbig : B ≤ d ∨ 255 < n * B + d) :
    InnPost B l w (.returned (.tuple #[.int .u64 x, .iface 64 (.int .i64 k)])) w' :=
  ⟨hb, x, _, rfl, .inr ⟨by
    rw [h, num_step hi, ← hc, hd]
    show (if B ≤ d then none else if 255 < n * B + d then none else _) = none
    by_cases h2 : B ≤ d
    · rw [if_pos h2]
    · rcases hbig with h1 | h1
      · exact absurd h1 h2
      · rw [if_neg h2, if_pos h1], k, hk, rfl⟩⟩
theorem inn_none {B i n : Nat} {l : List UInt8} {c : UInt8} {w w' : World} {k : Int} (hb : Below w.heap.size w w') (h : numOf B l 0 = numOf B (l.drop i) n) (hi : i < l.length) (hc : c = l[i]) (hd : dig c = none) (hk : k = 1 ∨ k = 2) :
    InnPost B l w (.returned (.tuple #[.int .u64 0, .iface 64 (.int .i64 k)])) w' :=
  ⟨hb, 0, _, rfl, .inr ⟨by rw [h, num_step hi, ← hc, hd], k, hk, rfl⟩⟩
set_option maxHeartbeats 4000000 in
set_option maxRecDepth 100000 in
theorem inner_calls (B : Nat) (B' C : Int) (hB : (B = 16 ∧ B' = 16 ∧ C = 1152921504606846976) ∨ (B = 8 ∧ B' = 8 ∧ C = 2305843009213693952)) (s : ByteArray) (h0 : 0 < s.size) (h1 : s.size ≤ 8) (w : World) : Calls Tryd.prog 27 #[.string s, (.int .i64 B'), .int .i64 8] w (InnPost B s.data.toList w) := by
  have hpe : s.toList.isEmpty = false := by
    rw [ByteArray.toList_eq]
    cases hl : s.data.toList with
    | nil => exact absurd h0 (by have : s.data.toList.length = s.size := rfl; rw [hl] at this; simp at this; omega)
    | cons _ _ => rfl
  have hpe2 : (s.toList == []) = false := by
    cases hl : s.toList with
    | nil => rw [hl] at hpe; cases hpe
    | cons _ _ => rfl
  have hcv := fun W : World => Lib.run_convert_string_bytes (P := Tryd.prog) W 9 27 5 s Tryd.underlying9 Tryd.underlying27 Tryd.underlying5
  have hlen : s.data.toList.length = s.size := rfl
  have hcell := fun j hj => Lib.bytesWorld_cell w 5 s j hj
  have hsz : w.heap.size ≤ (Lib.bytesWorld w 5 s).heap.size := by rw [Lib.bytesWorld_size]; omega
  have hbl : Below w.heap.size w (Lib.bytesWorld w 5 s) := bytes_below (Below.refl _ _) (Nat.le_refl _) 5 s
  have HBL := Aside0.mk hbl
  have HCELL := Aside0.mk hcell
  clear hbl hcell hsz
  rcases hB with ⟨rfl, rfl, rfl⟩ | ⟨rfl, rfl, rfl⟩
  · go_enter Tryd.func27, Tryd.ntmps27
    go_wp2
    clear hcv
    go_loopg [12, 13, 101] s.size (fun kq v12 v13 v101 w' => ∃ (i n : Nat), v12 = .bool false ∧ v13 = .int .u64 (n : Int) ∧ v101 = .int .i64 (i : Int) ∧ i ≤ s.size ∧ Aside0 (kq = s.size - i ∧ n ≤ 255 ∧ numOf 16 s.data.toList 0 = numOf 16 (s.data.toList.drop i) n) ∧ w' = Lib.bytesWorld w 5 s)
    case atStart => exact ⟨0, 0, rfl, rfl, rfl, Nat.zero_le _, ⟨rfl, by omega, rfl⟩, rfl⟩
    case round =>
      obtain ⟨i, n, rfl, rfl, rfl, his, HA, rfl⟩ := hrel
      by_cases hlt : i < s.size
      · have hd1 : decide ((i : Int) < (s.size : Int)) = true := by simpa using hlt
        have hd2 : decide (i < s.size) = true := by simpa using hlt
        obtain ⟨c, hc⟩ : ∃ c : UInt8, c = s.data.toList[i] := ⟨_, rfl⟩
        have hcx : (Lib.bytesWorld w 5 s).cell? ⟨w.heap.size, i, none⟩ = some (.int .u8 (c.toNat : Int)) := by
          rw [HCELL.out i hlt, hc]
          simp [List.getD, hlen, hlt]
        have HC := Aside0.mk hc
        clear hc
        go_upto_block 5 with (fail)
        go_cut [12, 16] (fun v12 v16 wc => ∃ d : Nat, v12 = .bool false ∧ v16 = .int .u8 (d : Int) ∧ d < 256 ∧ Aside0 (dig c = some d) ∧ wc = Lib.bytesWorld w 5 s)
        case first =>
          by_cases q : c = 95
          · subst q
            go_wp2_with (go_at_call 31; refine (lower_calls 95 _).mono ?_; rintro e w2 ⟨rfl, rfl⟩)
            go_ret2
            exact inn_none HBL.out HA.out.2.2 (by omega) HC.out dig_95 (.inr rfl)
          · have q1 : ((c.toNat : Int) == 95) = false := beq_eq_false_iff_ne.2 (fun e => q (UInt8.toNat_inj.1 (by show c.toNat = 95; omega)))
            obtain ⟨L, hL⟩ : ∃ L : Nat, L = (c ||| 32).toNat := ⟨_, rfl⟩
            have hL2 : L < 256 := by rw [hL]; exact (c ||| 32).toNat_lt
            have HL := Aside0.mk hL
            clear hL
            by_cases k1 : 48 ≤ c.toNat
            · have d1 : decide ((48 : Int) ≤ (c.toNat : Int)) = true := by simp; omega
              by_cases k2 : c.toNat ≤ 57
              · have d2 : decide ((c.toNat : Int) ≤ (57 : Int)) = true := by simp; omega
                have hw1 : IntKind.u8.wrap ((c.toNat : Int) - 48) = ((c.toNat - 48 : Nat) : Int) := by rw [IntKind.wrap_u8]; omega
                go_wp2
                go_meet
                exact ⟨c.toNat - 48, rfl, rfl, by omega, ⟨by unfold dig; rw [if_pos ⟨k1, k2⟩]⟩, rfl⟩
              · have d2 : decide ((c.toNat : Int) ≤ (57 : Int)) = false := by simp; omega
                have nd : ¬ (48 ≤ c.toNat ∧ c.toNat ≤ 57) := by omega
                have ND := Aside0.mk nd
                clear nd
                by_cases k3 : 97 ≤ L
                · have d3 : decide ((97 : Int) ≤ (L : Int)) = true := by simp; omega
                  by_cases k4 : L ≤ 122
                  · have d4 : decide ((L : Int) ≤ (122 : Int)) = true := by simp; omega
                    have hw1 : IntKind.u8.wrap ((L : Int) - 97) = ((L - 97 : Nat) : Int) := by rw [IntKind.wrap_u8]; omega
                    have hw2 : IntKind.u8.wrap (((L - 97 : Nat) : Int) + 10) = ((L - 87 : Nat) : Int) := by rw [IntKind.wrap_u8]; omega
                    have hd3 := dig_let HL.out ND.out ⟨k3, k4⟩
                    have HD3 := Aside0.mk hd3
                    clear hd3
                    go_wp2_with (go_at_call 31; refine (lower_calls' HL.out _).mono ?_; rintro e w2 ⟨rfl, rfl⟩)
                    go_meet
                    exact ⟨L - 87, rfl, rfl, by omega, HD3, rfl⟩
                  · have d4 : decide ((L : Int) ≤ (122 : Int)) = false := by simp; omega
                    have HD3 := Aside0.mk (dig_no HL.out ND.out (by omega))
                    go_wp2_with (go_at_call 31; refine (lower_calls' HL.out _).mono ?_; rintro e w2 ⟨rfl, rfl⟩)
                    go_ret2
                    exact inn_none HBL.out HA.out.2.2 (by omega) HC.out HD3.out (.inr rfl)
                · have d3 : decide ((97 : Int) ≤ (L : Int)) = false := by simp; omega
                  have HD3 := Aside0.mk (dig_no HL.out ND.out (by omega))
                  go_wp2_with (go_at_call 31; refine (lower_calls' HL.out _).mono ?_; rintro e w2 ⟨rfl, rfl⟩)
                  go_ret2
                  exact inn_none HBL.out HA.out.2.2 (by omega) HC.out HD3.out (.inr rfl)
            · have d1 : decide ((48 : Int) ≤ (c.toNat : Int)) = false := by simp; omega
              have nd : ¬ (48 ≤ c.toNat ∧ c.toNat ≤ 57) := by omega
              have ND := Aside0.mk nd
              clear nd
              by_cases k3 : 97 ≤ L
              · have d3 : decide ((97 : Int) ≤ (L : Int)) = true := by simp; omega
                by_cases k4 : L ≤ 122
                · have d4 : decide ((L : Int) ≤ (122 : Int)) = true := by simp; omega
                  have hw1 : IntKind.u8.wrap ((L : Int) - 97) = ((L - 97 : Nat) : Int) := by rw [IntKind.wrap_u8]; omega
                  have hw2 : IntKind.u8.wrap (((L - 97 : Nat) : Int) + 10) = ((L - 87 : Nat) : Int) := by rw [IntKind.wrap_u8]; omega
                  have hd3 := dig_let HL.out ND.out ⟨k3, k4⟩
                  have HD3 := Aside0.mk hd3
                  clear hd3
                  go_wp2_with (go_at_call 31; refine (lower_calls' HL.out _).mono ?_; rintro e w2 ⟨rfl, rfl⟩)
                  go_meet
                  exact ⟨L - 87, rfl, rfl, by omega, HD3, rfl⟩
                · have d4 : decide ((L : Int) ≤ (122 : Int)) = false := by simp; omega
                  have HD3 := Aside0.mk (dig_no HL.out ND.out (by omega))
                  go_wp2_with (go_at_call 31; refine (lower_calls' HL.out _).mono ?_; rintro e w2 ⟨rfl, rfl⟩)
                  go_ret2
                  exact inn_none HBL.out HA.out.2.2 (by omega) HC.out HD3.out (.inr rfl)
              · have d3 : decide ((97 : Int) ≤ (L : Int)) = false := by simp; omega
                have HD3 := Aside0.mk (dig_no HL.out ND.out (by omega))
                go_wp2_with (go_at_call 31; refine (lower_calls' HL.out _).mono ?_; rintro e w2 ⟨rfl, rfl⟩)
                go_ret2
                exact inn_none HBL.out HA.out.2.2 (by omega) HC.out HD3.out (.inr rfl)
        case rest =>
          obtain ⟨d, rfl, rfl, hd, HD, rfl⟩ := hcut
          by_cases e1 : 16 ≤ d
          · have d5 : decide ((16 : Int) ≤ (d : Int)) = true := by simp; omega
            go_wp2
            go_ret2
            exact inn_big HBL.out HA.out.2.2 (by omega) HC.out HD.out (.inr rfl) (.inl e1)
          · have d5 : decide ((16 : Int) ≤ (d : Int)) = false := by simp; omega
            have hn := HA.out.2.1
            have d6 : decide ((1152921504606846976 : Int) ≤ (n : Int)) = false := by simp; omega
            obtain ⟨M, hM⟩ : ∃ M : Nat, M = n * 16 := ⟨_, rfl⟩
            obtain ⟨N, hN⟩ : ∃ N : Nat, N = M + d := ⟨_, rfl⟩
            have hw1 : IntKind.u64.wrap ((n : Int) * 16) = (M : Int) := by rw [IntKind.wrap_u64]; omega
            have hw2 : IntKind.u64.wrap ((M : Int) + (d : Int)) = (N : Int) := by rw [IntKind.wrap_u64]; omega
            have d7 : decide ((N : Int) < (M : Int)) = false := by simp; omega
            have d9 : M ≤ N := by omega
            have HM := Aside0.mk hM
            have HN := Aside0.mk hN
            clear hM hN
            by_cases e2 : 255 < N
            · have d8 : decide ((255 : Int) < (N : Int)) = true := by simp; omega
              go_wp2
              go_ret2
              exact inn_big HBL.out HA.out.2.2 (by omega) HC.out HD.out (.inl rfl) (.inr (by rw [← HM.out, ← HN.out]; exact e2))
            · have d8 : decide ((255 : Int) < (N : Int)) = false := by simp; omega
              have hwk : IntKind.i64.wrap ((i : Int) + 1) = ((i + 1 : Nat) : Int) := by rw [IntKind.wrap_i64]; omega
              go_wp2
              go_roundg (s.size - (i + 1))
              case measure => have := HA.out.1; omega
              case rel =>
                refine ⟨i + 1, N, rfl, rfl, by first | rfl | simp, hlt, ⟨rfl, by omega, ?_⟩, rfl⟩
                rw [HA.out.2.2, num_step (show i < s.data.toList.length from hlt), ← HC.out, HD.out, HN.out, HM.out]
                show (if 16 ≤ d then none else if 255 < n * 16 + d then none else _) = _
                rw [if_neg e1, if_neg (by rw [← HM.out, ← HN.out]; exact e2)]
      · have hd1 : decide ((i : Int) < (s.size : Int)) = false := by simpa using hlt
        have hd2 : decide (i < s.size) = false := by simpa using hlt
        go_wp2
        go_ret2
        refine ⟨HBL.out, _, _, rfl, .inl ⟨n, rfl, ?_, rfl⟩⟩
        rw [HA.out.2.2, List.drop_eq_nil_of_le (by omega)]
        rfl
  · go_enter Tryd.func27, Tryd.ntmps27
    go_wp2
    clear hcv
    go_loopg [12, 13, 101] s.size (fun kq v12 v13 v101 w' => ∃ (i n : Nat), v12 = .bool false ∧ v13 = .int .u64 (n : Int) ∧ v101 = .int .i64 (i : Int) ∧ i ≤ s.size ∧ Aside0 (kq = s.size - i ∧ n ≤ 255 ∧ numOf 8 s.data.toList 0 = numOf 8 (s.data.toList.drop i) n) ∧ w' = Lib.bytesWorld w 5 s)
    case atStart => exact ⟨0, 0, rfl, rfl, rfl, Nat.zero_le _, ⟨rfl, by omega, rfl⟩, rfl⟩
    case round =>
      obtain ⟨i, n, rfl, rfl, rfl, his, HA, rfl⟩ := hrel
      by_cases hlt : i < s.size
      · have hd1 : decide ((i : Int) < (s.size : Int)) = true := by simpa using hlt
        have hd2 : decide (i < s.size) = true := by simpa using hlt
        obtain ⟨c, hc⟩ : ∃ c : UInt8, c = s.data.toList[i] := ⟨_, rfl⟩
        have hcx : (Lib.bytesWorld w 5 s).cell? ⟨w.heap.size, i, none⟩ = some (.int .u8 (c.toNat : Int)) := by
          rw [HCELL.out i hlt, hc]
          simp [List.getD, hlen, hlt]
        have HC := Aside0.mk hc
        clear hc
        go_upto_block 5 with (fail)
        go_cut [12, 16] (fun v12 v16 wc => ∃ d : Nat, v12 = .bool false ∧ v16 = .int .u8 (d : Int) ∧ d < 256 ∧ Aside0 (dig c = some d) ∧ wc = Lib.bytesWorld w 5 s)
        case first =>
          by_cases q : c = 95
          · subst q
            go_wp2_with (go_at_call 31; refine (lower_calls 95 _).mono ?_; rintro e w2 ⟨rfl, rfl⟩)
            go_ret2
            exact inn_none HBL.out HA.out.2.2 (by omega) HC.out dig_95 (.inr rfl)
          · have q1 : ((c.toNat : Int) == 95) = false := beq_eq_false_iff_ne.2 (fun e => q (UInt8.toNat_inj.1 (by show c.toNat = 95; omega)))
            obtain ⟨L, hL⟩ : ∃ L : Nat, L = (c ||| 32).toNat := ⟨_, rfl⟩
            have hL2 : L < 256 := by rw [hL]; exact (c ||| 32).toNat_lt
            have HL := Aside0.mk hL
            clear hL
            by_cases k1 : 48 ≤ c.toNat
            · have d1 : decide ((48 : Int) ≤ (c.toNat : Int)) = true := by simp; omega
              by_cases k2 : c.toNat ≤ 57
              · have d2 : decide ((c.toNat : Int) ≤ (57 : Int)) = true := by simp; omega
                have hw1 : IntKind.u8.wrap ((c.toNat : Int) - 48) = ((c.toNat - 48 : Nat) : Int) := by rw [IntKind.wrap_u8]; omega
                go_wp2
                go_meet
                exact ⟨c.toNat - 48, rfl, rfl, by omega, ⟨by unfold dig; rw [if_pos ⟨k1, k2⟩]⟩, rfl⟩
              · have d2 : decide ((c.toNat : Int) ≤ (57 : Int)) = false := by simp; omega
                have nd : ¬ (48 ≤ c.toNat ∧ c.toNat ≤ 57) := by omega
                have ND := Aside0.mk nd
                clear nd
                by_cases k3 : 97 ≤ L
                · have d3 : decide ((97 : Int) ≤ (L : Int)) = true := by simp; omega
                  by_cases k4 : L ≤ 122
                  · have d4 : decide ((L : Int) ≤ (122 : Int)) = true := by simp; omega
                    have hw1 : IntKind.u8.wrap ((L : Int) - 97) = ((L - 97 : Nat) : Int) := by rw [IntKind.wrap_u8]; omega
                    have hw2 : IntKind.u8.wrap (((L - 97 : Nat) : Int) + 10) = ((L - 87 : Nat) : Int) := by rw [IntKind.wrap_u8]; omega
                    have hd3 := dig_let HL.out ND.out ⟨k3, k4⟩
                    have HD3 := Aside0.mk hd3
                    clear hd3
                    go_wp2_with (go_at_call 31; refine (lower_calls' HL.out _).mono ?_; rintro e w2 ⟨rfl, rfl⟩)
                    go_meet
                    exact ⟨L - 87, rfl, rfl, by omega, HD3, rfl⟩
                  · have d4 : decide ((L : Int) ≤ (122 : Int)) = false := by simp; omega
                    have HD3 := Aside0.mk (dig_no HL.out ND.out (by omega))
                    go_wp2_with (go_at_call 31; refine (lower_calls' HL.out _).mono ?_; rintro e w2 ⟨rfl, rfl⟩)
                    go_ret2
                    exact inn_none HBL.out HA.out.2.2 (by omega) HC.out HD3.out (.inr rfl)
                · have d3 : decide ((97 : Int) ≤ (L : Int)) = false := by simp; omega
                  have HD3 := Aside0.mk (dig_no HL.out ND.out (by omega))
                  go_wp2_with (go_at_call 31; refine (lower_calls' HL.out _).mono ?_; rintro e w2 ⟨rfl, rfl⟩)
                  go_ret2
                  exact inn_none HBL.out HA.out.2.2 (by omega) HC.out HD3.out (.inr rfl)
            · have d1 : decide ((48 : Int) ≤ (c.toNat : Int)) = false := by simp; omega
              have nd : ¬ (48 ≤ c.toNat ∧ c.toNat ≤ 57) := by omega
              have ND := Aside0.mk nd
              clear nd
              by_cases k3 : 97 ≤ L
              · have d3 : decide ((97 : Int) ≤ (L : Int)) = true := by simp; omega
                by_cases k4 : L ≤ 122
                · have d4 : decide ((L : Int) ≤ (122 : Int)) = true := by simp; omega
                  have hw1 : IntKind.u8.wrap ((L : Int) - 97) = ((L - 97 : Nat) : Int) := by rw [IntKind.wrap_u8]; omega
                  have hw2 : IntKind.u8.wrap (((L - 97 : Nat) : Int) + 10) = ((L - 87 : Nat) : Int) := by rw [IntKind.wrap_u8]; omega
                  have hd3 := dig_let HL.out ND.out ⟨k3, k4⟩
                  have HD3 := Aside0.mk hd3
                  clear hd3
                  go_wp2_with (go_at_call 31; refine (lower_calls' HL.out _).mono ?_; rintro e w2 ⟨rfl, rfl⟩)
                  go_meet
                  exact ⟨L - 87, rfl, rfl, by omega, HD3, rfl⟩
                · have d4 : decide ((L : Int) ≤ (122 : Int)) = false := by simp; omega
                  have HD3 := Aside0.mk (dig_no HL.out ND.out (by omega))
                  go_wp2_with (go_at_call 31; refine (lower_calls' HL.out _).mono ?_; rintro e w2 ⟨rfl, rfl⟩)
                  go_ret2
                  exact inn_none HBL.out HA.out.2.2 (by omega) HC.out HD3.out (.inr rfl)
              · have d3 : decide ((97 : Int) ≤ (L : Int)) = false := by simp; omega
                have HD3 := Aside0.mk (dig_no HL.out ND.out (by omega))
                go_wp2_with (go_at_call 31; refine (lower_calls' HL.out _).mono ?_; rintro e w2 ⟨rfl, rfl⟩)
                go_ret2
                exact inn_none HBL.out HA.out.2.2 (by omega) HC.out HD3.out (.inr rfl)
        case rest =>
          obtain ⟨d, rfl, rfl, hd, HD, rfl⟩ := hcut
          by_cases e1 : 8 ≤ d
          · have d5 : decide ((8 : Int) ≤ (d : Int)) = true := by simp; omega
            go_wp2
            go_ret2
            exact inn_big HBL.out HA.out.2.2 (by omega) HC.out HD.out (.inr rfl) (.inl e1)
          · have d5 : decide ((8 : Int) ≤ (d : Int)) = false := by simp; omega
            have hn := HA.out.2.1
            have d6 : decide ((2305843009213693952 : Int) ≤ (n : Int)) = false := by simp; omega
            obtain ⟨M, hM⟩ : ∃ M : Nat, M = n * 8 := ⟨_, rfl⟩
            obtain ⟨N, hN⟩ : ∃ N : Nat, N = M + d := ⟨_, rfl⟩
            have hw1 : IntKind.u64.wrap ((n : Int) * 8) = (M : Int) := by rw [IntKind.wrap_u64]; omega
            have hw2 : IntKind.u64.wrap ((M : Int) + (d : Int)) = (N : Int) := by rw [IntKind.wrap_u64]; omega
            have d7 : decide ((N : Int) < (M : Int)) = false := by simp; omega
            have d9 : M ≤ N := by omega
            have HM := Aside0.mk hM
            have HN := Aside0.mk hN
            clear hM hN
            by_cases e2 : 255 < N
            · have d8 : decide ((255 : Int) < (N : Int)) = true := by simp; omega
              go_wp2
              go_ret2
              exact inn_big HBL.out HA.out.2.2 (by omega) HC.out HD.out (.inl rfl) (.inr (by rw [← HM.out, ← HN.out]; exact e2))
            · have d8 : decide ((255 : Int) < (N : Int)) = false := by simp; omega
              have hwk : IntKind.i64.wrap ((i : Int) + 1) = ((i + 1 : Nat) : Int) := by rw [IntKind.wrap_i64]; omega
              go_wp2
              go_roundg (s.size - (i + 1))
              case measure => have := HA.out.1; omega
              case rel =>
                refine ⟨i + 1, N, rfl, rfl, by first | rfl | simp, hlt, ⟨rfl, by omega, ?_⟩, rfl⟩
                rw [HA.out.2.2, num_step (show i < s.data.toList.length from hlt), ← HC.out, HD.out, HN.out, HM.out]
                show (if 8 ≤ d then none else if 255 < n * 8 + d then none else _) = _
                rw [if_neg e1, if_neg (by rw [← HM.out, ← HN.out]; exact e2)]
      · have hd1 : decide ((i : Int) < (s.size : Int)) = false := by simpa using hlt
        have hd2 : decide (i < s.size) = false := by simpa using hlt
        go_wp2
        go_ret2
        refine ⟨HBL.out, _, _, rfl, .inl ⟨n, rfl, ?_, rfl⟩⟩
        rw [HA.out.2.2, List.drop_eq_nil_of_le (by omega)]
        rfl
/-- The two errors' variables hold what an error's variable holds. -/
def Gv (w : World) : Prop := (∃ te pe, w.cell? ⟨3, 0, none⟩ = some (.iface te pe)) ∧ (∃ te pe, w.cell? ⟨4, 0, none⟩ = some (.iface te pe))
theorem Gv.up {w W : World} (h : Gv w) (hb : Below w.heap.size w W) : Gv W := by
  obtain ⟨⟨a, b, h1⟩, ⟨c, d, h2⟩⟩ := h
  exact ⟨⟨a, b, pw_cell_below hb h1⟩, ⟨c, d, pw_cell_below hb h2⟩⟩
def PuPost (B : Nat) (l : List UInt8) (W : World) (e : Ending) (w' : World) : Prop :=
  Below W.heap.size W w' ∧ ∃ (x : Int) (err : Value), e = .returned (.tuple #[.int .u64 x, err]) ∧ ((∃ n : Nat, x = (n : Int) ∧ numOf B l 0 = some n ∧ err = .nilIface) ∨ (numOf B l 0 = none ∧ ∃ t v, err = .iface t v))
set_option maxHeartbeats 2000000 in
set_option maxRecDepth 100000 in
theorem pu_calls (B : Nat) (B' C : Int) (hB : (B = 16 ∧ B' = 16 ∧ C = 1152921504606846976) ∨ (B = 8 ∧ B' = 8 ∧ C = 2305843009213693952)) (s : ByteArray) (h0 : 0 < s.size) (h1 : s.size ≤ 8) (w : World) (hG : Gv w) :
    Calls Tryd.prog 21 #[.string s, (.int .i64 B'), .int .i64 8] w (PuPost B s.data.toList w) := by
  have HI := Aside0.mk (inner_calls B B' C hB s h0 h1 w)
  have HG := Aside0.mk hG
  have HS := Aside0.mk (show s.size ≤ 281474976710656 by omega)
  clear hG hB h0 h1
  go_enter Tryd.func21, Tryd.ntmps21
  go_upto_region 2 with (go_at_call 27; refine HI.out.mono ?_; rintro e w2 hpost; obtain ⟨h1, x, err, rfl, h2⟩ := hpost; have H1 := Aside0.mk h1; have H2 := Aside0.mk h2; clear h1 h2)
  rcases H2.out with ⟨n, rfl, hn, rfl⟩ | ⟨hn, c, hc, rfl⟩
  · have HN := Aside0.mk hn
    clear hn
    go_wp2
    go_ret2
    exact ⟨H1.out, _, _, rfl, .inl ⟨n, rfl, HN.out, rfl⟩⟩
  · have HN := Aside0.mk hn
    clear hn
    obtain ⟨⟨t3, p3, h3⟩, ⟨t4, p4, h4⟩⟩ := HG.out.up H1.out
    have H3 := Aside0.mk h3
    have H4 := Aside0.mk h4
    clear h3 h4
    rcases hc with rfl | rfl
    · go_wp2_with (go_at_call 28; refine (Tryd.strconv_toError_range _ s _ _ _ _ HS.out H4.out (.inr ⟨_, _, rfl⟩)).mono ?_; rintro e w3 ⟨N, rfl, hN1, hN2, hb⟩; have HB := Aside0.mk (H1.out.trans (hb.mono H1.out.size)); clear hN1 hN2 hb)
      go_ret2
      exact ⟨HB.out, _, _, rfl, .inr ⟨HN.out, _, _, rfl⟩⟩
    · go_wp2_with (go_at_call 28; refine (Tryd.strconv_toError_syntax _ s _ _ _ _ HS.out H3.out (.inr ⟨_, _, rfl⟩)).mono ?_; rintro e w3 ⟨N, rfl, hN1, hN2, hb⟩; have HB := Aside0.mk (H1.out.trans (hb.mono H1.out.size)); clear hN1 hN2 hb)
      go_ret2
      exact ⟨HB.out, _, _, rfl, .inr ⟨HN.out, _, _, rfl⟩⟩
theorem new_calls (s : ByteArray) (w : World) : Calls Tryd.prog 20 #[.string s] w fun e w' => e = .returned (.iface 59 (.pointer (some ⟨w.heap.size, 0, none⟩))) ∧ Below w.heap.size w w' := by
  go_enter Tryd.func20, Tryd.ntmps20
  go_wp2
  go_ret
  exact ⟨rfl, below_alloc (Below.refl _ _) _⟩
-- INFO 5
def escOf (e : UInt8) : Int := if e = 97 then 7 else if e = 98 then 8 else if e = 102 then 12 else if e = 110 then 10 else if e = 114 then 13 else if e = 116 then 9 else (e.toNat : Int)
/-- What a byte string's inside stands for: behind what is read already; no answer where it ends behind a backslash, no bytes where an escape is bad. -/
def pgo (acc : List Int) : List UInt8 → Option (Option (List Int))
  | [] => some (some acc)
  | c :: r =>
    if c ≠ 92 then pgo (acc ++ [(c.toNat : Int)]) r
    else match r with
      | [] => none
      | e :: r1 =>
        if e = 120 then
          match r1 with
          | a :: b :: r2 => match numOf 16 [a, b] 0 with
            | some n => pgo (acc ++ [(n : Int)]) r2
            | none => some none
          | _ => some none
        else if e = 48 then
          match r1 with
          | a :: b :: d :: r2 => match numOf 8 [a, b, d] 0 with
            | some n => pgo (acc ++ [(n : Int)]) r2
            | none => some none
          | _ => some none
        else pgo (acc ++ [escOf e]) r1
termination_by l => l.length
theorem pgo_nil (acc : List Int) : pgo acc [] = some (some acc) := by rw [pgo.eq_def]
theorem pgo_plain {c : UInt8} (h : c ≠ 92) (acc : List Int) (r : List UInt8) : pgo acc (c :: r) = pgo (acc ++ [(c.toNat : Int)]) r := by
  rw [pgo.eq_def]
  simp only [if_pos h]
theorem pgo_end (acc : List Int) : pgo acc [92] = none := by rw [pgo.eq_def]; simp
theorem pgo_esc {e : UInt8} (h1 : e ≠ 120) (h2 : e ≠ 48) (acc : List Int) (r : List UInt8) : pgo acc (92 :: e :: r) = pgo (acc ++ [escOf e]) r := by
  rw [pgo.eq_def]
  simp [h1, h2]
theorem pgo_x (acc : List Int) (a b : UInt8) (r : List UInt8) : pgo acc (92 :: 120 :: a :: b :: r) = match numOf 16 [a, b] 0 with
    | some n => pgo (acc ++ [(n : Int)]) r
    | none => some none := by
  rw [pgo.eq_def]
  simp
theorem pgo_x_short (acc : List Int) (r : List UInt8) (h : r.length < 2) : pgo acc (92 :: 120 :: r) = some none := by
  rw [pgo.eq_def]
  match r, h with
  | [], _ => simp
  | [_], _ => simp
theorem pgo_o (acc : List Int) (a b d : UInt8) (r : List UInt8) : pgo acc (92 :: 48 :: a :: b :: d :: r) = match numOf 8 [a, b, d] 0 with
    | some n => pgo (acc ++ [(n : Int)]) r
    | none => some none := by
  rw [pgo.eq_def]
  simp
theorem pgo_o_short (acc : List Int) (r : List UInt8) (h : r.length < 3) : pgo acc (92 :: 48 :: r) = some none := by
  rw [pgo.eq_def]
  match r, h with
  | [], _ => simp
  | [_], _ => simp
  | [_, _], _ => simp
theorem num_le {B m : Nat} : ∀ {l : List UInt8} {n : Nat}, numOf B l n = some m → n ≤ 255 → m ≤ 255
  | [], n, h, hn => by
    simp only [numOf, Option.some.injEq] at h
    omega
  | c :: r, n, h, hn => by
    unfold numOf at h
    split at h
    · cases h
    · split at h
      · cases h
      · split at h
        · cases h
        · exact num_le h (by omega)
theorem info5x : (Tryd.prog.info? 5).map (fun i => (i.zero, i.size, i.bytes)) = some (some (.int .u8 0), 1, 1) := by kernel_rfl
def PbPost (o : Option (List Int)) (W : World) (e : Ending) (w' : World) : Prop :=
  Below W.heap.size W w' ∧ ∃ v err : Value, e = .returned (.tuple #[v, err]) ∧ match o with
    | some xs => err = .nilIface ∧ Kd.R (Kd.int .u8) 5 w' W.heap.size (fun _ => True) v (xs ++ [0])
    | none => v = .slice none 0 0 ∧ ∃ t p, err = .iface t p
theorem wpList_made1 {P : Program} (w : World) {ops : Array Oper} {rest : List Oper} {o : Oper} {a : Act} {Q : Exit → Act → World → Prop}
    (hg : o.guard = none) (l c : Operand) (t : TypeId) (hop : o.op = Op.makeSlice t l c) (base : Nat) (h1 : P.underlying t = some (.slice 5)) (h2 : (P.info? 5).map (fun i => (i.zero, i.size, i.bytes)) = some (some (.int .u8 0), 1, 1))
    (hl : a.eval l = .int .i64 0) (hc : a.eval c = .int .i64 1) (hb : base ≤ w.heap.size)
    (hK : ∀ v w', Kd.R (Kd.int .u8) 5 w' base (fun _ => True) v [] → w.grownBy w' none → wpList P ops Q rest (a.put o.dst v) w') :
    wpList P ops Q (o :: rest) a w := by
  obtain ⟨i0, hi, hz0, hz1, hz2⟩ := info_parts h2
  refine wpList_make_own w hg l c t hop base 5 i0 (.int .u8 0) 1 h1 hi hz0 hz1 .i64 .i64 1 1 hl hc rfl (by rw [hz2]; omega) (by decide) hb (fun w' ho hgr => hK _ w' ?_ hgr)
  exact Kd.R_of_own (enc := Value.int .u8) (h1 := fun _ => rfl) ho (fun _ _ => trivial)
set_option maxHeartbeats 4000000 in
set_option maxRecDepth 100000 in
theorem pbs_calls (s : ByteArray) (o : Option (List Int)) (h3 : 3 ≤ s.size) (h4 : s.size ≤ 2147483648) (w : World) (hG : Gv w) (h : pgo [] ((s.data.toList.drop 2).take (s.size - 3)) = some o) :
    Calls Tryd.prog 15 #[.string s] w (PbPost o w) := by
  have HG := Aside0.mk hG
  have HO := Aside0.mk h
  obtain ⟨M, hM⟩ : ∃ M : Nat, M + 1 = s.size := ⟨s.size - 1, by omega⟩
  have hw1 : IntKind.i64.wrap ((s.size : Int) - 1) = (M : Int) := by rw [IntKind.wrap_i64]; omega
  have b1 : (2 : Int) ≤ (M : Int) := by omega
  have b2 : (M : Int) ≤ (s.size : Int) := by omega
  have b3 : 2 ≤ M := by omega
  have b4 : M ≤ s.size := by omega
  have HM := Aside0.mk hM
  clear hG h
  go_enter Tryd.func15, Tryd.ntmps15
  go_upto_region 2 with (at_make; refine wpList_made1 _ rfl _ _ 27 rfl w.heap.size Tryd.underlying27 info5x rfl rfl (Nat.le_refl _) ?_; intro v4 w1 hr hgr; have HR := Aside0.mk hr; have HB := Aside0.mk ((Below.refl w.heap.size w).grown hgr (Nat.le_refl _) (fun _ h => by cases h)); clear hr hgr)
  go_wp2
  go_loopg [0, 4] (s.extract 2 M).size (fun kq v0 v4 w' => ∃ (r : List UInt8) (acc : List Int), v0 = .string ⟨r.toArray⟩ ∧ r.length ≤ 2147483648 ∧ Aside0 (kq = r.length ∧ acc.length + r.length ≤ s.size ∧ pgo acc r = some o ∧ Kd.R (Kd.int .u8) 5 w' w.heap.size (fun _ => True) v4 acc ∧ Below w.heap.size w w'))
  case atStart =>
    have he : (s.extract 2 M).data.toList = (s.data.toList.drop 2).take (s.size - 3) := by
      rw [Lib.extract_data]
      congr 1
      have := HM.out
      omega
    have hsz : (s.extract 2 M).data.toList.length = s.size - 3 := by
      rw [he, List.length_take, List.length_drop]
      show min (s.size - 3) (s.size - 2) = _
      omega
    exact ⟨(s.extract 2 M).data.toList, [], rfl, by omega, ⟨rfl, by simp; omega, by rw [he]; exact HO.out, HR.out, HB.out⟩⟩
  case round =>
    obtain ⟨r, acc, rfl, hrl, HA⟩ := hrel
    cases r with
    | nil =>
      have hs1 : (⟨([] : List UInt8).toArray⟩ : ByteArray).size = 0 := rfl
      have ho : o = some acc := by
        have := HA.out.2.2.1
        rw [pgo_nil] at this
        exact (Option.some.inj this).symm
      subst ho
      go_wp2_with ((with_reducible refine gate_builtin (b := .append) (xs := #[.tmp 112, .tmp 113]) rfl ?_); refine Kd.R_append (Kd.int .u8) (w0 := w) w.heap.size rfl (.tmp 112) (.tmp 113) 27 5 (.int .u8 0) 1 rfl Tryd.underlying27 info5x rfl (by decide) (by omega) u4 acc (0) [.int .u8 (0)] (fun _ => True) (fun _ => False) rfl rfl ?aP (fun _ hk => hk.elim) ?aF ?aO ?aB ?aS ?aL ?_; (case aP => exact rfl); (case aF => exact (fun _ _ => trivial)); (case aO => exact (by (with_reducible repeat (first | apply Kd.R_alloc | apply Kd.R_drewN | apply Kd.R_drew)); exact HA.out.2.2.2.1)); (case aB => exact (by repeat (first | (with_reducible first | exact HA.out.2.2.2.2 | apply below_alloc | apply pw_below_drewN | apply below_drew1) | exact HA.out.2.2.2.2))); (case aS => exact (below_size (by repeat (first | (with_reducible first | exact HA.out.2.2.2.2 | apply below_alloc | apply pw_below_drewN | apply below_drew1) | exact HA.out.2.2.2.2)))); (case aL => have := HA.out.2.1; simp only [List.length_cons, List.length_nil] at this; omega); intro v6 w3 hr hb hg hat; have HR3 := Aside0.mk hr; have HB3 := Aside0.mk hb; clear hr hb hg hat)
      go_ret2
      exact ⟨HB3.out, _, _, rfl, rfl, HR3.out⟩
    | cons c t =>
      have hs1 : (⟨(c :: t).toArray⟩ : ByteArray).size = t.length + 1 := by simp [ByteArray.size]
      have hx0 : ∀ h : 0 < (⟨(c :: t).toArray⟩ : ByteArray).size, (⟨(c :: t).toArray⟩ : ByteArray)[0]'h = c := fun _ => rfl
      have hx1 : (⟨(c :: t).toArray⟩ : ByteArray).extract 1 (t.length + 1) = ⟨t.toArray⟩ := by
        apply ByteArray.ext
        apply Array.toList_inj.1
        rw [Lib.extract_data]
        simp
      have hne : ((t.length : Int) + 1 != 0) = true := bne_iff_ne.2 (by omega)
      simp only [List.length_cons] at hrl
      by_cases q : c = 92
      · subst q
        cases t with
        | nil => exact absurd HA.out.2.2.1 (by rw [pgo_end]; simp)
        | cons e t =>
          have hs2 : (⟨(e :: t).toArray⟩ : ByteArray).size = t.length + 1 := by simp [ByteArray.size]
          have hy0 : ∀ h : 0 < (⟨(e :: t).toArray⟩ : ByteArray).size, (⟨(e :: t).toArray⟩ : ByteArray)[0]'h = e := fun _ => rfl
          have hy1 : (⟨(e :: t).toArray⟩ : ByteArray).extract 1 (t.length + 1) = ⟨t.toArray⟩ := by
            apply ByteArray.ext
            apply Array.toList_inj.1
            rw [Lib.extract_data]
            simp
          simp only [List.length_cons] at hs1 hx1 hne hrl
          by_cases e97 : e = 97
          · subst e97
            go_wp2_with ((with_reducible refine gate_builtin (b := .append) (xs := #[.tmp 40, .tmp 41]) rfl ?_); refine Kd.R_append (Kd.int .u8) (w0 := w) w.heap.size rfl (.tmp 40) (.tmp 41) 27 5 (.int .u8 0) 1 rfl Tryd.underlying27 info5x rfl (by decide) (by omega) u4 acc (7) [.int .u8 (7)] (fun _ => True) (fun _ => False) rfl rfl ?aP (fun _ hk => hk.elim) ?aF ?aO ?aB ?aS ?aL ?_; (case aP => exact rfl); (case aF => exact (fun _ _ => trivial)); (case aO => exact (by (with_reducible repeat (first | apply Kd.R_alloc | apply Kd.R_drewN | apply Kd.R_drew)); exact HA.out.2.2.2.1)); (case aB => exact (by repeat (first | (with_reducible first | exact HA.out.2.2.2.2 | apply below_alloc | apply pw_below_drewN | apply below_drew1) | exact HA.out.2.2.2.2))); (case aS => exact (below_size (by repeat (first | (with_reducible first | exact HA.out.2.2.2.2 | apply below_alloc | apply pw_below_drewN | apply below_drew1) | exact HA.out.2.2.2.2)))); (case aL => have := HA.out.2.1; simp only [List.length_cons, List.length_nil] at this; omega); intro v6 w3 hr hb hg hat; have HR3 := Aside0.mk hr; have HB3 := Aside0.mk hb; clear hr hb hg hat)
            go_roundg t.length
            case measure => have := HA.out.1; simp only [List.length_cons] at this; omega
            case rel =>
              have h1 := HA.out.2.2.1
              rw [pgo_esc (by decide) (by decide), show escOf 97 = 7 from rfl] at h1
              have h2 := HA.out.2.1
              exact ⟨t, acc ++ [7], rfl, by omega, ⟨rfl, by simp only [List.length_cons, List.length_append, List.length_nil] at h2 ⊢; omega, h1, HR3.out, HB3.out⟩⟩
          have f97 : ((e.toNat : Int) == 97) = false := beq_eq_false_iff_ne.2 (fun h => e97 (UInt8.toNat_inj.1 (by show e.toNat = 97; omega)))
          by_cases e98 : e = 98
          · subst e98
            go_wp2_with ((with_reducible refine gate_builtin (b := .append) (xs := #[.tmp 45, .tmp 46]) rfl ?_); refine Kd.R_append (Kd.int .u8) (w0 := w) w.heap.size rfl (.tmp 45) (.tmp 46) 27 5 (.int .u8 0) 1 rfl Tryd.underlying27 info5x rfl (by decide) (by omega) u4 acc (8) [.int .u8 (8)] (fun _ => True) (fun _ => False) rfl rfl ?aP (fun _ hk => hk.elim) ?aF ?aO ?aB ?aS ?aL ?_; (case aP => exact rfl); (case aF => exact (fun _ _ => trivial)); (case aO => exact (by (with_reducible repeat (first | apply Kd.R_alloc | apply Kd.R_drewN | apply Kd.R_drew)); exact HA.out.2.2.2.1)); (case aB => exact (by repeat (first | (with_reducible first | exact HA.out.2.2.2.2 | apply below_alloc | apply pw_below_drewN | apply below_drew1) | exact HA.out.2.2.2.2))); (case aS => exact (below_size (by repeat (first | (with_reducible first | exact HA.out.2.2.2.2 | apply below_alloc | apply pw_below_drewN | apply below_drew1) | exact HA.out.2.2.2.2)))); (case aL => have := HA.out.2.1; simp only [List.length_cons, List.length_nil] at this; omega); intro v6 w3 hr hb hg hat; have HR3 := Aside0.mk hr; have HB3 := Aside0.mk hb; clear hr hb hg hat)
            go_roundg t.length
            case measure => have := HA.out.1; simp only [List.length_cons] at this; omega
            case rel =>
              have h1 := HA.out.2.2.1
              rw [pgo_esc (by decide) (by decide), show escOf 98 = 8 from rfl] at h1
              have h2 := HA.out.2.1
              exact ⟨t, acc ++ [8], rfl, by omega, ⟨rfl, by simp only [List.length_cons, List.length_append, List.length_nil] at h2 ⊢; omega, h1, HR3.out, HB3.out⟩⟩
          have f98 : ((e.toNat : Int) == 98) = false := beq_eq_false_iff_ne.2 (fun h => e98 (UInt8.toNat_inj.1 (by show e.toNat = 98; omega)))
          by_cases e102 : e = 102
          · subst e102
            go_wp2_with ((with_reducible refine gate_builtin (b := .append) (xs := #[.tmp 50, .tmp 51]) rfl ?_); refine Kd.R_append (Kd.int .u8) (w0 := w) w.heap.size rfl (.tmp 50) (.tmp 51) 27 5 (.int .u8 0) 1 rfl Tryd.underlying27 info5x rfl (by decide) (by omega) u4 acc (12) [.int .u8 (12)] (fun _ => True) (fun _ => False) rfl rfl ?aP (fun _ hk => hk.elim) ?aF ?aO ?aB ?aS ?aL ?_; (case aP => exact rfl); (case aF => exact (fun _ _ => trivial)); (case aO => exact (by (with_reducible repeat (first | apply Kd.R_alloc | apply Kd.R_drewN | apply Kd.R_drew)); exact HA.out.2.2.2.1)); (case aB => exact (by repeat (first | (with_reducible first | exact HA.out.2.2.2.2 | apply below_alloc | apply pw_below_drewN | apply below_drew1) | exact HA.out.2.2.2.2))); (case aS => exact (below_size (by repeat (first | (with_reducible first | exact HA.out.2.2.2.2 | apply below_alloc | apply pw_below_drewN | apply below_drew1) | exact HA.out.2.2.2.2)))); (case aL => have := HA.out.2.1; simp only [List.length_cons, List.length_nil] at this; omega); intro v6 w3 hr hb hg hat; have HR3 := Aside0.mk hr; have HB3 := Aside0.mk hb; clear hr hb hg hat)
            go_roundg t.length
            case measure => have := HA.out.1; simp only [List.length_cons] at this; omega
            case rel =>
              have h1 := HA.out.2.2.1
              rw [pgo_esc (by decide) (by decide), show escOf 102 = 12 from rfl] at h1
              have h2 := HA.out.2.1
              exact ⟨t, acc ++ [12], rfl, by omega, ⟨rfl, by simp only [List.length_cons, List.length_append, List.length_nil] at h2 ⊢; omega, h1, HR3.out, HB3.out⟩⟩
          have f102 : ((e.toNat : Int) == 102) = false := beq_eq_false_iff_ne.2 (fun h => e102 (UInt8.toNat_inj.1 (by show e.toNat = 102; omega)))
          by_cases e110 : e = 110
          · subst e110
            go_wp2_with ((with_reducible refine gate_builtin (b := .append) (xs := #[.tmp 55, .tmp 56]) rfl ?_); refine Kd.R_append (Kd.int .u8) (w0 := w) w.heap.size rfl (.tmp 55) (.tmp 56) 27 5 (.int .u8 0) 1 rfl Tryd.underlying27 info5x rfl (by decide) (by omega) u4 acc (10) [.int .u8 (10)] (fun _ => True) (fun _ => False) rfl rfl ?aP (fun _ hk => hk.elim) ?aF ?aO ?aB ?aS ?aL ?_; (case aP => exact rfl); (case aF => exact (fun _ _ => trivial)); (case aO => exact (by (with_reducible repeat (first | apply Kd.R_alloc | apply Kd.R_drewN | apply Kd.R_drew)); exact HA.out.2.2.2.1)); (case aB => exact (by repeat (first | (with_reducible first | exact HA.out.2.2.2.2 | apply below_alloc | apply pw_below_drewN | apply below_drew1) | exact HA.out.2.2.2.2))); (case aS => exact (below_size (by repeat (first | (with_reducible first | exact HA.out.2.2.2.2 | apply below_alloc | apply pw_below_drewN | apply below_drew1) | exact HA.out.2.2.2.2)))); (case aL => have := HA.out.2.1; simp only [List.length_cons, List.length_nil] at this; omega); intro v6 w3 hr hb hg hat; have HR3 := Aside0.mk hr; have HB3 := Aside0.mk hb; clear hr hb hg hat)
            go_roundg t.length
            case measure => have := HA.out.1; simp only [List.length_cons] at this; omega
            case rel =>
              have h1 := HA.out.2.2.1
              rw [pgo_esc (by decide) (by decide), show escOf 110 = 10 from rfl] at h1
              have h2 := HA.out.2.1
              exact ⟨t, acc ++ [10], rfl, by omega, ⟨rfl, by simp only [List.length_cons, List.length_append, List.length_nil] at h2 ⊢; omega, h1, HR3.out, HB3.out⟩⟩
          have f110 : ((e.toNat : Int) == 110) = false := beq_eq_false_iff_ne.2 (fun h => e110 (UInt8.toNat_inj.1 (by show e.toNat = 110; omega)))
          by_cases e114 : e = 114
          · subst e114
            go_wp2_with ((with_reducible refine gate_builtin (b := .append) (xs := #[.tmp 60, .tmp 61]) rfl ?_); refine Kd.R_append (Kd.int .u8) (w0 := w) w.heap.size rfl (.tmp 60) (.tmp 61) 27 5 (.int .u8 0) 1 rfl Tryd.underlying27 info5x rfl (by decide) (by omega) u4 acc (13) [.int .u8 (13)] (fun _ => True) (fun _ => False) rfl rfl ?aP (fun _ hk => hk.elim) ?aF ?aO ?aB ?aS ?aL ?_; (case aP => exact rfl); (case aF => exact (fun _ _ => trivial)); (case aO => exact (by (with_reducible repeat (first | apply Kd.R_alloc | apply Kd.R_drewN | apply Kd.R_drew)); exact HA.out.2.2.2.1)); (case aB => exact (by repeat (first | (with_reducible first | exact HA.out.2.2.2.2 | apply below_alloc | apply pw_below_drewN | apply below_drew1) | exact HA.out.2.2.2.2))); (case aS => exact (below_size (by repeat (first | (with_reducible first | exact HA.out.2.2.2.2 | apply below_alloc | apply pw_below_drewN | apply below_drew1) | exact HA.out.2.2.2.2)))); (case aL => have := HA.out.2.1; simp only [List.length_cons, List.length_nil] at this; omega); intro v6 w3 hr hb hg hat; have HR3 := Aside0.mk hr; have HB3 := Aside0.mk hb; clear hr hb hg hat)
            go_roundg t.length
            case measure => have := HA.out.1; simp only [List.length_cons] at this; omega
            case rel =>
              have h1 := HA.out.2.2.1
              rw [pgo_esc (by decide) (by decide), show escOf 114 = 13 from rfl] at h1
              have h2 := HA.out.2.1
              exact ⟨t, acc ++ [13], rfl, by omega, ⟨rfl, by simp only [List.length_cons, List.length_append, List.length_nil] at h2 ⊢; omega, h1, HR3.out, HB3.out⟩⟩
          have f114 : ((e.toNat : Int) == 114) = false := beq_eq_false_iff_ne.2 (fun h => e114 (UInt8.toNat_inj.1 (by show e.toNat = 114; omega)))
          by_cases e116 : e = 116
          · subst e116
            go_wp2_with ((with_reducible refine gate_builtin (b := .append) (xs := #[.tmp 65, .tmp 66]) rfl ?_); refine Kd.R_append (Kd.int .u8) (w0 := w) w.heap.size rfl (.tmp 65) (.tmp 66) 27 5 (.int .u8 0) 1 rfl Tryd.underlying27 info5x rfl (by decide) (by omega) u4 acc (9) [.int .u8 (9)] (fun _ => True) (fun _ => False) rfl rfl ?aP (fun _ hk => hk.elim) ?aF ?aO ?aB ?aS ?aL ?_; (case aP => exact rfl); (case aF => exact (fun _ _ => trivial)); (case aO => exact (by (with_reducible repeat (first | apply Kd.R_alloc | apply Kd.R_drewN | apply Kd.R_drew)); exact HA.out.2.2.2.1)); (case aB => exact (by repeat (first | (with_reducible first | exact HA.out.2.2.2.2 | apply below_alloc | apply pw_below_drewN | apply below_drew1) | exact HA.out.2.2.2.2))); (case aS => exact (below_size (by repeat (first | (with_reducible first | exact HA.out.2.2.2.2 | apply below_alloc | apply pw_below_drewN | apply below_drew1) | exact HA.out.2.2.2.2)))); (case aL => have := HA.out.2.1; simp only [List.length_cons, List.length_nil] at this; omega); intro v6 w3 hr hb hg hat; have HR3 := Aside0.mk hr; have HB3 := Aside0.mk hb; clear hr hb hg hat)
            go_roundg t.length
            case measure => have := HA.out.1; simp only [List.length_cons] at this; omega
            case rel =>
              have h1 := HA.out.2.2.1
              rw [pgo_esc (by decide) (by decide), show escOf 116 = 9 from rfl] at h1
              have h2 := HA.out.2.1
              exact ⟨t, acc ++ [9], rfl, by omega, ⟨rfl, by simp only [List.length_cons, List.length_append, List.length_nil] at h2 ⊢; omega, h1, HR3.out, HB3.out⟩⟩
          have f116 : ((e.toNat : Int) == 116) = false := beq_eq_false_iff_ne.2 (fun h => e116 (UInt8.toNat_inj.1 (by show e.toNat = 116; omega)))
          by_cases e120 : e = 120
          · subst e120
            by_cases hk : t.length < 2
            · have hk2 : decide ((t.length : Int) < 2) = true := by simp; omega
              have ho : o = none := by
                have h1 := HA.out.2.2.1
                rw [pgo_x_short _ _ hk] at h1
                exact (Option.some.inj h1).symm
              subst ho
              have hs3 : (⟨t.toArray⟩ : ByteArray).size = t.length := by simp [ByteArray.size]
              go_wp2_with (go_at_call 20; refine (new_calls _ _).mono ?_; rintro e w3 ⟨rfl, hb⟩; have HB3 := Aside0.mk (HA.out.2.2.2.2.trans (hb.mono HA.out.2.2.2.2.size)); clear hb)
              go_ret2
              exact ⟨HB3.out, _, _, rfl, rfl, _, _, rfl⟩
            · obtain ⟨a, b, r, rfl⟩ : ∃ a b r, t = a :: b :: r := by
                match t, hk with
                | a :: b :: r, _ => exact ⟨a, b, r, rfl⟩
                | [], hk => exact absurd (by simp) hk
                | [_], hk => exact absurd (by simp) hk
              simp only [List.length_cons] at hs1 hx1 hne hrl hs2 hy1 hk
              have hs3 : (⟨(a :: b :: r).toArray⟩ : ByteArray).size = r.length + 2 := by simp [ByteArray.size]
              have hz0 : (⟨(a :: b :: r).toArray⟩ : ByteArray).extract 0 2 = ⟨#[a, b]⟩ := by
                apply ByteArray.ext
                apply Array.toList_inj.1
                rw [Lib.extract_data]
                simp
              have hz1 : (⟨(a :: b :: r).toArray⟩ : ByteArray).extract 2 (r.length + 2) = ⟨r.toArray⟩ := by
                apply ByteArray.ext
                apply Array.toList_inj.1
                rw [Lib.extract_data]
                simp
              have HP := Aside0.mk (pu_calls 16 16 1152921504606846976 (.inl ⟨rfl, rfl, rfl⟩) ⟨#[a, b]⟩ (by simp [ByteArray.size]) (by simp [ByteArray.size]) wr (HG.out.up HA.out.2.2.2.2))
              go_upto_region 28 with (go_at_call 21; refine HP.out.mono ?_; rintro e w3 hpost; obtain ⟨h1, x, err, rfl, h2⟩ := hpost; have HB2 := Aside0.mk h1; have H2 := Aside0.mk h2; clear h1 h2)
              rcases H2.out with ⟨m, rfl, hm, rfl⟩ | ⟨hm, te, pe, rfl⟩
              · have hm5 := num_le hm (by decide)
                have HMM := Aside0.mk hm
                have HX := Aside0.mk (HA.out.2.2.2.2.trans (HB2.out.mono HA.out.2.2.2.2.size))
                have HY := Aside0.mk (Kd.R_below HA.out.2.2.2.1 HB2.out)
                clear hm
                have hw5 : IntKind.u8.wrap (m : Int) = (m : Int) := by rw [IntKind.wrap_u8]; omega
                go_wp2_with ((with_reducible refine gate_builtin (b := .append) (xs := #[.tmp 83, .tmp 86]) rfl ?_); refine Kd.R_append (Kd.int .u8) (w0 := w) w.heap.size rfl (.tmp 83) (.tmp 86) 27 5 (.int .u8 0) 1 rfl Tryd.underlying27 info5x rfl (by decide) (by omega) u4 acc ((m : Int)) [.int .u8 ((m : Int))] (fun _ => True) (fun _ => False) rfl rfl ?aP (fun _ hk => hk.elim) ?aF ?aO ?aB ?aS ?aL ?_; (case aP => exact rfl); (case aF => exact (fun _ _ => trivial)); (case aO => exact (by (with_reducible repeat (first | apply Kd.R_alloc | apply Kd.R_drewN | apply Kd.R_drew)); exact HY.out)); (case aB => exact (by repeat (first | (with_reducible first | exact HX.out | apply below_alloc | apply pw_below_drewN | apply below_drew1) | exact HX.out))); (case aS => exact (below_size (by repeat (first | (with_reducible first | exact HX.out | apply below_alloc | apply pw_below_drewN | apply below_drew1) | exact HX.out)))); (case aL => have := HA.out.2.1; simp only [List.length_cons, List.length_nil] at this; omega); intro v6 w3 hr hb hg hat; have HR3 := Aside0.mk hr; have HB3 := Aside0.mk hb; clear hr hb hg hat)
                go_roundg r.length
                case measure => have := HA.out.1; simp only [List.length_cons] at this; omega
                case rel =>
                  have h1 := HA.out.2.2.1
                  rw [pgo_x, show numOf 16 [a, b] 0 = some m from HMM.out] at h1
                  have h2 := HA.out.2.1
                  exact ⟨r, acc ++ [(m : Int)], rfl, by omega, ⟨rfl, by simp only [List.length_cons, List.length_append, List.length_nil] at h2 ⊢; omega, h1, HR3.out, HB3.out⟩⟩
              · have HMM := Aside0.mk hm
                have ho : o = none := by
                  have h1 := HA.out.2.2.1
                  rw [pgo_x, show numOf 16 [a, b] 0 = none from HMM.out] at h1
                  exact (Option.some.inj h1).symm
                subst ho
                go_wp2
                go_ret2
                exact ⟨HA.out.2.2.2.2.trans (HB2.out.mono HA.out.2.2.2.2.size), _, _, rfl, rfl, _, _, rfl⟩
          have f120 : ((e.toNat : Int) == 120) = false := beq_eq_false_iff_ne.2 (fun h => e120 (UInt8.toNat_inj.1 (by show e.toNat = 120; omega)))
          by_cases e48 : e = 48
          · subst e48
            by_cases hk : t.length < 3
            · have hk2 : decide ((t.length : Int) < 3) = true := by simp; omega
              have ho : o = none := by
                have h1 := HA.out.2.2.1
                rw [pgo_o_short _ _ hk] at h1
                exact (Option.some.inj h1).symm
              subst ho
              have hs3 : (⟨t.toArray⟩ : ByteArray).size = t.length := by simp [ByteArray.size]
              go_wp2_with (go_at_call 20; refine (new_calls _ _).mono ?_; rintro e w3 ⟨rfl, hb⟩; have HB3 := Aside0.mk (HA.out.2.2.2.2.trans (hb.mono HA.out.2.2.2.2.size)); clear hb)
              go_ret2
              exact ⟨HB3.out, _, _, rfl, rfl, _, _, rfl⟩
            · obtain ⟨a, b, d, r, rfl⟩ : ∃ a b d r, t = a :: b :: d :: r := by
                match t, hk with
                | a :: b :: d :: r, _ => exact ⟨a, b, d, r, rfl⟩
                | [], hk => exact absurd (by simp) hk
                | [_], hk => exact absurd (by simp) hk
                | [_, _], hk => exact absurd (by simp) hk
              simp only [List.length_cons] at hs1 hx1 hne hrl hs2 hy1 hk
              have hs3 : (⟨(a :: b :: d :: r).toArray⟩ : ByteArray).size = r.length + 3 := by simp [ByteArray.size]
              have hz0 : (⟨(a :: b :: d :: r).toArray⟩ : ByteArray).extract 0 3 = ⟨#[a, b, d]⟩ := by
                apply ByteArray.ext
                apply Array.toList_inj.1
                rw [Lib.extract_data]
                simp
              have hz1 : (⟨(a :: b :: d :: r).toArray⟩ : ByteArray).extract 3 (r.length + 3) = ⟨r.toArray⟩ := by
                apply ByteArray.ext
                apply Array.toList_inj.1
                rw [Lib.extract_data]
                simp
              have HP := Aside0.mk (pu_calls 8 8 2305843009213693952 (.inr ⟨rfl, rfl, rfl⟩) ⟨#[a, b, d]⟩ (by simp [ByteArray.size]) (by simp [ByteArray.size]) wr (HG.out.up HA.out.2.2.2.2))
              go_upto_region 36 with (go_at_call 21; refine HP.out.mono ?_; rintro e w3 hpost; obtain ⟨h1, x, err, rfl, h2⟩ := hpost; have HB2 := Aside0.mk h1; have H2 := Aside0.mk h2; clear h1 h2)
              rcases H2.out with ⟨m, rfl, hm, rfl⟩ | ⟨hm, te, pe, rfl⟩
              · have hm5 := num_le hm (by decide)
                have HMM := Aside0.mk hm
                have HX := Aside0.mk (HA.out.2.2.2.2.trans (HB2.out.mono HA.out.2.2.2.2.size))
                have HY := Aside0.mk (Kd.R_below HA.out.2.2.2.1 HB2.out)
                clear hm
                have hw5 : IntKind.u8.wrap (m : Int) = (m : Int) := by rw [IntKind.wrap_u8]; omega
                go_wp2_with ((with_reducible refine gate_builtin (b := .append) (xs := #[.tmp 105, .tmp 108]) rfl ?_); refine Kd.R_append (Kd.int .u8) (w0 := w) w.heap.size rfl (.tmp 105) (.tmp 108) 27 5 (.int .u8 0) 1 rfl Tryd.underlying27 info5x rfl (by decide) (by omega) u4 acc ((m : Int)) [.int .u8 ((m : Int))] (fun _ => True) (fun _ => False) rfl rfl ?aP (fun _ hk => hk.elim) ?aF ?aO ?aB ?aS ?aL ?_; (case aP => exact rfl); (case aF => exact (fun _ _ => trivial)); (case aO => exact (by (with_reducible repeat (first | apply Kd.R_alloc | apply Kd.R_drewN | apply Kd.R_drew)); exact HY.out)); (case aB => exact (by repeat (first | (with_reducible first | exact HX.out | apply below_alloc | apply pw_below_drewN | apply below_drew1) | exact HX.out))); (case aS => exact (below_size (by repeat (first | (with_reducible first | exact HX.out | apply below_alloc | apply pw_below_drewN | apply below_drew1) | exact HX.out)))); (case aL => have := HA.out.2.1; simp only [List.length_cons, List.length_nil] at this; omega); intro v6 w3 hr hb hg hat; have HR3 := Aside0.mk hr; have HB3 := Aside0.mk hb; clear hr hb hg hat)
                go_roundg r.length
                case measure => have := HA.out.1; simp only [List.length_cons] at this; omega
                case rel =>
                  have h1 := HA.out.2.2.1
                  rw [pgo_o, show numOf 8 [a, b, d] 0 = some m from HMM.out] at h1
                  have h2 := HA.out.2.1
                  exact ⟨r, acc ++ [(m : Int)], rfl, by omega, ⟨rfl, by simp only [List.length_cons, List.length_append, List.length_nil] at h2 ⊢; omega, h1, HR3.out, HB3.out⟩⟩
              · have HMM := Aside0.mk hm
                have ho : o = none := by
                  have h1 := HA.out.2.2.1
                  rw [pgo_o, show numOf 8 [a, b, d] 0 = none from HMM.out] at h1
                  exact (Option.some.inj h1).symm
                subst ho
                go_wp2
                go_ret2
                exact ⟨HA.out.2.2.2.2.trans (HB2.out.mono HA.out.2.2.2.2.size), _, _, rfl, rfl, _, _, rfl⟩
          have f48 : ((e.toNat : Int) == 48) = false := beq_eq_false_iff_ne.2 (fun h => e48 (UInt8.toNat_inj.1 (by show e.toNat = 48; omega)))
          have hesc : escOf e = (e.toNat : Int) := by unfold escOf; rw [if_neg e97, if_neg e98, if_neg e102, if_neg e110, if_neg e114, if_neg e116]
          go_wp2_with ((with_reducible refine gate_builtin (b := .append) (xs := #[.tmp 34, .tmp 36]) rfl ?_); refine Kd.R_append (Kd.int .u8) (w0 := w) w.heap.size rfl (.tmp 34) (.tmp 36) 27 5 (.int .u8 0) 1 rfl Tryd.underlying27 info5x rfl (by decide) (by omega) u4 acc ((e.toNat : Int)) [.int .u8 ((e.toNat : Int))] (fun _ => True) (fun _ => False) rfl rfl ?aP (fun _ hk => hk.elim) ?aF ?aO ?aB ?aS ?aL ?_; (case aP => exact rfl); (case aF => exact (fun _ _ => trivial)); (case aO => exact (by (with_reducible repeat (first | apply Kd.R_alloc | apply Kd.R_drewN | apply Kd.R_drew)); exact HA.out.2.2.2.1)); (case aB => exact (by repeat (first | (with_reducible first | exact HA.out.2.2.2.2 | apply below_alloc | apply pw_below_drewN | apply below_drew1) | exact HA.out.2.2.2.2))); (case aS => exact (below_size (by repeat (first | (with_reducible first | exact HA.out.2.2.2.2 | apply below_alloc | apply pw_below_drewN | apply below_drew1) | exact HA.out.2.2.2.2)))); (case aL => have := HA.out.2.1; simp only [List.length_cons, List.length_nil] at this; omega); intro v6 w3 hr hb hg hat; have HR3 := Aside0.mk hr; have HB3 := Aside0.mk hb; clear hr hb hg hat)
          go_roundg t.length
          case measure => have := HA.out.1; simp only [List.length_cons] at this; omega
          case rel =>
            have h1 := HA.out.2.2.1
            rw [pgo_esc e120 e48, hesc] at h1
            have h2 := HA.out.2.1
            exact ⟨t, acc ++ [(e.toNat : Int)], rfl, by omega, ⟨rfl, by simp only [List.length_cons, List.length_append, List.length_nil] at h2 ⊢; omega, h1, HR3.out, HB3.out⟩⟩
      · have q1 : ((c.toNat : Int) != 92) = true := bne_iff_ne.2 (fun e => q (UInt8.toNat_inj.1 (by show c.toNat = 92; omega)))
        go_wp2_with ((with_reducible refine gate_builtin (b := .append) (xs := #[.tmp 25, .tmp 27]) rfl ?_); refine Kd.R_append (Kd.int .u8) (w0 := w) w.heap.size rfl (.tmp 25) (.tmp 27) 27 5 (.int .u8 0) 1 rfl Tryd.underlying27 info5x rfl (by decide) (by omega) u4 acc ((c.toNat : Int)) [.int .u8 ((c.toNat : Int))] (fun _ => True) (fun _ => False) rfl rfl ?aP (fun _ hk => hk.elim) ?aF ?aO ?aB ?aS ?aL ?_; (case aP => exact rfl); (case aF => exact (fun _ _ => trivial)); (case aO => exact (by (with_reducible repeat (first | apply Kd.R_alloc | apply Kd.R_drewN | apply Kd.R_drew)); exact HA.out.2.2.2.1)); (case aB => exact (by repeat (first | (with_reducible first | exact HA.out.2.2.2.2 | apply below_alloc | apply pw_below_drewN | apply below_drew1) | exact HA.out.2.2.2.2))); (case aS => exact (below_size (by repeat (first | (with_reducible first | exact HA.out.2.2.2.2 | apply below_alloc | apply pw_below_drewN | apply below_drew1) | exact HA.out.2.2.2.2)))); (case aL => have := HA.out.2.1; simp only [List.length_cons, List.length_nil] at this; omega); intro v6 w3 hr hb hg hat; have HR3 := Aside0.mk hr; have HB3 := Aside0.mk hb; clear hr hb hg hat)
        go_roundg t.length
        case measure => have := HA.out.1; simp only [List.length_cons] at this; omega
        case rel =>
          have h1 := HA.out.2.2.1
          rw [pgo_plain q] at h1
          have h2 := HA.out.2.1
          exact ⟨t, acc ++ [(c.toNat : Int)], rfl, by omega, ⟨rfl, by simp only [List.length_cons, List.length_append, List.length_nil] at h2 ⊢; omega, h1, HR3.out, HB3.out⟩⟩
def DbPost (o : Option (List Int)) (W : World) (e : Ending) (w' : World) : Prop :=
  Below W.heap.size W w' ∧ ∃ (b : ByteArray) (err : Value), e = .returned (.tuple #[.string b, err]) ∧ match o with
    | some xs => err = .nilIface ∧ b = strOfNums (xs ++ [0])
    | none => b = ⟨#[]⟩ ∧ ∃ t p, err = .iface t p
set_option maxHeartbeats 1000000 in
theorem db_calls (s : ByteArray) (o : Option (List Int)) (h3 : 3 ≤ s.size) (h4 : s.size ≤ 2147483648) (w : World) (hG : Gv w) (h : pgo [] ((s.data.toList.drop 2).take (s.size - 3)) = some o) :
    Calls Tryd.prog 13 #[.string s] w (DbPost o w) := by
  have HP := Aside0.mk (pbs_calls s o h3 h4 w hG h)
  clear hG h
  go_enter Tryd.func13, Tryd.ntmps13
  go_upto_region 2 with (go_at_call 15; refine HP.out.mono ?_; rintro e w2 hpost; obtain ⟨h1, v, err, rfl, h2⟩ := hpost; have H1 := Aside0.mk h1; have H2 := Aside0.mk h2; clear h1 h2)
  cases o with
  | none =>
    obtain ⟨rfl, te, pe, rfl⟩ := H2.out
    have hcv := run_convert_bytes_nil (P := Tryd.prog) w2 27 5 Tryd.underlying27 Tryd.underlying5 0 0 9 Tryd.underlying9
    go_wp2
    go_ret2
    exact ⟨H1.out, _, _, rfl, rfl, _, _, rfl⟩
  | some xs =>
    obtain ⟨rfl, hr⟩ := H2.out
    have hcv := own_string (P := Tryd.prog) Tryd.underlying27 Tryd.underlying5 Tryd.underlying9 (Kd.own_of_R hr)
    clear hr
    go_wp2
    go_ret2
    exact ⟨H1.out, _, _, rfl, rfl, rfl⟩
def impl_VtBytes.f (a0 : ByteArray) : Option (ByteArray × Bool) :=
  if a0.size ≤ 2147483648 then
    (if a0.size < 3 then some (⟨#[]⟩, false)
     else match pgo [] ((a0.data.toList.drop 2).take (a0.size - 3)) with
      | none => none
      | some (some xs) => some (strOfNums (xs ++ [0]), true)
      | some none => some (⟨#[]⟩, false))
  else none
set_option maxHeartbeats 1000000 in
theorem impl_VtBytes.calls (a0 : ByteArray) (r1 : ByteArray) (r2 : Bool) (w : World) (hG : Gv w) (h : impl_VtBytes.f a0 = some (r1, r2)) :
    Calls Tryd.prog 7 #[.string a0] w fun e w' => e = .returned (.tuple #[.string r1, .bool r2]) ∧ Below w.heap.size w w' := by
  unfold impl_VtBytes.f at h
  split at h
  · rename_i h4
    split at h
    · rename_i h3
      simp only [Option.some.injEq, Prod.mk.injEq] at h
      obtain ⟨rfl, rfl⟩ := h
      have d1 : decide ((a0.size : Int) < 3) = true := by simp; omega
      go_enter Tryd.func7, Tryd.ntmps7
      go_wp2
      go_ret2
      exact ⟨rfl, Below.refl _ _⟩
    · rename_i h3
      have d1 : decide ((a0.size : Int) < 3) = false := by simp; omega
      split at h
      · cases h
      · rename_i xs hx
        simp only [Option.some.injEq, Prod.mk.injEq] at h
        obtain ⟨rfl, rfl⟩ := h
        have HD := Aside0.mk (db_calls a0 (some xs) (by omega) h4 w hG hx)
        clear hG hx h3 h4
        go_enter Tryd.func7, Tryd.ntmps7
        go_upto_region 4 with (go_at_call 13; refine HD.out.mono ?_; rintro e w2 hpost; obtain ⟨h1, b, err, rfl, rfl, rfl⟩ := hpost; have H1 := Aside0.mk h1; clear h1)
        go_quiet (fail)
        go_wp2
        go_ret2
        exact ⟨rfl, pw_below_drewN H1.out _⟩
      · rename_i hx
        simp only [Option.some.injEq, Prod.mk.injEq] at h
        obtain ⟨rfl, rfl⟩ := h
        have HD := Aside0.mk (db_calls a0 none (by omega) h4 w hG hx)
        clear hG hx h3 h4
        go_enter Tryd.func7, Tryd.ntmps7
        go_upto_region 4 with (go_at_call 13; refine HD.out.mono ?_; rintro e w2 hpost; obtain ⟨h1, b, err, rfl, rfl, t, p, rfl⟩ := hpost; have H1 := Aside0.mk h1; clear h1)
        go_quiet (fail)
        go_wp2
        go_ret2
        exact ⟨rfl, pw_below_drewN H1.out _⟩
  · cases h

end Go.Proofs.YtngbhojjjkdofaaDoor.MFnVtBytesHex
