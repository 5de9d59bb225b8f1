-- Written by a program of this session (myprint.py, out of the translation). Not trusted: Lean checks it.
import Derived.Test.YtodphfcneiodhaaMFnWrStringsLargex0
namespace Go.Proofs.Ytodphfcneiodhaa.MFnWrStringsLarge
open Go.RowKit Go.Proofs.YtodphfcneiodhaaW.PrintWords Go.Proofs.YtodphfcneiodhaaW.PrintLast Go.Proofs.YtodphfcneiodhaaW.PrintMore
attribute [local go_sem] max2_int min2_int max_two min_two max_three min_three max_four min_four   -- for this text's walks alone
set_option linter.unusedVariables false
set_option linter.unusedSimpArgs false

/-! ### laws_wrLong: function 5 -/
def laws_wrLong.l0 : Nat → Int → List Int → Int → Int → Option (ByteArray)
  | 0, _, _, _, _ => none
  | k + 1, x1, x5, x10, x11 => if x11 < x10 then (if 0 ≤ (Int.tmod (wrap64 ((wrap64 ((wrap64 (x11 + (wrap64 (Int.tdiv x11 7)))) + (wrap64 (Int.tdiv x11 257)))) + (wrap64 (x1)))) 36) then (if (Int.tmod (wrap64 ((wrap64 ((wrap64 (x11 + (wrap64 (Int.tdiv x11 7)))) + (wrap64 (Int.tdiv x11 257)))) + (wrap64 (x1)))) 36) < 36 then (if 0 ≤ x11 then (if x11 < (x5.length : Int) then (laws_wrLong.l0 k x1 (x5.set (x11 : Int).toNat (bt (⟨#[97, 98, 99, 100, 101, 102, 103, 104, 105, 106, 107, 108, 109, 110, 111, 112, 113, 114, 115, 116, 117, 118, 119, 120, 121, 122, 48, 49, 50, 51, 52, 53, 54, 55, 56, 57]⟩ : ByteArray) (Int.tmod (wrap64 ((wrap64 ((wrap64 (x11 + (wrap64 (Int.tdiv x11 7)))) + (wrap64 (Int.tdiv x11 257)))) + (wrap64 (x1)))) 36))) x10 (wrap64 (x11 + 1))) else (none)) else (none)) else (none)) else (none)) else (some (strOfNums x5))
def laws_wrLong.f (k : Nat) (a0 : Int) (a1 : Int) : Option (ByteArray) := if 0 ≤ a0 then (if (a0 : Int).toNat ≤ 281474976710656 then ((some (List.replicate (a0 : Int).toNat 0 : List Int)).bind fun y101 => (laws_wrLong.l0 k a1 y101 (y101.length : Int) 0)) else (none)) else (none)
theorem laws_wrLong.mono_l : ∀ k, (∀ y0 y1 y2 y3, LeO (laws_wrLong.l0 k y0 y1 y2 y3) (laws_wrLong.l0 (k + 1) y0 y1 y2 y3))
  | 0 => fun _ _ _ _ r h => by simp [laws_wrLong.l0] at h
  | k + 1 => by
    have ih0 := laws_wrLong.mono_l k
    · intro y0 y1 y2 y3
      unfold laws_wrLong.l0
      repeat' first
      | (with_reducible exact ih0 _ _ _ _)
      | (with_reducible exact LeO.refl _)
      | (with_reducible exact LeO.none _)
      | (with_reducible refine LeO.ite ?_ ?_)
      | (with_reducible refine LeO.bind ?_ (fun _ => ?_))
      | exact ih0 _ _ _ _
      | exact LeO.none _
      | refine LeO.ite ?_ ?_
      | refine LeO.bind ?_ (fun _ => ?_)
theorem laws_wrLong.mono : ∀ a0 a1 k, LeO (laws_wrLong.f k a0 a1) (laws_wrLong.f (k + 1) a0 a1) := by
  intro a0 a1 k
  have ih0 := laws_wrLong.mono_l k
  unfold laws_wrLong.f
  repeat' first
      | (with_reducible exact ih0 _ _ _ _)
      | (with_reducible exact LeO.refl _)
      | (with_reducible exact LeO.none _)
      | (with_reducible refine LeO.ite ?_ ?_)
      | (with_reducible refine LeO.bind ?_ (fun _ => ?_))
      | exact ih0 _ _ _ _
      | exact LeO.none _
      | refine LeO.ite ?_ ?_
      | refine LeO.bind ?_ (fun _ => ?_)
set_option maxHeartbeats 8000000 in
set_option maxRecDepth 100000 in
theorem laws_wrLong.calls (k : Nat) (a0 : Int) (a1 : Int) (r : ByteArray) (w : World) (h : laws_wrLong.f k a0 a1 = some r) :
    Calls Try.prog 5 #[.int .i64 a0, .int .u8 a1] w fun e w' => e = .returned (.string r) ∧ Below w.heap.size w w' := by
  have HB := Aside0.mk (Below.refl w.heap.size w)
  have H : (if 0 ≤ a0 then (if (a0 : Int).toNat ≤ 281474976710656 then ((some (List.replicate (a0 : Int).toNat 0 : List Int)).bind fun y101 => (laws_wrLong.l0 k a1 y101 (y101.length : Int) 0)) else (none)) else (none)) = some r := h
  clear h
  by_cases c3 : 0 ≤ a0
  · rw [if_pos c3] at H
    have c3b0 := eq_true c3
    have c3b1 : decide (0 ≤ a0) = true := decide_eq_true c3
    clear c3
    by_cases c4 : (a0 : Int).toNat ≤ 281474976710656
    · rw [if_pos c4] at H
      have c4b0 := eq_true c4
      have c4b1 : decide ((a0 : Int).toNat ≤ 281474976710656) = true := decide_eq_true c4
      clear c4
      obtain ⟨y101, hy101⟩ : ∃ y_ : List Int, y_ = (List.replicate (a0 : Int).toNat 0) := ⟨_, rfl⟩
      replace H : (laws_wrLong.l0 k a1 y101 (y101.length : Int) 0) = some r := by first | (rw [hy101]; with_reducible exact H) | (have H2_ := (Option.bind_some _ _).symm.trans H; rw [hy101]; with_reducible exact H2_) | (have H2_ := (Option.bind_some _ _).symm.trans H; with_reducible exact H2_) | with_reducible exact H | (rw [hy101]; exact H) | exact H
      have Ny101 := Aside0.mk hy101
      clear hy101
      have H' := Aside0.mk H
      clear H
      go_enter Try.func5, Try.ntmps5
      go_wp2_with (first | ((with_reducible refine gate_dst (N := 8) rfl ?_); refine Kd.R_make (Kd.int .u8) _ 5 rfl (N := 8) rfl 31 _ _ rfl a0 rfl rfl Try.underlying31 (.int .u8 0) 1 info5 rfl (by decide) (by omega) 0 (ok := fun _ => True) (okp := fun _ => True) rfl (fun _ hk => hk) trivial (of_decide_eq_true (by first | (with_reducible assumption) | assumption)) (Nat.le_trans (Nat.mul_le_mul_right _ (of_decide_eq_true (by first | (with_reducible assumption) | assumption) : a0.toNat ≤ 281474976710656)) (by omega)) (Below.refl _ _) (Nat.le_refl _) ?_; intro v102 w5 ho6 hb hg_ hnew_; clear hg_ hnew_; (first | rw [← Ny101.out] at ho6 | (simp only [Int.reduceToNat] at ho6; rw [← Ny101.out] at ho6)); have n0_ := Aside0.mk (Kd.R_lower ho6 (below_size (by repeat (first | (with_reducible first | exact HB.out | apply below_alloc | apply pw_below_drewN | apply below_drew1) | exact HB.out)))); have n1_ := Aside0.mk (below_step (by repeat (first | (with_reducible first | exact HB.out | apply below_alloc | apply pw_below_drewN | apply below_drew1) | exact HB.out)) hb); clear HB; have HO103 := n0_; have HB := n1_; clear n0_ n1_; clear hb ho6; obtain ⟨Ao7, co7, eo7⟩ := Kd.R_slice HO103.out; subst eo7))
      go_loopg [11] k (fun kq v11 w' => ∃ (x5_1 : List Int) (x11_1 : Int), v11 = .int .i64 x11_1 ∧ Aside0 (laws_wrLong.l0 kq a1 x5_1 (y101.length : Int) x11_1 = some r) ∧ Aside0 (kq ≤ k) ∧ Aside0 (Kd.R (Kd.int .u8) 5 w' w.heap.size (fun _ => True) (.slice Ao7 y101.length co7) x5_1) ∧ Aside0 (Below w.heap.size w w'))
      case atStart => exact ⟨(y101), (0), (by first | rfl | (simp; done) | (simp [*]; done)), H', ⟨Nat.le_refl _⟩, ⟨by (with_reducible repeat (first | apply Kd.R_alloc | apply Kd.R_drewN | apply Kd.R_drew)); exact HO103.out⟩, ⟨by repeat (first | (with_reducible first | exact HB.out | apply below_alloc | apply pw_below_drewN | apply below_drew1) | exact HB.out)⟩⟩
      case round =>
        clear H'
        try clear p2
        try clear c3
        try clear c3b0
        try clear c3b1
        try clear c4
        try clear c4b0
        try clear c4b1
        try clear c5
        obtain ⟨x5_1, x11_1, rfl, HA, HK1, HO_5, HB⟩ := hrel
        have hl5_1 := (Kd.R_reads' HO_5.out).1
        rw [hl5_1] at HO_5
        (try simp only [hl5_1])
        cases gk with
        | zero => exact absurd HA.out (by simp [laws_wrLong.l0])
        | succ k1 =>
          have H := HA.out
          clear HA
          simp only [laws_wrLong.l0] at H
          by_cases c8 : x11_1 < (y101.length : Int)
          · rw [if_pos c8] at H
            have c8b0 : decide (x11_1 < (y101.length : Int)) = true := decide_eq_true c8
            clear c8
            obtain ⟨ji9, hji9⟩ : ∃ j_ : Int, (Int.tmod (wrap64 ((wrap64 ((wrap64 (x11_1 + (wrap64 (Int.tdiv x11_1 7)))) + (wrap64 (Int.tdiv x11_1 257)))) + (wrap64 (a1)))) 36) = j_ := ⟨_, rfl⟩
            replace H : (if 0 ≤ (ji9) then (if (ji9) < 36 then (if 0 ≤ x11_1 then (if x11_1 < (x5_1.length : Int) then (laws_wrLong.l0 k1 a1 (x5_1.set (x11_1 : Int).toNat (bt (⟨#[97, 98, 99, 100, 101, 102, 103, 104, 105, 106, 107, 108, 109, 110, 111, 112, 113, 114, 115, 116, 117, 118, 119, 120, 121, 122, 48, 49, 50, 51, 52, 53, 54, 55, 56, 57]⟩ : ByteArray) (ji9))) (y101.length : Int) (wrap64 (x11_1 + 1))) else (none)) else (none)) else (none)) else (none)) = some r := by first | (rw [hji9] at H; exact H) | (simp only [hji9] at H ⊢; exact H)
            by_cases c10 : 0 ≤ (ji9)
            · rw [if_pos c10] at H
              have c10b0 : decide (0 ≤ (ji9)) = true := decide_eq_true c10
              clear c10
              by_cases c11 : (ji9) < 36
              · rw [if_pos c11] at H
                have c11b0 : decide ((ji9) < 36) = true := decide_eq_true c11
                clear c11
                by_cases c13 : 0 ≤ x11_1
                · rw [if_pos c13] at H
                  have c13b0 : decide (0 ≤ x11_1) = true := decide_eq_true c13
                  clear c13
                  by_cases c14 : x11_1 < (x5_1.length : Int)
                  · rw [if_pos c14] at H
                    have c14b0 : decide (x11_1 < (x5_1.length : Int)) = true := decide_eq_true c14
                    clear c14
                    obtain ⟨y104, hy104⟩ : ∃ y_ : List Int, y_ = (x5_1.set (x11_1 : Int).toNat (bt (⟨#[97, 98, 99, 100, 101, 102, 103, 104, 105, 106, 107, 108, 109, 110, 111, 112, 113, 114, 115, 116, 117, 118, 119, 120, 121, 122, 48, 49, 50, 51, 52, 53, 54, 55, 56, 57]⟩ : ByteArray) (ji9))) := ⟨_, rfl⟩
                    replace H : (laws_wrLong.l0 k1 a1 y104 (y101.length : Int) (wrap64 (x11_1 + 1))) = some r := by first | (rw [hy104]; with_reducible exact H) | (have H2_ := (Option.bind_some _ _).symm.trans H; rw [hy104]; with_reducible exact H2_) | (have H2_ := (Option.bind_some _ _).symm.trans H; with_reducible exact H2_) | with_reducible exact H | (rw [hy104]; exact H) | exact H
                    have Ny104 := Aside0.mk hy104
                    clear hy104
                    have H' := Aside0.mk H
                    clear H
                    have p12 : 0 ≤ ((ji9) : Int) := of_decide_eq_true (by first | (with_reducible assumption) | assumption)
                    have q12 : (ji9) < (36 : Int) := of_decide_eq_true (by first | (with_reducible assumption) | assumption)
                    have hx12 := bt_at (⟨#[97, 98, 99, 100, 101, 102, 103, 104, 105, 106, 107, 108, 109, 110, 111, 112, 113, 114, 115, 116, 117, 118, 119, 120, 121, 122, 48, 49, 50, 51, 52, 53, 54, 55, 56, 57]⟩ : ByteArray) (ji9)
                    replace p12 := eq_true p12
                    replace q12 := eq_true q12
                    have p15 : 0 ≤ (x11_1 : Int) := of_decide_eq_true (by first | (with_reducible assumption) | assumption)
                    have q15 : (x11_1 : Int) < ((x5_1.length : Int) : Int) := of_decide_eq_true (by first | (with_reducible assumption) | assumption)
                    obtain ⟨go15, co15, eo15, gb15, gl15, cl15, HG15⟩ := Kd.R_form HO_5.out (by omega)
                    (first | cases eo15 | (injection eo15 with ea_ en_ ec_; (first | subst ea_ | (injection ea_ with ea_; subst ea_)); subst ec_; clear en_))
                    have GB15 := Aside0.mk gb15
                    have GG15 := Aside0.mk HG15
                    clear gb15 gl15 HG15
                    obtain ⟨hx15_0, hf15_0⟩ := Kd.R_celln 0 HO_5.out (x11_1 : Int) p15 q15
                    replace p15 := eq_true p15
                    replace q15 := eq_true q15
                    have HP16 := Kd.R_putg HO_5.out (x11_1 : Int) (bt (⟨#[97, 98, 99, 100, 101, 102, 103, 104, 105, 106, 107, 108, 109, 110, 111, 112, 113, 114, 115, 116, 117, 118, 119, 120, 121, 122, 48, 49, 50, 51, 52, 53, 54, 55, 56, 57]⟩ : ByteArray) (ji9))
                    go_wp2_with (first | ((with_reducible refine gate_store (t := 5) (p := 28) rfl ?_); refine store_event (t := 5) (p := 28) (v := ?vo_w17) (w1 := (wr.setCell ⟨go15, (x11_1 : Int).toNat, none⟩ (.int .u8 (bt (⟨#[97, 98, 99, 100, 101, 102, 103, 104, 105, 106, 107, 108, 109, 110, 111, 112, 113, 114, 115, 116, 117, 118, 119, 120, 121, 122, 48, 49, 50, 51, 52, 53, 54, 55, 56, 57]⟩ : ByteArray) (ji9))))) ?hg ?ho ?hn ?hr ?_; (case ho => rfl); (case hg => rfl); (case hn => rfl); (case hr => first | (go_simp; done) | (go_simp; rfl)); intro w17 hw; have hg : wr.grownBy w17 (some go15) := (by rw [hw]; exact HP16.2); have hp_ : Kd.R (Kd.int .u8) 5 w17 w.heap.size (fun _ => True) (.slice (some ⟨go15, 0, none⟩) x5_1.length co7) y104 := (by rw [hw, Ny104.out]; exact HP16.1); clear HP16; have n0_ := Aside0.mk (hp_); have n1_ := Aside0.mk ((by rw [hw]; exact below_set (HB.out) GB15.out : Below w.heap.size w w17)); clear HO_5; clear HB; have HO_5 := n0_; have HB := n1_; clear n0_ n1_; clear hg hw hp_))
                    (try simp only [← hl5_1])
                    go_roundg k1
                    case measure => have := HK1.out; omega
                    case rel => exact ⟨(y104), (wrap64 (x11_1 + 1)), (by first | rfl | (simp; done) | (simp [*]; done)), H', ⟨by have := HK1.out; omega⟩, ⟨by (try simp only [hl5_1]); (with_reducible repeat (first | apply Kd.R_alloc | apply Kd.R_drewN | apply Kd.R_drew)); exact HO_5.out⟩, ⟨by repeat (first | (with_reducible first | exact HB.out | apply below_alloc | apply pw_below_drewN | apply below_drew1) | exact HB.out)⟩⟩
                  · rw [if_neg c14] at H
                    exact absurd H (by simp)
                · rw [if_neg c13] at H
                  exact absurd H (by simp)
              · rw [if_neg c11] at H
                exact absurd H (by simp)
            · rw [if_neg c10] at H
              exact absurd H (by simp)
          · rw [if_neg c8] at H
            have c8b0 : decide (x11_1 < (y101.length : Int)) = false := decide_eq_false c8
            (try simp only [hl5_1] at c8b0)
            clear c8
            obtain rfl := Option.some.inj H
            have hcv18 := own_string (P := Try.prog) Try.underlying31 Try.underlying5 Try.underlying9 (Kd.own_of_R HO_5.out)
            go_wp2
            go_ret
            exact ⟨by first | rfl | (simp [errW_none, errW_some] <;> rfl) | (simp [*, errW_none, errW_some] <;> rfl) | (simp (disch := omega) only [wrap64_id] <;> rfl), by repeat (first | (with_reducible first | exact HB.out | apply below_alloc | apply pw_below_drewN | apply below_drew1) | exact HB.out)⟩
    · rw [if_neg c4] at H
      exact absurd H (by simp)
  · rw [if_neg c3] at H
    exact absurd H (by simp)

-- NOT PRINTED: function 13 (dbus_newStringConverter)

/-! ### dbus_toString: function 17 -/
def dbus_toString.f (l0 : List Int) : Option (ByteArray) := some (strOfNums l0)
set_option maxHeartbeats 8000000 in
set_option maxRecDepth 100000 in
theorem dbus_toString.calls (A0 : Option Addr) (c0 : Nat) (l0 : List Int) (r : ByteArray) (w : World) (hr0 : Kd.C (Kd.int .u8) w A0 l0.length l0) (hc0 : l0.length ≤ c0) (h : dbus_toString.f l0 = some r) :
    Calls Try.prog 17 #[.slice A0 l0.length c0] w fun e w' => e = .returned (.string r) ∧ Drawn0 w w' := by
  have HR0 := Aside0.mk hr0
  have HC0 := Aside0.mk hc0
  clear hr0 hc0
  have H : (some (strOfNums l0)) = some r := h
  clear h
  obtain rfl := Option.some.inj H
  have hcv2 := Kd.C_string (P := Try.prog) (A := A0) (c := c0) Try.underlying31 Try.underlying5 Try.underlying9 HR0.out
  go_enter Try.func17, Try.ntmps17
  go_wp2
  go_ret
  exact ⟨by first | rfl | (simp; done) | (simp [*]; done), by repeat (first | exact Drawn0.refl _ | apply Drawn0.step)⟩

-- NOT PRINTED: function 14 (dbus_stringConverter_String)

end Go.Proofs.Ytodphfcneiodhaa.MFnWrStringsLarge
