-- Written by a program of this session (myprint.py, out of the translation). Not trusted: Lean checks it.
import Derived.Test.YtngbhojjjkdofaaDoorMFnVtBytesHexx0
import Derived.Test.YtngbhojjjkdofaaDoorMFnVtBytesHexx6
import Derived.Test.YtngbhojjjkdofaaDoorMFnVtBytesHexx8
import Derived.Test.YtngbhojjjkdofaaDoorMFnVtBytesHexx9
import Derived.Test.YtngbhojjjkdofaaDoorMFnVtBytesHexx10
namespace Go.Proofs.YtngbhojjjkdofaaDoor.MFnVtBytesHex
open Go.RowKit Go.Proofs.YtngbhojjjkdofaaDoorW.PrintWords Go.Proofs.YtngbhojjjkdofaaDoorW.PrintLast Go.Proofs.YtngbhojjjkdofaaDoorW.PrintMore
attribute [local go_sem] max2_int min2_int max_two min_two max_three min_three max_four min_four   -- for this text's walks alone
set_option linter.unusedVariables false
set_option linter.unusedSimpArgs false

/-! ### laws_FnVtBytesHex: function 4 -/
mutual
def laws_FnVtBytesHex.l0 : Nat → Int → Int → ByteArray → ByteArray → Option (Bool)
  | 0, _, _, _, _ => none
  | k + 1, x0, x1, x5, x6 => if (x6.size : Int) < 3 then (if 1 + x6.size ≤ 9223372036854775807 then (laws_FnVtBytesHex.l0 k x0 x1 x5 ((⟨#[48]⟩ : ByteArray) ++ x6)) else (none)) else ((laws_vtHex.f k (IntKind.u64.wrap (x0)) 2).bind fun t142 => (if 4 + t142.size ≤ 9223372036854775807 then (if ((⟨#[98, 39, 92, 120]⟩ : ByteArray) ++ t142).size + 1 ≤ 9223372036854775807 then ((spec_Upper.f t142).bind fun t143 => (if 4 + t143.size ≤ 9223372036854775807 then (if ((⟨#[98, 34, 92, 120]⟩ : ByteArray) ++ t143).size + 1 ≤ 9223372036854775807 then (if 4 + x6.size ≤ 9223372036854775807 then (if ((⟨#[98, 39, 92, 48]⟩ : ByteArray) ++ x6).size + 1 ≤ 9223372036854775807 then ((some (([((⟨#[98, 39, 92, 120]⟩ : ByteArray) ++ t142) ++ (⟨#[39]⟩ : ByteArray), ((⟨#[98, 34, 92, 120]⟩ : ByteArray) ++ t143) ++ (⟨#[34]⟩ : ByteArray), ((⟨#[98, 39, 92, 48]⟩ : ByteArray) ++ x6) ++ (⟨#[39]⟩ : ByteArray)] : List ByteArray) : List ByteArray)).bind fun y144 => (if x0 = 39 then (laws_FnVtBytesHex.j1 k x1 x5 y144 false) else (if x0 = 34 then (laws_FnVtBytesHex.j1 k x1 x5 y144 false) else (laws_FnVtBytesHex.j1 k x1 x5 y144 (x0 != 92))))) else (none)) else (none)) else (none)) else (none))) else (none)) else (none)))
def laws_FnVtBytesHex.j1 : Nat → Int → ByteArray → List ByteArray → Bool → Option (Bool)
  | 0, _, _, _, _ => none
  | k + 1, x1, x5, x8, x49 => if x49 = true then (if 0 ≤ 1 then (if 1 ≤ (x5.size : Int) then (if 2 + (x5.extract 0 1).size ≤ 9223372036854775807 then (if ((⟨#[98, 39]⟩ : ByteArray) ++ (x5.extract 0 1)).size + 1 ≤ 9223372036854775807 then (if x8.length < 8796093022208 then (laws_FnVtBytesHex.j2 k x1 x5 (x8 ++ [((⟨#[98, 39]⟩ : ByteArray) ++ (x5.extract 0 1)) ++ (⟨#[39]⟩ : ByteArray)])) else (none)) else (none)) else (none)) else (none)) else (none)) else (laws_FnVtBytesHex.j2 k x1 x5 x8)
def laws_FnVtBytesHex.j2 : Nat → Int → ByteArray → List ByteArray → Option (Bool)
  | 0, _, _, _ => none
  | k + 1, x1, x5, x8 => laws_FnVtBytesHex.l1 k x1 x5 x8 (x8.length : Int) 0
def laws_FnVtBytesHex.l1 : Nat → Int → ByteArray → List ByteArray → Int → Int → Option (Bool)
  | 0, _, _, _, _, _ => none
  | k + 1, x1, x5, x57, x58, x59 => if x59 < x58 then (if 0 ≤ x59 then (if x59 < (x57.length : Int) then ((impl_VtBytes.f (rdOf ByteArray.empty x57 x59)).bind fun bt151 => (if bt151.2 = true then (if bt151.1.toList = x5.toList then (laws_FnVtBytesHex.l1 k x1 x5 x57 x58 (wrap64 (x59 + 1))) else (some false)) else (some false))) else (none)) else (none)) else ((strconv_FormatUint_8.f (IntKind.u64.wrap (IntKind.u16.wrap (256 + (Int.tmod x1 256)))) 8).bind fun t153 => (if 4 + t153.size ≤ 9223372036854775807 then (if ((⟨#[98, 39, 92, 48]⟩ : ByteArray) ++ t153).size + 1 ≤ 9223372036854775807 then ((impl_VtBytes.f (((⟨#[98, 39, 92, 48]⟩ : ByteArray) ++ t153) ++ (⟨#[39]⟩ : ByteArray))).bind fun bt154 => (some (!bt154.2))) else (none)) else (none)))
end
def laws_FnVtBytesHex.f (k : Nat) (a0 : Int) (a1 : Int) : Option (Bool) := (strconv_FormatUint_8.f (IntKind.u64.wrap (a0)) 8).bind fun t141 => (laws_FnVtBytesHex.l0 k a0 a1 (strOfNums (([a0, 0] : List Int))) t141)
theorem laws_FnVtBytesHex.mono_l : ∀ k, (∀ y0 y1 y2 y3, LeO (laws_FnVtBytesHex.l0 k y0 y1 y2 y3) (laws_FnVtBytesHex.l0 (k + 1) y0 y1 y2 y3)) ∧ (∀ y0 y1 y2 y3, LeO (laws_FnVtBytesHex.j1 k y0 y1 y2 y3) (laws_FnVtBytesHex.j1 (k + 1) y0 y1 y2 y3)) ∧ (∀ y0 y1 y2, LeO (laws_FnVtBytesHex.j2 k y0 y1 y2) (laws_FnVtBytesHex.j2 (k + 1) y0 y1 y2)) ∧ (∀ y0 y1 y2 y3 y4, LeO (laws_FnVtBytesHex.l1 k y0 y1 y2 y3 y4) (laws_FnVtBytesHex.l1 (k + 1) y0 y1 y2 y3 y4))
  | 0 => ⟨fun _ _ _ _ r h => by simp [laws_FnVtBytesHex.l0] at h, fun _ _ _ _ r h => by simp [laws_FnVtBytesHex.j1] at h, fun _ _ _ r h => by simp [laws_FnVtBytesHex.j2] at h, fun _ _ _ _ _ r h => by simp [laws_FnVtBytesHex.l1] at h⟩
  | k + 1 => by
    obtain ⟨ih0, ih1, ih2, ih3⟩ := laws_FnVtBytesHex.mono_l k
    refine ⟨?_, ?_, ?_, ?_⟩
    · intro y0 y1 y2 y3
      unfold laws_FnVtBytesHex.l0
      repeat' first
      | (with_reducible exact ih0 _ _ _ _)
      | (with_reducible exact ih1 _ _ _ _)
      | (with_reducible exact ih2 _ _ _)
      | (with_reducible exact ih3 _ _ _ _ _)
      | (with_reducible exact laws_vtHex.mono _ _ _)
      | (with_reducible exact LeO.refl _)
      | (with_reducible exact LeO.none _)
      | (with_reducible refine LeO.ite ?_ ?_)
      | (with_reducible refine LeO.bind ?_ (fun _ => ?_))
      | exact ih0 _ _ _ _
      | exact ih1 _ _ _ _
      | exact ih2 _ _ _
      | exact ih3 _ _ _ _ _
      | exact laws_vtHex.mono _ _ _
      | exact LeO.none _
      | refine LeO.ite ?_ ?_
      | refine LeO.bind ?_ (fun _ => ?_)
    · intro y0 y1 y2 y3
      unfold laws_FnVtBytesHex.j1
      repeat' first
      | (with_reducible exact ih0 _ _ _ _)
      | (with_reducible exact ih1 _ _ _ _)
      | (with_reducible exact ih2 _ _ _)
      | (with_reducible exact ih3 _ _ _ _ _)
      | (with_reducible exact laws_vtHex.mono _ _ _)
      | (with_reducible exact LeO.refl _)
      | (with_reducible exact LeO.none _)
      | (with_reducible refine LeO.ite ?_ ?_)
      | (with_reducible refine LeO.bind ?_ (fun _ => ?_))
      | exact ih0 _ _ _ _
      | exact ih1 _ _ _ _
      | exact ih2 _ _ _
      | exact ih3 _ _ _ _ _
      | exact laws_vtHex.mono _ _ _
      | exact LeO.none _
      | refine LeO.ite ?_ ?_
      | refine LeO.bind ?_ (fun _ => ?_)
    · intro y0 y1 y2
      unfold laws_FnVtBytesHex.j2
      repeat' first
      | (with_reducible exact ih0 _ _ _ _)
      | (with_reducible exact ih1 _ _ _ _)
      | (with_reducible exact ih2 _ _ _)
      | (with_reducible exact ih3 _ _ _ _ _)
      | (with_reducible exact laws_vtHex.mono _ _ _)
      | (with_reducible exact LeO.refl _)
      | (with_reducible exact LeO.none _)
      | (with_reducible refine LeO.ite ?_ ?_)
      | (with_reducible refine LeO.bind ?_ (fun _ => ?_))
      | exact ih0 _ _ _ _
      | exact ih1 _ _ _ _
      | exact ih2 _ _ _
      | exact ih3 _ _ _ _ _
      | exact laws_vtHex.mono _ _ _
      | exact LeO.none _
      | refine LeO.ite ?_ ?_
      | refine LeO.bind ?_ (fun _ => ?_)
    · intro y0 y1 y2 y3 y4
      unfold laws_FnVtBytesHex.l1
      repeat' first
      | (with_reducible exact ih0 _ _ _ _)
      | (with_reducible exact ih1 _ _ _ _)
      | (with_reducible exact ih2 _ _ _)
      | (with_reducible exact ih3 _ _ _ _ _)
      | (with_reducible exact laws_vtHex.mono _ _ _)
      | (with_reducible exact LeO.refl _)
      | (with_reducible exact LeO.none _)
      | (with_reducible refine LeO.ite ?_ ?_)
      | (with_reducible refine LeO.bind ?_ (fun _ => ?_))
      | exact ih0 _ _ _ _
      | exact ih1 _ _ _ _
      | exact ih2 _ _ _
      | exact ih3 _ _ _ _ _
      | exact laws_vtHex.mono _ _ _
      | exact LeO.none _
      | refine LeO.ite ?_ ?_
      | refine LeO.bind ?_ (fun _ => ?_)
theorem laws_FnVtBytesHex.mono : ∀ a0 a1 k, LeO (laws_FnVtBytesHex.f k a0 a1) (laws_FnVtBytesHex.f (k + 1) a0 a1) := by
  intro a0 a1 k
  obtain ⟨ih0, ih1, ih2, ih3⟩ := laws_FnVtBytesHex.mono_l k
  unfold laws_FnVtBytesHex.f
  repeat' first
      | (with_reducible exact ih0 _ _ _ _)
      | (with_reducible exact ih1 _ _ _ _)
      | (with_reducible exact ih2 _ _ _)
      | (with_reducible exact ih3 _ _ _ _ _)
      | (with_reducible exact laws_vtHex.mono _ _ _)
      | (with_reducible exact LeO.refl _)
      | (with_reducible exact LeO.none _)
      | (with_reducible refine LeO.ite ?_ ?_)
      | (with_reducible refine LeO.bind ?_ (fun _ => ?_))
      | exact ih0 _ _ _ _
      | exact ih1 _ _ _ _
      | exact ih2 _ _ _
      | exact ih3 _ _ _ _ _
      | exact laws_vtHex.mono _ _ _
      | exact LeO.none _
      | refine LeO.ite ?_ ?_
      | refine LeO.bind ?_ (fun _ => ?_)
set_option maxHeartbeats 8000000 in
set_option maxRecDepth 100000 in
theorem laws_FnVtBytesHex.calls (k : Nat) (a0 : Int) (a1 : Int) (r : Bool) (w : World) (hG : Gv w) (hT : Gt w) (h : laws_FnVtBytesHex.f k a0 a1 = some r) :
    Calls Tryd.prog 4 #[.int .u8 a0, .int .u16 a1] w fun e w' => e = .returned (.bool r) ∧ Below w.heap.size w w' := by
  have HGV := Aside0.mk hG
  clear hG
  have HTT := Aside0.mk hT
  clear hT
  have HB := Aside0.mk (Below.refl w.heap.size w)
  have H : ((strconv_FormatUint_8.f (IntKind.u64.wrap (a0)) 8).bind fun t141 => (laws_FnVtBytesHex.l0 k a0 a1 (strOfNums (([a0, 0] : List Int))) t141)) = some r := h
  clear h
  obtain ⟨y138, hy138⟩ : ∃ y_ : List Int, y_ = (([a0, 0] : List Int)) := ⟨_, rfl⟩
  replace H : ((strconv_FormatUint_8.f (IntKind.u64.wrap (a0)) 8).bind fun t141 => (laws_FnVtBytesHex.l0 k a0 a1 (strOfNums y138) t141)) = some r := by first | (rw [hy138]; with_reducible exact H) | (have H2_ := (Option.bind_some _ _).symm.trans H; rw [hy138]; with_reducible exact H2_) | (have H2_ := (Option.bind_some _ _).symm.trans H; with_reducible exact H2_) | with_reducible exact H | (rw [hy138]; exact H) | exact H
  have Ny138 := Aside0.mk hy138
  clear hy138
  replace H := Option.bind_eq_some_iff.mp H
  obtain ⟨t141, A30, H⟩ := H
  replace H : (laws_FnVtBytesHex.l0 k a0 a1 (strOfNums y138) t141) = some r := H
  have A3 := Aside0.mk A30
  clear A30
  have H' := Aside0.mk H
  clear H
  go_enter Tryd.func4, Tryd.ntmps4
  go_wp2_with (first | ((with_reducible refine gate_dst (N := 16) rfl ?_); refine Kd.R_lit (Kd.int .u8) _ 5 ?hg (N := 16) ?hd (xs := ([a0, 0] : List Int)) (inner := [.int .u8 a0, .int .u8 0]) (ok := fun _ => True) (okp := fun _ => True) ?hr ?hp (fun _ hk => hk) trivial (Below.refl _ _) (Nat.le_refl _) (by simp) ?_; (case hd => rfl); (case hg => rfl); (case hr => first | (go_simp; done) | (go_simp; rfl)); (case hp => exact (Reps.one (show Kd.M (Kd.int .u8) _ _ _ a0 [.int .u8 a0] from rfl) (Reps.one (show Kd.M (Kd.int .u8) _ _ _ 0 [.int .u8 0] from rfl) (Reps.none _ _)))); intro v139 w4 ho5 hb hg_ hnew_; clear hg_ hnew_; (first | rw [← Ny138.out] at ho5 | (simp only [Int.reduceToNat] at ho5; rw [← Ny138.out] at ho5)); have n0_ := Aside0.mk (Kd.R_lower ho5 (below_size (by repeat (first | (with_reducible first | exact HB.out | apply below_alloc | apply pw_below_drewN | apply below_drew1) | exact HB.out)))); have n1_ := Aside0.mk (below_step (by repeat (first | (with_reducible first | exact HB.out | apply below_alloc | apply pw_below_drewN | apply below_drew1) | exact HB.out)) hb); clear HB; have HO140 := n0_; have HB := n1_; clear n0_ n1_; clear hb ho5; have hcv6 := own_string (P := Tryd.prog) Tryd.underlying27 Tryd.underlying5 Tryd.underlying9 (Kd.own_of_R HO140.out)) | ((with_reducible refine gate_callee (f := 8) rfl ?_); refine goesL_ (some 20) rfl rfl Tryd.func8 (by kernel_rfl) rfl #[.int .u64 (IntKind.u64.wrap (a0)), .int .i64 8] rfl (by (try simp only [List.map_toArray, List.map_cons, List.map_nil]); first | done | rfl | (simp only [List.length_drop, List.length_take]; rfl)) ?_; (with_reducible refine (strconv_FormatUint_8.calls (IntKind.u64.wrap (a0)) 8 t141 _ (Gt.up HTT.out (by repeat (first | (with_reducible first | exact HB.out | apply below_alloc | apply pw_below_drewN | apply below_drew1) | exact HB.out))) A3.out).mono ?_); rintro e w7 ⟨rfl, hb⟩; refine ⟨_, rfl, ?_⟩; have n0_ := Aside0.mk (Kd.R_below (by (with_reducible repeat (first | apply Kd.R_alloc | apply Kd.R_drewN | apply Kd.R_drew)); exact HO140.out) hb); have n1_ := Aside0.mk (below_step (by repeat (first | (with_reducible first | exact HB.out | apply below_alloc | apply pw_below_drewN | apply below_drew1) | exact HB.out)) hb); clear HO140; clear HB; have HO140 := n0_; have HB := n1_; clear n0_ n1_; (try clear hb); (try clear hb2); (try clear hk); (try clear hi)))
  go_loopg [6] k (fun kq v6 w' => ∃ (x6_1 : ByteArray), v6 = .string x6_1 ∧ Aside0 (laws_FnVtBytesHex.l0 kq a0 a1 (strOfNums y138) x6_1 = some r) ∧ Aside0 (kq ≤ k) ∧ Aside0 (Below w.heap.size w w'))
  case atStart => exact ⟨(t141), (by first | rfl | (simp; done) | (simp [*]; done)), H', ⟨Nat.le_refl _⟩, ⟨by repeat (first | (with_reducible first | exact HB.out | apply below_alloc | apply pw_below_drewN | apply below_drew1) | exact HB.out)⟩⟩
  case round =>
    clear H'
    try clear p2
    try clear c4
    try clear hcv6
    obtain ⟨x6_1, rfl, HA, HK1, HB⟩ := hrel
    cases gk with
    | zero => exact absurd HA.out (by simp [laws_FnVtBytesHex.l0])
    | succ k1 =>
      have H := HA.out
      clear HA
      simp only [laws_FnVtBytesHex.l0] at H
      by_cases c8 : (x6_1.size : Int) < 3
      · rw [if_pos c8] at H
        have c8b0 : decide ((x6_1.size : Int) < 3) = true := decide_eq_true c8
        have c8b1 : decide (x6_1.size < 3) = true := decide_eq_true (by omega)
        clear c8
        by_cases c9 : 1 + x6_1.size ≤ 9223372036854775807
        · rw [if_pos c9] at H
          have c9b0 := eq_true c9
          have c9b1 : decide (1 + x6_1.size ≤ 9223372036854775807) = true := decide_eq_true c9
          try have c9b2 : (9223372036854775807 < 1 + x6_1.size) = False := eq_false (Nat.not_lt.2 c9)
          have H' := Aside0.mk H
          clear H
          go_wp2
          go_roundg k1
          case measure => have := HK1.out; omega
          case rel => exact ⟨((⟨#[48]⟩ : ByteArray) ++ x6_1), (by first | rfl | (simp; done) | (simp [*]; done)), H', ⟨by have := HK1.out; omega⟩, ⟨by repeat (first | (with_reducible first | exact HB.out | apply below_alloc | apply pw_below_drewN | apply below_drew1) | exact HB.out)⟩⟩
        · rw [if_neg c9] at H
          exact absurd H (by simp)
      · rw [if_neg c8] at H
        have c8b0 : decide ((x6_1.size : Int) < 3) = false := decide_eq_false c8
        have c8b1 : decide (x6_1.size < 3) = false := decide_eq_false (by omega)
        clear c8
        replace H := Option.bind_eq_some_iff.mp H
        obtain ⟨t142, A100, H⟩ := H
        replace H : (if 4 + t142.size ≤ 9223372036854775807 then (if ((⟨#[98, 39, 92, 120]⟩ : ByteArray) ++ t142).size + 1 ≤ 9223372036854775807 then ((spec_Upper.f t142).bind fun t143 => (if 4 + t143.size ≤ 9223372036854775807 then (if ((⟨#[98, 34, 92, 120]⟩ : ByteArray) ++ t143).size + 1 ≤ 9223372036854775807 then (if 4 + x6_1.size ≤ 9223372036854775807 then (if ((⟨#[98, 39, 92, 48]⟩ : ByteArray) ++ x6_1).size + 1 ≤ 9223372036854775807 then ((some (([((⟨#[98, 39, 92, 120]⟩ : ByteArray) ++ t142) ++ (⟨#[39]⟩ : ByteArray), ((⟨#[98, 34, 92, 120]⟩ : ByteArray) ++ t143) ++ (⟨#[34]⟩ : ByteArray), ((⟨#[98, 39, 92, 48]⟩ : ByteArray) ++ x6_1) ++ (⟨#[39]⟩ : ByteArray)] : List ByteArray) : List ByteArray)).bind fun y144 => (if a0 = 39 then (laws_FnVtBytesHex.j1 k1 a1 (strOfNums y138) y144 false) else (if a0 = 34 then (laws_FnVtBytesHex.j1 k1 a1 (strOfNums y138) y144 false) else (laws_FnVtBytesHex.j1 k1 a1 (strOfNums y138) y144 (a0 != 92))))) else (none)) else (none)) else (none)) else (none))) else (none)) else (none)) = some r := H
        have A10 := Aside0.mk A100
        clear A100
        by_cases c11 : 4 + t142.size ≤ 9223372036854775807
        · rw [if_pos c11] at H
          have c11b0 := eq_true c11
          have c11b1 : decide (4 + t142.size ≤ 9223372036854775807) = true := decide_eq_true c11
          try have c11b2 : (9223372036854775807 < 4 + t142.size) = False := eq_false (Nat.not_lt.2 c11)
          by_cases c12 : ((⟨#[98, 39, 92, 120]⟩ : ByteArray) ++ t142).size + 1 ≤ 9223372036854775807
          · rw [if_pos c12] at H
            have c12b0 := eq_true c12
            have c12b1 : decide (((⟨#[98, 39, 92, 120]⟩ : ByteArray) ++ t142).size + 1 ≤ 9223372036854775807) = true := decide_eq_true c12
            try have c12b2 : (9223372036854775807 < ((⟨#[98, 39, 92, 120]⟩ : ByteArray) ++ t142).size + 1) = False := eq_false (Nat.not_lt.2 c12)
            (try have c12e : 4 + t142.size + 1 ≤ 9223372036854775807 := by (have h_ := c12; simp only [ByteArray.size_append] at h_; exact h_))
            (try have c12e0 := eq_true c12e)
            (try have c12e1 : decide (4 + t142.size + 1 ≤ 9223372036854775807) = true := decide_eq_true c12e)
            (try have c12e2 : (9223372036854775807 < 4 + t142.size + 1) = False := eq_false (Nat.not_lt.2 c12e))
            replace H := Option.bind_eq_some_iff.mp H
            obtain ⟨t143, A130, H⟩ := H
            replace H : (if 4 + t143.size ≤ 9223372036854775807 then (if ((⟨#[98, 34, 92, 120]⟩ : ByteArray) ++ t143).size + 1 ≤ 9223372036854775807 then (if 4 + x6_1.size ≤ 9223372036854775807 then (if ((⟨#[98, 39, 92, 48]⟩ : ByteArray) ++ x6_1).size + 1 ≤ 9223372036854775807 then ((some (([((⟨#[98, 39, 92, 120]⟩ : ByteArray) ++ t142) ++ (⟨#[39]⟩ : ByteArray), ((⟨#[98, 34, 92, 120]⟩ : ByteArray) ++ t143) ++ (⟨#[34]⟩ : ByteArray), ((⟨#[98, 39, 92, 48]⟩ : ByteArray) ++ x6_1) ++ (⟨#[39]⟩ : ByteArray)] : List ByteArray) : List ByteArray)).bind fun y144 => (if a0 = 39 then (laws_FnVtBytesHex.j1 k1 a1 (strOfNums y138) y144 false) else (if a0 = 34 then (laws_FnVtBytesHex.j1 k1 a1 (strOfNums y138) y144 false) else (laws_FnVtBytesHex.j1 k1 a1 (strOfNums y138) y144 (a0 != 92))))) else (none)) else (none)) else (none)) else (none)) = some r := H
            have A13 := Aside0.mk A130
            clear A130
            by_cases c14 : 4 + t143.size ≤ 9223372036854775807
            · rw [if_pos c14] at H
              have c14b0 := eq_true c14
              have c14b1 : decide (4 + t143.size ≤ 9223372036854775807) = true := decide_eq_true c14
              try have c14b2 : (9223372036854775807 < 4 + t143.size) = False := eq_false (Nat.not_lt.2 c14)
              by_cases c15 : ((⟨#[98, 34, 92, 120]⟩ : ByteArray) ++ t143).size + 1 ≤ 9223372036854775807
              · rw [if_pos c15] at H
                have c15b0 := eq_true c15
                have c15b1 : decide (((⟨#[98, 34, 92, 120]⟩ : ByteArray) ++ t143).size + 1 ≤ 9223372036854775807) = true := decide_eq_true c15
                try have c15b2 : (9223372036854775807 < ((⟨#[98, 34, 92, 120]⟩ : ByteArray) ++ t143).size + 1) = False := eq_false (Nat.not_lt.2 c15)
                (try have c15e : 4 + t143.size + 1 ≤ 9223372036854775807 := by (have h_ := c15; simp only [ByteArray.size_append] at h_; exact h_))
                (try have c15e0 := eq_true c15e)
                (try have c15e1 : decide (4 + t143.size + 1 ≤ 9223372036854775807) = true := decide_eq_true c15e)
                (try have c15e2 : (9223372036854775807 < 4 + t143.size + 1) = False := eq_false (Nat.not_lt.2 c15e))
                by_cases c16 : 4 + x6_1.size ≤ 9223372036854775807
                · rw [if_pos c16] at H
                  have c16b0 := eq_true c16
                  have c16b1 : decide (4 + x6_1.size ≤ 9223372036854775807) = true := decide_eq_true c16
                  try have c16b2 : (9223372036854775807 < 4 + x6_1.size) = False := eq_false (Nat.not_lt.2 c16)
                  by_cases c17 : ((⟨#[98, 39, 92, 48]⟩ : ByteArray) ++ x6_1).size + 1 ≤ 9223372036854775807
                  · rw [if_pos c17] at H
                    have c17b0 := eq_true c17
                    have c17b1 : decide (((⟨#[98, 39, 92, 48]⟩ : ByteArray) ++ x6_1).size + 1 ≤ 9223372036854775807) = true := decide_eq_true c17
                    try have c17b2 : (9223372036854775807 < ((⟨#[98, 39, 92, 48]⟩ : ByteArray) ++ x6_1).size + 1) = False := eq_false (Nat.not_lt.2 c17)
                    (try have c17e : 4 + x6_1.size + 1 ≤ 9223372036854775807 := by (have h_ := c17; simp only [ByteArray.size_append] at h_; exact h_))
                    (try have c17e0 := eq_true c17e)
                    (try have c17e1 : decide (4 + x6_1.size + 1 ≤ 9223372036854775807) = true := decide_eq_true c17e)
                    (try have c17e2 : (9223372036854775807 < 4 + x6_1.size + 1) = False := eq_false (Nat.not_lt.2 c17e))
                    obtain ⟨y144, hy144⟩ : ∃ y_ : List ByteArray, y_ = (([((⟨#[98, 39, 92, 120]⟩ : ByteArray) ++ t142) ++ (⟨#[39]⟩ : ByteArray), ((⟨#[98, 34, 92, 120]⟩ : ByteArray) ++ t143) ++ (⟨#[34]⟩ : ByteArray), ((⟨#[98, 39, 92, 48]⟩ : ByteArray) ++ x6_1) ++ (⟨#[39]⟩ : ByteArray)] : List ByteArray)) := ⟨_, rfl⟩
                    replace H : (if a0 = 39 then (laws_FnVtBytesHex.j1 k1 a1 (strOfNums y138) y144 false) else (if a0 = 34 then (laws_FnVtBytesHex.j1 k1 a1 (strOfNums y138) y144 false) else (laws_FnVtBytesHex.j1 k1 a1 (strOfNums y138) y144 (a0 != 92)))) = some r := by first | (rw [hy144]; with_reducible exact H) | (have H2_ := (Option.bind_some _ _).symm.trans H; rw [hy144]; with_reducible exact H2_) | (have H2_ := (Option.bind_some _ _).symm.trans H; with_reducible exact H2_) | with_reducible exact H | (rw [hy144]; exact H) | exact H
                    have Ny144 := Aside0.mk hy144
                    clear hy144
                    have HC18 := Aside0.mk H
                    clear H
                    go_upto_region 7 with (first | ((with_reducible refine gate_callee (f := 9) rfl ?_); refine goesL_ (some 28) rfl rfl Tryd.func9 (by kernel_rfl) rfl #[.int .u64 (IntKind.u64.wrap (a0)), .int .i64 2] rfl (by (try simp only [List.map_toArray, List.map_cons, List.map_nil]); first | done | rfl | (simp only [List.length_drop, List.length_take]; rfl)) ?_; (with_reducible refine (laws_vtHex.calls k1 (IntKind.u64.wrap (a0)) 2 t142 _ (Gt.up HTT.out (by repeat (first | (with_reducible first | exact HB.out | apply below_alloc | apply pw_below_drewN | apply below_drew1) | exact HB.out))) A10.out).mono ?_); rintro e w19 ⟨rfl, hb⟩; refine ⟨_, rfl, ?_⟩; have n0_ := Aside0.mk (below_step (by repeat (first | (with_reducible first | exact HB.out | apply below_alloc | apply pw_below_drewN | apply below_drew1) | exact HB.out)) hb); clear HB; have HB := n0_; clear n0_; (try clear hb); (try clear hb2); (try clear hk); (try clear hi)) | ((with_reducible refine gate_callee (f := 10) rfl ?_); refine goesL_ (some 33) rfl rfl Tryd.func10 (by kernel_rfl) rfl #[.string t142] rfl (by (try simp only [List.map_toArray, List.map_cons, List.map_nil]); first | done | rfl | (simp only [List.length_drop, List.length_take]; rfl)) ?_; (with_reducible refine (spec_Upper.calls t142 t143 _ A13.out).mono ?_); rintro e w20 ⟨rfl, hb⟩; refine ⟨_, rfl, ?_⟩; have n0_ := Aside0.mk (below_step (by repeat (first | (with_reducible first | exact HB.out | apply below_alloc | apply pw_below_drewN | apply below_drew1) | exact HB.out)) hb); clear HB; have HB := n0_; clear n0_; (try clear hb); (try clear hb2); (try clear hk); (try clear hi)) | ((with_reducible refine gate_dst (N := 39) rfl ?_); refine Kd.R_lit Kd.string _ 9 ?hg (N := 39) ?hd (xs := ([((⟨#[98, 39, 92, 120]⟩ : ByteArray) ++ t142) ++ (⟨#[39]⟩ : ByteArray), ((⟨#[98, 34, 92, 120]⟩ : ByteArray) ++ t143) ++ (⟨#[34]⟩ : ByteArray), ((⟨#[98, 39, 92, 48]⟩ : ByteArray) ++ x6_1) ++ (⟨#[39]⟩ : ByteArray)] : List ByteArray)) (inner := [.string (((⟨#[98, 39, 92, 120]⟩ : ByteArray) ++ t142) ++ (⟨#[39]⟩ : ByteArray)), .string (((⟨#[98, 34, 92, 120]⟩ : ByteArray) ++ t143) ++ (⟨#[34]⟩ : ByteArray)), .string (((⟨#[98, 39, 92, 48]⟩ : ByteArray) ++ x6_1) ++ (⟨#[39]⟩ : ByteArray))]) (ok := fun _ => True) (okp := fun _ => True) ?hr ?hp (fun _ hk => hk) trivial (Below.refl _ _) (Nat.le_refl _) (by simp) ?_; (case hd => rfl); (case hg => rfl); (case hr => first | (go_simp; done) | (go_simp; rfl)); (case hp => exact (Reps.one (show Kd.M Kd.string _ _ _ (((⟨#[98, 39, 92, 120]⟩ : ByteArray) ++ t142) ++ (⟨#[39]⟩ : ByteArray)) [.string (((⟨#[98, 39, 92, 120]⟩ : ByteArray) ++ t142) ++ (⟨#[39]⟩ : ByteArray))] from rfl) (Reps.one (show Kd.M Kd.string _ _ _ (((⟨#[98, 34, 92, 120]⟩ : ByteArray) ++ t143) ++ (⟨#[34]⟩ : ByteArray)) [.string (((⟨#[98, 34, 92, 120]⟩ : ByteArray) ++ t143) ++ (⟨#[34]⟩ : ByteArray))] from rfl) (Reps.one (show Kd.M Kd.string _ _ _ (((⟨#[98, 39, 92, 48]⟩ : ByteArray) ++ x6_1) ++ (⟨#[39]⟩ : ByteArray)) [.string (((⟨#[98, 39, 92, 48]⟩ : ByteArray) ++ x6_1) ++ (⟨#[39]⟩ : ByteArray))] from rfl) (Reps.none _ _))))); intro v145 w21 ho22 hb hg_ hnew_; clear hg_ hnew_; (first | rw [← Ny144.out] at ho22 | (simp only [Int.reduceToNat] at ho22; rw [← Ny144.out] at ho22)); have n0_ := Aside0.mk (Kd.R_lower ho22 (below_size (by repeat (first | (with_reducible first | exact HB.out | apply below_alloc | apply pw_below_drewN | apply below_drew1) | exact HB.out)))); have n1_ := Aside0.mk (below_step (by repeat (first | (with_reducible first | exact HB.out | apply below_alloc | apply pw_below_drewN | apply below_drew1) | exact HB.out)) hb); clear HB; have HO146 := n0_; have HB := n1_; clear n0_ n1_; clear hb ho22))
                    (try simp only [Act.put, List.setIfInBounds_toArray, List.set_cons_zero, List.set_cons_succ])
                    go_cut [49] (fun v49 wc => ∃ (kq : Nat) (x49_17 : Bool), v49 = .bool x49_17 ∧ Aside0 (laws_FnVtBytesHex.j1 kq a1 (strOfNums y138) y144 x49_17 = some r) ∧ Aside0 (kq ≤ k1) ∧ Aside0 (Kd.R Kd.string 9 wc w.heap.size (fun _ => True) v145 y144) ∧ Aside0 (Below w.heap.size w wc))
                    case first =>
                      have H := HC18.out
                      clear HC18
                      by_cases c23 : a0 = 39
                      · rw [if_pos c23] at H
                        have c23b0 : (a0 == 39) = true := beq_iff_eq.mpr c23
                        have c23b1 : (a0 != 39) = false := bne_eq_false_iff_eq.mpr c23
                        clear c23
                        (first | rw [c23b0] | (simp only [i64_w, i32_w]; rw [c23b0]) | skip)
                        have H' := Aside0.mk H
                        clear H
                        go_wp2
                        go_meet
                        case rel => exact ⟨_, (false), (by first | rfl | (simp; done) | (simp [*]; done)), H', ⟨by have := HK1.out; first | omega | exact Nat.le_refl _⟩, ⟨by (with_reducible repeat (first | apply Kd.R_alloc | apply Kd.R_drewN | apply Kd.R_drew)); exact HO146.out⟩, ⟨by repeat (first | (with_reducible first | exact HB.out | apply below_alloc | apply pw_below_drewN | apply below_drew1) | exact HB.out)⟩⟩
                      · rw [if_neg c23] at H
                        have c23b0 : (a0 == 39) = false := beq_eq_false_iff_ne.mpr c23
                        have c23b1 : (a0 != 39) = true := bne_iff_ne.mpr c23
                        (first | rw [c23b0] | (simp only [i64_w, i32_w]; rw [c23b0]) | skip)
                        by_cases c24 : a0 = 34
                        · rw [if_pos c24] at H
                          have c24b0 : (a0 == 34) = true := beq_iff_eq.mpr c24
                          have c24b1 : (a0 != 34) = false := bne_eq_false_iff_eq.mpr c24
                          clear c24
                          have H' := Aside0.mk H
                          clear H
                          go_wp2
                          go_meet
                          case rel => exact ⟨_, (false), (by first | rfl | (simp; done) | (simp [*]; done)), H', ⟨by have := HK1.out; first | omega | exact Nat.le_refl _⟩, ⟨by (with_reducible repeat (first | apply Kd.R_alloc | apply Kd.R_drewN | apply Kd.R_drew)); exact HO146.out⟩, ⟨by repeat (first | (with_reducible first | exact HB.out | apply below_alloc | apply pw_below_drewN | apply below_drew1) | exact HB.out)⟩⟩
                        · rw [if_neg c24] at H
                          have c24b0 : (a0 == 34) = false := beq_eq_false_iff_ne.mpr c24
                          have c24b1 : (a0 != 34) = true := bne_iff_ne.mpr c24
                          have H' := Aside0.mk H
                          clear H
                          go_wp2
                          go_meet
                          case rel => exact ⟨_, ((a0 != 92)), (by first | rfl | (simp; done) | (simp [*]; done)), H', ⟨by have := HK1.out; first | omega | exact Nat.le_refl _⟩, ⟨by (with_reducible repeat (first | apply Kd.R_alloc | apply Kd.R_drewN | apply Kd.R_drew)); exact HO146.out⟩, ⟨by repeat (first | (with_reducible first | exact HB.out | apply below_alloc | apply pw_below_drewN | apply below_drew1) | exact HB.out)⟩⟩
                    case rest =>
                      clear HC18
                      try clear c1
                      try clear c2
                      try clear p2
                      try clear c4
                      try clear hcv6
                      try clear c8
                      try clear c8b0
                      try clear c8b1
                      try clear c9
                      try clear c9b0
                      try clear c9b1
                      try clear c9b2
                      try clear c10
                      try clear c11
                      try clear c11b0
                      try clear c11b1
                      try clear c11b2
                      try clear c12
                      try clear c12b0
                      try clear c12b1
                      try clear c12b2
                      try clear c14
                      try clear c14b0
                      try clear c14b1
                      try clear c14b2
                      try clear c15
                      try clear c15b0
                      try clear c15b1
                      try clear c15b2
                      try clear c16
                      try clear c16b0
                      try clear c16b1
                      try clear c16b2
                      try clear c17
                      try clear c17b0
                      try clear c17b1
                      try clear c17b2
                      try clear c23
                      try clear c23b0
                      try clear c23b1
                      try clear c24
                      try clear c24b0
                      try clear c24b1
                      try clear p2
                      obtain ⟨kq, x49_17, rfl, HA, HJ17, HO_8, HB⟩ := hcut
                      cases kq with
                      | zero => exact absurd HA.out (by simp [laws_FnVtBytesHex.j1])
                      | succ kj17 =>
                        have H := HA.out
                        clear HA
                        simp only [laws_FnVtBytesHex.j1] at H
                        have HC25 := Aside0.mk H
                        clear H
                        go_upto_if 49 with (fail)
                        go_cut [8] (fun v8 wc => ∃ (kq : Nat) (x8_24 : List ByteArray), Aside0 (laws_FnVtBytesHex.j2 kq a1 (strOfNums y138) x8_24 = some r) ∧ Aside0 (kq ≤ kj17) ∧ Aside0 (Kd.R Kd.string 9 wc w.heap.size (fun _ => True) v8 x8_24) ∧ Aside0 (Below w.heap.size w wc))
                        case first =>
                          have H := HC25.out
                          clear HC25
                          by_cases c26 : x49_17 = true
                          · subst c26
                            have H1 : (if 0 ≤ 1 then (if 1 ≤ ((strOfNums y138).size : Int) then (if 2 + ((strOfNums y138).extract 0 1).size ≤ 9223372036854775807 then (if ((⟨#[98, 39]⟩ : ByteArray) ++ ((strOfNums y138).extract 0 1)).size + 1 ≤ 9223372036854775807 then (if y144.length < 8796093022208 then (laws_FnVtBytesHex.j2 kj17 a1 (strOfNums y138) (y144 ++ [((⟨#[98, 39]⟩ : ByteArray) ++ ((strOfNums y138).extract 0 1)) ++ (⟨#[39]⟩ : ByteArray)])) else (none)) else (none)) else (none)) else (none)) else (none)) = some r := by rw [if_pos rfl] at H; exact H
                            clear H
                            have H := H1
                            clear H1
                            by_cases c27 : 0 ≤ 1
                            · rw [if_pos c27] at H
                              have c27b0 := eq_true c27
                              have c27b1 : decide (0 ≤ 1) = true := decide_eq_true c27
                              clear c27
                              by_cases c28 : 1 ≤ ((strOfNums y138).size : Int)
                              · rw [if_pos c28] at H
                                have c28b0 := eq_true c28
                                have c28b1 : decide (1 ≤ ((strOfNums y138).size : Int)) = true := decide_eq_true c28
                                clear c28
                                by_cases c29 : 2 + ((strOfNums y138).extract 0 1).size ≤ 9223372036854775807
                                · rw [if_pos c29] at H
                                  have c29b0 := eq_true c29
                                  have c29b1 : decide (2 + ((strOfNums y138).extract 0 1).size ≤ 9223372036854775807) = true := decide_eq_true c29
                                  try have c29b2 : (9223372036854775807 < 2 + ((strOfNums y138).extract 0 1).size) = False := eq_false (Nat.not_lt.2 c29)
                                  by_cases c30 : ((⟨#[98, 39]⟩ : ByteArray) ++ ((strOfNums y138).extract 0 1)).size + 1 ≤ 9223372036854775807
                                  · rw [if_pos c30] at H
                                    have c30b0 := eq_true c30
                                    have c30b1 : decide (((⟨#[98, 39]⟩ : ByteArray) ++ ((strOfNums y138).extract 0 1)).size + 1 ≤ 9223372036854775807) = true := decide_eq_true c30
                                    try have c30b2 : (9223372036854775807 < ((⟨#[98, 39]⟩ : ByteArray) ++ ((strOfNums y138).extract 0 1)).size + 1) = False := eq_false (Nat.not_lt.2 c30)
                                    (try have c30e : 2 + ((strOfNums y138).extract 0 1).size + 1 ≤ 9223372036854775807 := by (have h_ := c30; simp only [ByteArray.size_append] at h_; exact h_))
                                    (try have c30e0 := eq_true c30e)
                                    (try have c30e1 : decide (2 + ((strOfNums y138).extract 0 1).size + 1 ≤ 9223372036854775807) = true := decide_eq_true c30e)
                                    (try have c30e2 : (9223372036854775807 < 2 + ((strOfNums y138).extract 0 1).size + 1) = False := eq_false (Nat.not_lt.2 c30e))
                                    by_cases c31 : y144.length < 8796093022208
                                    · rw [if_pos c31] at H
                                      have LMc31 := Aside0.mk c31
                                      clear c31
                                      obtain ⟨y147, hy147⟩ : ∃ y_ : List ByteArray, y_ = (y144 ++ [((⟨#[98, 39]⟩ : ByteArray) ++ ((strOfNums y138).extract 0 1)) ++ (⟨#[39]⟩ : ByteArray)]) := ⟨_, rfl⟩
                                      replace H : (laws_FnVtBytesHex.j2 kj17 a1 (strOfNums y138) y147) = some r := by first | (rw [hy147]; with_reducible exact H) | (have H2_ := (Option.bind_some _ _).symm.trans H; rw [hy147]; with_reducible exact H2_) | (have H2_ := (Option.bind_some _ _).symm.trans H; with_reducible exact H2_) | with_reducible exact H | (rw [hy147]; exact H) | exact H
                                      have Ny147 := Aside0.mk hy147
                                      clear hy147
                                      have H' := Aside0.mk H
                                      clear H
                                      go_wp2_with (first | ((with_reducible refine gate_builtin (b := .append) (xs := #[.tmp 50, .tmp 55]) rfl ?_); at_builtin; refine Kd.R_append Kd.string (w0 := w) w.heap.size rfl (.tmp 50) (.tmp 55) 31 9 (.string ⟨#[]⟩) 16 rfl Tryd.underlying31 info9 rfl (by decide) (by omega) v145 y144 (((⟨#[98, 39]⟩ : ByteArray) ++ ((strOfNums y138).extract 0 1)) ++ (⟨#[39]⟩ : ByteArray)) [.string (((⟨#[98, 39]⟩ : ByteArray) ++ ((strOfNums y138).extract 0 1)) ++ (⟨#[39]⟩ : ByteArray))] (fun _ => True) (fun _ => False) rfl rfl ?aP (fun _ hk => hk.elim) ?aF ?aO ?aB ?aS ?aL ?_; (case aP => exact rfl); (case aB => exact (by repeat (first | (with_reducible first | exact HB.out | apply below_alloc | apply pw_below_drewN | apply below_drew1) | exact HB.out))); (case aF => exact (fun _ _ => trivial)); (case aO => exact (by (with_reducible repeat (first | apply Kd.R_alloc | apply Kd.R_drewN | apply Kd.R_drew)); exact HO_8.out)); (case aS => exact (below_size (by repeat (first | (with_reducible first | exact HB.out | apply below_alloc | apply pw_below_drewN | apply below_drew1) | exact HB.out)))); (case aL => have := LMc31.out; omega); intro v148 w32 ho hb hg hat; rw [← Ny147.out] at ho; have n0_ := Aside0.mk (hb); have n1_ := Aside0.mk (ho); clear HB; clear HO_8; have HB := n0_; have HO149 := n1_; clear n0_ n1_; clear ho hb hg hat))
                                      go_meet
                                      case rel => exact ⟨_, (y147), H', ⟨by have := HK1.out; have := HJ17.out; first | omega | exact Nat.le_refl _⟩, ⟨by (with_reducible repeat (first | apply Kd.R_alloc | apply Kd.R_drewN | apply Kd.R_drew)); exact HO149.out⟩, ⟨by repeat (first | (with_reducible first | exact HB.out | apply below_alloc | apply pw_below_drewN | apply below_drew1) | exact HB.out)⟩⟩
                                    · rw [if_neg c31] at H
                                      exact absurd H (by simp)
                                  · rw [if_neg c30] at H
                                    exact absurd H (by simp)
                                · rw [if_neg c29] at H
                                  exact absurd H (by simp)
                              · rw [if_neg c28] at H
                                exact absurd H (by simp)
                            · rw [if_neg c27] at H
                              exact absurd H (by simp)
                          · replace c26 := Bool.eq_false_iff.mpr c26
                            subst c26
                            have H1 : (laws_FnVtBytesHex.j2 kj17 a1 (strOfNums y138) y144) = some r := by rw [if_neg (show ¬ (false = true) by decide)] at H; exact H
                            clear H
                            have H := H1
                            clear H1
                            have H' := Aside0.mk H
                            clear H
                            go_wp2
                            go_meet
                            case rel => exact ⟨_, (y144), H', ⟨by have := HK1.out; have := HJ17.out; first | omega | exact Nat.le_refl _⟩, ⟨by (with_reducible repeat (first | apply Kd.R_alloc | apply Kd.R_drewN | apply Kd.R_drew)); exact HO_8.out⟩, ⟨by repeat (first | (with_reducible first | exact HB.out | apply below_alloc | apply pw_below_drewN | apply below_drew1) | exact HB.out)⟩⟩
                        case rest =>
                          clear HC25
                          try clear c1
                          try clear c2
                          try clear p2
                          try clear c3
                          try clear c4
                          try clear hcv6
                          try clear c8
                          try clear c8b0
                          try clear c8b1
                          try clear c9
                          try clear c9b0
                          try clear c9b1
                          try clear c9b2
                          try clear c10
                          try clear c11
                          try clear c11b0
                          try clear c11b1
                          try clear c11b2
                          try clear c12
                          try clear c12b0
                          try clear c12b1
                          try clear c12b2
                          try clear c14
                          try clear c14b0
                          try clear c14b1
                          try clear c14b2
                          try clear c15
                          try clear c15b0
                          try clear c15b1
                          try clear c15b2
                          try clear c16
                          try clear c16b0
                          try clear c16b1
                          try clear c16b2
                          try clear c17
                          try clear c17b0
                          try clear c17b1
                          try clear c17b2
                          try clear c23
                          try clear c23b0
                          try clear c23b1
                          try clear c24
                          try clear c24b0
                          try clear c24b1
                          try clear c26
                          try clear c27
                          try clear c27b0
                          try clear c27b1
                          try clear c28
                          try clear c28b0
                          try clear c28b1
                          try clear c29
                          try clear c29b0
                          try clear c29b1
                          try clear c29b2
                          try clear c30
                          try clear c30b0
                          try clear c30b1
                          try clear c30b2
                          try clear c31
                          try clear p2
                          obtain ⟨kq, x8_24, HA, HJ24, HO_8, HB⟩ := hcut
                          cases kq with
                          | zero => exact absurd HA.out (by simp [laws_FnVtBytesHex.j2])
                          | succ kj24 =>
                            have H := HA.out
                            clear HA
                            simp only [laws_FnVtBytesHex.j2] at H
                            have H' := Aside0.mk H
                            clear H
                            obtain ⟨Ao33, co33, eo33⟩ := Kd.R_slice HO_8.out
                            subst eo33
                            go_wp2
                            go_loopg [59] kj24 (fun kq v59 w' => ∃ (x59_4 : Int), v59 = .int .i64 x59_4 ∧ Aside0 (laws_FnVtBytesHex.l1 kq a1 (strOfNums y138) x8_24 (x8_24.length : Int) x59_4 = some r) ∧ Aside0 (kq ≤ kj24) ∧ Aside0 (Kd.R Kd.string 9 w' w.heap.size (fun _ => True) (.slice Ao33 x8_24.length co33) x8_24) ∧ Aside0 (Below w.heap.size w w'))
                            case atStart => exact ⟨(0), (by first | rfl | (simp; done) | (simp [*]; done)), H', ⟨Nat.le_refl _⟩, ⟨by (with_reducible repeat (first | apply Kd.R_alloc | apply Kd.R_drewN | apply Kd.R_drew)); exact HO_8.out⟩, ⟨by repeat (first | (with_reducible first | exact HB.out | apply below_alloc | apply pw_below_drewN | apply below_drew1) | exact HB.out)⟩⟩
                            case round =>
                              clear H'
                              try clear c1
                              try clear c2
                              try clear p2
                              try clear c3
                              try clear c4
                              try clear hcv6
                              try clear c8
                              try clear c8b0
                              try clear c8b1
                              try clear c9
                              try clear c9b0
                              try clear c9b1
                              try clear c9b2
                              try clear c10
                              try clear c11
                              try clear c11b0
                              try clear c11b1
                              try clear c11b2
                              try clear c12
                              try clear c12b0
                              try clear c12b1
                              try clear c12b2
                              try clear c14
                              try clear c14b0
                              try clear c14b1
                              try clear c14b2
                              try clear c15
                              try clear c15b0
                              try clear c15b1
                              try clear c15b2
                              try clear c16
                              try clear c16b0
                              try clear c16b1
                              try clear c16b2
                              try clear c17
                              try clear c17b0
                              try clear c17b1
                              try clear c17b2
                              try clear c23
                              try clear c23b0
                              try clear c23b1
                              try clear c24
                              try clear c24b0
                              try clear c24b1
                              try clear c26
                              try clear c27
                              try clear c27b0
                              try clear c27b1
                              try clear c28
                              try clear c28b0
                              try clear c28b1
                              try clear c29
                              try clear c29b0
                              try clear c29b1
                              try clear c29b2
                              try clear c30
                              try clear c30b0
                              try clear c30b1
                              try clear c30b2
                              try clear c31
                              try clear p2
                              obtain ⟨x59_4, rfl, HA, HK4, HO_57, HB⟩ := hrel
                              cases gk with
                              | zero => exact absurd HA.out (by simp [laws_FnVtBytesHex.l1])
                              | succ k4 =>
                                have H := HA.out
                                clear HA
                                simp only [laws_FnVtBytesHex.l1] at H
                                by_cases c34 : x59_4 < (x8_24.length : Int)
                                · rw [if_pos c34] at H
                                  have c34b0 : decide (x59_4 < (x8_24.length : Int)) = true := decide_eq_true c34
                                  clear c34
                                  by_cases c35 : 0 ≤ x59_4
                                  · rw [if_pos c35] at H
                                    have c35b0 : decide (0 ≤ x59_4) = true := decide_eq_true c35
                                    clear c35
                                    by_cases c36 : x59_4 < (x8_24.length : Int)
                                    · rw [if_pos c36] at H
                                      have c36b0 : decide (x59_4 < (x8_24.length : Int)) = true := decide_eq_true c36
                                      clear c36
                                      replace H := Option.bind_eq_some_iff.mp H
                                      obtain ⟨⟨t151, t152⟩, A370, H⟩ := H
                                      replace H : (if t152 = true then (if t151.toList = (strOfNums y138).toList then (laws_FnVtBytesHex.l1 k4 a1 (strOfNums y138) x8_24 (x8_24.length : Int) (wrap64 (x59_4 + 1))) else (some false)) else (some false)) = some r := H
                                      have A37 := Aside0.mk A370
                                      clear A370
                                      by_cases c38 : t152 = true
                                      · subst c38
                                        have H1 : (if t151.toList = (strOfNums y138).toList then (laws_FnVtBytesHex.l1 k4 a1 (strOfNums y138) x8_24 (x8_24.length : Int) (wrap64 (x59_4 + 1))) else (some false)) = some r := by rw [if_pos rfl] at H; exact H
                                        clear H
                                        have H := H1
                                        clear H1
                                        by_cases c39 : t151.toList = (strOfNums y138).toList
                                        · rw [if_pos c39] at H
                                          have c39b0 : (t151.toList == (strOfNums y138).toList) = true := beq_iff_eq.mpr c39
                                          have c39b1 : (t151.toList != (strOfNums y138).toList) = false := bne_eq_false_iff_eq.mpr c39
                                          clear c39
                                          have H' := Aside0.mk H
                                          clear H
                                          have p150 : 0 ≤ (x59_4 : Int) := of_decide_eq_true (by first | (with_reducible assumption) | assumption)
                                          have q150 : x59_4 < (x8_24.length : Int) := of_decide_eq_true (by first | (with_reducible assumption) | assumption)
                                          obtain ⟨ad150, e150, hx150_0⟩ := Kd.at_string (Kd.R_reads' HO_57.out).2.2 x59_4 p150 q150
                                          cases e150
                                          replace p150 := eq_true p150
                                          replace q150 := eq_true q150
                                          go_wp2_with (first | ((with_reducible refine gate_callee (f := 7) rfl ?_); refine goesL_ (some 65) rfl rfl Tryd.func7 (by kernel_rfl) rfl #[.string (rdOf ByteArray.empty x8_24 x59_4)] rfl (by (try simp only [List.map_toArray, List.map_cons, List.map_nil]); first | done | rfl | (simp only [List.length_drop, List.length_take]; rfl)) ?_; (with_reducible refine (impl_VtBytes.calls (rdOf ByteArray.empty x8_24 x59_4) t151 true _ (Gv.up HGV.out (by repeat (first | (with_reducible first | exact HB.out | apply below_alloc | apply pw_below_drewN | apply below_drew1) | exact HB.out))) A37.out).mono ?_); rintro e w40 ⟨rfl, hb⟩; refine ⟨_, rfl, ?_⟩; have n0_ := Aside0.mk (Kd.R_below (by (with_reducible repeat (first | apply Kd.R_alloc | apply Kd.R_drewN | apply Kd.R_drew)); exact HO_57.out) hb); have n1_ := Aside0.mk (below_step (by repeat (first | (with_reducible first | exact HB.out | apply below_alloc | apply pw_below_drewN | apply below_drew1) | exact HB.out)) hb); clear HO_57; clear HB; have HO_57 := n0_; have HB := n1_; clear n0_ n1_; (try clear hb); (try clear hb2); (try clear hk); (try clear hi)))
                                          go_roundg k4
                                          case measure => have := HK1.out; have := HJ17.out; have := HJ24.out; have := HK4.out; omega
                                          case rel => exact ⟨(wrap64 (x59_4 + 1)), (by first | rfl | (simp; done) | (simp [*]; done)), H', ⟨by have := HK1.out; have := HJ17.out; have := HJ24.out; have := HK4.out; omega⟩, ⟨by (with_reducible repeat (first | apply Kd.R_alloc | apply Kd.R_drewN | apply Kd.R_drew)); exact HO_57.out⟩, ⟨by repeat (first | (with_reducible first | exact HB.out | apply below_alloc | apply pw_below_drewN | apply below_drew1) | exact HB.out)⟩⟩
                                        · rw [if_neg c39] at H
                                          have c39b0 : (t151.toList == (strOfNums y138).toList) = false := beq_eq_false_iff_ne.mpr c39
                                          have c39b1 : (t151.toList != (strOfNums y138).toList) = true := bne_iff_ne.mpr c39
                                          obtain rfl := Option.some.inj H
                                          have p150 : 0 ≤ (x59_4 : Int) := of_decide_eq_true (by first | (with_reducible assumption) | assumption)
                                          have q150 : x59_4 < (x8_24.length : Int) := of_decide_eq_true (by first | (with_reducible assumption) | assumption)
                                          obtain ⟨ad150, e150, hx150_0⟩ := Kd.at_string (Kd.R_reads' HO_57.out).2.2 x59_4 p150 q150
                                          cases e150
                                          replace p150 := eq_true p150
                                          replace q150 := eq_true q150
                                          go_wp2_with (first | ((with_reducible refine gate_callee (f := 7) rfl ?_); refine goesL_ (some 65) rfl rfl Tryd.func7 (by kernel_rfl) rfl #[.string (rdOf ByteArray.empty x8_24 x59_4)] rfl (by (try simp only [List.map_toArray, List.map_cons, List.map_nil]); first | done | rfl | (simp only [List.length_drop, List.length_take]; rfl)) ?_; (with_reducible refine (impl_VtBytes.calls (rdOf ByteArray.empty x8_24 x59_4) t151 true _ (Gv.up HGV.out (by repeat (first | (with_reducible first | exact HB.out | apply below_alloc | apply pw_below_drewN | apply below_drew1) | exact HB.out))) A37.out).mono ?_); rintro e w41 ⟨rfl, hb⟩; refine ⟨_, rfl, ?_⟩; have n0_ := Aside0.mk (Kd.R_below (by (with_reducible repeat (first | apply Kd.R_alloc | apply Kd.R_drewN | apply Kd.R_drew)); exact HO_57.out) hb); have n1_ := Aside0.mk (below_step (by repeat (first | (with_reducible first | exact HB.out | apply below_alloc | apply pw_below_drewN | apply below_drew1) | exact HB.out)) hb); clear HO_57; clear HB; have HO_57 := n0_; have HB := n1_; clear n0_ n1_; (try clear hb); (try clear hb2); (try clear hk); (try clear hi)))
                                          go_ret
                                          exact ⟨by first | rfl | (simp [errW_none, errW_some] <;> rfl) | (simp [*, errW_none, errW_some] <;> rfl) | (simp (disch := omega) only [wrap64_id] <;> rfl), by repeat (first | (with_reducible first | exact HB.out | apply below_alloc | apply pw_below_drewN | apply below_drew1) | exact HB.out)⟩
                                      · replace c38 := Bool.eq_false_iff.mpr c38
                                        subst c38
                                        have H1 : (some false) = some r := by rw [if_neg (show ¬ (false = true) by decide)] at H; exact H
                                        clear H
                                        have H := H1
                                        clear H1
                                        obtain rfl := Option.some.inj H
                                        have p150 : 0 ≤ (x59_4 : Int) := of_decide_eq_true (by first | (with_reducible assumption) | assumption)
                                        have q150 : x59_4 < (x8_24.length : Int) := of_decide_eq_true (by first | (with_reducible assumption) | assumption)
                                        obtain ⟨ad150, e150, hx150_0⟩ := Kd.at_string (Kd.R_reads' HO_57.out).2.2 x59_4 p150 q150
                                        cases e150
                                        replace p150 := eq_true p150
                                        replace q150 := eq_true q150
                                        go_wp2_with (first | ((with_reducible refine gate_callee (f := 7) rfl ?_); refine goesL_ (some 65) rfl rfl Tryd.func7 (by kernel_rfl) rfl #[.string (rdOf ByteArray.empty x8_24 x59_4)] rfl (by (try simp only [List.map_toArray, List.map_cons, List.map_nil]); first | done | rfl | (simp only [List.length_drop, List.length_take]; rfl)) ?_; (with_reducible refine (impl_VtBytes.calls (rdOf ByteArray.empty x8_24 x59_4) t151 false _ (Gv.up HGV.out (by repeat (first | (with_reducible first | exact HB.out | apply below_alloc | apply pw_below_drewN | apply below_drew1) | exact HB.out))) A37.out).mono ?_); rintro e w42 ⟨rfl, hb⟩; refine ⟨_, rfl, ?_⟩; have n0_ := Aside0.mk (Kd.R_below (by (with_reducible repeat (first | apply Kd.R_alloc | apply Kd.R_drewN | apply Kd.R_drew)); exact HO_57.out) hb); have n1_ := Aside0.mk (below_step (by repeat (first | (with_reducible first | exact HB.out | apply below_alloc | apply pw_below_drewN | apply below_drew1) | exact HB.out)) hb); clear HO_57; clear HB; have HO_57 := n0_; have HB := n1_; clear n0_ n1_; (try clear hb); (try clear hb2); (try clear hk); (try clear hi)))
                                        go_ret
                                        exact ⟨by first | rfl | (simp [errW_none, errW_some] <;> rfl) | (simp [*, errW_none, errW_some] <;> rfl) | (simp (disch := omega) only [wrap64_id] <;> rfl), by repeat (first | (with_reducible first | exact HB.out | apply below_alloc | apply pw_below_drewN | apply below_drew1) | exact HB.out)⟩
                                    · rw [if_neg c36] at H
                                      exact absurd H (by simp)
                                  · rw [if_neg c35] at H
                                    exact absurd H (by simp)
                                · rw [if_neg c34] at H
                                  have c34b0 : decide (x59_4 < (x8_24.length : Int)) = false := decide_eq_false c34
                                  clear c34
                                  replace H := Option.bind_eq_some_iff.mp H
                                  obtain ⟨t153, A430, H⟩ := H
                                  replace H : (if 4 + t153.size ≤ 9223372036854775807 then (if ((⟨#[98, 39, 92, 48]⟩ : ByteArray) ++ t153).size + 1 ≤ 9223372036854775807 then ((impl_VtBytes.f (((⟨#[98, 39, 92, 48]⟩ : ByteArray) ++ t153) ++ (⟨#[39]⟩ : ByteArray))).bind fun bt154 => (some (!bt154.2))) else (none)) else (none)) = some r := H
                                  have A43 := Aside0.mk A430
                                  clear A430
                                  by_cases c44 : 4 + t153.size ≤ 9223372036854775807
                                  · rw [if_pos c44] at H
                                    have c44b0 := eq_true c44
                                    have c44b1 : decide (4 + t153.size ≤ 9223372036854775807) = true := decide_eq_true c44
                                    try have c44b2 : (9223372036854775807 < 4 + t153.size) = False := eq_false (Nat.not_lt.2 c44)
                                    by_cases c45 : ((⟨#[98, 39, 92, 48]⟩ : ByteArray) ++ t153).size + 1 ≤ 9223372036854775807
                                    · rw [if_pos c45] at H
                                      have c45b0 := eq_true c45
                                      have c45b1 : decide (((⟨#[98, 39, 92, 48]⟩ : ByteArray) ++ t153).size + 1 ≤ 9223372036854775807) = true := decide_eq_true c45
                                      try have c45b2 : (9223372036854775807 < ((⟨#[98, 39, 92, 48]⟩ : ByteArray) ++ t153).size + 1) = False := eq_false (Nat.not_lt.2 c45)
                                      (try have c45e : 4 + t153.size + 1 ≤ 9223372036854775807 := by (have h_ := c45; simp only [ByteArray.size_append] at h_; exact h_))
                                      (try have c45e0 := eq_true c45e)
                                      (try have c45e1 : decide (4 + t153.size + 1 ≤ 9223372036854775807) = true := decide_eq_true c45e)
                                      (try have c45e2 : (9223372036854775807 < 4 + t153.size + 1) = False := eq_false (Nat.not_lt.2 c45e))
                                      replace H := Option.bind_eq_some_iff.mp H
                                      obtain ⟨⟨t154, t155⟩, A460, H⟩ := H
                                      replace H : (some (!t155)) = some r := H
                                      have A46 := Aside0.mk A460
                                      clear A460
                                      obtain rfl := Option.some.inj H
                                      go_wp2_with (first | ((with_reducible refine gate_callee (f := 8) rfl ?_); refine goesL_ (some 81) rfl rfl Tryd.func8 (by kernel_rfl) rfl #[.int .u64 (IntKind.u64.wrap (IntKind.u16.wrap (256 + (Int.tmod a1 256)))), .int .i64 8] rfl (by (try simp only [List.map_toArray, List.map_cons, List.map_nil]); first | done | rfl | (simp only [List.length_drop, List.length_take]; rfl)) ?_; (with_reducible refine (strconv_FormatUint_8.calls (IntKind.u64.wrap (IntKind.u16.wrap (256 + (Int.tmod a1 256)))) 8 t153 _ (Gt.up HTT.out (by repeat (first | (with_reducible first | exact HB.out | apply below_alloc | apply pw_below_drewN | apply below_drew1) | exact HB.out))) A43.out).mono ?_); rintro e w47 ⟨rfl, hb⟩; refine ⟨_, rfl, ?_⟩; have n0_ := Aside0.mk (Kd.R_below (by (with_reducible repeat (first | apply Kd.R_alloc | apply Kd.R_drewN | apply Kd.R_drew)); exact HO_57.out) hb); have n1_ := Aside0.mk (below_step (by repeat (first | (with_reducible first | exact HB.out | apply below_alloc | apply pw_below_drewN | apply below_drew1) | exact HB.out)) hb); clear HO_57; clear HB; have HO_57 := n0_; have HB := n1_; clear n0_ n1_; (try clear hb); (try clear hb2); (try clear hk); (try clear hi)) | ((with_reducible refine gate_callee (f := 7) rfl ?_); refine goesL_ (some 84) rfl rfl Tryd.func7 (by kernel_rfl) rfl #[.string (((⟨#[98, 39, 92, 48]⟩ : ByteArray) ++ t153) ++ (⟨#[39]⟩ : ByteArray))] rfl (by (try simp only [List.map_toArray, List.map_cons, List.map_nil]); first | done | rfl | (simp only [List.length_drop, List.length_take]; rfl)) ?_; (with_reducible refine (impl_VtBytes.calls (((⟨#[98, 39, 92, 48]⟩ : ByteArray) ++ t153) ++ (⟨#[39]⟩ : ByteArray)) t154 t155 _ (Gv.up HGV.out (by repeat (first | (with_reducible first | exact HB.out | apply below_alloc | apply pw_below_drewN | apply below_drew1) | exact HB.out))) A46.out).mono ?_); rintro e w48 ⟨rfl, hb⟩; refine ⟨_, rfl, ?_⟩; have n0_ := Aside0.mk (Kd.R_below (by (with_reducible repeat (first | apply Kd.R_alloc | apply Kd.R_drewN | apply Kd.R_drew)); exact HO_57.out) hb); have n1_ := Aside0.mk (below_step (by repeat (first | (with_reducible first | exact HB.out | apply below_alloc | apply pw_below_drewN | apply below_drew1) | exact HB.out)) hb); clear HO_57; clear HB; have HO_57 := n0_; have HB := n1_; clear n0_ n1_; (try clear hb); (try clear hb2); (try clear hk); (try clear hi)))
                                      go_ret
                                      exact ⟨by first | rfl | (simp [errW_none, errW_some] <;> rfl) | (simp [*, errW_none, errW_some] <;> rfl) | (simp (disch := omega) only [wrap64_id] <;> rfl), by repeat (first | (with_reducible first | exact HB.out | apply below_alloc | apply pw_below_drewN | apply below_drew1) | exact HB.out)⟩
                                    · rw [if_neg c45] at H
                                      exact absurd H (by simp)
                                  · rw [if_neg c44] at H
                                    exact absurd H (by simp)
                  · rw [if_neg c17] at H
                    exact absurd H (by simp)
                · rw [if_neg c16] at H
                  exact absurd H (by simp)
              · rw [if_neg c15] at H
                exact absurd H (by simp)
            · rw [if_neg c14] at H
              exact absurd H (by simp)
          · rw [if_neg c12] at H
            exact absurd H (by simp)
        · rw [if_neg c11] at H
          exact absurd H (by simp)

/-- THE ONE PURE STATEMENT of laws_FnVtBytesHex: yours. -/
def laws_FnVtBytesHex.Pure : Prop := ∀ (a0 : Int) (a1 : Int), (Lit.int .u8 a0).wf = true → (Lit.int .u16 a1).wf = true → ∃ k, laws_FnVtBytesHex.f k a0 a1 = some true
theorem laws_FnVtBytesHex.walk (P : laws_FnVtBytesHex.Pure) (a0 : Int) (a1 : Int) (w : World) (hG : Gv w) (hT : Gt w) (w0 : (Lit.int .u8 a0).wf = true) (w1 : (Lit.int .u16 a1).wf = true) :
    Calls Tryd.prog 4 #[.int .u8 a0, .int .u16 a1] w fun e w' => e = .returned (.bool true) ∧ Below w.heap.size w w' := by
  obtain ⟨k, h⟩ := P a0 a1 w0 w1
  refine (laws_FnVtBytesHex.calls k a0 a1 true w hG hT h).mono ?_
  rintro e w' ⟨rfl, hd⟩
  exact ⟨rfl, hd⟩

end Go.Proofs.YtngbhojjjkdofaaDoor.MFnVtBytesHex
