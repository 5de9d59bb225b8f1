-- Texts of this session, several in one.
import Derived.Test.YtboioihppjhjcaaDoorQB01
import Derived.Test.YtboioihppjhjcaaDoorQB03
import Derived.Laws.Externs
import Derived.Recover
import Derived.Shelf.Unicode.ValidAny
import Derived.Test.YtboioihppjhjcaaDoorProg
namespace Go.Proofs.YtboioihppjhjcaaDoor.MFnSgOf
open Go.RowKit Go.Proofs.YtboioihppjhjcaaDoorW.PrintWords Go.Proofs.YtboioihppjhjcaaDoorW.PrintLast Go.Proofs.YtboioihppjhjcaaDoorW.PrintMore
attribute [local go_sem] max2_int min2_int max_two min_two max_three min_three max_four min_four   -- for this text's walks alone
set_option linter.unusedVariables false
set_option linter.unusedSimpArgs false

-- NOT PRINTED: function 67 (dbus_doorOne)

/-! ### dbus_zzSigToType: function 68 -/
def dbus_zzSigToType.f (a0 : Int) : Option (ByteArray × Bool) := if a0 = 121 then (some ((⟨#[121]⟩ : ByteArray), true)) else (if a0 = 98 then (some ((⟨#[98]⟩ : ByteArray), true)) else (if a0 = 110 then (some ((⟨#[110]⟩ : ByteArray), true)) else (if a0 = 113 then (some ((⟨#[113]⟩ : ByteArray), true)) else (if a0 = 105 then (some ((⟨#[105]⟩ : ByteArray), true)) else (if a0 = 117 then (some ((⟨#[117]⟩ : ByteArray), true)) else (if a0 = 120 then (some ((⟨#[120]⟩ : ByteArray), true)) else (if a0 = 116 then (some ((⟨#[116]⟩ : ByteArray), true)) else (if a0 = 100 then (some ((⟨#[100]⟩ : ByteArray), true)) else (if a0 = 115 then (some ((⟨#[115]⟩ : ByteArray), true)) else (if a0 = 103 then (some ((⟨#[103]⟩ : ByteArray), true)) else (if a0 = 111 then (some ((⟨#[111]⟩ : ByteArray), true)) else (if a0 = 118 then (some ((⟨#[118]⟩ : ByteArray), true)) else (if a0 = 104 then (some ((⟨#[104]⟩ : ByteArray), true)) else (some ((⟨#[]⟩ : ByteArray), false)))))))))))))))
set_option maxHeartbeats 8000000 in
set_option maxRecDepth 100000 in
theorem dbus_zzSigToType.calls (a0 : Int) (r1 : ByteArray) (r2 : Bool) (w : World) (h : dbus_zzSigToType.f a0 = some (r1, r2)) :
  Calls Tryd.prog 68 #[.int .u8 a0] w fun e w' => e = .returned (.tuple #[.string r1, .bool r2]) ∧ Drawn0 w w' := by
 have H : (if a0 = 121 then (some ((⟨#[121]⟩ : ByteArray), true)) else (if a0 = 98 then (some ((⟨#[98]⟩ : ByteArray), true)) else (if a0 = 110 then (some ((⟨#[110]⟩ : ByteArray), true)) else (if a0 = 113 then (some ((⟨#[113]⟩ : ByteArray), true)) else (if a0 = 105 then (some ((⟨#[105]⟩ : ByteArray), true)) else (if a0 = 117 then (some ((⟨#[117]⟩ : ByteArray), true)) else (if a0 = 120 then (some ((⟨#[120]⟩ : ByteArray), true)) else (if a0 = 116 then (some ((⟨#[116]⟩ : ByteArray), true)) else (if a0 = 100 then (some ((⟨#[100]⟩ : ByteArray), true)) else (if a0 = 115 then (some ((⟨#[115]⟩ : ByteArray), true)) else (if a0 = 103 then (some ((⟨#[103]⟩ : ByteArray), true)) else (if a0 = 111 then (some ((⟨#[111]⟩ : ByteArray), true)) else (if a0 = 118 then (some ((⟨#[118]⟩ : ByteArray), true)) else (if a0 = 104 then (some ((⟨#[104]⟩ : ByteArray), true)) else (some ((⟨#[]⟩ : ByteArray), false)))))))))))))))) = some (r1, r2) := h
 clear h
 by_cases c2 : a0 = 121
 ·rw [if_pos c2] at H
  have c2b0 : (a0 == 121) = true := beq_iff_eq.mpr c2
  have c2b1 : (a0 != 121) = false := bne_eq_false_iff_eq.mpr c2
  clear c2
  simp only [Option.some.injEq, Prod.mk.injEq] at H
  obtain ⟨rfl, rfl⟩ := H
  go_enter Tryd.func68, Tryd.ntmps68
  go_wp2
  go_ret2
  exact ⟨by first | rfl | (simp; done) | (simp [*]; done), by repeat (first | exact Drawn0.refl _ | apply Drawn0.step)⟩
 ·rw [if_neg c2] at H
  have c2b0 : (a0 == 121) = false := beq_eq_false_iff_ne.mpr c2
  have c2b1 : (a0 != 121) = true := bne_iff_ne.mpr c2
  by_cases c3 : a0 = 98
  ·rw [if_pos c3] at H
   have c3b0 : (a0 == 98) = true := beq_iff_eq.mpr c3
   have c3b1 : (a0 != 98) = false := bne_eq_false_iff_eq.mpr c3
   clear c3
   simp only [Option.some.injEq, Prod.mk.injEq] at H
   obtain ⟨rfl, rfl⟩ := H
   go_enter Tryd.func68, Tryd.ntmps68
   go_wp2
   go_ret2
   exact ⟨by first | rfl | (simp; done) | (simp [*]; done), by repeat (first | exact Drawn0.refl _ | apply Drawn0.step)⟩
  ·rw [if_neg c3] at H
   have c3b0 : (a0 == 98) = false := beq_eq_false_iff_ne.mpr c3
   have c3b1 : (a0 != 98) = true := bne_iff_ne.mpr c3
   by_cases c4 : a0 = 110
   ·rw [if_pos c4] at H
    have c4b0 : (a0 == 110) = true := beq_iff_eq.mpr c4
    have c4b1 : (a0 != 110) = false := bne_eq_false_iff_eq.mpr c4
    clear c4
    simp only [Option.some.injEq, Prod.mk.injEq] at H
    obtain ⟨rfl, rfl⟩ := H
    go_enter Tryd.func68, Tryd.ntmps68
    go_wp2
    go_ret2
    exact ⟨by first | rfl | (simp; done) | (simp [*]; done), by repeat (first | exact Drawn0.refl _ | apply Drawn0.step)⟩
   ·rw [if_neg c4] at H
    have c4b0 : (a0 == 110) = false := beq_eq_false_iff_ne.mpr c4
    have c4b1 : (a0 != 110) = true := bne_iff_ne.mpr c4
    by_cases c5 : a0 = 113
    ·rw [if_pos c5] at H
     have c5b0 : (a0 == 113) = true := beq_iff_eq.mpr c5
     have c5b1 : (a0 != 113) = false := bne_eq_false_iff_eq.mpr c5
     clear c5
     simp only [Option.some.injEq, Prod.mk.injEq] at H
     obtain ⟨rfl, rfl⟩ := H
     go_enter Tryd.func68, Tryd.ntmps68
     go_wp2
     go_ret2
     exact ⟨by first | rfl | (simp; done) | (simp [*]; done), by repeat (first | exact Drawn0.refl _ | apply Drawn0.step)⟩
    ·rw [if_neg c5] at H
     have c5b0 : (a0 == 113) = false := beq_eq_false_iff_ne.mpr c5
     have c5b1 : (a0 != 113) = true := bne_iff_ne.mpr c5
     by_cases c6 : a0 = 105
     ·rw [if_pos c6] at H
      have c6b0 : (a0 == 105) = true := beq_iff_eq.mpr c6
      have c6b1 : (a0 != 105) = false := bne_eq_false_iff_eq.mpr c6
      clear c6
      simp only [Option.some.injEq, Prod.mk.injEq] at H
      obtain ⟨rfl, rfl⟩ := H
      go_enter Tryd.func68, Tryd.ntmps68
      go_wp2
      go_ret2
      exact ⟨by first | rfl | (simp; done) | (simp [*]; done), by repeat (first | exact Drawn0.refl _ | apply Drawn0.step)⟩
     ·rw [if_neg c6] at H
      have c6b0 : (a0 == 105) = false := beq_eq_false_iff_ne.mpr c6
      have c6b1 : (a0 != 105) = true := bne_iff_ne.mpr c6
      by_cases c7 : a0 = 117
      ·rw [if_pos c7] at H
       have c7b0 : (a0 == 117) = true := beq_iff_eq.mpr c7
       have c7b1 : (a0 != 117) = false := bne_eq_false_iff_eq.mpr c7
       clear c7
       simp only [Option.some.injEq, Prod.mk.injEq] at H
       obtain ⟨rfl, rfl⟩ := H
       go_enter Tryd.func68, Tryd.ntmps68
       go_wp2
       go_ret2
       exact ⟨by first | rfl | (simp; done) | (simp [*]; done), by repeat (first | exact Drawn0.refl _ | apply Drawn0.step)⟩
      ·rw [if_neg c7] at H
       have c7b0 : (a0 == 117) = false := beq_eq_false_iff_ne.mpr c7
       have c7b1 : (a0 != 117) = true := bne_iff_ne.mpr c7
       by_cases c8 : a0 = 120
       ·rw [if_pos c8] at H
        have c8b0 : (a0 == 120) = true := beq_iff_eq.mpr c8
        have c8b1 : (a0 != 120) = false := bne_eq_false_iff_eq.mpr c8
        clear c8
        simp only [Option.some.injEq, Prod.mk.injEq] at H
        obtain ⟨rfl, rfl⟩ := H
        go_enter Tryd.func68, Tryd.ntmps68
        go_wp2
        go_ret2
        exact ⟨by first | rfl | (simp; done) | (simp [*]; done), by repeat (first | exact Drawn0.refl _ | apply Drawn0.step)⟩
       ·rw [if_neg c8] at H
        have c8b0 : (a0 == 120) = false := beq_eq_false_iff_ne.mpr c8
        have c8b1 : (a0 != 120) = true := bne_iff_ne.mpr c8
        by_cases c9 : a0 = 116
        ·rw [if_pos c9] at H
         have c9b0 : (a0 == 116) = true := beq_iff_eq.mpr c9
         have c9b1 : (a0 != 116) = false := bne_eq_false_iff_eq.mpr c9
         clear c9
         simp only [Option.some.injEq, Prod.mk.injEq] at H
         obtain ⟨rfl, rfl⟩ := H
         go_enter Tryd.func68, Tryd.ntmps68
         go_wp2
         go_ret2
         exact ⟨by first | rfl | (simp; done) | (simp [*]; done), by repeat (first | exact Drawn0.refl _ | apply Drawn0.step)⟩
        ·rw [if_neg c9] at H
         have c9b0 : (a0 == 116) = false := beq_eq_false_iff_ne.mpr c9
         have c9b1 : (a0 != 116) = true := bne_iff_ne.mpr c9
         by_cases c10 : a0 = 100
         ·rw [if_pos c10] at H
          have c10b0 : (a0 == 100) = true := beq_iff_eq.mpr c10
          have c10b1 : (a0 != 100) = false := bne_eq_false_iff_eq.mpr c10
          clear c10
          simp only [Option.some.injEq, Prod.mk.injEq] at H
          obtain ⟨rfl, rfl⟩ := H
          go_enter Tryd.func68, Tryd.ntmps68
          go_wp2
          go_ret2
          exact ⟨by first | rfl | (simp; done) | (simp [*]; done), by repeat (first | exact Drawn0.refl _ | apply Drawn0.step)⟩
         ·rw [if_neg c10] at H
          have c10b0 : (a0 == 100) = false := beq_eq_false_iff_ne.mpr c10
          have c10b1 : (a0 != 100) = true := bne_iff_ne.mpr c10
          by_cases c11 : a0 = 115
          ·rw [if_pos c11] at H
           have c11b0 : (a0 == 115) = true := beq_iff_eq.mpr c11
           have c11b1 : (a0 != 115) = false := bne_eq_false_iff_eq.mpr c11
           clear c11
           simp only [Option.some.injEq, Prod.mk.injEq] at H
           obtain ⟨rfl, rfl⟩ := H
           go_enter Tryd.func68, Tryd.ntmps68
           go_wp2
           go_ret2
           exact ⟨by first | rfl | (simp; done) | (simp [*]; done), by repeat (first | exact Drawn0.refl _ | apply Drawn0.step)⟩
          ·rw [if_neg c11] at H
           have c11b0 : (a0 == 115) = false := beq_eq_false_iff_ne.mpr c11
           have c11b1 : (a0 != 115) = true := bne_iff_ne.mpr c11
           by_cases c12 : a0 = 103
           ·rw [if_pos c12] at H
            have c12b0 : (a0 == 103) = true := beq_iff_eq.mpr c12
            have c12b1 : (a0 != 103) = false := bne_eq_false_iff_eq.mpr c12
            clear c12
            simp only [Option.some.injEq, Prod.mk.injEq] at H
            obtain ⟨rfl, rfl⟩ := H
            go_enter Tryd.func68, Tryd.ntmps68
            go_wp2
            go_ret2
            exact ⟨by first | rfl | (simp; done) | (simp [*]; done), by repeat (first | exact Drawn0.refl _ | apply Drawn0.step)⟩
           ·rw [if_neg c12] at H
            have c12b0 : (a0 == 103) = false := beq_eq_false_iff_ne.mpr c12
            have c12b1 : (a0 != 103) = true := bne_iff_ne.mpr c12
            by_cases c13 : a0 = 111
            ·rw [if_pos c13] at H
             have c13b0 : (a0 == 111) = true := beq_iff_eq.mpr c13
             have c13b1 : (a0 != 111) = false := bne_eq_false_iff_eq.mpr c13
             clear c13
             simp only [Option.some.injEq, Prod.mk.injEq] at H
             obtain ⟨rfl, rfl⟩ := H
             go_enter Tryd.func68, Tryd.ntmps68
             go_wp2
             go_ret2
             exact ⟨by first | rfl | (simp; done) | (simp [*]; done), by repeat (first | exact Drawn0.refl _ | apply Drawn0.step)⟩
            ·rw [if_neg c13] at H
             have c13b0 : (a0 == 111) = false := beq_eq_false_iff_ne.mpr c13
             have c13b1 : (a0 != 111) = true := bne_iff_ne.mpr c13
             by_cases c14 : a0 = 118
             ·rw [if_pos c14] at H
              have c14b0 : (a0 == 118) = true := beq_iff_eq.mpr c14
              have c14b1 : (a0 != 118) = false := bne_eq_false_iff_eq.mpr c14
              clear c14
              simp only [Option.some.injEq, Prod.mk.injEq] at H
              obtain ⟨rfl, rfl⟩ := H
              go_enter Tryd.func68, Tryd.ntmps68
              go_wp2
              go_ret2
              exact ⟨by first | rfl | (simp; done) | (simp [*]; done), by repeat (first | exact Drawn0.refl _ | apply Drawn0.step)⟩
             ·rw [if_neg c14] at H
              have c14b0 : (a0 == 118) = false := beq_eq_false_iff_ne.mpr c14
              have c14b1 : (a0 != 118) = true := bne_iff_ne.mpr c14
              by_cases c15 : a0 = 104
              ·rw [if_pos c15] at H
               have c15b0 : (a0 == 104) = true := beq_iff_eq.mpr c15
               have c15b1 : (a0 != 104) = false := bne_eq_false_iff_eq.mpr c15
               clear c15
               simp only [Option.some.injEq, Prod.mk.injEq] at H
               obtain ⟨rfl, rfl⟩ := H
               go_enter Tryd.func68, Tryd.ntmps68
               go_wp2
               go_ret2
               exact ⟨by first | rfl | (simp; done) | (simp [*]; done), by repeat (first | exact Drawn0.refl _ | apply Drawn0.step)⟩
              ·rw [if_neg c15] at H
               have c15b0 : (a0 == 104) = false := beq_eq_false_iff_ne.mpr c15
               have c15b1 : (a0 != 104) = true := bne_iff_ne.mpr c15
               simp only [Option.some.injEq, Prod.mk.injEq] at H
               obtain ⟨rfl, rfl⟩ := H
               go_enter Tryd.func68, Tryd.ntmps68
               go_wp2
               go_ret2
               exact ⟨by first | rfl | (simp; done) | (simp [*]; done), by repeat (first | exact Drawn0.refl _ | apply Drawn0.step)⟩

-- NOT PRINTED: function 59 (dbus_doorType)

-- NOT PRINTED: function 60 (dbus_zzValue_SetMapIndex)

-- NOT PRINTED: function 61 (dbus_zzValueOf)

-- NOT PRINTED: function 62 (dbus_zzValue_Interface)

-- NOT PRINTED: function 37 (dbus_doorIn)

-- NOT PRINTED: function 26 (dbus_doorsIn)

-- NOT PRINTED: function 15 (dbus_DoorSigOf)

/-! ### impl_valIn: function 27 -/
mutual
def impl_valIn.l0 : Nat → List (S31) → Int → Int → Int → Int → ByteArray → List (S53) → Option (Int × Int × ByteArray × (List (S53)))
 | 0, _, _, _, _, _, _, _ => none
 | k + 1, x14, x15, x16, x195000, x195001, x195002, x195003 => if x16 < x15 then (if 0 ≤ x16 then (if x16 < (x14.length : Int) then ((impl_valIn.f k ((rd_T31 x14 x16).f0) ((rd_T31 x14 x16).f1) ((rd_T31 x14 x16).f2) ((rd_T31 x14 x16).f3)).bind fun bt197 => (if x195003.length < 2513169434916 then (impl_valIn.l0 k x14 x15 (wrap64 (x16 + 1)) x195000 x195001 x195002 (x195003 ++ [(⟨bt197.1, bt197.2.1, bt197.2.2.1, bt197.2.2.2⟩ : S53)])) else (none))) else (none)) else (none)) else (some (x195000, x195001, x195002, x195003))
def impl_valIn.f : Nat → Int → Int → ByteArray → List (S31) → Option (Int × Int × ByteArray × (List (S53)))
 | 0, _, _, _, _ => none
 | k + 1, a0_0, a0_1, a0_2, l0_3 => impl_valIn.l0 k l0_3 (l0_3.length : Int) 0 a0_0 a0_1 a0_2 ([] : List (S53))
end
def impl_valIn.T5 : Bool × List (List Nat × List Nat) := (true, [([], []), ([0], [0]), ([], []), ([2], [2]), ([3], [3]), ([1, 4, 3], [1, 4]), ([0, 1, 2, 3, 4, 5], []), ([6, 5, 5, 0, 1, 2, 3, 4, 5], [5, 6])])
def impl_valIn.B5 : List Nat := [0, 1, 0, 4, 12, 31, 63, 127]
theorem impl_valIn.tab5 : rtab .any (opsOf Tryd.f27 5) = impl_valIn.T5 := by kernel_rfl
theorem impl_valIn.bits5 : waitsOk impl_valIn.T5.2 impl_valIn.B5 = true := by kernel_rfl
set_option maxHeartbeats 8000000 in
set_option maxRecDepth 100000 in
theorem impl_valIn.calls (k : Nat) : ∀ (a0_0 : Int) (a0_1 : Int) (a0_2 : ByteArray) (A0_3 : Option Addr) (c0_3 : Nat) (l0_3 : List (S31)) (r1 : Int) (r2 : Int) (r3 : ByteArray) (r4 : List (S53)) (w : World) (hr0_3 : Kd.C k31 w A0_3 l0_3.length l0_3) (hc0_3 : l0_3.length ≤ c0_3) (h : impl_valIn.f k a0_0 a0_1 a0_2 l0_3 = some (r1, r2, r3, r4)),
  Calls Tryd.prog 27 #[.agg #[.int .u8 a0_0, .int .u64 a0_1, .string a0_2, .slice A0_3 l0_3.length c0_3]] w fun e w' => ∃ v3_ : Value, e = .returned (.agg #[.int .u8 r1, .int .u64 r2, .string r3, v3_]) ∧ Kd.R k53 53 w' w.heap.size (fun _ => True) v3_ r4 ∧ Below w.heap.size w w' := by
 induction k using Nat.strongRecOn with
 | _ k ih =>
 intro a0_0 a0_1 a0_2 A0_3 c0_3 l0_3 r1 r2 r3 r4 w hr0_3 hc0_3 h
 cases k with
 | zero => exact absurd h (by simp [impl_valIn.f])
 | succ k =>
 simp only [impl_valIn.f] at h
 have hu31 := Tryd.underlying31
 have hu53 := Tryd.underlying53
 have HR0_3 := Aside0.mk hr0_3
 have HC0_3 := Aside0.mk hc0_3
 clear hr0_3 hc0_3
 have HB := Aside0.mk (Below.refl w.heap.size w)
 have H : (impl_valIn.l0 k l0_3 (l0_3.length : Int) 0 a0_0 a0_1 a0_2 ([] : List (S53))) = some (r1, r2, r3, r4) := h
 clear h
 have H' := Aside0.mk H
 clear H
 go_enter Tryd.func27, Tryd.ntmps27
 go_wp2_with (first | ((with_reducible refine gate_dst (N := 1) rfl ?_); refine box_event ?hg (N := 1) ?hd (cs := #[.int .u8 a0_0, .int .u64 a0_1, .string a0_2, .slice A0_3 l0_3.length c0_3]) (t := 31) ?hr ?_; (case hd => rfl); (case hg => rfl); (case hr => first | (go_simp; done) | (go_simp; rfl)); intro gb192 hg w2 hbox hb; have n0_ := Aside0.mk (below_step (by repeat (first | (with_reducible first | exact HB.out | apply below_alloc | apply pw_below_drewN | apply below_drew1) | exact HB.out)) hb); have n1_ := Aside0.mk (hbox); have n2_ := Aside0.mk ((by rw [hg]; exact (below_size (by repeat (first | (with_reducible first | exact HB.out | apply below_alloc | apply pw_below_drewN | apply below_drew1) | exact HB.out))) : w.heap.size ≤ gb192)); have n3_ := Aside0.mk ((by rw [hg]; exact (below_size (by repeat (first | (with_reducible first | exact HB.out | apply below_alloc | apply pw_below_drewN | apply below_drew1) | exact HB.out))) : w.heap.size ≤ gb192)); clear HB; have HB := n0_; have BK192 := n1_; have GW192 := n2_; have GE192 := n3_; clear n0_ n1_ n2_ n3_; clear hb hbox hg) | ((with_reducible refine gate_dst (N := 2) rfl ?_); refine box_event ?hg (N := 2) ?hd (cs := #[.int .u8 0, .int .u64 0, .string (⟨#[]⟩ : ByteArray), .slice none 0 0]) (t := 53) ?hr ?_; (case hd => rfl); (case hg => rfl); (case hr => first | (go_simp; done) | (go_simp; rfl)); intro gb193 hg w3 hbox hb; have n0_ := Aside0.mk (blk_below (g := gb192) (o := .cells #[.int .u8 a0_0, .int .u64 a0_1, .string a0_2, .slice A0_3 l0_3.length c0_3] 31 (0, 0)) (by (with_reducible repeat (first | refine blk_drewN ?_ _ | refine blk_drew ?_ | refine blk_alloc ?_ _)); exact BK192.out) hb); have n1_ := Aside0.mk (below_step (by repeat (first | (with_reducible first | exact HB.out | apply below_alloc | apply pw_below_drewN | apply below_drew1 | refine below_set ?_ GE192.out) | exact HB.out)) hb); have n2_ := Aside0.mk (hbox); have n3_ := Aside0.mk ((by rw [hg]; exact (below_size (by repeat (first | (with_reducible first | exact HB.out | apply below_alloc | apply pw_below_drewN | apply below_drew1 | refine below_set ?_ GE192.out) | exact HB.out))) : w.heap.size ≤ gb193)); have n4_ := Aside0.mk ((by rw [hg]; exact (below_size (by repeat (first | (with_reducible first | exact HB.out | apply below_alloc | apply pw_below_drewN | apply below_drew1 | refine below_set ?_ GE192.out) | exact HB.out))) : w.heap.size ≤ gb193)); have n5_ := Aside0.mk ((by rw [hg]; exact Nat.ne_of_lt (blk_lt (g := gb192) (o := .cells #[.int .u8 a0_0, .int .u64 a0_1, .string a0_2, .slice A0_3 l0_3.length c0_3] 31 (0, 0)) (by (with_reducible repeat (first | refine blk_drewN ?_ _ | refine blk_drew ?_ | refine blk_alloc ?_ _)); exact BK192.out)) : gb192 ≠ gb193)); have n6_ := Aside0.mk ((by rw [hg]; exact Nat.ne_of_gt (blk_lt (g := gb192) (o := .cells #[.int .u8 a0_0, .int .u64 a0_1, .string a0_2, .slice A0_3 l0_3.length c0_3] 31 (0, 0)) (by (with_reducible repeat (first | refine blk_drewN ?_ _ | refine blk_drew ?_ | refine blk_alloc ?_ _)); exact BK192.out)) : gb193 ≠ gb192)); clear BK192; clear HB; have BK192 := n0_; have HB := n1_; have BK193 := n2_; have GW193 := n3_; have GE193 := n4_; have NB192_193 := n5_; have NB193_192 := n6_; clear n0_ n1_ n2_ n3_ n4_ n5_ n6_; clear hb hbox hg; have hnb4 := NB192_193.out; have hnc4 := NB193_192.out; have hcz5_0 : w3.cell? ⟨gb192, 0, none⟩ = some (.int .u8 a0_0) := (blk_cell BK192.out 0).trans rfl; have hcz5_1 : w3.cell? ⟨gb192, 1, none⟩ = some (.int .u64 a0_1) := (blk_cell BK192.out 1).trans rfl; have hcz5_2 : w3.cell? ⟨gb192, 2, none⟩ = some (.string a0_2) := (blk_cell BK192.out 2).trans rfl; have hcz5_3 : w3.cell? ⟨gb192, 3, none⟩ = some (.slice A0_3 l0_3.length c0_3) := (blk_cell BK192.out 3).trans rfl; have hfz5_0 := blk_frozen BK192.out 0; have hfz5_1 := blk_frozen BK192.out 1; have hfz5_2 := blk_frozen BK192.out 2; have hfz5_3 := blk_frozen BK192.out 3) | ((with_reducible refine gate_dst (N := 3) rfl ?_); refine box_event ?hg (N := 3) ?hd (cs := #[.int .u8 0, .int .u64 0, .string (⟨#[]⟩ : ByteArray), .slice none 0 0]) (t := 53) ?hr ?_; (case hd => rfl); (case hg => rfl); (case hr => first | (go_simp; done) | (go_simp; rfl)); intro gb194 hg w6 hbox hb; have n0_ := Aside0.mk (blk_below (g := gb192) (o := .cells #[.int .u8 a0_0, .int .u64 a0_1, .string a0_2, .slice A0_3 l0_3.length c0_3] 31 (0, 0)) (by (with_reducible repeat (first | refine blk_drewN ?_ _ | refine blk_drew ?_ | refine blk_alloc ?_ _)); exact BK192.out) hb); have n1_ := Aside0.mk (blk_below (g := gb193) (o := .cells #[.int .u8 0, .int .u64 0, .string (⟨#[]⟩ : ByteArray), .slice none 0 0] 53 (0, 0)) (by (with_reducible repeat (first | refine blk_drewN ?_ _ | refine blk_drew ?_ | refine blk_alloc ?_ _)); exact BK193.out) hb); have n2_ := Aside0.mk (below_step (by repeat (first | (with_reducible first | exact HB.out | apply below_alloc | apply pw_below_drewN | apply below_drew1 | refine below_set ?_ GE192.out | refine below_set ?_ GE193.out) | exact HB.out)) hb); have n3_ := Aside0.mk (hbox); have n4_ := Aside0.mk ((by rw [hg]; exact (below_size (by repeat (first | (with_reducible first | exact HB.out | apply below_alloc | apply pw_below_drewN | apply below_drew1 | refine below_set ?_ GE192.out | refine below_set ?_ GE193.out) | exact HB.out))) : w.heap.size ≤ gb194)); have n5_ := Aside0.mk ((by rw [hg]; exact (below_size (by repeat (first | (with_reducible first | exact HB.out | apply below_alloc | apply pw_below_drewN | apply below_drew1 | refine below_set ?_ GE192.out | refine below_set ?_ GE193.out) | exact HB.out))) : w.heap.size ≤ gb194)); have n6_ := Aside0.mk ((by rw [hg]; exact Nat.ne_of_lt (blk_lt (g := gb192) (o := .cells #[.int .u8 a0_0, .int .u64 a0_1, .string a0_2, .slice A0_3 l0_3.length c0_3] 31 (0, 0)) (by (with_reducible repeat (first | refine blk_drewN ?_ _ | refine blk_drew ?_ | refine blk_alloc ?_ _)); exact BK192.out)) : gb192 ≠ gb194)); have n7_ := Aside0.mk ((by rw [hg]; exact Nat.ne_of_gt (blk_lt (g := gb192) (o := .cells #[.int .u8 a0_0, .int .u64 a0_1, .string a0_2, .slice A0_3 l0_3.length c0_3] 31 (0, 0)) (by (with_reducible repeat (first | refine blk_drewN ?_ _ | refine blk_drew ?_ | refine blk_alloc ?_ _)); exact BK192.out)) : gb194 ≠ gb192)); have n8_ := Aside0.mk ((by rw [hg]; exact Nat.ne_of_lt (blk_lt (g := gb193) (o := .cells #[.int .u8 0, .int .u64 0, .string (⟨#[]⟩ : ByteArray), .slice none 0 0] 53 (0, 0)) (by (with_reducible repeat (first | refine blk_drewN ?_ _ | refine blk_drew ?_ | refine blk_alloc ?_ _)); exact BK193.out)) : gb193 ≠ gb194)); have n9_ := Aside0.mk ((by rw [hg]; exact Nat.ne_of_gt (blk_lt (g := gb193) (o := .cells #[.int .u8 0, .int .u64 0, .string (⟨#[]⟩ : ByteArray), .slice none 0 0] 53 (0, 0)) (by (with_reducible repeat (first | refine blk_drewN ?_ _ | refine blk_drew ?_ | refine blk_alloc ?_ _)); exact BK193.out)) : gb194 ≠ gb193)); clear BK192; clear BK193; clear HB; have BK192 := n0_; have BK193 := n1_; have HB := n2_; have BK194 := n3_; have GW194 := n4_; have GE194 := n5_; have NB192_194 := n6_; have NB194_192 := n7_; have NB193_194 := n8_; have NB194_193 := n9_; clear n0_ n1_ n2_ n3_ n4_ n5_ n6_ n7_ n8_ n9_; clear hb hbox hg; have hnb7 := NB194_192.out; have hnc7 := NB192_194.out; have hnb8 := NB194_193.out; have hnc8 := NB193_194.out; have hcz9_0 : w6.cell? ⟨gb194, 0, none⟩ = some (.int .u8 0) := (blk_cell BK194.out 0).trans rfl; have hcz9_1 : w6.cell? ⟨gb194, 1, none⟩ = some (.int .u64 0) := (blk_cell BK194.out 1).trans rfl; have hcz9_2 : w6.cell? ⟨gb194, 2, none⟩ = some (.string (⟨#[]⟩ : ByteArray)) := (blk_cell BK194.out 2).trans rfl; have hcz9_3 : w6.cell? ⟨gb194, 3, none⟩ = some (.slice none 0 0) := (blk_cell BK194.out 3).trans rfl; have hfz9_0 := blk_frozen BK194.out 0; have hfz9_1 := blk_frozen BK194.out 1; have hfz9_2 := blk_frozen BK194.out 2; have hfz9_3 := blk_frozen BK194.out 3; have hcz10_0 : w6.cell? ⟨gb192, 0, none⟩ = some (.int .u8 a0_0) := (blk_cell BK192.out 0).trans rfl; have hcz10_1 : w6.cell? ⟨gb192, 1, none⟩ = some (.int .u64 a0_1) := (blk_cell BK192.out 1).trans rfl; have hcz10_2 : w6.cell? ⟨gb192, 2, none⟩ = some (.string a0_2) := (blk_cell BK192.out 2).trans rfl; have hcz10_3 : w6.cell? ⟨gb192, 3, none⟩ = some (.slice A0_3 l0_3.length c0_3) := (blk_cell BK192.out 3).trans rfl; have hfz10_0 := blk_frozen BK192.out 0; have hfz10_1 := blk_frozen BK192.out 1; have hfz10_2 := blk_frozen BK192.out 2; have hfz10_3 := blk_frozen BK192.out 3))
 go_loopg [16] k (fun kq v16 w' => ∃ (x16_1 : Int) (x195003_1 : List (S53)) (u195003 : Value), v16 = .int .i64 x16_1 ∧ Aside0 (impl_valIn.l0 kq l0_3 (l0_3.length : Int) x16_1 a0_0 a0_1 a0_2 x195003_1 = some (r1, r2, r3, r4)) ∧ Aside0 (kq ≤ k) ∧ Aside0 (Kd.R k53 53 w' w.heap.size (fun k_ => k_ ≠ gb193 ∧ k_ ≠ gb194) u195003 x195003_1) ∧ Aside0 (w'.heap[gb192]? = some (.cells #[.int .u8 a0_0, .int .u64 a0_1, .string a0_2, (.slice A0_3 l0_3.length c0_3)] 31 (0, 0))) ∧ Aside0 (w'.heap[gb193]? = some (.cells #[.int .u8 0, .int .u64 0, .string (⟨#[]⟩ : ByteArray), (.slice none 0 0)] 53 (0, 0))) ∧ Aside0 (w'.heap[gb194]? = some (.cells #[.int .u8 a0_0, .int .u64 a0_1, .string a0_2, u195003] 53 (0, 0))) ∧ Aside0 (Below w.heap.size w w'))
 case atStart => exact ⟨(0), (([] : List (S53))), (.slice none 0 0), (by first | rfl | (simp; done) | (simp [*]; done)), H', ⟨Nat.le_refl _⟩, ⟨by first | exact Kd.R_nil _ _ _ _ _ | exact Kd.N_nil _ _ _ _ _ | exact Kd.V_nil _ _ _ _ _ | exact Kd.Q_nil _ _ _ _ _ | exact Kd.S_nil _ _ _ _ _⟩, ⟨by (with_reducible repeat (first | refine blk_drewN ?_ _ | refine blk_drew ?_ | refine blk_alloc ?_ _)); refine blk_far ?_ NB192_194.out _; (with_reducible repeat (first | refine blk_drewN ?_ _ | refine blk_drew ?_ | refine blk_alloc ?_ _)); refine blk_far ?_ NB192_194.out _; (with_reducible repeat (first | refine blk_drewN ?_ _ | refine blk_drew ?_ | refine blk_alloc ?_ _)); refine blk_far ?_ NB192_194.out _; (with_reducible repeat (first | refine blk_drewN ?_ _ | refine blk_drew ?_ | refine blk_alloc ?_ _)); refine blk_far ?_ NB192_194.out _; (with_reducible repeat (first | refine blk_drewN ?_ _ | refine blk_drew ?_ | refine blk_alloc ?_ _)); exact BK192.out⟩, ⟨by (with_reducible repeat (first | refine blk_drewN ?_ _ | refine blk_drew ?_ | refine blk_alloc ?_ _)); refine blk_far ?_ NB193_194.out _; (with_reducible repeat (first | refine blk_drewN ?_ _ | refine blk_drew ?_ | refine blk_alloc ?_ _)); refine blk_far ?_ NB193_194.out _; (with_reducible repeat (first | refine blk_drewN ?_ _ | refine blk_drew ?_ | refine blk_alloc ?_ _)); refine blk_far ?_ NB193_194.out _; (with_reducible repeat (first | refine blk_drewN ?_ _ | refine blk_drew ?_ | refine blk_alloc ?_ _)); refine blk_far ?_ NB193_194.out _; (with_reducible repeat (first | refine blk_drewN ?_ _ | refine blk_drew ?_ | refine blk_alloc ?_ _)); exact BK193.out⟩, ⟨by (with_reducible repeat (first | refine blk_drewN ?_ _ | refine blk_drew ?_ | refine blk_alloc ?_ _)); refine blk_put (cs := #[.int .u8 a0_0, .int .u64 a0_1, .string a0_2, .slice none 0 0]) ?_ 3 _ rfl; (with_reducible repeat (first | refine blk_drewN ?_ _ | refine blk_drew ?_ | refine blk_alloc ?_ _)); refine blk_put (cs := #[.int .u8 a0_0, .int .u64 a0_1, .string (⟨#[]⟩ : ByteArray), .slice none 0 0]) ?_ 2 _ rfl; (with_reducible repeat (first | refine blk_drewN ?_ _ | refine blk_drew ?_ | refine blk_alloc ?_ _)); refine blk_put (cs := #[.int .u8 a0_0, .int .u64 0, .string (⟨#[]⟩ : ByteArray), .slice none 0 0]) ?_ 1 _ rfl; (with_reducible repeat (first | refine blk_drewN ?_ _ | refine blk_drew ?_ | refine blk_alloc ?_ _)); refine blk_put (cs := #[.int .u8 0, .int .u64 0, .string (⟨#[]⟩ : ByteArray), .slice none 0 0]) ?_ 0 _ rfl; (with_reducible repeat (first | refine blk_drewN ?_ _ | refine blk_drew ?_ | refine blk_alloc ?_ _)); exact BK194.out⟩, ⟨by repeat (first | (with_reducible first | exact HB.out | apply below_alloc | apply pw_below_drewN | apply below_drew1 | refine below_set ?_ GE192.out | refine below_set ?_ GE193.out | refine below_set ?_ GE194.out) | exact HB.out)⟩⟩
 case round =>
  clear H'
  try clear c2
  try clear p2
  try clear c4
  try clear c7
  try clear c8
  try clear hcz10_0
  try clear hcz10_1
  try clear hcz10_2
  try clear hcz10_3
  try clear hcz5_0
  try clear hcz5_1
  try clear hcz5_2
  try clear hcz5_3
  try clear hcz9_0
  try clear hcz9_1
  try clear hcz9_2
  try clear hcz9_3
  try clear hfz10_0
  try clear hfz10_1
  try clear hfz10_2
  try clear hfz10_3
  try clear hfz5_0
  try clear hfz5_1
  try clear hfz5_2
  try clear hfz5_3
  try clear hfz9_0
  try clear hfz9_1
  try clear hfz9_2
  try clear hfz9_3
  obtain ⟨x16_1, x195003_1, u195003, rfl, HA, HK1, HO_195003, BK192, BK193, BK194, HB⟩ := hrel
  cases gk with
  | zero => exact absurd HA.out (by simp [impl_valIn.l0])
  | succ k1 =>
   have H := HA.out
   clear HA
   simp only [impl_valIn.l0] at H
   by_cases c11 : x16_1 < (l0_3.length : Int)
   ·rw [if_pos c11] at H
    have c11b0 : decide (x16_1 < (l0_3.length : Int)) = true := decide_eq_true c11
    clear c11
    by_cases c12 : 0 ≤ x16_1
    ·rw [if_pos c12] at H
     have c12b0 : decide (0 ≤ x16_1) = true := decide_eq_true c12
     clear c12
     by_cases c13 : x16_1 < (l0_3.length : Int)
     ·rw [if_pos c13] at H
      have c13b0 : decide (x16_1 < (l0_3.length : Int)) = true := decide_eq_true c13
      clear c13
      replace H := Option.bind_eq_some_iff.mp H
      obtain ⟨⟨t197, t198, t199, t200⟩, A140, H⟩ := H
      replace H : (if x195003_1.length < 2513169434916 then (impl_valIn.l0 k1 l0_3 (l0_3.length : Int) (wrap64 (x16_1 + 1)) a0_0 a0_1 a0_2 (x195003_1 ++ [(⟨t197, t198, t199, t200⟩ : S53)])) else (none)) = some (r1, r2, r3, r4) := H
      have A14 := Aside0.mk A140
      clear A140
      by_cases c15 : x195003_1.length < 2513169434916
      ·rw [if_pos c15] at H
       have LMc15 := Aside0.mk c15
       clear c15
       obtain ⟨y203, hy203⟩ : ∃ y_ : List (S53), y_ = (x195003_1 ++ [(⟨t197, t198, t199, t200⟩ : S53)]) := ⟨_, rfl⟩
       replace H : (impl_valIn.l0 k1 l0_3 (l0_3.length : Int) (wrap64 (x16_1 + 1)) a0_0 a0_1 a0_2 y203) = some (r1, r2, r3, r4) := by first | (rw [hy203]; with_reducible exact H) | (have H2_ := (Option.bind_some _ _).symm.trans H; rw [hy203]; with_reducible exact H2_) | (have H2_ := (Option.bind_some _ _).symm.trans H; with_reducible exact H2_) | with_reducible exact H | (rw [hy203]; exact H) | exact H
       have Ny203 := Aside0.mk hy203
       clear hy203
       have H' := Aside0.mk H
       clear H
       have p195 : 0 ≤ (x16_1 : Int) := of_decide_eq_true (by first | (with_reducible assumption) | assumption)
       have q195 : x16_1 < (l0_3.length : Int) := of_decide_eq_true (by first | (with_reducible assumption) | assumption)
       obtain ⟨ad195, A195_3, c195_3, e195, hx195_0, hx195_1, hx195_2, hx195_3, hl195_3, hi195_3⟩ := at_T31 HR0_3.out x16_1 p195 q195
       cases e195
       replace hx195_0 := (HB.out.cell (World.block_lt_of_cell? w _ hx195_0)).trans hx195_0
       replace hx195_1 := (HB.out.cell (World.block_lt_of_cell? w _ hx195_1)).trans hx195_1
       replace hx195_2 := (HB.out.cell (World.block_lt_of_cell? w _ hx195_2)).trans hx195_2
       replace hx195_3 := (HB.out.cell (World.block_lt_of_cell? w _ hx195_3)).trans hx195_3
       have HR195_3 := Aside0.mk hi195_3
       have HC195_3 := Aside0.mk hl195_3
       clear hi195_3 hl195_3
       replace p195 := eq_true p195
       replace q195 := eq_true q195
       try go_wp2_with (first | ((with_reducible refine gate_dst (N := 5) rfl ?_); refine box_event ?hg (N := 5) ?hd (cs := #[.int .u8 0, .int .u64 0, .string (⟨#[]⟩ : ByteArray), .slice none 0 0]) (t := 31) ?hr ?_; (case hd => rfl); (case hg => rfl); (case hr => first | (go_simp; done) | (go_simp; rfl)); intro gb196 hg w16 hbox hb; have n0_ := Aside0.mk (Kd.R_below (by (with_reducible repeat (first | apply Kd.R_alloc | apply Kd.R_drewN | apply Kd.R_drew)); exact HO_195003.out) hb); have n1_ := Aside0.mk (blk_below (g := gb192) (o := .cells #[.int .u8 a0_0, .int .u64 a0_1, .string a0_2, .slice (some ad195) l0_3.length c0_3] 31 (0, 0)) (by (with_reducible repeat (first | refine blk_drewN ?_ _ | refine blk_drew ?_ | refine blk_alloc ?_ _)); exact BK192.out) hb); have n2_ := Aside0.mk (blk_below (g := gb193) (o := .cells #[.int .u8 0, .int .u64 0, .string (⟨#[]⟩ : ByteArray), .slice none 0 0] 53 (0, 0)) (by (with_reducible repeat (first | refine blk_drewN ?_ _ | refine blk_drew ?_ | refine blk_alloc ?_ _)); exact BK193.out) hb); have n3_ := Aside0.mk (blk_below (g := gb194) (o := .cells #[.int .u8 a0_0, .int .u64 a0_1, .string a0_2, u195003] 53 (0, 0)) (by (with_reducible repeat (first | refine blk_drewN ?_ _ | refine blk_drew ?_ | refine blk_alloc ?_ _)); exact BK194.out) hb); have n4_ := Aside0.mk (below_step (by repeat (first | (with_reducible first | exact HB.out | apply below_alloc | apply pw_below_drewN | apply below_drew1 | refine below_set ?_ GE192.out | refine below_set ?_ GE193.out | refine below_set ?_ GE194.out) | exact HB.out)) hb); have n5_ := Aside0.mk (hbox); have n6_ := Aside0.mk ((by rw [hg]; exact (below_size (by repeat (first | (with_reducible first | exact HB.out | apply below_alloc | apply pw_below_drewN | apply below_drew1 | refine below_set ?_ GE192.out | refine below_set ?_ GE193.out | refine below_set ?_ GE194.out) | exact HB.out))) : w.heap.size ≤ gb196)); have n7_ := Aside0.mk ((by rw [hg]; exact (below_size (by repeat (first | (with_reducible first | exact HB.out | apply below_alloc | apply pw_below_drewN | apply below_drew1 | refine below_set ?_ GE192.out | refine below_set ?_ GE193.out | refine below_set ?_ GE194.out) | exact HB.out))) : w.heap.size ≤ gb196)); have n8_ := Aside0.mk ((by rw [hg]; exact Nat.ne_of_lt (blk_lt (g := gb192) (o := .cells #[.int .u8 a0_0, .int .u64 a0_1, .string a0_2, .slice (some ad195) l0_3.length c0_3] 31 (0, 0)) (by (with_reducible repeat (first | refine blk_drewN ?_ _ | refine blk_drew ?_ | refine blk_alloc ?_ _)); exact BK192.out)) : gb192 ≠ gb196)); have n9_ := Aside0.mk ((by rw [hg]; exact Nat.ne_of_gt (blk_lt (g := gb192) (o := .cells #[.int .u8 a0_0, .int .u64 a0_1, .string a0_2, .slice (some ad195) l0_3.length c0_3] 31 (0, 0)) (by (with_reducible repeat (first | refine blk_drewN ?_ _ | refine blk_drew ?_ | refine blk_alloc ?_ _)); exact BK192.out)) : gb196 ≠ gb192)); have n10_ := Aside0.mk ((by rw [hg]; exact Nat.ne_of_lt (blk_lt (g := gb193) (o := .cells #[.int .u8 0, .int .u64 0, .string (⟨#[]⟩ : ByteArray), .slice none 0 0] 53 (0, 0)) (by (with_reducible repeat (first | refine blk_drewN ?_ _ | refine blk_drew ?_ | refine blk_alloc ?_ _)); exact BK193.out)) : gb193 ≠ gb196)); have n11_ := Aside0.mk ((by rw [hg]; exact Nat.ne_of_gt (blk_lt (g := gb193) (o := .cells #[.int .u8 0, .int .u64 0, .string (⟨#[]⟩ : ByteArray), .slice none 0 0] 53 (0, 0)) (by (with_reducible repeat (first | refine blk_drewN ?_ _ | refine blk_drew ?_ | refine blk_alloc ?_ _)); exact BK193.out)) : gb196 ≠ gb193)); have n12_ := Aside0.mk ((by rw [hg]; exact Nat.ne_of_lt (blk_lt (g := gb194) (o := .cells #[.int .u8 a0_0, .int .u64 a0_1, .string a0_2, u195003] 53 (0, 0)) (by (with_reducible repeat (first | refine blk_drewN ?_ _ | refine blk_drew ?_ | refine blk_alloc ?_ _)); exact BK194.out)) : gb194 ≠ gb196)); have n13_ := Aside0.mk ((by rw [hg]; exact Nat.ne_of_gt (blk_lt (g := gb194) (o := .cells #[.int .u8 a0_0, .int .u64 a0_1, .string a0_2, u195003] 53 (0, 0)) (by (with_reducible repeat (first | refine blk_drewN ?_ _ | refine blk_drew ?_ | refine blk_alloc ?_ _)); exact BK194.out)) : gb196 ≠ gb194)); clear HO_195003; clear BK192; clear BK193; clear BK194; clear HB; have HO_195003 := n0_; have BK192 := n1_; have BK193 := n2_; have BK194 := n3_; have HB := n4_; have BK196 := n5_; have GW196 := n6_; have GE196 := n7_; have NB192_196 := n8_; have NB196_192 := n9_; have NB193_196 := n10_; have NB196_193 := n11_; have NB194_196 := n12_; have NB196_194 := n13_; clear n0_ n1_ n2_ n3_ n4_ n5_ n6_ n7_ n8_ n9_ n10_ n11_ n12_ n13_; clear hb hbox hg; have hnb17 := NB196_192.out; have hnc17 := NB192_196.out; have hnb18 := NB196_193.out; have hnc18 := NB193_196.out; have hnb19 := NB196_194.out; have hnc19 := NB194_196.out; have hcz20_0 : w16.cell? ⟨gb196, 0, none⟩ = some (.int .u8 0) := (blk_cell BK196.out 0).trans rfl; have hcz20_1 : w16.cell? ⟨gb196, 1, none⟩ = some (.int .u64 0) := (blk_cell BK196.out 1).trans rfl; have hcz20_2 : w16.cell? ⟨gb196, 2, none⟩ = some (.string (⟨#[]⟩ : ByteArray)) := (blk_cell BK196.out 2).trans rfl; have hcz20_3 : w16.cell? ⟨gb196, 3, none⟩ = some (.slice none 0 0) := (blk_cell BK196.out 3).trans rfl; have hfz20_0 := blk_frozen BK196.out 0; have hfz20_1 := blk_frozen BK196.out 1; have hfz20_2 := blk_frozen BK196.out 2; have hfz20_3 := blk_frozen BK196.out 3))
       have n0_ : Aside0 (Kd.R k53 53 ((((w16.setCell ⟨gb196, 0, none⟩ (.int .u8 ((rd_T31 l0_3 x16_1).f0))).setCell ⟨gb196, 1, none⟩ (.int .u64 ((rd_T31 l0_3 x16_1).f1))).setCell ⟨gb196, 2, none⟩ (.string ((rd_T31 l0_3 x16_1).f2))).setCell ⟨gb196, 3, none⟩ (.slice A195_3 ((rd_T31 l0_3 x16_1).f3).length c195_3)) w.heap.size (fun k_ => k_ ≠ gb193 ∧ k_ ≠ gb194) u195003 x195003_1) := ⟨by (with_reducible repeat (first | apply Kd.R_alloc | apply Kd.R_drewN | apply Kd.R_drew)); exact Kd.R_mono (Kd.R_far (p := ⟨gb196, 3, none⟩) (Kd.R_far (p := ⟨gb196, 2, none⟩) (Kd.R_far (p := ⟨gb196, 1, none⟩) (Kd.R_far (p := ⟨gb196, 0, none⟩) (Kd.R_types HO_195003.out BK196.out (by decide)) (fun _ hk => hk.2) (.int .u8 ((rd_T31 l0_3 x16_1).f0))) (fun _ hk => hk.2) (.int .u64 ((rd_T31 l0_3 x16_1).f1))) (fun _ hk => hk.2) (.string ((rd_T31 l0_3 x16_1).f2))) (fun _ hk => hk.2) (.slice A195_3 ((rd_T31 l0_3 x16_1).f3).length c195_3)) (fun _ hk => ⟨hk.1.1, hk.1.2⟩)⟩
       have n1_ : Aside0 (((((w16.setCell ⟨gb196, 0, none⟩ (.int .u8 ((rd_T31 l0_3 x16_1).f0))).setCell ⟨gb196, 1, none⟩ (.int .u64 ((rd_T31 l0_3 x16_1).f1))).setCell ⟨gb196, 2, none⟩ (.string ((rd_T31 l0_3 x16_1).f2))).setCell ⟨gb196, 3, none⟩ (.slice A195_3 ((rd_T31 l0_3 x16_1).f3).length c195_3)).heap[gb192]? = some (.cells #[.int .u8 a0_0, .int .u64 a0_1, .string a0_2, .slice (some ad195) l0_3.length c0_3] 31 (0, 0))) := ⟨by (with_reducible repeat (first | refine blk_drewN ?_ _ | refine blk_drew ?_ | refine blk_alloc ?_ _)); refine blk_far ?_ NB192_196.out _; (with_reducible repeat (first | refine blk_drewN ?_ _ | refine blk_drew ?_ | refine blk_alloc ?_ _)); refine blk_far ?_ NB192_196.out _; (with_reducible repeat (first | refine blk_drewN ?_ _ | refine blk_drew ?_ | refine blk_alloc ?_ _)); refine blk_far ?_ NB192_196.out _; (with_reducible repeat (first | refine blk_drewN ?_ _ | refine blk_drew ?_ | refine blk_alloc ?_ _)); refine blk_far ?_ NB192_196.out _; (with_reducible repeat (first | refine blk_drewN ?_ _ | refine blk_drew ?_ | refine blk_alloc ?_ _)); exact BK192.out⟩
       have n2_ : Aside0 (((((w16.setCell ⟨gb196, 0, none⟩ (.int .u8 ((rd_T31 l0_3 x16_1).f0))).setCell ⟨gb196, 1, none⟩ (.int .u64 ((rd_T31 l0_3 x16_1).f1))).setCell ⟨gb196, 2, none⟩ (.string ((rd_T31 l0_3 x16_1).f2))).setCell ⟨gb196, 3, none⟩ (.slice A195_3 ((rd_T31 l0_3 x16_1).f3).length c195_3)).heap[gb193]? = some (.cells #[.int .u8 0, .int .u64 0, .string (⟨#[]⟩ : ByteArray), .slice none 0 0] 53 (0, 0))) := ⟨by (with_reducible repeat (first | refine blk_drewN ?_ _ | refine blk_drew ?_ | refine blk_alloc ?_ _)); refine blk_far ?_ NB193_196.out _; (with_reducible repeat (first | refine blk_drewN ?_ _ | refine blk_drew ?_ | refine blk_alloc ?_ _)); refine blk_far ?_ NB193_196.out _; (with_reducible repeat (first | refine blk_drewN ?_ _ | refine blk_drew ?_ | refine blk_alloc ?_ _)); refine blk_far ?_ NB193_196.out _; (with_reducible repeat (first | refine blk_drewN ?_ _ | refine blk_drew ?_ | refine blk_alloc ?_ _)); refine blk_far ?_ NB193_196.out _; (with_reducible repeat (first | refine blk_drewN ?_ _ | refine blk_drew ?_ | refine blk_alloc ?_ _)); exact BK193.out⟩
       have n3_ : Aside0 (((((w16.setCell ⟨gb196, 0, none⟩ (.int .u8 ((rd_T31 l0_3 x16_1).f0))).setCell ⟨gb196, 1, none⟩ (.int .u64 ((rd_T31 l0_3 x16_1).f1))).setCell ⟨gb196, 2, none⟩ (.string ((rd_T31 l0_3 x16_1).f2))).setCell ⟨gb196, 3, none⟩ (.slice A195_3 ((rd_T31 l0_3 x16_1).f3).length c195_3)).heap[gb194]? = some (.cells #[.int .u8 a0_0, .int .u64 a0_1, .string a0_2, u195003] 53 (0, 0))) := ⟨by (with_reducible repeat (first | refine blk_drewN ?_ _ | refine blk_drew ?_ | refine blk_alloc ?_ _)); refine blk_far ?_ NB194_196.out _; (with_reducible repeat (first | refine blk_drewN ?_ _ | refine blk_drew ?_ | refine blk_alloc ?_ _)); refine blk_far ?_ NB194_196.out _; (with_reducible repeat (first | refine blk_drewN ?_ _ | refine blk_drew ?_ | refine blk_alloc ?_ _)); refine blk_far ?_ NB194_196.out _; (with_reducible repeat (first | refine blk_drewN ?_ _ | refine blk_drew ?_ | refine blk_alloc ?_ _)); refine blk_far ?_ NB194_196.out _; (with_reducible repeat (first | refine blk_drewN ?_ _ | refine blk_drew ?_ | refine blk_alloc ?_ _)); exact BK194.out⟩
       have n4_ : Aside0 (((((w16.setCell ⟨gb196, 0, none⟩ (.int .u8 ((rd_T31 l0_3 x16_1).f0))).setCell ⟨gb196, 1, none⟩ (.int .u64 ((rd_T31 l0_3 x16_1).f1))).setCell ⟨gb196, 2, none⟩ (.string ((rd_T31 l0_3 x16_1).f2))).setCell ⟨gb196, 3, none⟩ (.slice A195_3 ((rd_T31 l0_3 x16_1).f3).length c195_3)).heap[gb196]? = some (.cells #[.int .u8 ((rd_T31 l0_3 x16_1).f0), .int .u64 ((rd_T31 l0_3 x16_1).f1), .string ((rd_T31 l0_3 x16_1).f2), .slice A195_3 ((rd_T31 l0_3 x16_1).f3).length c195_3] 31 (0, 0))) := ⟨by (with_reducible repeat (first | refine blk_drewN ?_ _ | refine blk_drew ?_ | refine blk_alloc ?_ _)); refine blk_put (cs := #[.int .u8 ((rd_T31 l0_3 x16_1).f0), .int .u64 ((rd_T31 l0_3 x16_1).f1), .string ((rd_T31 l0_3 x16_1).f2), .slice none 0 0]) ?_ 3 _ rfl; (with_reducible repeat (first | refine blk_drewN ?_ _ | refine blk_drew ?_ | refine blk_alloc ?_ _)); refine blk_put (cs := #[.int .u8 ((rd_T31 l0_3 x16_1).f0), .int .u64 ((rd_T31 l0_3 x16_1).f1), .string (⟨#[]⟩ : ByteArray), .slice none 0 0]) ?_ 2 _ rfl; (with_reducible repeat (first | refine blk_drewN ?_ _ | refine blk_drew ?_ | refine blk_alloc ?_ _)); refine blk_put (cs := #[.int .u8 ((rd_T31 l0_3 x16_1).f0), .int .u64 0, .string (⟨#[]⟩ : ByteArray), .slice none 0 0]) ?_ 1 _ rfl; (with_reducible repeat (first | refine blk_drewN ?_ _ | refine blk_drew ?_ | refine blk_alloc ?_ _)); refine blk_put (cs := #[.int .u8 0, .int .u64 0, .string (⟨#[]⟩ : ByteArray), .slice none 0 0]) ?_ 0 _ rfl; (with_reducible repeat (first | refine blk_drewN ?_ _ | refine blk_drew ?_ | refine blk_alloc ?_ _)); exact BK196.out⟩
       have n5_ : Aside0 (Below w.heap.size w ((((w16.setCell ⟨gb196, 0, none⟩ (.int .u8 ((rd_T31 l0_3 x16_1).f0))).setCell ⟨gb196, 1, none⟩ (.int .u64 ((rd_T31 l0_3 x16_1).f1))).setCell ⟨gb196, 2, none⟩ (.string ((rd_T31 l0_3 x16_1).f2))).setCell ⟨gb196, 3, none⟩ (.slice A195_3 ((rd_T31 l0_3 x16_1).f3).length c195_3))) := ⟨by repeat (first | (with_reducible first | exact HB.out | apply below_alloc | apply pw_below_drewN | apply below_drew1 | refine below_set ?_ GE192.out | refine below_set ?_ GE193.out | refine below_set ?_ GE194.out | refine below_set ?_ GE196.out) | exact HB.out)⟩
       (try clear HO_195003)
       (try clear BK192)
       (try clear BK193)
       (try clear BK194)
       (try clear BK196)
       (try clear HB)
       generalize ((((w16.setCell ⟨gb196, 0, none⟩ (.int .u8 ((rd_T31 l0_3 x16_1).f0))).setCell ⟨gb196, 1, none⟩ (.int .u64 ((rd_T31 l0_3 x16_1).f1))).setCell ⟨gb196, 2, none⟩ (.string ((rd_T31 l0_3 x16_1).f2))).setCell ⟨gb196, 3, none⟩ (.slice A195_3 ((rd_T31 l0_3 x16_1).f3).length c195_3)) = w21 at n0_ n1_ n2_ n3_ n4_ n5_ ⊢
       have HO_195003 := n0_
       have BK192 := n1_
       have BK193 := n2_
       have BK194 := n3_
       have BK196 := n4_
       have HB := n5_
       clear n0_ n1_ n2_ n3_ n4_ n5_
       have n0_ := Aside0.mk (Kd.R_drew HO_195003.out)
       have n1_ := Aside0.mk (blk_drew BK192.out)
       have n2_ := Aside0.mk (blk_drew BK193.out)
       have n3_ := Aside0.mk (blk_drew BK194.out)
       have n4_ := Aside0.mk (blk_drew BK196.out)
       have n5_ := Aside0.mk (below_drew1 HB.out)
       clear HO_195003
       clear BK192
       clear BK193
       clear BK194
       clear BK196
       clear HB
       have HO_195003 := n0_
       have BK192 := n1_
       have BK193 := n2_
       have BK194 := n3_
       have BK196 := n4_
       have HB := n5_
       clear n0_ n1_ n2_ n3_ n4_ n5_
       refine start_ (n := 8) (S := fun w' => w'.cell? ⟨gb194, 0, none⟩ = some (.int .u8 a0_0) ∧ w'.cell? ⟨gb194, 1, none⟩ = some (.int .u64 a0_1) ∧ w'.cell? ⟨gb194, 2, none⟩ = some (.string a0_2) ∧ w'.cell? ⟨gb194, 3, none⟩ = some (u195003) ∧ w'.cell? ⟨gb196, 0, none⟩ = some (.int .u8 ((rd_T31 l0_3 x16_1).f0)) ∧ w'.cell? ⟨gb196, 1, none⟩ = some (.int .u64 ((rd_T31 l0_3 x16_1).f1)) ∧ w'.cell? ⟨gb196, 2, none⟩ = some (.string ((rd_T31 l0_3 x16_1).f2)) ∧ w'.cell? ⟨gb196, 3, none⟩ = some (.slice A195_3 ((rd_T31 l0_3 x16_1).f3).length c195_3)) (ds := [7]) #[false, false, false, false, false, false, false, false] (by kernel_rfl) rfl rfl ⟨(blk_cell BK194.out 0).trans rfl, (blk_cell BK194.out 1).trans rfl, (blk_cell BK194.out 2).trans rfl, (blk_cell BK194.out 3).trans rfl, (blk_cell BK196.out 0).trans rfl, (blk_cell BK196.out 1).trans rfl, (blk_cell BK196.out 2).trans rfl, (blk_cell BK196.out 3).trans rfl⟩ (fun hHeld => ?_); refine with_tabW impl_valIn.tab5 impl_valIn.bits5 (fun HT_ HW_ => ?_)
       generalize w21.drew = w22 at HO_195003 BK192 BK193 BK194 BK196 HB hHeld ⊢
       refine pure_ (i := 0) (N := some 20) (v := ?_) (a' := ?_) #[true, false, false, false, false, false, false, false] rfl rfl (any_of HT_.out (by kernel_rfl)) (fun _ _ _ h => h) (Or.inl ⟨by rfl, ?_⟩) ?_ ?_
       rotate_left
       ·intro w'
        go_simp
        with_reducible rfl
       rotate_left
       ·simp only [Act.put, List.setIfInBounds_toArray, List.set_cons_zero, List.set_cons_succ, i64_w, i32_w]
        rfl
       refine take_ (i := 1) (N := some 21) (v := ?_) (a' := ?_) #[true, true, false, false, false, false, false, false] rfl rfl (take_ofW HT_.out HW_.out (by kernel_rfl)) (fun _ _ _ h => h) (Or.inl ⟨by rfl, ?_⟩) hHeld ?_ ?_
       rotate_left
       ·rintro w' ⟨s0, s1, s2, s3, s4, s5, s6, s7⟩
        go_simp
        with_reducible rfl
       rotate_left
       ·simp only [Act.put, List.setIfInBounds_toArray, List.set_cons_zero, List.set_cons_succ, i64_w, i32_w]
        rfl
       refine take_ (i := 2) (N := some 22) (v := ?_) (a' := ?_) #[true, true, true, false, false, false, false, false] rfl rfl (take_ofW HT_.out HW_.out (by kernel_rfl)) (fun _ _ _ h => h) (Or.inl ⟨by rfl, ?_⟩) hHeld ?_ ?_
       rotate_left
       ·rintro w' ⟨s0, s1, s2, s3, s4, s5, s6, s7⟩
        go_simp
        with_reducible rfl
       rotate_left
       ·simp only [Act.put, List.setIfInBounds_toArray, List.set_cons_zero, List.set_cons_succ, i64_w, i32_w]
        rfl
       refine one_ (i := 3) (N := some 23) #[true, true, true, true, false, false, false, false] rfl rfl (one_of HT_.out (by kernel_rfl)) (by decide) (fun K hK => ?_)
       refine goes_ Tryd.func27 (by kernel_rfl) rfl #[.agg #[.int .u8 ((rd_T31 l0_3 x16_1).f0), .int .u64 ((rd_T31 l0_3 x16_1).f1), .string ((rd_T31 l0_3 x16_1).f2), .slice A195_3 ((rd_T31 l0_3 x16_1).f3).length c195_3]] (by rfl) rfl rfl (by (try simp only [List.map_toArray, List.map_cons, List.map_nil]); first | done | rfl | (simp only [List.length_drop, List.length_take]; rfl)) ?_
       with_reducible refine (ih k1 (by have := HK1.out; omega) ((rd_T31 l0_3 x16_1).f0) ((rd_T31 l0_3 x16_1).f1) ((rd_T31 l0_3 x16_1).f2) _ _ ((rd_T31 l0_3 x16_1).f3) t197 t198 t199 t200 _ ?side1 ?side2 A14.out).mono ?_
       (case side1 => repeat (first | exact (Kd.C_below HR195_3.out HB.out) | (with_reducible refine Kd.C_alloc ?_ _) | (with_reducible refine Kd.C_drewN ?_ _) | (with_reducible refine Kd.C_drew ?_)))
       (case side2 => exact HC195_3.out)
       rintro e w23 ⟨v201, rfl, ho0, hb⟩
       refine ⟨_, rfl, ?_⟩
       have n0_ := Aside0.mk (Kd.R_elder' (by (with_reducible repeat (first | apply Kd.R_alloc | apply Kd.R_drewN | apply Kd.R_drew)); exact HO_195003.out) (Kd.R_base ho0) hb)
       have n1_ := Aside0.mk (Kd.R_lower (Kd.R_newB (Kd.R_newB (Kd.R_new' ho0 (Kd.R_lt (by (with_reducible repeat (first | apply Kd.R_alloc | apply Kd.R_drewN | apply Kd.R_drew)); exact HO_195003.out))) (g := gb193) (o := .cells #[.int .u8 0, .int .u64 0, .string (⟨#[]⟩ : ByteArray), .slice none 0 0] 53 (0, 0)) (by (with_reducible repeat (first | refine blk_drewN ?_ _ | refine blk_drew ?_ | refine blk_alloc ?_ _)); exact BK193.out)) (g := gb194) (o := .cells #[.int .u8 a0_0, .int .u64 a0_1, .string a0_2, u195003] 53 (0, 0)) (by (with_reducible repeat (first | refine blk_drewN ?_ _ | refine blk_drew ?_ | refine blk_alloc ?_ _)); exact BK194.out)) (below_size (by repeat (first | (with_reducible first | exact HB.out | apply below_alloc | apply pw_below_drewN | apply below_drew1 | refine below_set ?_ GE192.out | refine below_set ?_ GE193.out | refine below_set ?_ GE194.out | refine below_set ?_ GE196.out) | exact HB.out))))
       have n2_ := Aside0.mk (blk_below (g := gb192) (o := .cells #[.int .u8 a0_0, .int .u64 a0_1, .string a0_2, .slice (some ad195) l0_3.length c0_3] 31 (0, 0)) (by (with_reducible repeat (first | refine blk_drewN ?_ _ | refine blk_drew ?_ | refine blk_alloc ?_ _)); exact BK192.out) hb)
       have n3_ := Aside0.mk (blk_below (g := gb193) (o := .cells #[.int .u8 0, .int .u64 0, .string (⟨#[]⟩ : ByteArray), .slice none 0 0] 53 (0, 0)) (by (with_reducible repeat (first | refine blk_drewN ?_ _ | refine blk_drew ?_ | refine blk_alloc ?_ _)); exact BK193.out) hb)
       have n4_ := Aside0.mk (blk_below (g := gb194) (o := .cells #[.int .u8 a0_0, .int .u64 a0_1, .string a0_2, u195003] 53 (0, 0)) (by (with_reducible repeat (first | refine blk_drewN ?_ _ | refine blk_drew ?_ | refine blk_alloc ?_ _)); exact BK194.out) hb)
       have n5_ := Aside0.mk (blk_below (g := gb196) (o := .cells #[.int .u8 ((rd_T31 l0_3 x16_1).f0), .int .u64 ((rd_T31 l0_3 x16_1).f1), .string ((rd_T31 l0_3 x16_1).f2), .slice A195_3 ((rd_T31 l0_3 x16_1).f3).length c195_3] 31 (0, 0)) (by (with_reducible repeat (first | refine blk_drewN ?_ _ | refine blk_drew ?_ | refine blk_alloc ?_ _)); exact BK196.out) hb)
       have n6_ := Aside0.mk (below_step (by repeat (first | (with_reducible first | exact HB.out | apply below_alloc | apply pw_below_drewN | apply below_drew1 | refine below_set ?_ GE192.out | refine below_set ?_ GE193.out | refine below_set ?_ GE194.out | refine below_set ?_ GE196.out) | exact HB.out)) hb)
       clear HO_195003
       clear BK192
       clear BK193
       clear BK194
       clear BK196
       clear HB
       have HO_195003 := n0_
       have HO202 := n1_
       have BK192 := n2_
       have BK193 := n3_
       have BK194 := n4_
       have BK196 := n5_
       have HB := n6_
       clear n0_ n1_ n2_ n3_ n4_ n5_ n6_
       (try clear hb)
       (try clear hb2)
       (try clear hk)
       (try clear hi)
       (try clear ho0)
       obtain ⟨Ao25, co25, eo25⟩ := Kd.R_slice HO202.out
       (first | subst eo25 | (injection eo25 with f1_ f2_ f3_; have f4_ := f1_.symm; have f5_ := f3_.symm; clear f1_ f2_ f3_; subst f4_; subst f5_))
       refine hK.out _ _ ⟨(blk_cell BK194.out 0).trans rfl, (blk_cell BK194.out 1).trans rfl, (blk_cell BK194.out 2).trans rfl, (blk_cell BK194.out 3).trans rfl, (blk_cell BK196.out 0).trans rfl, (blk_cell BK196.out 1).trans rfl, (blk_cell BK196.out 2).trans rfl, (blk_cell BK196.out 3).trans rfl⟩ (fun hHeld => ?_)
       clear hK K
       refine norm_ (a' := ?_) ?_ ?_
       rotate_left
       ·show Act.put _ (some 23) _ = _
        simp only [Act.put, List.setIfInBounds_toArray, List.set_cons_zero, List.set_cons_succ, i64_w, i32_w]
        rfl
       refine one_ (i := 4) (N := some 24) #[true, true, true, true, true, false, false, false] rfl rfl (one_of HT_.out (by kernel_rfl)) (by decide) (fun K hK => ?_)
       refine value_ (w1 := ?_) (v := ?_) (by rfl) rfl ?_ ?_
       rotate_left 2
       ·go_simp
        constructor
        ·rfl
        ·rfl
       refine hK.out _ _ ⟨(blk_cell (blk_alloc BK194.out _) 0).trans rfl, (blk_cell (blk_alloc BK194.out _) 1).trans rfl, (blk_cell (blk_alloc BK194.out _) 2).trans rfl, (blk_cell (blk_alloc BK194.out _) 3).trans rfl, (blk_cell (blk_alloc BK196.out _) 0).trans rfl, (blk_cell (blk_alloc BK196.out _) 1).trans rfl, (blk_cell (blk_alloc BK196.out _) 2).trans rfl, (blk_cell (blk_alloc BK196.out _) 3).trans rfl⟩ (fun hHeld => ?_)
       clear hK K
       refine norm_ (a' := ?_) ?_ ?_
       rotate_left
       ·show Act.put _ (some 24) _ = _
        simp only [Act.put, List.setIfInBounds_toArray, List.set_cons_zero, List.set_cons_succ, i64_w, i32_w]
        rfl
       refine one_ (i := 5) (N := some 25) #[true, true, true, true, true, true, false, false] rfl rfl (one_of HT_.out (by kernel_rfl)) (by decide) (fun K hK => ?_)
       refine Kd.R_append_step k53 (w0 := w) w.heap.size (by rfl) (.tmp 21) (.tmp 24) 39 53 (.agg #[(.int .u8 0), (.int .u64 0), (.string ⟨#[]⟩), (.slice none 0 0)]) 56 rfl Tryd.underlying39 info53 rfl (by decide) (by omega) u195003 x195003_1 (⟨t197, t198, t199, t200⟩ : S53) [.int .u8 t197, .int .u64 t198, .string t199, .slice Ao25 t200.length co25] (fun k_ => k_ ≠ gb193 ∧ k_ ≠ gb194) (fun k_ => ((fun k_ => k_ ≠ gb193 ∧ k_ ≠ gb194)) k_ ∧ some k_ ≠ (u195003 : Value).ownBlock) rfl rfl ?aP (fun _ hk => hk) ?aF ?aO ?aB ?aS ?aL ?_
       (case aP => exact k53_mkM _ _ _ (⟨t197, t198, t199, t200⟩ : S53) (Kd.R_mono (HO202.out) (fun k_ hk => ⟨⟨hk.1.2, hk.2⟩, hk.1.1.2⟩)))
       (case aB => exact (by repeat (first | (with_reducible first | exact HB.out | apply below_alloc | apply pw_below_drewN | apply below_drew1 | refine below_set ?_ GE192.out | refine below_set ?_ GE193.out | refine below_set ?_ GE194.out | refine below_set ?_ GE196.out) | exact HB.out)))
       (case aF => exact (fun k_ hk => ⟨Kd.freshB (g := gb193) (o := .cells #[.int .u8 0, .int .u64 0, .string (⟨#[]⟩ : ByteArray), .slice none 0 0] 53 (0, 0)) (by (with_reducible repeat (first | refine blk_drewN ?_ _ | refine blk_drew ?_ | refine blk_alloc ?_ _)); exact BK193.out) k_ hk, Kd.freshB (g := gb194) (o := .cells #[.int .u8 a0_0, .int .u64 a0_1, .string a0_2, u195003] 53 (0, 0)) (by (with_reducible repeat (first | refine blk_drewN ?_ _ | refine blk_drew ?_ | refine blk_alloc ?_ _)); exact BK194.out) k_ hk⟩))
       (case aO => exact (by (with_reducible repeat (first | apply Kd.R_alloc | apply Kd.R_drewN | apply Kd.R_drew)); exact Kd.R_mono HO_195003.out (fun _ hk => ⟨hk.1.1, hk.1.2⟩)))
       (case aS => exact (below_size (by repeat (first | (with_reducible first | exact HB.out | apply below_alloc | apply pw_below_drewN | apply below_drew1 | refine below_set ?_ GE192.out | refine below_set ?_ GE193.out | refine below_set ?_ GE194.out | refine below_set ?_ GE196.out) | exact HB.out))))
       (case aL => have := LMc15.out; omega)
       intro v204 w24 ho hb hg hat
       rw [← Ny203.out] at ho
       have n0_ := Aside0.mk (blk_grown (g := gb192) (o := .cells #[.int .u8 a0_0, .int .u64 a0_1, .string a0_2, .slice (some ad195) l0_3.length c0_3] 31 (0, 0)) (by (with_reducible repeat (first | refine blk_drewN ?_ _ | refine blk_drew ?_ | refine blk_alloc ?_ _)); exact BK192.out) hg (Kd.R_ne HO_195003.out BK192.out (by decide)))
       have n1_ := Aside0.mk (blk_grown (g := gb193) (o := .cells #[.int .u8 0, .int .u64 0, .string (⟨#[]⟩ : ByteArray), .slice none 0 0] 53 (0, 0)) (by (with_reducible repeat (first | refine blk_drewN ?_ _ | refine blk_drew ?_ | refine blk_alloc ?_ _)); exact BK193.out) hg (Kd.R_away HO_195003.out (fun _ hk => hk.1.1)))
       have n2_ := Aside0.mk (blk_grown (g := gb194) (o := .cells #[.int .u8 a0_0, .int .u64 a0_1, .string a0_2, u195003] 53 (0, 0)) (by (with_reducible repeat (first | refine blk_drewN ?_ _ | refine blk_drew ?_ | refine blk_alloc ?_ _)); exact BK194.out) hg (Kd.R_away HO_195003.out (fun _ hk => hk.1.2)))
       have n3_ := Aside0.mk (blk_grown (g := gb196) (o := .cells #[.int .u8 ((rd_T31 l0_3 x16_1).f0), .int .u64 ((rd_T31 l0_3 x16_1).f1), .string ((rd_T31 l0_3 x16_1).f2), .slice A195_3 ((rd_T31 l0_3 x16_1).f3).length c195_3] 31 (0, 0)) (by (with_reducible repeat (first | refine blk_drewN ?_ _ | refine blk_drew ?_ | refine blk_alloc ?_ _)); exact BK196.out) hg (Kd.R_ne HO_195003.out BK196.out (by decide)))
       have n4_ := Aside0.mk (hb)
       have n5_ := Aside0.mk (ho)
       clear BK192
       clear BK193
       clear BK194
       clear BK196
       clear HB
       clear HO_195003
       clear HO202
       have BK192 := n0_
       have BK193 := n1_
       have BK194 := n2_
       have BK196 := n3_
       have HB := n4_
       have HO205 := n5_
       clear n0_ n1_ n2_ n3_ n4_ n5_
       clear ho hb hg hat
       obtain ⟨Ao26, co26, eo26⟩ := Kd.R_slice HO205.out
       (first | subst eo26 | (injection eo26 with f1_ f2_ f3_; have f4_ := f1_.symm; have f5_ := f3_.symm; clear f1_ f2_ f3_; subst f4_; subst f5_))
       refine hK.out _ _ ⟨(blk_cell BK194.out 0).trans rfl, (blk_cell BK194.out 1).trans rfl, (blk_cell BK194.out 2).trans rfl, (blk_cell BK194.out 3).trans rfl, (blk_cell BK196.out 0).trans rfl, (blk_cell BK196.out 1).trans rfl, (blk_cell BK196.out 2).trans rfl, (blk_cell BK196.out 3).trans rfl⟩ (fun hHeld => ?_)
       clear hK K
       refine norm_ (a' := ?_) ?_ ?_
       rotate_left
       ·show Act.put _ (some 25) _ = _
        simp only [Act.put, List.setIfInBounds_toArray, List.set_cons_zero, List.set_cons_succ, i64_w, i32_w]
        rfl
       refine pure_ (i := 6) (N := some 26) (v := ?_) (a' := ?_) #[true, true, true, true, true, true, true, false] rfl rfl (any_of HT_.out (by kernel_rfl)) (fun _ _ _ h => h) (Or.inl ⟨by rfl, ?_⟩) ?_ ?_
       rotate_left
       ·intro w'
        go_simp
        with_reducible rfl
       rotate_left
       ·simp only [Act.put, List.setIfInBounds_toArray, List.set_cons_zero, List.set_cons_succ, i64_w, i32_w]
        rfl
       refine last_ (i := 7) (N := none) #[true, true, true, true, true, true, true, true] rfl rfl (one_of HT_.out (by kernel_rfl)) (by decide) (fun K hK => ?_)
       have hs27 : w24.cell? ⟨gb194, 3, none⟩ = some (u195003) := (blk_cell BK194.out 3).trans rfl
       have hfs27 := blk_frozen BK194.out 3
       have hns27_0 := NB192_194.out
       have hns27_1 := NB193_194.out
       have hns27_3 := NB196_194.out
       have hms27_0 := NB194_192.out
       have hms27_1 := NB194_193.out
       have hms27_3 := NB194_196.out
       refine skip_ (w1 := ?_) (by rfl) rfl ?_ ?_
       rotate_left
       ·go_simp
        rfl
       refine hK.out _ _ ?_
       clear hK K
       refine done_ (done_of HT_.out (by kernel_rfl)) ?_
       try go_wp2
       go_roundg k1
       case measure => have := HK1.out; omega
       case rel => exact ⟨(wrap64 (x16_1 + 1)), (y203), (.slice Ao26 y203.length co26), (by first | rfl | (simp; done) | (simp [*]; done)), H', ⟨by have := HK1.out; omega⟩, ⟨by (with_reducible repeat (first | apply Kd.R_alloc | apply Kd.R_drewN | apply Kd.R_drew)); exact Kd.R_mono (Kd.R_far (p := ⟨gb194, 3, none⟩) (Kd.R_mono HO205.out (fun k_ hk => (⟨hk, hk.2⟩ : _ ∧ k_ ≠ gb194))) (fun _ hk => hk.2) (.slice Ao26 y203.length co26)) (fun _ hk => ⟨hk.1.1, hk.1.2⟩)⟩, ⟨by (with_reducible repeat (first | refine blk_drewN ?_ _ | refine blk_drew ?_ | refine blk_alloc ?_ _)); refine blk_far ?_ NB192_194.out _; (with_reducible repeat (first | refine blk_drewN ?_ _ | refine blk_drew ?_ | refine blk_alloc ?_ _)); exact BK192.out⟩, ⟨by (with_reducible repeat (first | refine blk_drewN ?_ _ | refine blk_drew ?_ | refine blk_alloc ?_ _)); refine blk_far ?_ NB193_194.out _; (with_reducible repeat (first | refine blk_drewN ?_ _ | refine blk_drew ?_ | refine blk_alloc ?_ _)); exact BK193.out⟩, ⟨by (with_reducible repeat (first | refine blk_drewN ?_ _ | refine blk_drew ?_ | refine blk_alloc ?_ _)); refine blk_put (cs := #[.int .u8 a0_0, .int .u64 a0_1, .string a0_2, u195003]) ?_ 3 _ rfl; (with_reducible repeat (first | refine blk_drewN ?_ _ | refine blk_drew ?_ | refine blk_alloc ?_ _)); exact BK194.out⟩, ⟨by repeat (first | (with_reducible first | exact HB.out | apply below_alloc | apply pw_below_drewN | apply below_drew1 | refine below_set ?_ GE192.out | refine below_set ?_ GE193.out | refine below_set ?_ GE194.out | refine below_set ?_ GE196.out) | exact HB.out)⟩⟩
      ·rw [if_neg c15] at H
       exact absurd H (by simp)
     ·rw [if_neg c13] at H
      exact absurd H (by simp)
    ·rw [if_neg c12] at H
     exact absurd H (by simp)
   ·rw [if_neg c11] at H
    have c11b0 : decide (x16_1 < (l0_3.length : Int)) = false := decide_eq_false c11
    clear c11
    simp only [Option.some.injEq, Prod.mk.injEq] at H
    obtain ⟨rfl, rfl, rfl, rfl⟩ := H
    have hnb28 := NB194_192.out
    have hnc28 := NB192_194.out
    have hnb29 := NB194_193.out
    have hnc29 := NB193_194.out
    have hcz30_0 : wr.cell? ⟨gb194, 0, none⟩ = some (.int .u8 a0_0) := (blk_cell BK194.out 0).trans rfl
    have hcz30_1 : wr.cell? ⟨gb194, 1, none⟩ = some (.int .u64 a0_1) := (blk_cell BK194.out 1).trans rfl
    have hcz30_2 : wr.cell? ⟨gb194, 2, none⟩ = some (.string a0_2) := (blk_cell BK194.out 2).trans rfl
    have hcz30_3 : wr.cell? ⟨gb194, 3, none⟩ = some (u195003) := (blk_cell BK194.out 3).trans rfl
    have hfz30_0 := blk_frozen BK194.out 0
    have hfz30_1 := blk_frozen BK194.out 1
    have hfz30_2 := blk_frozen BK194.out 2
    have hfz30_3 := blk_frozen BK194.out 3
    have hnb31 := NB193_192.out
    have hnc31 := NB192_193.out
    have hcz32_0 : wr.cell? ⟨gb193, 0, none⟩ = some (.int .u8 0) := (blk_cell BK193.out 0).trans rfl
    have hcz32_1 : wr.cell? ⟨gb193, 1, none⟩ = some (.int .u64 0) := (blk_cell BK193.out 1).trans rfl
    have hcz32_2 : wr.cell? ⟨gb193, 2, none⟩ = some (.string (⟨#[]⟩ : ByteArray)) := (blk_cell BK193.out 2).trans rfl
    have hcz32_3 : wr.cell? ⟨gb193, 3, none⟩ = some (.slice none 0 0) := (blk_cell BK193.out 3).trans rfl
    have hfz32_0 := blk_frozen BK193.out 0
    have hfz32_1 := blk_frozen BK193.out 1
    have hfz32_2 := blk_frozen BK193.out 2
    have hfz32_3 := blk_frozen BK193.out 3
    obtain ⟨Ao33, co33, eo33⟩ := Kd.R_slice HO_195003.out
    subst eo33
    go_wp2
    refine bodyPost_ret (results_cell_row rfl _ _ gb193 53 #[.int .u8 a0_0, .int .u64 a0_1, .string a0_2, .slice Ao33 x195003_1.length co33] (0, 0) _ rfl (by (with_reducible repeat (first | refine blk_drewN ?_ _ | refine blk_drew ?_ | refine blk_alloc ?_ _)); refine blk_put (cs := #[.int .u8 a0_0, .int .u64 a0_1, .string a0_2, .slice none 0 0]) ?_ 3 _ rfl; (with_reducible repeat (first | refine blk_drewN ?_ _ | refine blk_drew ?_ | refine blk_alloc ?_ _)); refine blk_put (cs := #[.int .u8 a0_0, .int .u64 a0_1, .string (⟨#[]⟩ : ByteArray), .slice none 0 0]) ?_ 2 _ rfl; (with_reducible repeat (first | refine blk_drewN ?_ _ | refine blk_drew ?_ | refine blk_alloc ?_ _)); refine blk_put (cs := #[.int .u8 a0_0, .int .u64 0, .string (⟨#[]⟩ : ByteArray), .slice none 0 0]) ?_ 1 _ rfl; (with_reducible repeat (first | refine blk_drewN ?_ _ | refine blk_drew ?_ | refine blk_alloc ?_ _)); refine blk_put (cs := #[.int .u8 0, .int .u64 0, .string (⟨#[]⟩ : ByteArray), .slice none 0 0]) ?_ 0 _ rfl; (with_reducible repeat (first | refine blk_drewN ?_ _ | refine blk_drew ?_ | refine blk_alloc ?_ _)); exact BK193.out) Tryd.underlying53 rfl (by kernel_rfl)) rfl ?_
    exact ⟨_, by first | rfl | (simp [errW_none, errW_some] <;> rfl) | (simp [*, errW_none, errW_some] <;> rfl) | (simp (disch := omega) only [wrap64_id] <;> rfl), by (with_reducible repeat (first | apply Kd.R_alloc | apply Kd.R_drewN | apply Kd.R_drew)); exact Kd.R_mono (Kd.R_far (p := ⟨gb193, 3, none⟩) (Kd.R_far (p := ⟨gb193, 2, none⟩) (Kd.R_far (p := ⟨gb193, 1, none⟩) (Kd.R_far (p := ⟨gb193, 0, none⟩) (Kd.R_mono HO_195003.out (fun k_ hk => (⟨hk, hk.1⟩ : _ ∧ k_ ≠ gb193))) (fun _ hk => hk.2) (.int .u8 a0_0)) (fun _ hk => hk.2) (.int .u64 a0_1)) (fun _ hk => hk.2) (.string a0_2)) (fun _ hk => hk.2) (.slice Ao33 x195003_1.length co33)) (fun _ hk => trivial), by repeat (first | (with_reducible first | exact HB.out | apply below_alloc | apply pw_below_drewN | apply below_drew1 | refine below_set ?_ GE192.out | refine below_set ?_ GE193.out | refine below_set ?_ GE194.out) | exact HB.out)⟩

/-! ### impl_valsIn: function 16 -/
def impl_valsIn.l0 : Nat → List (S53) → List (S31) → Int → Int → Option ((List (S53)))
 | 0, _, _, _, _ => none
 | k + 1, x3, x6, x7, x8 => if x8 < x7 then (if 0 ≤ x8 then (if x8 < (x6.length : Int) then ((impl_valIn.f k ((rd_T31 x6 x8).f0) ((rd_T31 x6 x8).f1) ((rd_T31 x6 x8).f2) ((rd_T31 x6 x8).f3)).bind fun bt208 => (if x3.length < 2513169434916 then (impl_valsIn.l0 k (x3 ++ [(⟨bt208.1, bt208.2.1, bt208.2.2.1, bt208.2.2.2⟩ : S53)]) x6 x7 (wrap64 (x8 + 1))) else (none))) else (none)) else (none)) else (some x3)
def impl_valsIn.f (k : Nat) (l0 : List (S31)) : Option ((List (S53))) := impl_valsIn.l0 k ([] : List (S53)) l0 (l0.length : Int) 0
set_option maxHeartbeats 8000000 in
set_option maxRecDepth 100000 in
theorem impl_valsIn.calls (k : Nat) (A0 : Option Addr) (c0 : Nat) (l0 : List (S31)) (r : List (S53)) (w : World) (hr0 : Kd.C k31 w A0 l0.length l0) (hc0 : l0.length ≤ c0) (h : impl_valsIn.f k l0 = some r) :
  Calls Tryd.prog 16 #[.slice A0 l0.length c0] w fun e w' => ∃ v0_ : Value, e = .returned (v0_) ∧ Kd.R k53 53 w' w.heap.size (fun _ => True) v0_ r ∧ Below w.heap.size w w' := by
 have hu31 := Tryd.underlying31
 have HR0 := Aside0.mk hr0
 have HC0 := Aside0.mk hc0
 clear hr0 hc0
 have HB := Aside0.mk (Below.refl w.heap.size w)
 have H : (impl_valsIn.l0 k ([] : List (S53)) l0 (l0.length : Int) 0) = some r := h
 clear h
 have H' := Aside0.mk H
 clear H
 go_enter Tryd.func16, Tryd.ntmps16
 go_wp2
 go_loopg [3, 8] k (fun kq v3 v8 w' => ∃ (x3_1 : List (S53)) (x8_1 : Int), v8 = .int .i64 x8_1 ∧ Aside0 (impl_valsIn.l0 kq x3_1 l0 (l0.length : Int) x8_1 = some r) ∧ Aside0 (kq ≤ k) ∧ Aside0 (Kd.R k53 53 w' w.heap.size (fun _ => True) v3 x3_1) ∧ Aside0 (Below w.heap.size w w'))
 case atStart => exact ⟨(([] : List (S53))), (0), (by first | rfl | (simp; done) | (simp [*]; done)), H', ⟨Nat.le_refl _⟩, ⟨by first | exact Kd.R_nil _ _ _ _ _ | exact Kd.N_nil _ _ _ _ _ | exact Kd.V_nil _ _ _ _ _ | exact Kd.Q_nil _ _ _ _ _ | exact Kd.S_nil _ _ _ _ _⟩, ⟨by repeat (first | (with_reducible first | exact HB.out | apply below_alloc | apply pw_below_drewN | apply below_drew1) | exact HB.out)⟩⟩
 case round =>
  clear H'
  try clear c1
  obtain ⟨x3_1, x8_1, rfl, HA, HK1, HO_3, HB⟩ := hrel
  cases gk with
  | zero => exact absurd HA.out (by simp [impl_valsIn.l0])
  | succ k1 =>
   have H := HA.out
   clear HA
   simp only [impl_valsIn.l0] at H
   by_cases c2 : x8_1 < (l0.length : Int)
   ·rw [if_pos c2] at H
    have c2b0 : decide (x8_1 < (l0.length : Int)) = true := decide_eq_true c2
    clear c2
    by_cases c3 : 0 ≤ x8_1
    ·rw [if_pos c3] at H
     have c3b0 : decide (0 ≤ x8_1) = true := decide_eq_true c3
     clear c3
     by_cases c4 : x8_1 < (l0.length : Int)
     ·rw [if_pos c4] at H
      have c4b0 : decide (x8_1 < (l0.length : Int)) = true := decide_eq_true c4
      clear c4
      replace H := Option.bind_eq_some_iff.mp H
      obtain ⟨⟨t208, t209, t210, t211⟩, A50, H⟩ := H
      replace H : (if x3_1.length < 2513169434916 then (impl_valsIn.l0 k1 (x3_1 ++ [(⟨t208, t209, t210, t211⟩ : S53)]) l0 (l0.length : Int) (wrap64 (x8_1 + 1))) else (none)) = some r := H
      have A5 := Aside0.mk A50
      clear A50
      by_cases c6 : x3_1.length < 2513169434916
      ·rw [if_pos c6] at H
       have LMc6 := Aside0.mk c6
       clear c6
       obtain ⟨y214, hy214⟩ : ∃ y_ : List (S53), y_ = (x3_1 ++ [(⟨t208, t209, t210, t211⟩ : S53)]) := ⟨_, rfl⟩
       replace H : (impl_valsIn.l0 k1 y214 l0 (l0.length : Int) (wrap64 (x8_1 + 1))) = some r := by first | (rw [hy214]; with_reducible exact H) | (have H2_ := (Option.bind_some _ _).symm.trans H; rw [hy214]; with_reducible exact H2_) | (have H2_ := (Option.bind_some _ _).symm.trans H; with_reducible exact H2_) | with_reducible exact H | (rw [hy214]; exact H) | exact H
       have Ny214 := Aside0.mk hy214
       clear hy214
       have H' := Aside0.mk H
       clear H
       have p206 : 0 ≤ (x8_1 : Int) := of_decide_eq_true (by first | (with_reducible assumption) | assumption)
       have q206 : x8_1 < (l0.length : Int) := of_decide_eq_true (by first | (with_reducible assumption) | assumption)
       obtain ⟨ad206, A206_3, c206_3, e206, hx206_0, hx206_1, hx206_2, hx206_3, hl206_3, hi206_3⟩ := at_T31 HR0.out x8_1 p206 q206
       cases e206
       replace hx206_0 := (HB.out.cell (World.block_lt_of_cell? w _ hx206_0)).trans hx206_0
       replace hx206_1 := (HB.out.cell (World.block_lt_of_cell? w _ hx206_1)).trans hx206_1
       replace hx206_2 := (HB.out.cell (World.block_lt_of_cell? w _ hx206_2)).trans hx206_2
       replace hx206_3 := (HB.out.cell (World.block_lt_of_cell? w _ hx206_3)).trans hx206_3
       have HR206_3 := Aside0.mk hi206_3
       have HC206_3 := Aside0.mk hl206_3
       clear hi206_3 hl206_3
       replace p206 := eq_true p206
       replace q206 := eq_true q206
       go_wp2_with (first | ((with_reducible refine gate_dst (N := 5) rfl ?_); refine box_event ?hg (N := 5) ?hd (cs := #[.int .u8 0, .int .u64 0, .string (⟨#[]⟩ : ByteArray), .slice none 0 0]) (t := 31) ?hr ?_; (case hd => rfl); (case hg => rfl); (case hr => first | (go_simp; done) | (go_simp; rfl)); intro gb207 hg w7 hbox hb; have n0_ := Aside0.mk (Kd.R_below (by (with_reducible repeat (first | apply Kd.R_alloc | apply Kd.R_drewN | apply Kd.R_drew)); exact HO_3.out) hb); have n1_ := Aside0.mk (below_step (by repeat (first | (with_reducible first | exact HB.out | apply below_alloc | apply pw_below_drewN | apply below_drew1) | exact HB.out)) hb); have n2_ := Aside0.mk (hbox); have n3_ := Aside0.mk ((by rw [hg]; exact (below_size (by repeat (first | (with_reducible first | exact HB.out | apply below_alloc | apply pw_below_drewN | apply below_drew1) | exact HB.out))) : w.heap.size ≤ gb207)); have n4_ := Aside0.mk ((by rw [hg]; exact (below_size (by repeat (first | (with_reducible first | exact HB.out | apply below_alloc | apply pw_below_drewN | apply below_drew1) | exact HB.out))) : w.heap.size ≤ gb207)); clear HO_3; clear HB; have HO_3 := n0_; have HB := n1_; have BK207 := n2_; have GW207 := n3_; have GE207 := n4_; clear n0_ n1_ n2_ n3_ n4_; clear hb hbox hg; have hcz8_0 : w7.cell? ⟨gb207, 0, none⟩ = some (.int .u8 0) := (blk_cell BK207.out 0).trans rfl; have hcz8_1 : w7.cell? ⟨gb207, 1, none⟩ = some (.int .u64 0) := (blk_cell BK207.out 1).trans rfl; have hcz8_2 : w7.cell? ⟨gb207, 2, none⟩ = some (.string (⟨#[]⟩ : ByteArray)) := (blk_cell BK207.out 2).trans rfl; have hcz8_3 : w7.cell? ⟨gb207, 3, none⟩ = some (.slice none 0 0) := (blk_cell BK207.out 3).trans rfl; have hfz8_0 := blk_frozen BK207.out 0; have hfz8_1 := blk_frozen BK207.out 1; have hfz8_2 := blk_frozen BK207.out 2; have hfz8_3 := blk_frozen BK207.out 3) | ((with_reducible refine gate_callee (f := 27) rfl ?_); refine goesL_ (some 14) rfl rfl Tryd.func27 (by kernel_rfl) rfl #[.agg #[.int .u8 ((rd_T31 l0 x8_1).f0), .int .u64 ((rd_T31 l0 x8_1).f1), .string ((rd_T31 l0 x8_1).f2), .slice A206_3 ((rd_T31 l0 x8_1).f3).length c206_3]] rfl (by (try simp only [List.map_toArray, List.map_cons, List.map_nil]); first | done | rfl | (simp only [List.length_drop, List.length_take]; rfl)) ?_; (with_reducible refine (impl_valIn.calls k1 ((rd_T31 l0 x8_1).f0) ((rd_T31 l0 x8_1).f1) ((rd_T31 l0 x8_1).f2) _ _ ((rd_T31 l0 x8_1).f3) t208 t209 t210 t211 _ ?side1 ?side2 A5.out).mono ?_); (case side1 => exact Kd.C_below HR206_3.out (by repeat (first | (with_reducible first | exact HB.out | apply below_alloc | apply pw_below_drewN | apply below_drew1 | refine below_set ?_ GE207.out) | exact HB.out))); (case side2 => exact HC206_3.out); rintro e w9 ⟨v212, rfl, ho0, hb⟩; refine ⟨_, rfl, ?_⟩; have n0_ := Aside0.mk (Kd.R_elder' (by (with_reducible repeat (first | apply Kd.R_alloc | apply Kd.R_drewN | apply Kd.R_drew)); exact (Kd.R_mono (Kd.R_far (p := ⟨gb207, 3, none⟩) (Kd.R_far (p := ⟨gb207, 2, none⟩) (Kd.R_far (p := ⟨gb207, 1, none⟩) (Kd.R_far (p := ⟨gb207, 0, none⟩) (Kd.R_types HO_3.out BK207.out (by decide)) (fun _ hk => hk.2) (.int .u8 ((rd_T31 l0 x8_1).f0))) (fun _ hk => hk.2) (.int .u64 ((rd_T31 l0 x8_1).f1))) (fun _ hk => hk.2) (.string ((rd_T31 l0 x8_1).f2))) (fun _ hk => hk.2) (.slice A206_3 ((rd_T31 l0 x8_1).f3).length c206_3)) (fun _ h_ => h_.1))) (Kd.R_base ho0) hb); have n1_ := Aside0.mk (Kd.R_lower (Kd.R_new' ho0 (Kd.R_lt (by (with_reducible repeat (first | apply Kd.R_alloc | apply Kd.R_drewN | apply Kd.R_drew)); exact (Kd.R_mono (Kd.R_far (p := ⟨gb207, 3, none⟩) (Kd.R_far (p := ⟨gb207, 2, none⟩) (Kd.R_far (p := ⟨gb207, 1, none⟩) (Kd.R_far (p := ⟨gb207, 0, none⟩) (Kd.R_types HO_3.out BK207.out (by decide)) (fun _ hk => hk.2) (.int .u8 ((rd_T31 l0 x8_1).f0))) (fun _ hk => hk.2) (.int .u64 ((rd_T31 l0 x8_1).f1))) (fun _ hk => hk.2) (.string ((rd_T31 l0 x8_1).f2))) (fun _ hk => hk.2) (.slice A206_3 ((rd_T31 l0 x8_1).f3).length c206_3)) (fun _ h_ => h_.1))))) (below_size (by repeat (first | (with_reducible first | exact HB.out | apply below_alloc | apply pw_below_drewN | apply below_drew1 | refine below_set ?_ GE207.out) | exact HB.out)))); have n2_ := Aside0.mk (blk_below (g := gb207) (o := .cells #[.int .u8 ((rd_T31 l0 x8_1).f0), .int .u64 ((rd_T31 l0 x8_1).f1), .string ((rd_T31 l0 x8_1).f2), .slice A206_3 ((rd_T31 l0 x8_1).f3).length c206_3] 31 (0, 0)) (by (with_reducible repeat (first | refine blk_drewN ?_ _ | refine blk_drew ?_ | refine blk_alloc ?_ _)); refine blk_put (cs := #[.int .u8 ((rd_T31 l0 x8_1).f0), .int .u64 ((rd_T31 l0 x8_1).f1), .string ((rd_T31 l0 x8_1).f2), .slice none 0 0]) ?_ 3 _ rfl; (with_reducible repeat (first | refine blk_drewN ?_ _ | refine blk_drew ?_ | refine blk_alloc ?_ _)); refine blk_put (cs := #[.int .u8 ((rd_T31 l0 x8_1).f0), .int .u64 ((rd_T31 l0 x8_1).f1), .string (⟨#[]⟩ : ByteArray), .slice none 0 0]) ?_ 2 _ rfl; (with_reducible repeat (first | refine blk_drewN ?_ _ | refine blk_drew ?_ | refine blk_alloc ?_ _)); refine blk_put (cs := #[.int .u8 ((rd_T31 l0 x8_1).f0), .int .u64 0, .string (⟨#[]⟩ : ByteArray), .slice none 0 0]) ?_ 1 _ rfl; (with_reducible repeat (first | refine blk_drewN ?_ _ | refine blk_drew ?_ | refine blk_alloc ?_ _)); refine blk_put (cs := #[.int .u8 0, .int .u64 0, .string (⟨#[]⟩ : ByteArray), .slice none 0 0]) ?_ 0 _ rfl; (with_reducible repeat (first | refine blk_drewN ?_ _ | refine blk_drew ?_ | refine blk_alloc ?_ _)); exact BK207.out) hb); have n3_ := Aside0.mk (below_step (by repeat (first | (with_reducible first | exact HB.out | apply below_alloc | apply pw_below_drewN | apply below_drew1 | refine below_set ?_ GE207.out) | exact HB.out)) hb); clear HO_3; clear BK207; clear HB; have HO_3 := n0_; have HO213 := n1_; have BK207 := n2_; have HB := n3_; clear n0_ n1_ n2_ n3_; (try clear hb); (try clear hb2); (try clear hk); (try clear hi); (try clear ho0); obtain ⟨Ao11, co11, eo11⟩ := Kd.R_slice HO213.out; subst eo11) | ((with_reducible refine gate_builtin (b := .append) (xs := #[.tmp 12, .tmp 15]) rfl ?_); at_builtin; refine Kd.R_append k53 (w0 := w) w.heap.size rfl (.tmp 12) (.tmp 15) 39 53 (.agg #[(.int .u8 0), (.int .u64 0), (.string ⟨#[]⟩), (.slice none 0 0)]) 56 rfl Tryd.underlying39 info53 rfl (by decide) (by omega) u3 x3_1 (⟨t208, t209, t210, t211⟩ : S53) [.int .u8 t208, .int .u64 t209, .string t210, .slice Ao11 t211.length co11] (fun _ => True) (fun k_ => ((fun _ => True)) k_ ∧ some k_ ≠ (u3 : Value).ownBlock) rfl rfl ?aP (fun _ hk => hk) ?aF ?aO ?aB ?aS ?aL ?_; (case aP => exact k53_mkM _ _ _ (⟨t208, t209, t210, t211⟩ : S53) (Kd.R_mono (HO213.out) (fun k_ hk => ⟨trivial, hk.2⟩))); (case aB => exact (by repeat (first | (with_reducible first | exact HB.out | apply below_alloc | apply pw_below_drewN | apply below_drew1 | refine below_set ?_ GE207.out) | exact HB.out))); (case aF => exact (fun _ _ => trivial)); (case aO => exact (by (with_reducible repeat (first | apply Kd.R_alloc | apply Kd.R_drewN | apply Kd.R_drew)); exact Kd.R_mono HO_3.out (fun _ hk => trivial))); (case aS => exact (below_size (by repeat (first | (with_reducible first | exact HB.out | apply below_alloc | apply pw_below_drewN | apply below_drew1 | refine below_set ?_ GE207.out) | exact HB.out)))); (case aL => have := LMc6.out; omega); intro v215 w10 ho hb hg hat; rw [← Ny214.out] at ho; have n0_ := Aside0.mk (blk_grown (g := gb207) (o := .cells #[.int .u8 ((rd_T31 l0 x8_1).f0), .int .u64 ((rd_T31 l0 x8_1).f1), .string ((rd_T31 l0 x8_1).f2), .slice A206_3 ((rd_T31 l0 x8_1).f3).length c206_3] 31 (0, 0)) (by (with_reducible repeat (first | refine blk_drewN ?_ _ | refine blk_drew ?_ | refine blk_alloc ?_ _)); exact BK207.out) hg (Kd.R_ne HO_3.out BK207.out (by decide))); have n1_ := Aside0.mk (hb); have n2_ := Aside0.mk (ho); clear BK207; clear HB; clear HO_3; clear HO213; have BK207 := n0_; have HB := n1_; have HO216 := n2_; clear n0_ n1_ n2_; clear ho hb hg hat))
       go_roundg k1
       case measure => have := HK1.out; omega
       case rel => exact ⟨(y214), (wrap64 (x8_1 + 1)), (by first | rfl | (simp; done) | (simp [*]; done)), H', ⟨by have := HK1.out; omega⟩, ⟨by (with_reducible repeat (first | apply Kd.R_alloc | apply Kd.R_drewN | apply Kd.R_drew)); exact HO216.out⟩, ⟨by repeat (first | (with_reducible first | exact HB.out | apply below_alloc | apply pw_below_drewN | apply below_drew1 | refine below_set ?_ GE207.out) | exact HB.out)⟩⟩
      ·rw [if_neg c6] at H
       exact absurd H (by simp)
     ·rw [if_neg c4] at H
      exact absurd H (by simp)
    ·rw [if_neg c3] at H
     exact absurd H (by simp)
   ·rw [if_neg c2] at H
    have c2b0 : decide (x8_1 < (l0.length : Int)) = false := decide_eq_false c2
    clear c2
    obtain rfl := Option.some.inj H
    go_wp2
    go_ret
    exact ⟨_, by first | rfl | (simp [errW_none, errW_some] <;> rfl) | (simp [*, errW_none, errW_some] <;> rfl) | (simp (disch := omega) only [wrap64_id] <;> rfl), by (with_reducible repeat (first | apply Kd.R_alloc | apply Kd.R_drewN | apply Kd.R_drew)); exact HO_3.out, by repeat (first | (with_reducible first | exact HB.out | apply below_alloc | apply pw_below_drewN | apply below_drew1) | exact HB.out)⟩

end Go.Proofs.YtboioihppjhjcaaDoor.MFnSgOf

namespace Go.Proofs.YtboioihppjhjcaaDoor.MFnSgOf
open Go.RowKit Go.Proofs.YtboioihppjhjcaaDoorW.PrintWords Go.Proofs.YtboioihppjhjcaaDoorW.PrintLast Go.Proofs.YtboioihppjhjcaaDoorW.PrintMore
attribute [local go_sem] max2_int min2_int max_two min_two max_three min_three max_four min_four
set_option linter.unusedVariables false
set_option linter.unusedSimpArgs false

open Go.Proofs.YtboioihppjhjcaaDoor.Hlp Go.Proofs.YtboioihppjhjcaaDoor.SgT Go.Proofs.YtboioihppjhjcaaDoor.SgZ
theorem errW_nil : errW none = Value.nilIface := rfl
set_option maxRecDepth 100000 in
set_option maxHeartbeats 4000000 in
/-- doorOne takes the first complete type. -/
theorem do_calls (x rest : List UInt8) (hx : T 32 32 32 x) (hl : (x ++ rest).length ≤ 100000) (w : World) : Calls Tryd.prog 67 #[.string (Bs (x ++ rest))] w fun e w' => e = .returned (.tuple #[.string (Bs x), .string (Bs rest)]) ∧ Below w.heap.size w w' := by
  obtain ⟨K, hK⟩ := MFnSgOfi.takes hx (Bs (x ++ rest)) 0 0 0 rest rfl rfl rfl (by omega) (by omega) (by omega) (bl_Bs _) (by rw [Bs_size]; omega)
  have hk := hK K (Nat.le_refl _)
  rw [Bs_drop, List.drop_left] at hk
  have hcore := dbus_validSingle.core K (Bs (x ++ rest)) w.heap.size 0 0 0 none (Bs rest) (w.alloc (.cells #[.int .i64 0, .int .i64 0, .int .i64 0] 62)) (by simp) (by simp) (by simp) hk
  have hcut : (Bs (x ++ rest)).extract 0 x.length = Bs x := by rw [Bs_cut]; simp
  have hlen : (((Bs (x ++ rest)).size : Int)) - ((Bs rest).size : Int) = (x.length : Int) := by rw [Bs_size, Bs_size, List.length_append]; omega
  have hwl : IntKind.i64.wrap (((Bs (x ++ rest)).size : Int) - ((Bs rest).size : Int)) = (x.length : Int) := by rw [hlen, IntKind.wrap_i64]; rw [List.length_append] at hl; omega
  have h1 : ((x.length : Int) ≤ ((Bs (x ++ rest)).size : Int)) = True := eq_true (by rw [Bs_size, List.length_append]; omega)
  have h2 : (x.length ≤ (Bs (x ++ rest)).size) = True := eq_true (by rw [Bs_size, List.length_append]; omega)
  rw [errW_nil] at hcore
  have HC := Aside0.mk hcore
  clear hcore hk hK hlen
  go_enter Tryd.func67, Tryd.ntmps67
  go_wp2_with fail
  refine HC.out.mono ?_
  rintro e1 w2 ⟨rfl, hb⟩
  have HB := Aside0.mk (below_step (below_alloc (Below.refl w.heap.size w) _) hb)
  clear hb
  go_wp2_with fail
  go_ret2
  exact ⟨rfl, HB.out⟩
theorem z_letter : ∀ n : Fin 256, oneC (UInt8.ofNat n.val) = true → dbus_zzSigToType.f (n.val : Int) = some (Bs [UInt8.ofNat n.val], true) := by decide +kernel
theorem z_one (c : UInt8) (h : oneC c = true) : dbus_zzSigToType.f (c.toNat : Int) = some (Bs [c], true) := by
  have := z_letter ⟨c.toNat, c.toNat_lt⟩
  simp only [UInt8.ofNat_toNat] at this
  exact this h
/-- What doorType gives of a signature. -/
def DT (l t : List UInt8) : Prop := ∀ w, Calls Tryd.prog 59 #[.string (Bs l)] w fun e w' => e = .returned (.string (Bs t)) ∧ Below w.heap.size w w'
theorem idx0 (c : UInt8) (r : List UInt8) : ∀ h : 0 < (Bs (c :: r)).size, (((Bs (c :: r))[0]'h).toNat : Int) = (c.toNat : Int) := fun h => by
  have h2 := bt_at (Bs (c :: r)) 0 h
  rw [Bs_bt0] at h2
  exact h2
theorem idx1 (c d : UInt8) (r : List UInt8) : ∀ h : 1 < (Bs (c :: d :: r)).size, (((Bs (c :: d :: r))[1]'h).toNat : Int) = (d.toNat : Int) := fun h => by
  have h2 := bt_at (Bs (c :: d :: r)) 1 h
  have h3 := Bs_bt (c :: d :: r) 1
  rw [show ((1 : Nat) : Int) = 1 from rfl] at h3
  rw [h3] at h2
  exact h2
set_option maxRecDepth 100000 in
set_option maxHeartbeats 4000000 in
theorem dt_one (c : UInt8) (hc : oneC c = true) : DT [c] [c] := by
  intro w
  have hcn := (one_ascii c hc).2
  have q1 : (0 < (Bs [c]).size) = True := eq_true (by rw [Bs_size]; simp)
  have q2 : ((0 : Int) < ((Bs [c]).size : Int)) = True := eq_true (by rw [Bs_size]; simp)
  have n1 : (((c.toNat : Nat) : Int) == 97) = false := beq_eq_false_iff_ne.mpr (num_ne hcn.1)
  have n2 : (((c.toNat : Nat) : Int) == 40) = false := beq_eq_false_iff_ne.mpr (num_ne hcn.2.1)
  have hz := z_one c hc
  obtain ⟨s, hs⟩ : ∃ s, Bs [c] = s := ⟨_, rfl⟩
  have hi : ∀ h : 0 < s.size, ((s[0]'h).toNat : Int) = (c.toNat : Int) := by subst hs; exact idx0 c []
  simp only [hs] at q1 q2 hz ⊢
  generalize (c.toNat : Int) = C at *
  have HZ := Aside0.mk hz
  clear hz hcn hs
  go_enter Tryd.func59, Tryd.ntmps59
  go_wp2_with fail
  refine (dbus_zzSigToType.calls _ _ _ _ HZ.out).mono ?_
  rintro e1 w2 ⟨rfl, k1, rfl⟩
  go_wp2_with fail
  go_ret
  exact ⟨rfl, pw_below_drewN (Below.refl _ _) _⟩
theorem slice_ok (y : List UInt8) (hl : y.length ≤ 100000) : dbus_zzSliceOf.f (Bs y) = some (Bs (91 :: y)) := by
  unfold dbus_zzSliceOf.f
  rw [if_pos (by rw [Bs_size]; omega)]
  exact congrArg some (Bs_app [91] y)
theorem map_ok (c : UInt8) (y : List UInt8) (hl : y.length ≤ 100000) : dbus_zzMapOf.f (Bs [c]) (Bs y) = some (Bs (123 :: c :: y)) := by
  unfold dbus_zzMapOf.f
  rw [if_pos (by rw [Bs_size]; simp only [List.length_singleton]; omega)]
  have e1 : (⟨#[123]⟩ : ByteArray) ++ Bs [c] = Bs [123, c] := Bs_app [123] [c]
  rw [e1, if_pos (by rw [Bs_size, Bs_size]; simp only [List.length_cons, List.length_nil]; omega), Bs_app]
  rfl
set_option maxRecDepth 100000 in
set_option maxHeartbeats 4000000 in
theorem dt_arr (d : UInt8) (x y : List UInt8) (hd : d ≠ 123) (hl : y.length ≤ 100000) (hx : x.length ≤ 100000) (ih : DT (d :: x) y) : DT (97 :: d :: x) (91 :: y) := by
  intro w
  have n1 : (((d.toNat : Nat) : Int) == 123) = false := beq_eq_false_iff_ne.mpr (num_ne hd)
  have hcut : (Bs (97 :: d :: x)).extract 1 (Bs (97 :: d :: x)).size = Bs (d :: x) := by rw [Bs_drop]; rfl
  have hsz : (Bs (97 :: d :: x)).size = x.length + 2 := by rw [Bs_size]; rfl
  obtain ⟨s, hs⟩ : ∃ s, Bs (97 :: d :: x) = s := ⟨_, rfl⟩
  have hi : ∀ h : 0 < s.size, ((s[0]'h).toNat : Int) = 97 := by subst hs; exact idx0 97 (d :: x)
  have hj : ∀ h : 1 < s.size, ((s[1]'h).toNat : Int) = (d.toNat : Int) := by subst hs; exact idx1 97 d x
  simp only [hs] at hcut hsz ⊢
  have q1 : (0 < s.size) = True := eq_true (by omega)
  have q2 : ((0 : Int) < (s.size : Int)) = True := eq_true (by omega)
  have q3 : (1 < s.size) = True := eq_true (by omega)
  have q4 : ((1 : Int) < (s.size : Int)) = True := eq_true (by omega)
  have q5 : decide ((1 : Int) < (s.size : Int)) = true := decide_eq_true (by omega)
  have q6 : (1 ≤ s.size) = True := eq_true (by omega)
  have q7 : ((1 : Int) ≤ (s.size : Int)) = True := eq_true (by omega)
  have HS := Aside0.mk (slice_ok y hl)
  have IH := Aside0.mk ih
  clear hs hsz ih
  go_enter Tryd.func59, Tryd.ntmps59
  go_wp2_with fail
  refine (IH.out _).mono ?_
  rintro e1 w2 ⟨rfl, hb⟩
  have HB := Aside0.mk hb
  clear hb
  go_wp2_with fail
  refine (dbus_zzSliceOf.calls _ _ _ HS.out).mono ?_
  rintro e1 w3 ⟨rfl, k1, rfl⟩
  go_wp2_with fail
  go_ret
  exact ⟨rfl, pw_below_drewN HB.out _⟩
set_option maxRecDepth 100000 in
set_option maxHeartbeats 4000000 in
theorem dt_dict (c : UInt8) (x y : List UInt8) (hc : oneC c = true) (hl : y.length ≤ 100000) (hx : x.length ≤ 100000) (ih : DT x y) : DT (97 :: 123 :: c :: (x ++ [125])) (123 :: c :: y) := by
  intro w
  have hcut1 : (Bs (97 :: 123 :: c :: (x ++ [125]))).extract 2 3 = Bs [c] := by rw [Bs_cut]; rfl
  have hcut2 : (Bs (97 :: 123 :: c :: (x ++ [125]))).extract 3 (x.length + 3) = Bs x := by rw [Bs_cut]; simp
  have hsz : (Bs (97 :: 123 :: c :: (x ++ [125]))).size = x.length + 4 := by rw [Bs_size]; simp
  obtain ⟨s, hs⟩ : ∃ s, Bs (97 :: 123 :: c :: (x ++ [125])) = s := ⟨_, rfl⟩
  have hi : ∀ h : 0 < s.size, ((s[0]'h).toNat : Int) = 97 := by subst hs; exact idx0 97 _
  have hj : ∀ h : 1 < s.size, ((s[1]'h).toNat : Int) = 123 := by subst hs; exact idx1 97 123 _
  simp only [hs] at hcut1 hcut2 hsz ⊢
  have q1 : (0 < s.size) = True := eq_true (by omega)
  have q2 : ((0 : Int) < (s.size : Int)) = True := eq_true (by omega)
  have q3 : (1 < s.size) = True := eq_true (by omega)
  have q4 : ((1 : Int) < (s.size : Int)) = True := eq_true (by omega)
  have q5 : decide ((1 : Int) < (s.size : Int)) = true := decide_eq_true (by omega)
  have q6 : (3 ≤ s.size) = True := eq_true (by omega)
  have q7 : ((3 : Int) ≤ (s.size : Int)) = True := eq_true (by omega)
  obtain ⟨e, he⟩ : ∃ e, x.length + 3 = e := ⟨_, rfl⟩
  rw [he] at hcut2
  have hw : IntKind.i64.wrap ((s.size : Int) - 1) = (e : Int) := by rw [IntKind.wrap_i64]; omega
  have q8 : ((3 : Int) ≤ (e : Int)) = True := eq_true (by omega)
  have q9 : ((e : Int) ≤ (s.size : Int)) = True := eq_true (by omega)
  have q10 : (3 ≤ e) = True := eq_true (by omega)
  have q11 : (e ≤ s.size) = True := eq_true (by omega)
  have HM := Aside0.mk (map_ok c y hl)
  have IH := Aside0.mk ih
  have IK := Aside0.mk (dt_one c hc)
  clear hs hsz ih he hc
  go_enter Tryd.func59, Tryd.ntmps59
  go_wp2_with fail
  go_region_held3 (fun _ => True) (trivial) (first
    | (go_at_call 59; have h5 := HB; refine (IH.out _).mono ?_; rintro e1 w3 ⟨rfl, hb⟩; have HB3 := Aside0.mk (below_step HB.out hb); clear hb)
    | (go_at_call 59; refine (IK.out _).mono ?_; rintro e1 w2 ⟨rfl, hb⟩; have HB := Aside0.mk (below_step (w := w) (by first | exact Below.refl _ _ | exact below_drew1 (Below.refl _ _)) hb); clear hb)
    | (go_at_call 55; refine (dbus_zzMapOf.calls _ _ _ _ HM.out).mono ?_; rintro e1 w4 ⟨rfl, k1, rfl⟩))
  go_wp2
  go_ret
  exact ⟨rfl, by repeat (first | exact HB3.out | apply pw_below_drewN | apply below_drew1)⟩

end Go.Proofs.YtboioihppjhjcaaDoor.MFnSgOf

namespace Go.Proofs.YtboioihppjhjcaaDoor.MFnSgOf
open Go.RowKit Go.Proofs.YtboioihppjhjcaaDoorW.PrintWords Go.Proofs.YtboioihppjhjcaaDoorW.PrintLast Go.Proofs.YtboioihppjhjcaaDoorW.PrintMore
attribute [local go_sem] max2_int min2_int max_two min_two max_three min_three max_four min_four
set_option linter.unusedVariables false
set_option linter.unusedSimpArgs false

open Go.Proofs.YtboioihppjhjcaaDoor.Hlp Go.Proofs.YtboioihppjhjcaaDoor.SgT Go.Proofs.YtboioihppjhjcaaDoor.SgZ
set_option maxRecDepth 100000 in
set_option maxHeartbeats 4000000 in
theorem dt_str (zs : List (List UInt8 × List UInt8)) (hT : ∀ z ∈ zs, T 32 32 32 z.1) (hl : (zs.map Prod.fst).flatten.length ≤ 50000) (hl2 : (zs.map Prod.snd).flatten.length ≤ 50000) (ih : ∀ z ∈ zs, DT z.1 z.2) : DT (40 :: ((zs.map Prod.fst).flatten ++ [41])) (40 :: ((zs.map Prod.snd).flatten ++ [41])) := by
  intro w
  have hcut : (Bs (40 :: ((zs.map Prod.fst).flatten ++ [41]))).extract 1 ((zs.map Prod.fst).flatten.length + 1) = Bs (zs.map Prod.fst).flatten := by rw [Bs_cut]; simp
  have hsz : (Bs (40 :: ((zs.map Prod.fst).flatten ++ [41]))).size = (zs.map Prod.fst).flatten.length + 2 := by rw [Bs_size]; simp
  obtain ⟨s, hs⟩ : ∃ s, Bs (40 :: ((zs.map Prod.fst).flatten ++ [41])) = s := ⟨_, rfl⟩
  have hi : ∀ h : 0 < s.size, ((s[0]'h).toNat : Int) = 40 := by subst hs; exact idx0 40 _
  simp only [hs] at hcut hsz ⊢
  have q1 : (0 < s.size) = True := eq_true (by omega)
  have q2 : ((0 : Int) < (s.size : Int)) = True := eq_true (by omega)
  obtain ⟨e, he⟩ : ∃ e, (zs.map Prod.fst).flatten.length + 1 = e := ⟨_, rfl⟩
  rw [he] at hcut
  have hw : IntKind.i64.wrap ((s.size : Int) - 1) = (e : Int) := by rw [IntKind.wrap_i64]; omega
  have q8 : ((1 : Int) ≤ (e : Int)) = True := eq_true (by omega)
  have q9 : ((e : Int) ≤ (s.size : Int)) = True := eq_true (by omega)
  have q10 : (1 ≤ e) = True := eq_true (by omega)
  have q11 : (e ≤ s.size) = True := eq_true (by omega)
  have IH := Aside0.mk ih
  have HT := Aside0.mk hT
  clear hs hsz ih he hT
  go_enter Tryd.func59, Tryd.ntmps59
  go_wp2_with fail
  go_loopg [3, 4] zs.length (fun kq v3 v4 wr => ∃ (i : Nat), v3 = .string (Bs (40 :: (List.take i (zs.map Prod.snd)).flatten)) ∧ v4 = .string (Bs (List.drop i (zs.map Prod.fst)).flatten) ∧ i ≤ zs.length ∧ Aside0 (kq = zs.length - i ∧ Below w.heap.size w wr))
  case atStart => exact ⟨0, by first | rfl | simp, by first | rfl | simp, by omega, ⟨rfl, Below.refl _ _⟩⟩
  case round =>
    obtain ⟨i, rfl, rfl, hi, HI⟩ := hrel
    have HI0 := Aside0.mk HI.out.1
    by_cases hlt : i < zs.length
    · obtain ⟨z, hz⟩ : ∃ z, zs[i]? = some z := ⟨zs[i], List.getElem?_eq_getElem hlt⟩
      have hzm := List.mem_of_getElem? hz
      have hdr : (List.drop i (zs.map Prod.fst)).flatten = z.1 ++ (List.drop (i + 1) (zs.map Prod.fst)).flatten := by
        rw [List.drop_eq_getElem_cons (by rw [List.length_map]; exact hlt), List.flatten_cons]
        congr 1
        rw [List.getElem_map]
        rw [List.getElem?_eq_getElem hlt] at hz
        rw [Option.some.inj hz]
      have htk : (List.take (i + 1) (zs.map Prod.snd)).flatten = (List.take i (zs.map Prod.snd)).flatten ++ z.2 := by
        rw [List.take_add_one, List.getElem?_map, hz]; simp
      have hdl : (List.drop i (zs.map Prod.fst)).flatten.length ≤ 50000 := by
        have h1 : (List.drop i (zs.map Prod.fst)).flatten.length ≤ (zs.map Prod.fst).flatten.length := by
          conv => rhs; rw [← List.take_append_drop i (zs.map Prod.fst)]
          rw [List.flatten_append, List.length_append]; omega
        omega
      have hsl : (List.take (i + 1) (zs.map Prod.snd)).flatten.length ≤ 50000 := by
        have h1 : (List.take (i + 1) (zs.map Prod.snd)).flatten.length ≤ (zs.map Prod.snd).flatten.length := by
          conv => rhs; rw [← List.take_append_drop (i + 1) (zs.map Prod.snd)]
          rw [List.flatten_append, List.length_append]; omega
        omega
      have hcat : Bs (40 :: (List.take i (zs.map Prod.snd)).flatten) ++ Bs z.2 = Bs (40 :: (List.take (i + 1) (zs.map Prod.snd)).flatten) := by rw [Bs_app, htk]; rfl
      have hszc : (9223372036854775807 < (Bs (40 :: (List.take i (zs.map Prod.snd)).flatten)).size + (Bs z.2).size) = False := eq_false (by
        rw [htk, List.length_append] at hsl
        rw [Bs_size, Bs_size, List.length_cons]; omega)
      have hone := do_calls z.1 (List.drop (i + 1) (zs.map Prod.fst)).flatten (HT.out z hzm) (by rw [← hdr]; omega)
      rw [← hdr] at hone
      have hne : ((Bs (List.drop i (zs.map Prod.fst)).flatten).toList == ([] : List UInt8)) = false := by
        rw [toList_bl, bl_Bs]
        refine beq_eq_false_iff_ne.mpr fun e => ?_
        have h1 := (HT.out z hzm).len
        rw [hdr] at e
        have h2 := congrArg List.length e
        rw [List.length_append, List.length_nil] at h2
        omega
      have HO := Aside0.mk hone
      have HD := Aside0.mk (IH.out z hzm)
      clear hone hz hzm hdr htk hdl hsl
      go_wp2_with fail
      refine (HO.out _).mono ?_
      rintro e1 w2 ⟨rfl, hb⟩
      have HB2 := Aside0.mk (below_step HI.out.2 hb)
      clear hb
      go_wp2_with fail
      refine (HD.out _).mono ?_
      rintro e1 w3 ⟨rfl, hb⟩
      have HB3 := Aside0.mk (below_step HB2.out hb)
      clear hb
      go_wp2_with fail
      go_roundg (zs.length - (i + 1))
      case measure => have := HI0.out; omega
      case rel => exact ⟨i + 1, by first | rfl | simp, by first | rfl | simp, by omega, ⟨rfl, HB3.out⟩⟩
    · have hie : List.take i (zs.map Prod.snd) = zs.map Prod.snd := List.take_of_length_le (by rw [List.length_map]; omega)
      have hde : (List.drop i (zs.map Prod.fst)).flatten = [] := by rw [List.drop_eq_nil_of_le (by rw [List.length_map]; omega)]; rfl
      rw [hie, hde]
      have hne : ((Bs []).toList == ([] : List UInt8)) = true := by rw [toList_bl, bl_Bs]; rfl
      have hcat : Bs (40 :: (zs.map Prod.snd).flatten) ++ (⟨#[41]⟩ : ByteArray) = Bs (40 :: ((zs.map Prod.snd).flatten ++ [41])) := Bs_app (40 :: (zs.map Prod.snd).flatten) [41]
      have hszc : (9223372036854775807 < (Bs (40 :: (zs.map Prod.snd).flatten)).size + 1) = False := eq_false (by rw [Bs_size, List.length_cons]; omega)
      clear hie hde
      go_wp2_with fail
      go_ret
      exact ⟨rfl, HI.out.2⟩
/-- doorType turns a signature into its type's text. -/
theorem dt_z {A B E : Int} {l t : List UInt8} (z : Z A B E l t) : A ≤ 32 → B ≤ 32 → E ≤ 32 → l.length ≤ 255 → DT l t := by
  refine Z.ind (P := fun A B E l t => A ≤ 32 → B ≤ 32 → E ≤ 32 → l.length ≤ 255 → DT l t) ?_ ?_ ?_ ?_ z
  · intro A B E c h1 h2 h3 hc _ _ _ _
    exact dt_one c hc
  · intro A B E x y h1 h2 h3 hz ih ha hb he hl
    obtain ⟨d, r, rfl, hd, _⟩ := hz.t.head
    have hlen := hz.len
    simp only [List.length_cons] at hl hlen
    exact dt_arr d r y hd (by omega) (by omega) (ih (by omega) hb he (by rw [List.length_cons]; omega))
  · intro A B E c x y h1 h2 h3 hc hz ih ha hb he hl
    have hlen := hz.len
    simp only [List.length_cons, List.length_append, List.length_nil] at hl
    exact dt_dict c x y (key_one hc) (by omega) (by omega) (ih (by omega) hb (by omega) (by omega))
  · intro A B E zs h1 h2 h3 hn hz ih ha hb he hl
    have hnl := num_len zs hz
    simp only [List.length_cons, List.length_append, List.length_nil] at hl
    refine dt_str zs (fun z hzm => (hz z hzm).t.more ha (by omega) he) (by omega) (by omega) fun z hzm => ?_
    have := sum_len zs z hzm
    exact ih z hzm ha (by omega) he (by omega)

end Go.Proofs.YtboioihppjhjcaaDoor.MFnSgOf

namespace Go.Proofs.YtboioihppjhjcaaDoor.MFnSgOf
open Go.RowKit Go.Proofs.YtboioihppjhjcaaDoorW.PrintWords Go.Proofs.YtboioihppjhjcaaDoorW.PrintLast Go.Proofs.YtboioihppjhjcaaDoorW.PrintMore
attribute [local go_sem] max2_int min2_int max_two min_two max_three min_three max_four min_four
set_option linter.unusedVariables false
set_option linter.unusedSimpArgs false

open Go.Proofs.YtboioihppjhjcaaDoor.Hlp Go.Proofs.YtboioihppjhjcaaDoor.SgT Go.Proofs.YtboioihppjhjcaaDoor.SgZ
/-- A value whose type's text is t wherever the blocks S are as they are in w. -/
def TyS (w : World) (S : Nat → Prop) (v : Value) (t : List UInt8) : Prop := (∀ k, S k → k < w.heap.size) ∧ ∀ W : World, (∀ k, S k → W.heap[k]? = w.heap[k]?) → Calls Tryd.prog 36 #[v] W fun e w' => e = .returned (.string (Bs t)) ∧ Below W.heap.size W w'
theorem TyS.is {w : World} {S : Nat → Prop} {v : Value} {t : List UInt8} (h : TyS w S v t) : TyIs w v t := fun W hW => h.2 W fun k hk => hW.block k (h.1 k hk)
theorem TyS.move {w w' : World} {S : Nat → Prop} {v : Value} {t : List UInt8} (h : TyS w S v t) (hs : w.heap.size ≤ w'.heap.size) (hk : ∀ k, S k → w'.heap[k]? = w.heap[k]?) : TyS w' S v t := ⟨fun k hS => by have := h.1 k hS; omega, fun W hW => h.2 W fun k hS => (hW k hS).trans (hk k hS)⟩
theorem TyS.up {w w' : World} {S : Nat → Prop} {v : Value} {t : List UInt8} (h : TyS w S v t) (hb : Below w.heap.size w w') : TyS w' S v t := h.move hb.size fun k hS => hb.block k (h.1 k hS)
theorem tys_none {v : Value} {t : List UInt8} (h : ∀ W, TyIs W v t) (w : World) : TyS w (fun _ => False) v t := ⟨fun _ h => h.elim, fun W _ => h W W (Below.refl _ _)⟩
theorem tys_list (w : World) (L : Nat) (E : List UInt8) (v : Value) (hE : E.length ≤ 100000) (h : w.heap[L]? = some (.cells #[.string (Bs E), v] 104 (0, 0))) : TyS w (fun k => k = L) (.iface 101 (.pointer (some ⟨L, 0, none⟩))) (91 :: E) :=
  ⟨fun k hk => by subst hk; exact (Array.getElem?_eq_some_iff.1 h).1, fun W hW => zt_list W L E v hE ((hW L rfl).trans h) W (Below.refl _ _)⟩
theorem tys_dict (w : World) (L : Nat) (c : UInt8) (E : List UInt8) (v2 v3 : Value) (hE : E.length ≤ 100000) (h : w.heap[L]? = some (.cells #[.string (Bs [c]), .string (Bs E), v2, v3] 108 (0, 0))) : TyS w (fun k => k = L) (.iface 105 (.pointer (some ⟨L, 0, none⟩))) (123 :: c :: E) :=
  ⟨fun k hk => by subst hk; exact (Array.getElem?_eq_some_iff.1 h).1, fun W hW => zt_dict W L c E v2 v3 hE ((hW L rfl).trans h) W (Below.refl _ _)⟩
/-- What doorIn gives of a value: one of a type whose text is t, its blocks new; of a key, one that can be compared. -/
def DV (x : S53) (t : List UInt8) : Prop := ∀ A c3 w, Kd.C k53 w A x.f3.length x.f3 → Calls Tryd.prog 37 #[.agg #[.int .u8 x.f0, .int .u64 x.f1, .string x.f2, .slice A x.f3.length c3]] w fun e w' => ∃ d u S, e = .returned (.iface d u) ∧ TyS w' S (.iface d u) t ∧ (∀ k, S k → w.heap.size ≤ k) ∧ Below w.heap.size w w' ∧ ∀ c, keyC c = true → t = [c] → BV c (.iface d u)

theorem run_frombits (n : Int) (w : World) : (callFunc 56 #[.int .u64 n]).run Tryd.prog w = .ok (.value (.float .f64 n.toNat)) w := by
  rw [run_callFunc_extern (e := Extern.MathFloatBits.float64frombits) Tryd.func56 (by kernel_rfl) (by kernel_rfl) (by kernel_rfl) (by kernel_rfl)]
  rfl
set_option maxRecDepth 100000 in
set_option maxHeartbeats 4000000 in
theorem dv_121 (n : Int) (s : ByteArray) (A : Option Addr) (m c3 : Nat) (w : World) : Calls Tryd.prog 37 #[.agg #[.int .u8 121, .int .u64 n, .string s, .slice A m c3]] w fun e w' => ∃ x, e = .returned (.iface 5 (.int .u8 x)) ∧ Below w.heap.size w w' := by
  go_enter Tryd.func37, Tryd.ntmps37
  go_wp2
  go_ret
  exact ⟨_, rfl, below_alloc (Below.refl _ _) _⟩
set_option maxRecDepth 100000 in
set_option maxHeartbeats 4000000 in
theorem dv_98 (n : Int) (s : ByteArray) (A : Option Addr) (m c3 : Nat) (w : World) : Calls Tryd.prog 37 #[.agg #[.int .u8 98, .int .u64 n, .string s, .slice A m c3]] w fun e w' => ∃ x, e = .returned (.iface 4 (.bool x)) ∧ Below w.heap.size w w' := by
  go_enter Tryd.func37, Tryd.ntmps37
  go_wp2
  go_ret
  exact ⟨_, rfl, below_alloc (Below.refl _ _) _⟩
set_option maxRecDepth 100000 in
set_option maxHeartbeats 4000000 in
theorem dv_110 (n : Int) (s : ByteArray) (A : Option Addr) (m c3 : Nat) (w : World) : Calls Tryd.prog 37 #[.agg #[.int .u8 110, .int .u64 n, .string s, .slice A m c3]] w fun e w' => ∃ x, e = .returned (.iface 77 (.int .i16 x)) ∧ Below w.heap.size w w' := by
  go_enter Tryd.func37, Tryd.ntmps37
  go_wp2
  go_ret
  exact ⟨_, rfl, below_alloc (Below.refl _ _) _⟩
set_option maxRecDepth 100000 in
set_option maxHeartbeats 4000000 in
theorem dv_113 (n : Int) (s : ByteArray) (A : Option Addr) (m c3 : Nat) (w : World) : Calls Tryd.prog 37 #[.agg #[.int .u8 113, .int .u64 n, .string s, .slice A m c3]] w fun e w' => ∃ x, e = .returned (.iface 93 (.int .u16 x)) ∧ Below w.heap.size w w' := by
  go_enter Tryd.func37, Tryd.ntmps37
  go_wp2
  go_ret
  exact ⟨_, rfl, below_alloc (Below.refl _ _) _⟩
set_option maxRecDepth 100000 in
set_option maxHeartbeats 4000000 in
theorem dv_105 (n : Int) (s : ByteArray) (A : Option Addr) (m c3 : Nat) (w : World) : Calls Tryd.prog 37 #[.agg #[.int .u8 105, .int .u64 n, .string s, .slice A m c3]] w fun e w' => ∃ x, e = .returned (.iface 21 (.int .i32 x)) ∧ Below w.heap.size w w' := by
  go_enter Tryd.func37, Tryd.ntmps37
  go_wp2
  go_ret
  exact ⟨_, rfl, below_alloc (Below.refl _ _) _⟩
set_option maxRecDepth 100000 in
set_option maxHeartbeats 4000000 in
theorem dv_117 (n : Int) (s : ByteArray) (A : Option Addr) (m c3 : Nat) (w : World) : Calls Tryd.prog 37 #[.agg #[.int .u8 117, .int .u64 n, .string s, .slice A m c3]] w fun e w' => ∃ x, e = .returned (.iface 94 (.int .u32 x)) ∧ Below w.heap.size w w' := by
  go_enter Tryd.func37, Tryd.ntmps37
  go_wp2
  go_ret
  exact ⟨_, rfl, below_alloc (Below.refl _ _) _⟩
set_option maxRecDepth 100000 in
set_option maxHeartbeats 4000000 in
theorem dv_120 (n : Int) (s : ByteArray) (A : Option Addr) (m c3 : Nat) (w : World) : Calls Tryd.prog 37 #[.agg #[.int .u8 120, .int .u64 n, .string s, .slice A m c3]] w fun e w' => ∃ x, e = .returned (.iface 2 (.int .i64 x)) ∧ Below w.heap.size w w' := by
  go_enter Tryd.func37, Tryd.ntmps37
  go_wp2
  go_ret
  exact ⟨_, rfl, below_alloc (Below.refl _ _) _⟩
set_option maxRecDepth 100000 in
set_option maxHeartbeats 4000000 in
theorem dv_116 (n : Int) (s : ByteArray) (A : Option Addr) (m c3 : Nat) (w : World) : Calls Tryd.prog 37 #[.agg #[.int .u8 116, .int .u64 n, .string s, .slice A m c3]] w fun e w' => ∃ x, e = .returned (.iface 29 (.int .u64 x)) ∧ Below w.heap.size w w' := by
  go_enter Tryd.func37, Tryd.ntmps37
  go_wp2
  go_ret
  exact ⟨_, rfl, below_alloc (Below.refl _ _) _⟩
set_option maxRecDepth 100000 in
set_option maxHeartbeats 4000000 in
theorem dv_100 (n : Int) (s : ByteArray) (A : Option Addr) (m c3 : Nat) (w : World) : Calls Tryd.prog 37 #[.agg #[.int .u8 100, .int .u64 n, .string s, .slice A m c3]] w fun e w' => ∃ x, e = .returned (.iface 95 (.float .f64 x)) ∧ Below w.heap.size w w' := by
  have hfb := run_frombits n
  go_enter Tryd.func37, Tryd.ntmps37
  go_wp2
  go_ret
  exact ⟨_, rfl, below_alloc (Below.refl _ _) _⟩
set_option maxRecDepth 100000 in
set_option maxHeartbeats 4000000 in
theorem dv_115 (n : Int) (s : ByteArray) (A : Option Addr) (m c3 : Nat) (w : World) : Calls Tryd.prog 37 #[.agg #[.int .u8 115, .int .u64 n, .string s, .slice A m c3]] w fun e w' => ∃ x, e = .returned (.iface 9 (.string x)) ∧ Below w.heap.size w w' := by
  go_enter Tryd.func37, Tryd.ntmps37
  go_wp2
  go_ret
  exact ⟨_, rfl, below_alloc (Below.refl _ _) _⟩
set_option maxRecDepth 100000 in
set_option maxHeartbeats 4000000 in
theorem dv_111 (n : Int) (s : ByteArray) (A : Option Addr) (m c3 : Nat) (w : World) : Calls Tryd.prog 37 #[.agg #[.int .u8 111, .int .u64 n, .string s, .slice A m c3]] w fun e w' => ∃ x, e = .returned (.iface 96 (.string x)) ∧ Below w.heap.size w w' := by
  go_enter Tryd.func37, Tryd.ntmps37
  go_wp2
  go_ret
  exact ⟨_, rfl, below_alloc (Below.refl _ _) _⟩
set_option maxRecDepth 100000 in
set_option maxHeartbeats 4000000 in
theorem dv_103 (n : Int) (s : ByteArray) (A : Option Addr) (m c3 : Nat) (w : World) : Calls Tryd.prog 37 #[.agg #[.int .u8 103, .int .u64 n, .string s, .slice A m c3]] w fun e w' => ∃ x, e = .returned (.iface 43 (.agg #[.string x])) ∧ Below w.heap.size w w' := by
  go_enter Tryd.func37, Tryd.ntmps37
  go_wp2
  go_ret
  exact ⟨_, rfl, below_alloc (Below.refl _ _) _⟩
set_option maxRecDepth 100000 in
set_option maxHeartbeats 4000000 in
theorem dv_104 (n : Int) (s : ByteArray) (A : Option Addr) (m c3 : Nat) (w : World) : Calls Tryd.prog 37 #[.agg #[.int .u8 104, .int .u64 n, .string s, .slice A m c3]] w fun e w' => ∃ x, e = .returned (.iface 100 (.int .u32 x)) ∧ Below w.heap.size w w' := by
  go_enter Tryd.func37, Tryd.ntmps37
  go_wp2
  go_ret
  exact ⟨_, rfl, below_alloc (Below.refl _ _) _⟩
set_option maxRecDepth 100000 in
set_option maxHeartbeats 4000000 in
theorem dv_leaf (x : S53) (c : UInt8) (hc : basicC c = true) (h0 : x.f0 = (c.toNat : Int)) : DV x [c] := by
  intro A c3 w _
  rw [h0]
  simp only [basicC, Bool.or_eq_true, beq_iff_eq] at hc
  rcases hc with ((((((((((((hc | hc) | hc) | hc) | hc) | hc) | hc) | hc) | hc) | hc) | hc) | hc) | hc) <;> subst hc
  · refine (dv_121 x.f1 x.f2 A x.f3.length c3 w).mono ?_
    rintro e w' ⟨y, rfl, hb⟩
    refine ⟨_, _, _, rfl, tys_none (fun W => zt_121 y W) w', fun k hk => hk.elim, hb, ?_⟩
    rintro c hc e
    obtain rfl := List.singleton_inj.1 e
    unfold BV; left; exact ⟨rfl, y, rfl⟩
  · refine (dv_98 x.f1 x.f2 A x.f3.length c3 w).mono ?_
    rintro e w' ⟨y, rfl, hb⟩
    refine ⟨_, _, _, rfl, tys_none (fun W => zt_98 y W) w', fun k hk => hk.elim, hb, ?_⟩
    rintro c hc e
    obtain rfl := List.singleton_inj.1 e
    exact absurd hc (by decide)
  · refine (dv_110 x.f1 x.f2 A x.f3.length c3 w).mono ?_
    rintro e w' ⟨y, rfl, hb⟩
    refine ⟨_, _, _, rfl, tys_none (fun W => zt_110 y W) w', fun k hk => hk.elim, hb, ?_⟩
    rintro c hc e
    obtain rfl := List.singleton_inj.1 e
    unfold BV; right; left; exact ⟨rfl, y, rfl⟩
  · refine (dv_113 x.f1 x.f2 A x.f3.length c3 w).mono ?_
    rintro e w' ⟨y, rfl, hb⟩
    refine ⟨_, _, _, rfl, tys_none (fun W => zt_113 y W) w', fun k hk => hk.elim, hb, ?_⟩
    rintro c hc e
    obtain rfl := List.singleton_inj.1 e
    unfold BV; right; right; left; exact ⟨rfl, y, rfl⟩
  · refine (dv_105 x.f1 x.f2 A x.f3.length c3 w).mono ?_
    rintro e w' ⟨y, rfl, hb⟩
    refine ⟨_, _, _, rfl, tys_none (fun W => zt_105 y W) w', fun k hk => hk.elim, hb, ?_⟩
    rintro c hc e
    obtain rfl := List.singleton_inj.1 e
    unfold BV; right; right; right; left; exact ⟨rfl, y, rfl⟩
  · refine (dv_117 x.f1 x.f2 A x.f3.length c3 w).mono ?_
    rintro e w' ⟨y, rfl, hb⟩
    refine ⟨_, _, _, rfl, tys_none (fun W => zt_117 y W) w', fun k hk => hk.elim, hb, ?_⟩
    rintro c hc e
    obtain rfl := List.singleton_inj.1 e
    unfold BV; right; right; right; right; left; exact ⟨rfl, y, rfl⟩
  · refine (dv_120 x.f1 x.f2 A x.f3.length c3 w).mono ?_
    rintro e w' ⟨y, rfl, hb⟩
    refine ⟨_, _, _, rfl, tys_none (fun W => zt_120 y W) w', fun k hk => hk.elim, hb, ?_⟩
    rintro c hc e
    obtain rfl := List.singleton_inj.1 e
    unfold BV; right; right; right; right; right; left; exact ⟨rfl, y, rfl⟩
  · refine (dv_116 x.f1 x.f2 A x.f3.length c3 w).mono ?_
    rintro e w' ⟨y, rfl, hb⟩
    refine ⟨_, _, _, rfl, tys_none (fun W => zt_116 y W) w', fun k hk => hk.elim, hb, ?_⟩
    rintro c hc e
    obtain rfl := List.singleton_inj.1 e
    unfold BV; right; right; right; right; right; right; left; exact ⟨rfl, y, rfl⟩
  · refine (dv_100 x.f1 x.f2 A x.f3.length c3 w).mono ?_
    rintro e w' ⟨y, rfl, hb⟩
    refine ⟨_, _, _, rfl, tys_none (fun W => zt_100 y W) w', fun k hk => hk.elim, hb, ?_⟩
    rintro c hc e
    obtain rfl := List.singleton_inj.1 e
    unfold BV; right; right; right; right; right; right; right; left; exact ⟨rfl, y, rfl⟩
  · refine (dv_115 x.f1 x.f2 A x.f3.length c3 w).mono ?_
    rintro e w' ⟨y, rfl, hb⟩
    refine ⟨_, _, _, rfl, tys_none (fun W => zt_115 y W) w', fun k hk => hk.elim, hb, ?_⟩
    rintro c hc e
    obtain rfl := List.singleton_inj.1 e
    unfold BV; right; right; right; right; right; right; right; right; left; exact ⟨rfl, y, rfl⟩
  · refine (dv_111 x.f1 x.f2 A x.f3.length c3 w).mono ?_
    rintro e w' ⟨y, rfl, hb⟩
    refine ⟨_, _, _, rfl, tys_none (fun W => zt_111 y W) w', fun k hk => hk.elim, hb, ?_⟩
    rintro c hc e
    obtain rfl := List.singleton_inj.1 e
    unfold BV; right; right; right; right; right; right; right; right; right; left; exact ⟨rfl, y, rfl⟩
  · refine (dv_103 x.f1 x.f2 A x.f3.length c3 w).mono ?_
    rintro e w' ⟨y, rfl, hb⟩
    refine ⟨_, _, _, rfl, tys_none (fun W => zt_103 y W) w', fun k hk => hk.elim, hb, ?_⟩
    rintro c hc e
    obtain rfl := List.singleton_inj.1 e
    exact absurd hc (by decide)
  · refine (dv_104 x.f1 x.f2 A x.f3.length c3 w).mono ?_
    rintro e w' ⟨y, rfl, hb⟩
    refine ⟨_, _, _, rfl, tys_none (fun W => zt_104 y W) w', fun k hk => hk.elim, hb, ?_⟩
    rintro c hc e
    obtain rfl := List.singleton_inj.1 e
    unfold BV; right; right; right; right; right; right; right; right; right; right; exact ⟨rfl, y, rfl⟩
set_option maxRecDepth 100000 in
set_option maxHeartbeats 4000000 in
theorem dv_var (x y : S53) (l t : List UInt8) (h0 : x.f0 = 118) (h3 : x.f3 = [y]) (hz : Z 32 32 32 l t) (hl : l.length ≤ 255) (ih : DV y t) : DV x [118] := by
  intro A c3 w hC
  rw [h0, h3]
  rw [h3] at hC
  have hC2 : Kd.C k53 w A 1 [y] := hC
  obtain ⟨ad, A3, c4, rfl, q0, q1, q2, q3, hl4, hC3⟩ := at_T53 hC2 0 (by omega) (by omega)
  have hrd : rd_T53 [y] 0 = y := rfl
  rw [hrd] at q0 q1 q2 q3 hl4 hC3
  have hadd : ad.add 0 = ad := by unfold Addr.add; split <;> simp_all
  simp only [Int.toNat_zero, Nat.zero_mul, hadd] at q0 q1 q2 q3
  have hbb := below_alloc (Below.refl w.heap.size w) (.cells #[.int .u8 118, .int .u64 x.f1, .string x.f2, .slice (some ad) 1 c3] 53)
  have p0 := pw_cell_below hbb q0
  have p1 := pw_cell_below hbb q1
  have p2 := pw_cell_below hbb q2
  have p3 := pw_cell_below hbb q3
  have IH := Aside0.mk (ih A3 c4 _ (Kd.C_below hC3 hbb))
  have HBB := Aside0.mk hbb
  clear hC hC2 hC3 ih hbb q0 q1 q2 q3
  go_enter Tryd.func37, Tryd.ntmps37
  go_wp2_with fail
  refine IH.out.mono ?_
  rintro e1 w2 ⟨d, u, S, rfl, hT, _, hb, _⟩
  have HT := Aside0.mk hT.is
  have HB := Aside0.mk (below_step HBB.out hb)
  clear hT hb
  go_wp2_with fail
  refine (mv_calls d u l t hz hl _ HT.out).mono ?_
  rintro e1 w3 ⟨rfl, hb⟩
  have HB3 := Aside0.mk (below_step HB.out hb)
  clear hb
  go_wp2_with fail
  go_ret
  refine ⟨_, _, _, rfl, tys_none (fun W => zt_118 _ _ _ W) _, fun k hk => hk.elim, HB3.out, ?_⟩
  rintro c hc e
  obtain rfl := List.singleton_inj.1 e
  exact absurd hc (by decide)


end Go.Proofs.YtboioihppjhjcaaDoor.MFnSgOf

namespace Go.Proofs.YtboioihppjhjcaaDoor.MFnSgOf
open Go.RowKit Go.Proofs.YtboioihppjhjcaaDoorW.PrintWords Go.Proofs.YtboioihppjhjcaaDoorW.PrintLast Go.Proofs.YtboioihppjhjcaaDoorW.PrintMore
attribute [local go_sem] max2_int min2_int max_two min_two max_three min_three max_four min_four
set_option linter.unusedVariables false
set_option linter.unusedSimpArgs false

open Go.Proofs.YtboioihppjhjcaaDoor.Hlp Go.Proofs.YtboioihppjhjcaaDoor.SgT Go.Proofs.YtboioihppjhjcaaDoor.SgZ
attribute [-go_sem] Builtin.append_
theorem ap_any {W6 : World} (base L : Nat) (hLb : L < base) (row : Obj) (v : Value) (i : Nat) (vs : List Value) (hO : W6.ownsRow base 20 1 v i vs) (hL : W6.heap[L]? = some row) (hsz : base ≤ W6.heap.size) (hi : i ≤ 100000) (d : TypeId) (u : Value) :
    ∃ A1 c1 w7, (Builtin.append_ #[50, 50] 50 #[v, .slice (some ⟨W6.heap.size, 0, none⟩) 1 1]).run Tryd.prog (W6.alloc (.cells #[.iface d u] 20)) = .ok (.slice A1 (i + 1) c1) w7 ∧ w7.ownsRow base 20 1 (.slice A1 (i + 1) c1) (i + 1) (vs ++ [.iface d u]) ∧ Below base W6 w7 ∧ w7.heap[L]? = some row ∧ (∀ k, k < W6.heap.size → v.ownBlock ≠ some k → w7.heap[k]? = W6.heap[k]?) ∧ ((Value.slice A1 (i + 1) c1).ownBlock = v.ownBlock ∨ ∃ b, (Value.slice A1 (i + 1) c1).ownBlock = some b ∧ W6.heap.size ≤ b) := by
  obtain ⟨i0, hi0, hz0⟩ := Option.map_eq_some_iff.1 info20
  simp only [Prod.mk.injEq] at hz0
  obtain ⟨v1, w7, hr, hown, hg, _, hat⟩ := run_append_own_at (P := Tryd.prog) (W6.alloc (.cells #[.iface d u] 20)) base 50 50 20 i0 .nilIface 1 16 Tryd.underlying50 hi0 hz0.1 hz0.2.1 hz0.2.2 rfl (by omega) v i _ (hO.alloc _) ⟨W6.heap.size, 0, none⟩ 1 1 [.iface d u] rfl
    (World.news_of_block (cs := #[.iface d u]) (t := 20) (fr := (0, 0)) (heap_alloc_new W6 _)) (by intro x hx; rw [List.mem_singleton.1 hx]; rfl) (by unfold maxLen; omega) (by omega) (by simp; omega)
  obtain ⟨A1, c1, rfl⟩ := own_slice hown
  have hG := World.grownBy.trans (World.grownBy_alloc W6 (.cells #[.iface d u] 20) v.ownBlock) hg
  have hob : ∀ k, v.ownBlock = some k → base ≤ k := fun k hk => own_base hO k hk
  refine ⟨A1, c1, w7, hr, hown, ⟨hG.os, hG.tape, hG.output, hG.size, fun k hk => hG.block k (by omega) (fun h => by have := hob k h.symm; omega)⟩, grown_far hG (fun e => by have := hob _ e; omega) hL, fun k hk hne => hG.block k hk (fun e => hne e.symm), ?_⟩
  rcases hat with hat | hat
  · exact .inl hat
  · exact .inr ⟨_, hat, by simp⟩
set_option maxRecDepth 100000 in
set_option maxHeartbeats 16000000 in
theorem dv_list (x : S53) (l0 : UInt8) (ls te : List UInt8) (h0 : x.f0 = 97) (h2 : x.f2 = Bs (l0 :: ls)) (hne : l0 ≠ 123) (hdt : DT (l0 :: ls) te) (hte : te.length ≤ 100000) (hn : x.f3.length ≤ 1000) (ih : ∀ y ∈ x.f3, ∃ t, DV y t) : DV x (91 :: te) := by
  intro A c3 w hC
  rw [h0, h2]
  obtain ⟨n, hnn⟩ : ∃ n, x.f3.length = n := ⟨_, rfl⟩
  have HC := Aside0.mk hC
  rw [hnn] at hn ⊢
  obtain ⟨s, hs⟩ : ∃ s, Bs (l0 :: ls) = s := ⟨_, rfl⟩
  have hi0 : ∀ h : 0 < s.size, ((s[0]'h).toNat : Int) = (l0.toNat : Int) := by subst hs; exact idx0 l0 ls
  have n1 : (((l0.toNat : Nat) : Int) == 123) = false := beq_eq_false_iff_ne.mpr (num_ne hne)
  have q0 : 0 < s.size := by rw [← hs, Bs_size]; simp
  have q1 : (0 < s.size) = True := eq_true q0
  have q2 : ((0 : Int) < (s.size : Int)) = True := eq_true (by omega)
  have q3 : (s.toList == ([] : List UInt8)) = false := by rw [← hs, toList_bl, bl_Bs]; exact beq_eq_false_iff_ne.mpr (by simp)
  unfold DT at hdt
  rw [hs] at hdt ⊢
  have HDT := Aside0.mk hdt
  have IH := Aside0.mk ih
  have HNN := Aside0.mk hnn
  have hbb := below_alloc (Below.refl w.heap.size w) (.cells #[.int .u8 97, .int .u64 x.f1, .string s, .slice A n c3] 53)
  have c1 : (w.alloc (.cells #[.int .u8 97, .int .u64 x.f1, .string s, .slice A n c3] 53)).heap[w.heap.size]? = some (.cells #[.int .u8 97, .int .u64 x.f1, .string s, .slice A n c3] 53 (0, 0)) := heap_alloc_new w _
  have HBB := Aside0.mk hbb
  have C1 := Aside0.mk c1
  generalize (l0.toNat : Int) = D at *
  clear hdt ih hC hs hbb c1 q0 hne h0 h2 hnn
  go_enter Tryd.func37, Tryd.ntmps37
  go_wp2_with fail
  refine (HDT.out _).mono ?_
  rintro e1 w2 ⟨rfl, hb⟩
  have HB2 := Aside0.mk (below_step HBB.out hb)
  have C2 := up_heap2 hb C1.out
  have p3 : w2.cell? ⟨w.heap.size, 3, none⟩ = some (.slice A n c3) := (cell_of_row w2 w.heap.size 3 _ 53 (0, 0) C2).trans rfl
  have hw2 : w.heap.size < w2.heap.size := (Array.getElem?_eq_some_iff.1 C2).1
  have p3a := fun o => pw_cell_below (below_alloc (Below.refl w2.heap.size w2) o) p3
  clear hb C2
  go_wp2_with fail
  have hL0 := heap_alloc_new w2 (.cells #[.string (Bs te), .slice none 0 0] 104)
  have HB3 := Aside0.mk (below_alloc HB2.out (.cells #[.string (Bs te), .slice none 0 0] 104))
  have hO0 := World.ownsRow_nil (w2.alloc (.cells #[.string (Bs te), .slice none 0 0] 104)) (w2.heap.size + 1) 20 1
  have HL0 := Aside0.mk (And.intro hL0 hO0)
  obtain ⟨L, hL⟩ : ∃ L, w2.heap.size = L := ⟨_, rfl⟩
  simp only [hL] at HL0 hw2 ⊢
  clear hL0 hO0 p3 p3a
  generalize w2.alloc (.cells #[.string (Bs te), .slice none 0 0] 104) = W0 at *
  go_loopg [166] n (fun kq v166 wr => ∃ (i : Nat) (v : Value) (vs : List Value), v166 = .int .i64 (i : Int) ∧ i ≤ n ∧ Aside0 (kq = n - i ∧ Below w.heap.size w wr ∧ wr.heap[L]? = some (.cells #[.string (Bs te), v] 104 (0, 0)) ∧ wr.ownsRow (L + 1) 20 1 v i vs))
  case atStart => exact ⟨0, .slice none 0 0, [], rfl, by omega, ⟨rfl, HB3.out, HL0.out.1, HL0.out.2⟩⟩
  case round =>
    obtain ⟨i, v, vs, rfl, hi, HI⟩ := hrel
    have HI0 := Aside0.mk HI.out.1
    by_cases hlt : i < n
    · have hd : decide ((i : Int) < (n : Int)) = true := by simpa using hlt
      have hwi : IntKind.i64.wrap ((i : Int) + 1) = ((i + 1 : Nat) : Int) := by rw [IntKind.wrap_i64]; omega
      have hix : i < x.f3.length := by rw [HNN.out]; exact hlt
      obtain ⟨ad, A3, c4, rfl, q0, q1, q2, q3, hl4, hC3⟩ := at_T53 HC.out (i : Int) (by omega) (by omega)
      have hrd : rd_T53 x.f3 (i : Int) = x.f3[i] := by
        unfold rd_T53
        rw [Int.toNat_natCast, List.getD_eq_getElem?_getD, List.getElem?_eq_getElem hix]
        rfl
      obtain ⟨y, hy⟩ : ∃ y, x.f3[i] = y := ⟨_, rfl⟩
      rw [hrd, hy] at q0 q1 q2 q3 hl4 hC3
      obtain ⟨t, hDV⟩ := IH.out y (hy ▸ List.getElem_mem hix)
      have HDV := Aside0.mk hDV
      have HC3 := Aside0.mk hC3
      replace q0 := pw_cell_below HI.out.2.1 q0
      replace q1 := pw_cell_below HI.out.2.1 q1
      replace q2 := pw_cell_below HI.out.2.1 q2
      replace q3 := pw_cell_below HI.out.2.1 q3
      clear hrd hDV hC3 hy hix
      simp only [Int.toNat_natCast] at q0 q1 q2 q3
      go_wp2_with fail
      have h5 := heap_alloc_new wr (.cells #[.int .u8 y.f0, .int .u64 y.f1, .string y.f2, .slice A3 y.f3.length c4] 53)
      have hba := below_alloc (Below.refl wr.heap.size wr) (.cells #[.int .u8 y.f0, .int .u64 y.f1, .string y.f2, .slice A3 y.f3.length c4] 53)
      have hL5 := up_heap2 hba HI.out.2.2.1
      have hO5 := HI.out.2.2.2.alloc (.cells #[.int .u8 y.f0, .int .u64 y.f1, .string y.f2, .slice A3 y.f3.length c4] 53)
      have hB5 := below_step HI.out.2.1 hba
      generalize wr.alloc (.cells #[.int .u8 y.f0, .int .u64 y.f1, .string y.f2, .slice A3 y.f3.length c4] 53) = W5 at *
      generalize wr.heap.size = g5 at *
      have x0 : W5.drew.cell? ⟨g5, 0, none⟩ = some (.int .u8 y.f0) := (cell_of_row W5.drew g5 0 _ 53 (0, 0) h5).trans rfl
      have x1 : W5.drew.cell? ⟨g5, 1, none⟩ = some (.int .u64 y.f1) := (cell_of_row W5.drew g5 1 _ 53 (0, 0) h5).trans rfl
      have x2 : W5.drew.cell? ⟨g5, 2, none⟩ = some (.string y.f2) := (cell_of_row W5.drew g5 2 _ 53 (0, 0) h5).trans rfl
      have x3 : W5.drew.cell? ⟨g5, 3, none⟩ = some (.slice A3 y.f3.length c4) := (cell_of_row W5.drew g5 3 _ 53 (0, 0) h5).trans rfl
      have y1 : W5.drew.cell? ⟨L, 1, none⟩ = some v := (cell_of_row W5.drew L 1 _ 104 (0, 0) hL5).trans rfl
      have HL5 : Aside0 (W5.drew.heap[L]? = some (.cells #[.string (Bs te), v] 104 (0, 0))) := ⟨hL5⟩
      have HO5 : Aside0 (W5.drew.ownsRow (L + 1) 20 1 v i vs) := ⟨hO5⟩
      have HB5 := Aside0.mk (below_drew1 hB5)
      clear h5 hba hL5 hO5 hB5 q0 q1 q2 q3
      go_region_with (first
        | (go_at_call 37; refine (HDV.out A3 c4 _ (Kd.C_below HC3.out HB5.out)).mono ?_; rintro e1 w6 ⟨d, u, Sx, rfl, _, _, hb, _⟩;
            have hL6 := up_heap2 hb HL5.out; have hB6 := below_step HB5.out hb; have y6 := pw_cell_below hb y1; have y6a := fun o => pw_cell_below (below_alloc (Below.refl w6.heap.size w6) o) y6;
            obtain ⟨A1, c1, w7, hr, hown, hg7, hL7, _, _⟩ := ap_any (L + 1) L (Nat.lt_succ_self L) _ v i vs (pw_own_below HO5.out hb) hL6 (Array.getElem?_eq_some_iff.1 hL6).1 (by omega) d u;
            have HO7 := Aside0.mk hown; have HB7 := Aside0.mk (hB6.trans (below_weaken hg7 (by omega))); have HL7 := Aside0.mk hL7; have f7 := frozen_of_row w7 L 1 _ 104 hL7; have y7 : w7.cell? ⟨L, 1, none⟩ = some v := (cell_of_row w7 L 1 _ 104 (0, 0) hL7).trans rfl; clear hb hown hg7 hL7 hL6 hB6))
      all_goals
        go_wp2
        go_roundg (n - (i + 1))
        case measure => have := HI0.out; omega
        case rel =>
          refine ⟨i + 1, _, vs ++ [.iface d u], by first | rfl | simp, hlt, ⟨rfl, HB7.out.setCell (by show w.heap.size ≤ L; omega) _, heap_setCell_same w7 L 1 _ 104 (.slice A1 (i + 1) c1) HL7.out, ?_⟩⟩
          exact own_setCell HO7.out (p := ⟨L, 1, none⟩) (fun e => by have := own_base HO7.out L e.symm; omega) _
    · have hd : decide ((i : Int) < (n : Int)) = false := by simpa using hlt
      go_wp2_with fail
      go_ret
      refine ⟨_, _, _, rfl, tys_list wr L te v hte HI.out.2.2.1, fun k hk => by subst hk; omega, HI.out.2.1, ?_⟩
      rintro c hc e
      simp at e
      obtain ⟨e1, e2⟩ := e
      subst e1
      exact absurd hc (by decide)

end Go.Proofs.YtboioihppjhjcaaDoor.MFnSgOf

namespace Go.Proofs.YtboioihppjhjcaaDoor.MFnSgOf
open Go.RowKit Go.Proofs.YtboioihppjhjcaaDoorW.PrintWords Go.Proofs.YtboioihppjhjcaaDoorW.PrintLast Go.Proofs.YtboioihppjhjcaaDoorW.PrintMore
attribute [local go_sem] max2_int min2_int max_two min_two max_three min_three max_four min_four
set_option linter.unusedVariables false
set_option linter.unusedSimpArgs false

open Go.Proofs.YtboioihppjhjcaaDoor.Hlp Go.Proofs.YtboioihppjhjcaaDoor.SgT Go.Proofs.YtboioihppjhjcaaDoor.SgZ
attribute [-go_sem] Builtin.append_
theorem TyS.at {w W : World} {S : Nat → Prop} {v : Value} {t : List UInt8} (h : TyS w S v t) (hW : ∀ k, S k → W.heap[k]? = w.heap[k]?) : TyIs W v t := fun W' hb => h.2 W' fun k hk => by
  have h1 := hW k hk
  have h2 : k < W.heap.size := by
    have h3 := h.1 k hk
    rw [Array.getElem?_eq_getElem h3] at h1
    exact (Array.getElem?_eq_some_iff.1 h1).1
  exact (hb.block k h2).trans h1
theorem tys_rec (w : World) (base lo : Nat) (A : Option Addr) (n c : Nat) (vs : List Value) (ts : List (List UInt8)) (hO : w.ownsRow base 20 1 (.slice A n c) n vs) (hlo : lo ≤ base) (ht : ts.length = n) (hn2 : n ≤ 1000) (hl : ts.flatten.length ≤ 100000)
    (hT : ∀ (j : Nat) u, vs[j]? = some u → ∃ t S, ts[j]? = some t ∧ TyS w S u t ∧ ∀ k, S k → lo ≤ k) : ∃ Sx, TyS w Sx (.iface 110 (.agg #[.slice A n c])) (40 :: (ts.flatten ++ [41])) ∧ ∀ k, Sx k → lo ≤ k := by
  refine ⟨fun k => (Value.slice A n c).ownBlock = some k ∨ ∃ (j : Nat) (u : Value) (t : List UInt8) (S : Nat → Prop), vs[j]? = some u ∧ ts[j]? = some t ∧ TyS w S u t ∧ (∀ k, S k → lo ≤ k) ∧ S k, ⟨?_, ?_⟩, ?_⟩
  · rintro k (hk | ⟨j, u, t, S, _, _, h, _, hk⟩)
    · exact own_lt hO k hk
    · exact h.1 k hk
  · intro W hW
    have hO2 := own_move hO (w1 := W) fun k hk => hW k (.inl hk)
    refine zt_rec W A n c vs ts (by simpa using hO.1) ht hn2 hl ?_ ?_ W (Below.refl _ _)
    · intro j v hv
      obtain ⟨g, e, _, hc⟩ := own_vals hO2 j v hv
      exact ⟨_, e, by rwa [show (⟨g, 0, none⟩ : Addr).add j = ⟨g, j, none⟩ by unfold Addr.add; split <;> simp_all]⟩
    · intro j v t hv htj
      obtain ⟨t', S, h1, h2, h3⟩ := hT j v hv
      obtain rfl := Option.some.inj (h1.symm.trans htj)
      exact h2.at fun k hk => hW k (.inr ⟨j, v, t', S, hv, h1, h2, h3, hk⟩)
  · rintro k (hk | ⟨j, u, t, S, _, _, _, h, hk⟩)
    · have := own_base hO k hk; omega
    · exact h k hk
set_option maxRecDepth 100000 in
set_option maxHeartbeats 16000000 in
theorem dv_rec (x : S53) (ts : List (List UInt8)) (h0 : x.f0 = 40) (hts : ts.length = x.f3.length) (htl : ts.flatten.length ≤ 100000) (hn : x.f3.length ≤ 1000) (ih : ∀ (j : Nat) y, x.f3[j]? = some y → ∃ t, ts[j]? = some t ∧ DV y t) : DV x (40 :: (ts.flatten ++ [41])) := by
  intro A c3 w hC
  rw [h0]
  obtain ⟨n, hnn⟩ : ∃ n, x.f3.length = n := ⟨_, rfl⟩
  have HC := Aside0.mk hC
  rw [hnn] at hn hts ⊢
  have IH := Aside0.mk ih
  have HNN := Aside0.mk hnn
  have HTS := Aside0.mk (And.intro hts htl)
  have hbb := below_alloc (Below.refl w.heap.size w) (.cells #[.int .u8 40, .int .u64 x.f1, .string x.f2, .slice A n c3] 53)
  have c1 : (w.alloc (.cells #[.int .u8 40, .int .u64 x.f1, .string x.f2, .slice A n c3] 53)).heap[w.heap.size]? = some (.cells #[.int .u8 40, .int .u64 x.f1, .string x.f2, .slice A n c3] 53 (0, 0)) := heap_alloc_new w _
  have hL0 := heap_alloc_new (w.alloc (.cells #[.int .u8 40, .int .u64 x.f1, .string x.f2, .slice A n c3] 53)) (.cells #[.slice none 0 0] 110)
  have hO0 := World.ownsRow_nil ((w.alloc (.cells #[.int .u8 40, .int .u64 x.f1, .string x.f2, .slice A n c3] 53)).alloc (.cells #[.slice none 0 0] 110)) (w.heap.size + 1 + 1) 20 1
  have c2 := up_heap2 (below_alloc (Below.refl _ _) (.cells #[.slice none 0 0] 110)) c1
  have p3 := (cell_of_row _ w.heap.size 3 _ 53 (0, 0) c2).trans rfl
  rw [World.size_alloc] at hL0
  have HB3 := Aside0.mk (below_alloc hbb (.cells #[.slice none 0 0] 110))
  have HL0 := Aside0.mk (And.intro hL0 hO0)
  clear ih hC hbb c1 c2 h0 hnn hL0 hO0 hts htl
  go_enter Tryd.func37, Tryd.ntmps37
  go_wp2_with fail
  obtain ⟨L, hL⟩ : ∃ L, w.heap.size + 1 = L := ⟨_, rfl⟩
  simp only [hL] at HL0 ⊢
  have hw2 : w.heap.size < L := by omega
  clear p3
  generalize (w.alloc (.cells #[.int .u8 40, .int .u64 x.f1, .string x.f2, .slice A n c3] 53)).alloc (.cells #[.slice none 0 0] 110) = W0 at *
  go_loopg [104] n (fun kq v166 wr => ∃ (i : Nat) (v : Value) (vs : List Value), v166 = .int .i64 (i : Int) ∧ i ≤ n ∧ Aside0 (kq = n - i ∧ Below w.heap.size w wr ∧ wr.heap[L]? = some (.cells #[v] 110 (0, 0)) ∧ wr.ownsRow (L + 1) 20 1 v i vs ∧ ∀ (j : Nat) u, vs[j]? = some u → ∃ t S, ts[j]? = some t ∧ TyS wr S u t ∧ ∀ k, S k → L + 1 ≤ k ∧ v.ownBlock ≠ some k))
  case atStart => exact ⟨0, .slice none 0 0, [], rfl, by omega, ⟨rfl, HB3.out, HL0.out.1, HL0.out.2, fun j u h => by simp at h⟩⟩
  case round =>
    obtain ⟨i, v, vs, rfl, hi, HI⟩ := hrel
    have HI0 := Aside0.mk HI.out.1
    by_cases hlt : i < n
    · have hd : decide ((i : Int) < (n : Int)) = true := by simpa using hlt
      have hwi : IntKind.i64.wrap ((i : Int) + 1) = ((i + 1 : Nat) : Int) := by rw [IntKind.wrap_i64]; omega
      have hix : i < x.f3.length := by rw [HNN.out]; exact hlt
      obtain ⟨ad, A3, c4, rfl, q0, q1, q2, q3, hl4, hC3⟩ := at_T53 HC.out (i : Int) (by omega) (by omega)
      have hrd : rd_T53 x.f3 (i : Int) = x.f3[i] := by
        unfold rd_T53
        rw [Int.toNat_natCast, List.getD_eq_getElem?_getD, List.getElem?_eq_getElem hix]
        rfl
      obtain ⟨y, hy⟩ : ∃ y, x.f3[i] = y := ⟨_, rfl⟩
      rw [hrd, hy] at q0 q1 q2 q3 hl4 hC3
      obtain ⟨t, htj, hDV⟩ := IH.out i y (by rw [List.getElem?_eq_getElem hix, hy])
      have HDV := Aside0.mk hDV
      have HTJ := Aside0.mk htj
      clear htj
      have HC3 := Aside0.mk hC3
      replace q0 := pw_cell_below HI.out.2.1 q0
      replace q1 := pw_cell_below HI.out.2.1 q1
      replace q2 := pw_cell_below HI.out.2.1 q2
      replace q3 := pw_cell_below HI.out.2.1 q3
      clear hrd hDV hC3 hy hix
      simp only [Int.toNat_natCast] at q0 q1 q2 q3
      go_wp2_with fail
      have h5 := heap_alloc_new wr (.cells #[.int .u8 y.f0, .int .u64 y.f1, .string y.f2, .slice A3 y.f3.length c4] 53)
      have hba := below_alloc (Below.refl wr.heap.size wr) (.cells #[.int .u8 y.f0, .int .u64 y.f1, .string y.f2, .slice A3 y.f3.length c4] 53)
      have hL5 := up_heap2 hba HI.out.2.2.1
      have hO5 := HI.out.2.2.2.1.alloc (.cells #[.int .u8 y.f0, .int .u64 y.f1, .string y.f2, .slice A3 y.f3.length c4] 53)
      have hB5 := below_step HI.out.2.1 hba
      have HBW : Aside0 (Below wr.heap.size wr (wr.alloc (.cells #[.int .u8 y.f0, .int .u64 y.f1, .string y.f2, .slice A3 y.f3.length c4] 53)).drew) := ⟨below_drew1 hba⟩
      have HTY := Aside0.mk HI.out.2.2.2.2
      generalize wr.alloc (.cells #[.int .u8 y.f0, .int .u64 y.f1, .string y.f2, .slice A3 y.f3.length c4] 53) = W5 at *
      obtain ⟨g5, hg5⟩ : ∃ g, wr.heap.size = g := ⟨_, rfl⟩
      have HG5 := Aside0.mk hg5
      rw [hg5] at h5
      simp only [hg5]
      clear hg5
      have x0 : W5.drew.cell? ⟨g5, 0, none⟩ = some (.int .u8 y.f0) := (cell_of_row W5.drew g5 0 _ 53 (0, 0) h5).trans rfl
      have x1 : W5.drew.cell? ⟨g5, 1, none⟩ = some (.int .u64 y.f1) := (cell_of_row W5.drew g5 1 _ 53 (0, 0) h5).trans rfl
      have x2 : W5.drew.cell? ⟨g5, 2, none⟩ = some (.string y.f2) := (cell_of_row W5.drew g5 2 _ 53 (0, 0) h5).trans rfl
      have x3 : W5.drew.cell? ⟨g5, 3, none⟩ = some (.slice A3 y.f3.length c4) := (cell_of_row W5.drew g5 3 _ 53 (0, 0) h5).trans rfl
      have y1 : W5.drew.cell? ⟨L, 0, none⟩ = some v := (cell_of_row W5.drew L 0 _ 110 (0, 0) hL5).trans rfl
      have HL5 : Aside0 (W5.drew.heap[L]? = some (.cells #[v] 110 (0, 0))) := ⟨hL5⟩
      have HO5 : Aside0 (W5.drew.ownsRow (L + 1) 20 1 v i vs) := ⟨hO5⟩
      have HB5 := Aside0.mk (below_drew1 hB5)
      clear h5 hba hL5 hO5 hB5 q0 q1 q2 q3
      go_region_with (first
        | (go_at_call 37; refine (HDV.out A3 c4 _ (Kd.C_below HC3.out HB5.out)).mono ?_; rintro e1 w6 ⟨d, u, Sx, rfl, hTy, hSx, hb, _⟩;
            have hL6 := up_heap2 hb HL5.out; have hB6 := below_step HB5.out hb; have y6 := pw_cell_below hb y1; have y6a := fun o => pw_cell_below (below_alloc (Below.refl w6.heap.size w6) o) y6;
            obtain ⟨A1, c1, w7, hr, hown, hg7, hL7, hk7, hat7⟩ := ap_any (L + 1) L (Nat.lt_succ_self L) _ v i vs (pw_own_below HO5.out hb) hL6 (Array.getElem?_eq_some_iff.1 hL6).1 (by omega) d u;
            have HN := Aside0.mk (And.intro hTy (And.intro hSx (And.intro hb (And.intro hk7 (And.intro hat7 hg7.size))))); have HO7 := Aside0.mk hown; have HB7 := Aside0.mk (hB6.trans (below_weaken hg7 (by omega))); have HL7 := Aside0.mk hL7; have f7 := frozen_of_row w7 L 0 _ 110 hL7; have y7 : w7.cell? ⟨L, 0, none⟩ = some v := (cell_of_row w7 L 0 _ 110 (0, 0) hL7).trans rfl; clear hb hown hg7 hL7 hL6 hB6 hTy hSx hk7 hat7))
      all_goals
        go_wp2
        go_roundg (n - (i + 1))
        case measure => have := HI0.out; omega
        case rel =>
          refine ⟨i + 1, _, vs ++ [.iface d u], by first | rfl | simp, hlt, ⟨rfl, HB7.out.setCell (by show w.heap.size ≤ L; omega) _, heap_setCell_same w7 L 0 _ 110 (.slice A1 (i + 1) c1) HL7.out, own_setCell HO7.out (p := ⟨L, 0, none⟩) (fun e => by have := own_base HO7.out L e.symm; omega) _, ?_⟩⟩
          obtain ⟨hTy, hSx, hb, hk7, hat7, hs7⟩ := HN.out
          have hvl : vs.length = i := by simpa using HO5.out.1
          have hlL : L < W5.drew.heap.size := (Array.getElem?_eq_some_iff.1 HL5.out).1
          have mv : ∀ (S : Nat → Prop) (q : Value) (t : List UInt8), TyS w6 S q t → (∀ k, S k → L + 1 ≤ k ∧ v.ownBlock ≠ some k) → TyS (w7.setCell ⟨L, 0, none⟩ (.slice A1 (i + 1) c1)) S q t ∧ ∀ k, S k → L + 1 ≤ k ∧ (Value.slice A1 (i + 1) c1).ownBlock ≠ some k := by
            intro S q t h hS
            refine ⟨h.move (by rw [World.size_setCell]; exact hs7) fun k hk => (Below.heap_setCell w7 ⟨L, 0, none⟩ _ k (by have := (hS k hk).1; show k ≠ L; omega)).trans (hk7 k (h.1 k hk) (hS k hk).2), fun k hk => ⟨(hS k hk).1, fun e => ?_⟩⟩
            rcases hat7 with hat | ⟨b, hb2, hle⟩
            · exact (hS k hk).2 (hat ▸ e)
            · rw [hb2] at e
              have := h.1 k hk
              injection e with e
              omega
          intro j q hq
          by_cases hj : j < vs.length
          · rw [List.getElem?_append_left hj] at hq
            obtain ⟨t2, S, h1, h2, h3⟩ := HTY.out j q hq
            have h4 := mv S q t2 ((h2.up HBW.out).up hb) h3
            exact ⟨t2, S, h1, h4.1, h4.2⟩
          · have hj2 : j = vs.length := by
              have := (List.getElem?_eq_some_iff.1 hq).1
              simp at this
              omega
            subst hj2
            rw [List.getElem?_append_right (Nat.le_refl _)] at hq
            obtain rfl : q = .iface d u := by simpa using hq.symm
            have h4 := mv Sx (.iface d u) t hTy fun k hk => ⟨by have := hSx k hk; omega, fun e => by have h5 := own_lt HO5.out k e; have h6 := hSx k hk; omega⟩
            exact ⟨t, Sx, by rw [hvl]; exact HTJ.out, h4.1, h4.2⟩
    · have hd : decide ((i : Int) < (n : Int)) = false := by simpa using hlt
      have hie : i = n := by omega
      subst hie
      obtain ⟨A9, c9, rfl⟩ := own_slice HI.out.2.2.2.1
      have y9 : wr.cell? ⟨L, 0, none⟩ = some (.slice A9 i c9) := (cell_of_row wr L 0 _ 110 (0, 0) HI.out.2.2.1).trans rfl
      obtain ⟨Sx, hT, hS⟩ := tys_rec wr (L + 1) (L + 1) A9 i c9 vs ts HI.out.2.2.2.1 (Nat.le_refl _) HTS.out.1 hn HTS.out.2 fun j u hu => by
        obtain ⟨t, S, h1, h2, h3⟩ := HI.out.2.2.2.2 j u hu
        exact ⟨t, S, h1, h2, fun k hk => (h3 k hk).1⟩
      have HX := Aside0.mk (And.intro hT hS)
      clear hT hS
      go_wp2_with fail
      go_ret
      refine ⟨_, _, Sx, rfl, HX.out.1, fun k hk => by have := HX.out.2 k hk; omega, HI.out.2.1, ?_⟩
      rintro c hc e
      simp at e

end Go.Proofs.YtboioihppjhjcaaDoor.MFnSgOf

namespace Go.Proofs.YtboioihppjhjcaaDoor.MFnSgOf
open Go.RowKit Go.Proofs.YtboioihppjhjcaaDoorW.PrintWords Go.Proofs.YtboioihppjhjcaaDoorW.PrintLast Go.Proofs.YtboioihppjhjcaaDoorW.PrintMore
attribute [local go_sem] max2_int min2_int max_two min_two max_three min_three max_four min_four
set_option linter.unusedVariables false
set_option linter.unusedSimpArgs false

open Go.Proofs.YtboioihppjhjcaaDoor.Hlp Go.Proofs.YtboioihppjhjcaaDoor.SgT Go.Proofs.YtboioihppjhjcaaDoor.SgZ
theorem DI.up {w w' : World} {L : Nat} {E1 E2 : ByteArray} {ks vs : Value} {n : Nat} {kl vl : List Value} (h : DI w L E1 E2 ks vs n kl vl) (hb : Below w.heap.size w w') : DI w' L E1 E2 ks vs n kl vl := ⟨up_heap2 hb h.row, pw_own_below h.k hb, pw_own_below h.v hb, h.ap⟩
/-- A dict's entries: two kids each, the key's kind told, whatever the value. -/
def Entry (c : UInt8) (y : S53) : Prop := ∃ k0 k1 rest t1, y.f3 = k0 :: k1 :: rest ∧ DV k0 [c] ∧ DV k1 t1
set_option maxRecDepth 100000 in
set_option maxHeartbeats 16000000 in
theorem dv_dict (x : S53) (c : UInt8) (ls te : List UInt8) (h0 : x.f0 = 97) (h2 : x.f2 = Bs (123 :: ls)) (hk : keyC c = true) (hls : ls.length ≤ 100000) (hdt : DT (97 :: 123 :: ls) (123 :: c :: te)) (hte : te.length ≤ 100000) (hn : x.f3.length ≤ 1000) (ih : ∀ y ∈ x.f3, Entry c y) : DV x (123 :: c :: te) := by
  intro A c3 w hC
  rw [h0, h2]
  obtain ⟨n, hnn⟩ : ∃ n, x.f3.length = n := ⟨_, rfl⟩
  have HC := Aside0.mk hC
  rw [hnn] at hn ⊢
  have hcat : (⟨#[97]⟩ : ByteArray) ++ Bs (123 :: ls) = Bs (97 :: 123 :: ls) := Bs_app [97] (123 :: ls)
  have hszc : (9223372036854775807 < 1 + (Bs (123 :: ls)).size) = False := eq_false (by rw [Bs_size, List.length_cons]; omega)
  obtain ⟨s, hs⟩ : ∃ s, Bs (123 :: ls) = s := ⟨_, rfl⟩
  have hi0 : ∀ h : 0 < s.size, ((s[0]'h).toNat : Int) = 123 := by subst hs; exact idx0 123 ls
  have q0 : 0 < s.size := by rw [← hs, Bs_size]; simp
  have q1 : (0 < s.size) = True := eq_true q0
  have q2 : ((0 : Int) < (s.size : Int)) = True := eq_true (by omega)
  have q3 : (s.toList == ([] : List UInt8)) = false := by rw [← hs, toList_bl, bl_Bs]; exact beq_eq_false_iff_ne.mpr (by simp)
  rw [hs] at hcat hszc ⊢
  unfold DT at hdt
  have HDT := Aside0.mk hdt
  have IH := Aside0.mk ih
  have HNN := Aside0.mk hnn
  have hbb := below_alloc (Below.refl w.heap.size w) (.cells #[.int .u8 97, .int .u64 x.f1, .string s, .slice A n c3] 53)
  have c1 : (w.alloc (.cells #[.int .u8 97, .int .u64 x.f1, .string s, .slice A n c3] 53)).heap[w.heap.size]? = some (.cells #[.int .u8 97, .int .u64 x.f1, .string s, .slice A n c3] 53 (0, 0)) := heap_alloc_new w _
  have HBB := Aside0.mk hbb
  have C1 := Aside0.mk c1
  clear hdt ih hC hs hbb c1 q0 h0 h2 hnn
  go_enter Tryd.func37, Tryd.ntmps37
  go_wp2_with fail
  refine (HDT.out _).mono ?_
  rintro e1 w2 ⟨rfl, hb⟩
  have HB2 := Aside0.mk (below_step HBB.out hb)
  have C2 := Aside0.mk (up_heap2 hb C1.out)
  clear hb
  go_wp2_with fail
  refine (mm_calls c te _).mono ?_
  rintro e1 w3 ⟨L, rfl, hLw, hL3, hb⟩
  have hw2 : w.heap.size < w2.heap.size := (Array.getElem?_eq_some_iff.1 C2.out).1
  have C3 := up_heap2 hb C2.out
  have p3 : w3.cell? ⟨w.heap.size, 3, none⟩ = some (.slice A n c3) := (cell_of_row w3 w.heap.size 3 _ 53 (0, 0) C3).trans rfl
  have p3a := fun o => pw_cell_below (below_alloc (Below.refl w3.heap.size w3) o) p3
  have HB3 := Aside0.mk (below_step HB2.out hb)
  have HL3 := Aside0.mk hL3
  clear hb C3 hL3
  go_wp2_with fail
  have hM0 := heap_alloc_new w3 (.cells #[.iface 105 (.pointer (some ⟨L, 0, none⟩)), .string (Bs (123 :: c :: te))] 114)
  have hba := below_alloc (Below.refl w3.heap.size w3) (.cells #[.iface 105 (.pointer (some ⟨L, 0, none⟩)), .string (Bs (123 :: c :: te))] 114)
  have HB4 := Aside0.mk (below_step HB3.out hba)
  have hL4 := up_heap2 hba HL3.out
  have hLM : L < w3.heap.size := (Array.getElem?_eq_some_iff.1 HL3.out).1
  obtain ⟨M, hM⟩ : ∃ M, w3.heap.size = M := ⟨_, rfl⟩
  rw [hM] at hM0
  simp only [hM] at hLM ⊢
  have HS0 := Aside0.mk (And.intro hM0 hL4)
  clear hM0 hba hL4 p3 p3a HL3
  generalize w3.alloc (.cells #[.iface 105 (.pointer (some ⟨L, 0, none⟩)), .string (Bs (123 :: c :: te))] 114) = W0 at *
  go_loopg [137] n (fun kq v137 wr => ∃ (i : Nat) (ks vs : Value) (m : Nat) (kl vl : List Value), v137 = .int .i64 (i : Int) ∧ i ≤ n ∧ m ≤ i ∧ Aside0 (kq = n - i ∧ Below w.heap.size w wr ∧ wr.heap[M]? = some (.cells #[.iface 105 (.pointer (some ⟨L, 0, none⟩)), .string (Bs (123 :: c :: te))] 114 (0, 0)) ∧ DI wr L (Bs [c]) (Bs te) ks vs m kl vl ∧ ∀ v ∈ kl, BV c v))
  case atStart => exact ⟨0, .slice none 0 0, .slice none 0 0, 0, [], [], rfl, by omega, by omega, ⟨rfl, HB4.out, HS0.out.1, ⟨HS0.out.2, World.ownsRow_nil _ _ _ _, World.ownsRow_nil _ _ _ _, fun q h => by simp [Value.ownBlock] at h⟩, fun v h => by cases h⟩⟩
  case round =>
    obtain ⟨i, ks, vs, m, kl, vl, rfl, hi, hm, HI⟩ := hrel
    have HI0 := Aside0.mk HI.out.1
    by_cases hlt : i < n
    · have hd : decide ((i : Int) < (n : Int)) = true := by simpa using hlt
      have hwi : IntKind.i64.wrap ((i : Int) + 1) = ((i + 1 : Nat) : Int) := by rw [IntKind.wrap_i64]; omega
      have hix : i < x.f3.length := by rw [HNN.out]; exact hlt
      obtain ⟨ad, A3, c4, rfl, q0, q1, q2, q3, hl4, hC3⟩ := at_T53 HC.out (i : Int) (by omega) (by omega)
      have hrd : rd_T53 x.f3 (i : Int) = x.f3[i] := by
        unfold rd_T53
        rw [Int.toNat_natCast, List.getD_eq_getElem?_getD, List.getElem?_eq_getElem hix]
        rfl
      obtain ⟨y, hy⟩ : ∃ y, x.f3[i] = y := ⟨_, rfl⟩
      rw [hrd, hy] at q0 q1 q2 q3 hl4 hC3
      obtain ⟨k0, k1, rest, t1, hy3, hD0, hD1⟩ := IH.out y (hy ▸ List.getElem_mem hix)
      have hlen3 : 2 ≤ y.f3.length := by rw [hy3]; simp
      obtain ⟨ad3, A5, c5, rfl, a0, a1, a2, a3, _, hC5⟩ := at_T53 hC3 0 (by omega) (by omega)
      obtain ⟨ad3', A6, c6, e3, b0, b1, b2, b3, _, hC6⟩ := at_T53 hC3 1 (by omega) (by omega)
      obtain rfl : ad3 = ad3' := Option.some.inj e3
      have r0 : rd_T53 y.f3 0 = k0 := by unfold rd_T53; rw [hy3]; rfl
      have r1 : rd_T53 y.f3 1 = k1 := by unfold rd_T53; rw [hy3]; rfl
      rw [r0] at a0 a1 a2 a3 hC5
      rw [r1] at b0 b1 b2 b3 hC6
      have hadd : ad3.add 0 = ad3 := by unfold Addr.add; split <;> simp_all
      simp only [Int.toNat_zero, Nat.zero_mul, hadd] at a0 a1 a2 a3
      have hadd4 : ad3.add 4 = ⟨ad3.block, ad3.off + 4, none⟩ := by simp [Addr.add]
      simp only [Int.toNat_one, Nat.one_mul, hadd4] at b0 b1 b2 b3
      have HK := Aside0.mk (And.intro a0 (And.intro a1 (And.intro a2 (And.intro a3 (And.intro b0 (And.intro b1 (And.intro b2 b3)))))))
      have hka : ad3.block < w.heap.size := World.block_lt_of_cell? w _ HK.out.1
      have HD0 := Aside0.mk hD0
      have HD1 := Aside0.mk hD1
      have HC5 := Aside0.mk hC5
      have HC6 := Aside0.mk hC6
      obtain ⟨ln, hln⟩ : ∃ ln, y.f3.length = ln := ⟨_, rfl⟩
      rw [hln] at hlen3 hl4 q3
      have hi01 : ((0 : Int) < (ln : Int)) = True := eq_true (by omega)
      have hi11 : ((1 : Int) < (ln : Int)) = True := eq_true (by omega)
      have hi02 : (0 < ln) = True := eq_true (by omega)
      have hi12 : (1 < ln) = True := eq_true (by omega)
      replace q0 := pw_cell_below HI.out.2.1 q0
      replace q1 := pw_cell_below HI.out.2.1 q1
      replace q2 := pw_cell_below HI.out.2.1 q2
      replace q3 := pw_cell_below HI.out.2.1 q3
      clear hln hadd4 hrd hC3 hy hix hD0 hD1 hC5 hC6 a0 a1 a2 a3 b0 b1 b2 b3 r0 r1 e3 hy3 hadd
      simp only [Int.toNat_natCast] at q0 q1 q2 q3
      go_wp2_with fail
      have h5 := heap_alloc_new wr (.cells #[.int .u8 y.f0, .int .u64 y.f1, .string y.f2, .slice (some ad3) ln c4] 53)
      have hba := below_alloc (Below.refl wr.heap.size wr) (.cells #[.int .u8 y.f0, .int .u64 y.f1, .string y.f2, .slice (some ad3) ln c4] 53)
      have hM5 := up_heap2 hba HI.out.2.2.1
      have hD5 := HI.out.2.2.2.1.up hba
      have hB5 := below_step HI.out.2.1 hba
      have HKL := Aside0.mk HI.out.2.2.2.2
      have hMwr := (Array.getElem?_eq_some_iff.1 HI.out.2.2.1).1
      obtain ⟨g5, hg5⟩ : ∃ g, wr.heap.size = g := ⟨_, rfl⟩
      rw [hg5] at h5 hMwr
      simp only [hg5]
      generalize wr.alloc (.cells #[.int .u8 y.f0, .int .u64 y.f1, .string y.f2, .slice (some ad3) ln c4] 53) = W4 at *
      have H5 : Aside0 (W4.drew.heap[M]? = some (.cells #[.iface 105 (.pointer (some ⟨L, 0, none⟩)), .string (Bs (123 :: c :: te))] 114 (0, 0)) ∧ W4.drew.heap[g5]? = some (.cells #[.int .u8 y.f0, .int .u64 y.f1, .string y.f2, .slice (some ad3) ln c4] 53 (0, 0)) ∧ DI W4.drew L (Bs [c]) (Bs te) ks vs m kl vl ∧ Below w.heap.size w W4.drew) := by
        exact ⟨hM5, h5, ⟨hD5.row, hD5.k, hD5.v, hD5.ap⟩, below_drew1 hB5⟩
      clear h5 hba hM5 hD5 hB5 q0 q1 q2 q3 hg5
      have KK : Aside0 (W4.drew.cell? ⟨M, 0, none⟩ = some (.iface 105 (.pointer (some ⟨L, 0, none⟩))) ∧ W4.drew.cell? ⟨M, 1, none⟩ = some (.string (Bs (123 :: c :: te))) ∧ W4.drew.cell? ⟨g5, 3, none⟩ = some (.slice (some ad3) ln c4) ∧ W4.drew.cell? ad3 = some (.int .u8 k0.f0) ∧ W4.drew.cell? ⟨ad3.block, ad3.off + 1, none⟩ = some (.int .u64 k0.f1) ∧ W4.drew.cell? ⟨ad3.block, ad3.off + 2, none⟩ = some (.string k0.f2) ∧ W4.drew.cell? ⟨ad3.block, ad3.off + 3, none⟩ = some (.slice A5 k0.f3.length c5) ∧ W4.drew.cell? ⟨ad3.block, ad3.off + 4, none⟩ = some (.int .u8 k1.f0) ∧ W4.drew.cell? ⟨ad3.block, ad3.off + 4 + 1, none⟩ = some (.int .u64 k1.f1) ∧ W4.drew.cell? ⟨ad3.block, ad3.off + 4 + 2, none⟩ = some (.string k1.f2) ∧ W4.drew.cell? ⟨ad3.block, ad3.off + 4 + 3, none⟩ = some (.slice A6 k1.f3.length c6)) := ⟨(cell_of_row W4.drew M 0 _ 114 (0, 0) H5.out.1).trans rfl, (cell_of_row W4.drew M 1 _ 114 (0, 0) H5.out.1).trans rfl, (cell_of_row W4.drew g5 3 _ 53 (0, 0) H5.out.2.1).trans rfl, pw_cell_below H5.out.2.2.2 HK.out.1, pw_cell_below H5.out.2.2.2 HK.out.2.1, pw_cell_below H5.out.2.2.2 HK.out.2.2.1, pw_cell_below H5.out.2.2.2 HK.out.2.2.2.1, pw_cell_below H5.out.2.2.2 HK.out.2.2.2.2.1, pw_cell_below H5.out.2.2.2 HK.out.2.2.2.2.2.1, pw_cell_below H5.out.2.2.2 HK.out.2.2.2.2.2.2.1, pw_cell_below H5.out.2.2.2 HK.out.2.2.2.2.2.2.2⟩
      go_region_held3 (fun w' => w'.cell? ⟨M, 0, none⟩ = some (.iface 105 (.pointer (some ⟨L, 0, none⟩))) ∧ w'.cell? ⟨M, 1, none⟩ = some (.string (Bs (123 :: c :: te))) ∧ w'.cell? ⟨g5, 3, none⟩ = some (.slice (some ad3) ln c4) ∧ w'.cell? ad3 = some (.int .u8 k0.f0) ∧ w'.cell? ⟨ad3.block, ad3.off + 1, none⟩ = some (.int .u64 k0.f1) ∧ w'.cell? ⟨ad3.block, ad3.off + 2, none⟩ = some (.string k0.f2) ∧ w'.cell? ⟨ad3.block, ad3.off + 3, none⟩ = some (.slice A5 k0.f3.length c5) ∧ w'.cell? ⟨ad3.block, ad3.off + 4, none⟩ = some (.int .u8 k1.f0) ∧ w'.cell? ⟨ad3.block, ad3.off + 4 + 1, none⟩ = some (.int .u64 k1.f1) ∧ w'.cell? ⟨ad3.block, ad3.off + 4 + 2, none⟩ = some (.string k1.f2) ∧ w'.cell? ⟨ad3.block, ad3.off + 4 + 3, none⟩ = some (.slice A6 k1.f3.length c6)) (first | exact kk9.out | exact kk8.out | exact kk7.out | exact kk6.out | exact KK.out | go_keep)
        (first
          | (go_at_call 61; have hz := HX7; refine (vo_calls d1 u1 t1 _ HT1.out).mono ?_; rintro e1 w8 ⟨rfl, hb⟩; have HX8 := Aside0.mk (below_step HX7.out hb); have kk8 : Aside0 (w8.cell? ⟨M, 0, none⟩ = some (.iface 105 (.pointer (some ⟨L, 0, none⟩))) ∧ w8.cell? ⟨M, 1, none⟩ = some (.string (Bs (123 :: c :: te))) ∧ w8.cell? ⟨g5, 3, none⟩ = some (.slice (some ad3) ln c4) ∧ w8.cell? ad3 = some (.int .u8 k0.f0) ∧ w8.cell? ⟨ad3.block, ad3.off + 1, none⟩ = some (.int .u64 k0.f1) ∧ w8.cell? ⟨ad3.block, ad3.off + 2, none⟩ = some (.string k0.f2) ∧ w8.cell? ⟨ad3.block, ad3.off + 3, none⟩ = some (.slice A5 k0.f3.length c5) ∧ w8.cell? ⟨ad3.block, ad3.off + 4, none⟩ = some (.int .u8 k1.f0) ∧ w8.cell? ⟨ad3.block, ad3.off + 4 + 1, none⟩ = some (.int .u64 k1.f1) ∧ w8.cell? ⟨ad3.block, ad3.off + 4 + 2, none⟩ = some (.string k1.f2) ∧ w8.cell? ⟨ad3.block, ad3.off + 4 + 3, none⟩ = some (.slice A6 k1.f3.length c6)) := (⟨pw_cell_below hb kk7.out.1, pw_cell_below hb kk7.out.2.1, pw_cell_below hb kk7.out.2.2.1, pw_cell_below hb kk7.out.2.2.2.1, pw_cell_below hb kk7.out.2.2.2.2.1, pw_cell_below hb kk7.out.2.2.2.2.2.1, pw_cell_below hb kk7.out.2.2.2.2.2.2.1, pw_cell_below hb kk7.out.2.2.2.2.2.2.2.1, pw_cell_below hb kk7.out.2.2.2.2.2.2.2.2.1, pw_cell_below hb kk7.out.2.2.2.2.2.2.2.2.2.1, pw_cell_below hb kk7.out.2.2.2.2.2.2.2.2.2.2⟩); clear hb)
          | (go_at_call 37; have hz := HX61; refine (HD1.out A6 c6 _ (Kd.C_below HC6.out (H5.out.2.2.2.trans (below_weaken HX61.out (by have := H5.out.2.2.2.size; omega))))).mono ?_; rintro e1 w7 ⟨d1, u1, S1, rfl, hT1, _, hb, _⟩; have HX7 := Aside0.mk (below_step HX61.out hb); have HT1 := Aside0.mk hT1.is; have kk7 : Aside0 (w7.cell? ⟨M, 0, none⟩ = some (.iface 105 (.pointer (some ⟨L, 0, none⟩))) ∧ w7.cell? ⟨M, 1, none⟩ = some (.string (Bs (123 :: c :: te))) ∧ w7.cell? ⟨g5, 3, none⟩ = some (.slice (some ad3) ln c4) ∧ w7.cell? ad3 = some (.int .u8 k0.f0) ∧ w7.cell? ⟨ad3.block, ad3.off + 1, none⟩ = some (.int .u64 k0.f1) ∧ w7.cell? ⟨ad3.block, ad3.off + 2, none⟩ = some (.string k0.f2) ∧ w7.cell? ⟨ad3.block, ad3.off + 3, none⟩ = some (.slice A5 k0.f3.length c5) ∧ w7.cell? ⟨ad3.block, ad3.off + 4, none⟩ = some (.int .u8 k1.f0) ∧ w7.cell? ⟨ad3.block, ad3.off + 4 + 1, none⟩ = some (.int .u64 k1.f1) ∧ w7.cell? ⟨ad3.block, ad3.off + 4 + 2, none⟩ = some (.string k1.f2) ∧ w7.cell? ⟨ad3.block, ad3.off + 4 + 3, none⟩ = some (.slice A6 k1.f3.length c6)) := (⟨pw_cell_below hb kk61.out.1, pw_cell_below hb kk61.out.2.1, pw_cell_below hb kk61.out.2.2.1, pw_cell_below hb kk61.out.2.2.2.1, pw_cell_below hb kk61.out.2.2.2.2.1, pw_cell_below hb kk61.out.2.2.2.2.2.1, pw_cell_below hb kk61.out.2.2.2.2.2.2.1, pw_cell_below hb kk61.out.2.2.2.2.2.2.2.1, pw_cell_below hb kk61.out.2.2.2.2.2.2.2.2.1, pw_cell_below hb kk61.out.2.2.2.2.2.2.2.2.2.1, pw_cell_below hb kk61.out.2.2.2.2.2.2.2.2.2.2⟩); clear hb hT1)
          | (go_at_call 61; have hz := HX6; refine (vo_calls d0 u0 [c] _ HT0.out).mono ?_; rintro e1 w61 ⟨rfl, hb⟩; have HX61 := Aside0.mk (below_step HX6.out hb); have kk61 : Aside0 (w61.cell? ⟨M, 0, none⟩ = some (.iface 105 (.pointer (some ⟨L, 0, none⟩))) ∧ w61.cell? ⟨M, 1, none⟩ = some (.string (Bs (123 :: c :: te))) ∧ w61.cell? ⟨g5, 3, none⟩ = some (.slice (some ad3) ln c4) ∧ w61.cell? ad3 = some (.int .u8 k0.f0) ∧ w61.cell? ⟨ad3.block, ad3.off + 1, none⟩ = some (.int .u64 k0.f1) ∧ w61.cell? ⟨ad3.block, ad3.off + 2, none⟩ = some (.string k0.f2) ∧ w61.cell? ⟨ad3.block, ad3.off + 3, none⟩ = some (.slice A5 k0.f3.length c5) ∧ w61.cell? ⟨ad3.block, ad3.off + 4, none⟩ = some (.int .u8 k1.f0) ∧ w61.cell? ⟨ad3.block, ad3.off + 4 + 1, none⟩ = some (.int .u64 k1.f1) ∧ w61.cell? ⟨ad3.block, ad3.off + 4 + 2, none⟩ = some (.string k1.f2) ∧ w61.cell? ⟨ad3.block, ad3.off + 4 + 3, none⟩ = some (.slice A6 k1.f3.length c6)) := (⟨pw_cell_below hb kk6.out.1, pw_cell_below hb kk6.out.2.1, pw_cell_below hb kk6.out.2.2.1, pw_cell_below hb kk6.out.2.2.2.1, pw_cell_below hb kk6.out.2.2.2.2.1, pw_cell_below hb kk6.out.2.2.2.2.2.1, pw_cell_below hb kk6.out.2.2.2.2.2.2.1, pw_cell_below hb kk6.out.2.2.2.2.2.2.2.1, pw_cell_below hb kk6.out.2.2.2.2.2.2.2.2.1, pw_cell_below hb kk6.out.2.2.2.2.2.2.2.2.2.1, pw_cell_below hb kk6.out.2.2.2.2.2.2.2.2.2.2⟩); have kk6 := kk61; clear hb)
          | (go_at_call 37; refine (HD0.out A5 c5 _ (Kd.C_below HC5.out H5.out.2.2.2)).mono ?_; rintro e1 w6 ⟨d0, u0, S0, rfl, hT0, _, hb, hbv⟩; have HX6 := Aside0.mk hb; have HT0 := Aside0.mk hT0.is; have BVK := Aside0.mk (hbv c hk rfl); have kk6 : Aside0 (w6.cell? ⟨M, 0, none⟩ = some (.iface 105 (.pointer (some ⟨L, 0, none⟩))) ∧ w6.cell? ⟨M, 1, none⟩ = some (.string (Bs (123 :: c :: te))) ∧ w6.cell? ⟨g5, 3, none⟩ = some (.slice (some ad3) ln c4) ∧ w6.cell? ad3 = some (.int .u8 k0.f0) ∧ w6.cell? ⟨ad3.block, ad3.off + 1, none⟩ = some (.int .u64 k0.f1) ∧ w6.cell? ⟨ad3.block, ad3.off + 2, none⟩ = some (.string k0.f2) ∧ w6.cell? ⟨ad3.block, ad3.off + 3, none⟩ = some (.slice A5 k0.f3.length c5) ∧ w6.cell? ⟨ad3.block, ad3.off + 4, none⟩ = some (.int .u8 k1.f0) ∧ w6.cell? ⟨ad3.block, ad3.off + 4 + 1, none⟩ = some (.int .u64 k1.f1) ∧ w6.cell? ⟨ad3.block, ad3.off + 4 + 2, none⟩ = some (.string k1.f2) ∧ w6.cell? ⟨ad3.block, ad3.off + 4 + 3, none⟩ = some (.slice A6 k1.f3.length c6)) := (⟨pw_cell_below hb KK.out.1, pw_cell_below hb KK.out.2.1, pw_cell_below hb KK.out.2.2.1, pw_cell_below hb KK.out.2.2.2.1, pw_cell_below hb KK.out.2.2.2.2.1, pw_cell_below hb KK.out.2.2.2.2.2.1, pw_cell_below hb KK.out.2.2.2.2.2.2.1, pw_cell_below hb KK.out.2.2.2.2.2.2.2.1, pw_cell_below hb KK.out.2.2.2.2.2.2.2.2.1, pw_cell_below hb KK.out.2.2.2.2.2.2.2.2.2.1, pw_cell_below hb KK.out.2.2.2.2.2.2.2.2.2.2⟩); clear hb hT0 hbv)
          | (go_at_call 60; refine (sm_calls c L (Bs [c]) (Bs te) _ _ _ d0 d1 u0 u1 BVK.out ks vs m kl vl (by omega) HKL.out _ (H5.out.2.2.1.up HX8.out)).mono ?_; rintro e1 w9 ⟨rfl, hsm, hb, hfr⟩;
              have hM8 := up_heap2 HX8.out H5.out.1; have hG8 := up_heap2 HX8.out H5.out.2.1; have hD8 := H5.out.2.2.1.up HX8.out;
              have hM9 := (hfr M (Array.getElem?_eq_some_iff.1 hM8).1 (by omega) (fun e => own_ne hD8.k hM8 (by decide) e.symm) (fun e => own_ne hD8.v hM8 (by decide) e.symm)).trans hM8;
              have hG9 := (hfr g5 (Array.getElem?_eq_some_iff.1 hG8).1 (by omega) (fun e => own_ne hD8.k hG8 (by decide) e.symm) (fun e => own_ne hD8.v hG8 (by decide) e.symm)).trans hG8;
              have HZ := Aside0.mk (And.intro hsm (And.intro hM9 ((H5.out.2.2.2.trans (below_weaken HX8.out (by have := H5.out.2.2.2.size; omega))).trans (below_weaken hb (by omega)))));
              have kk9 : Aside0 (w9.cell? ⟨M, 0, none⟩ = some (.iface 105 (.pointer (some ⟨L, 0, none⟩))) ∧ w9.cell? ⟨M, 1, none⟩ = some (.string (Bs (123 :: c :: te))) ∧ w9.cell? ⟨g5, 3, none⟩ = some (.slice (some ad3) ln c4) ∧ w9.cell? ad3 = some (.int .u8 k0.f0) ∧ w9.cell? ⟨ad3.block, ad3.off + 1, none⟩ = some (.int .u64 k0.f1) ∧ w9.cell? ⟨ad3.block, ad3.off + 2, none⟩ = some (.string k0.f2) ∧ w9.cell? ⟨ad3.block, ad3.off + 3, none⟩ = some (.slice A5 k0.f3.length c5) ∧ w9.cell? ⟨ad3.block, ad3.off + 4, none⟩ = some (.int .u8 k1.f0) ∧ w9.cell? ⟨ad3.block, ad3.off + 4 + 1, none⟩ = some (.int .u64 k1.f1) ∧ w9.cell? ⟨ad3.block, ad3.off + 4 + 2, none⟩ = some (.string k1.f2) ∧ w9.cell? ⟨ad3.block, ad3.off + 4 + 3, none⟩ = some (.slice A6 k1.f3.length c6)) := ⟨(cell_of_row w9 M 0 _ 114 (0, 0) hM9).trans rfl, (cell_of_row w9 M 1 _ 114 (0, 0) hM9).trans rfl, (cell_of_row w9 g5 3 _ 53 (0, 0) hG9).trans rfl, (hb.cell (p := ad3) (by show ad3.block < L; omega)).trans (kk8.out.2.2.2.1), (hb.cell (p := ⟨ad3.block, ad3.off + 1, none⟩) (by show ad3.block < L; omega)).trans (kk8.out.2.2.2.2.1), (hb.cell (p := ⟨ad3.block, ad3.off + 2, none⟩) (by show ad3.block < L; omega)).trans (kk8.out.2.2.2.2.2.1), (hb.cell (p := ⟨ad3.block, ad3.off + 3, none⟩) (by show ad3.block < L; omega)).trans (kk8.out.2.2.2.2.2.2.1), (hb.cell (p := ⟨ad3.block, ad3.off + 4, none⟩) (by show ad3.block < L; omega)).trans (kk8.out.2.2.2.2.2.2.2.1), (hb.cell (p := ⟨ad3.block, ad3.off + 4 + 1, none⟩) (by show ad3.block < L; omega)).trans (kk8.out.2.2.2.2.2.2.2.2.1), (hb.cell (p := ⟨ad3.block, ad3.off + 4 + 2, none⟩) (by show ad3.block < L; omega)).trans (kk8.out.2.2.2.2.2.2.2.2.2.1), (hb.cell (p := ⟨ad3.block, ad3.off + 4 + 3, none⟩) (by show ad3.block < L; omega)).trans (kk8.out.2.2.2.2.2.2.2.2.2.2)⟩; clear hsm hb hfr hM8 hG8 hD8 hM9 hG9))
      obtain ⟨hsm, hM9, hB9⟩ := HZ.out
      obtain ⟨ks', vs', n', kl', vl', hn', hkl', hD'⟩ := hsm
      have HR := Aside0.mk (And.intro hM9 (And.intro hB9 (And.intro hkl' hD')))
      clear hM9 hB9 hkl' hD' HZ
      go_wp2
      go_roundg (n - (i + 1))
      case measure => have := HI0.out; omega
      case rel => exact ⟨i + 1, ks', vs', n', kl', vl', by first | rfl | simp, hlt, by omega, ⟨rfl, HR.out.2.1, HR.out.1, HR.out.2.2.2, HR.out.2.2.1⟩⟩
    · have hd : decide ((i : Int) < (n : Int)) = false := by simpa using hlt
      have m0 : wr.cell? ⟨M, 0, none⟩ = some (.iface 105 (.pointer (some ⟨L, 0, none⟩))) := (cell_of_row wr M 0 _ 114 (0, 0) HI.out.2.2.1).trans rfl
      have m1 : wr.cell? ⟨M, 1, none⟩ = some (.string (Bs (123 :: c :: te))) := (cell_of_row wr M 1 _ 114 (0, 0) HI.out.2.2.1).trans rfl
      have hT := tys_dict wr L c te ks vs hte HI.out.2.2.2.1.row
      have HT := Aside0.mk hT
      clear hT
      go_wp2_with fail
      refine (if_calls 105 _ _ _).mono ?_
      rintro e1 w9 ⟨rfl, hb⟩
      have HT9 := Aside0.mk (HT.out.up hb)
      have HB9 := Aside0.mk (below_step HI.out.2.1 hb)
      clear hb
      go_wp2_with fail
      go_ret
      refine ⟨_, _, _, rfl, HT9.out, fun k hk => by subst hk; omega, HB9.out, ?_⟩
      rintro q hq e
      simp at e


end Go.Proofs.YtboioihppjhjcaaDoor.MFnSgOf

namespace Go.Proofs.YtboioihppjhjcaaDoor.MFnSgOf
open Go.RowKit Go.Proofs.YtboioihppjhjcaaDoorW.PrintWords Go.Proofs.YtboioihppjhjcaaDoorW.PrintLast Go.Proofs.YtboioihppjhjcaaDoorW.PrintMore
attribute [local go_sem] max2_int min2_int max_two min_two max_three min_three max_four min_four
set_option linter.unusedVariables false
set_option linter.unusedSimpArgs false

open Go.Proofs.YtboioihppjhjcaaDoor.Hlp Go.Proofs.YtboioihppjhjcaaDoor.SgT Go.Proofs.YtboioihppjhjcaaDoor.SgZ
attribute [-go_sem] Builtin.append_
/-- A value of a signature l, whose type's text is t, in at most n steps. -/
def VT : Nat → S53 → List UInt8 → List UInt8 → Prop
  | 0, _, _, _ => False
  | n + 1, x, l, t => x.f3.length ≤ 1000 ∧ l.length ≤ 255 ∧ t.length ≤ 255 ∧
    ((∃ c, basicC c = true ∧ x.f0 = (c.toNat : Int) ∧ l = [c] ∧ t = [c]) ∨
     (x.f0 = 118 ∧ ∃ y l' t', x.f3 = [y] ∧ VT n y l' t' ∧ Z 32 32 32 l' t' ∧ l = [118] ∧ t = [118]) ∨
     (x.f0 = 40 ∧ ∃ zs : List (List UInt8 × List UInt8), zs.length = x.f3.length ∧ (∀ (j : Nat) y z, x.f3[j]? = some y → zs[j]? = some z → VT n y z.1 z.2) ∧ l = 40 :: ((zs.map Prod.fst).flatten ++ [41]) ∧ t = 40 :: ((zs.map Prod.snd).flatten ++ [41])) ∨
     (x.f0 = 97 ∧ ∃ l0 ls te, x.f2 = Bs (l0 :: ls) ∧ l0 ≠ 123 ∧ Z 32 32 32 (l0 :: ls) te ∧ (∀ y ∈ x.f3, ∃ l' t', VT n y l' t') ∧ l = 97 :: l0 :: ls ∧ t = 91 :: te) ∨
     (x.f0 = 97 ∧ ∃ c ls te, x.f2 = Bs (123 :: c :: (ls ++ [125])) ∧ keyC c = true ∧ Z 32 32 32 ls te ∧ (∀ y ∈ x.f3, ∃ k0 k1 rest l1 t1, y.f3 = k0 :: k1 :: rest ∧ VT n k0 [c] [c] ∧ VT n k1 l1 t1) ∧ l = 97 :: 123 :: c :: (ls ++ [125]) ∧ t = 123 :: c :: te))
/-- doorIn makes every value. -/
theorem dv_all : ∀ (n : Nat) (x : S53) (l t : List UInt8), VT n x l t → DV x t
  | 0, _, _, _, h => h.elim
  | n + 1, x, l, t, ⟨hn, hl, ht, h⟩ => by
    have ih := dv_all n
    rcases h with ⟨c, hc, h0, rfl, rfl⟩ | ⟨h0, y, l', t', h3, hy, hz, rfl, rfl⟩ | ⟨h0, zs, hzl, hzs, rfl, rfl⟩ | ⟨h0, l0, ls, te, h2, hne, hz, hk, rfl, rfl⟩ | ⟨h0, c, ls, te, h2, hk, hz, he, rfl, rfl⟩
    · exact dv_leaf x c hc h0
    · have hl2 : l'.length ≤ 255 := by
        cases n with
        | zero => exact hy.elim
        | succ n => exact hy.2.1
      exact dv_var x y l' t' h0 h3 hz hl2 (ih y l' t' hy)
    · simp only [List.length_cons, List.length_append, List.length_nil] at ht
      refine dv_rec x (zs.map Prod.snd) h0 (by rw [List.length_map]; exact hzl) (by omega) hn fun j y hy => ?_
      have hj : j < zs.length := by rw [hzl]; exact (List.getElem?_eq_some_iff.1 hy).1
      exact ⟨zs[j].2, by rw [List.getElem?_map, List.getElem?_eq_getElem hj]; rfl, ih y _ _ (hzs j y zs[j] hy (List.getElem?_eq_getElem hj))⟩
    · simp only [List.length_cons] at hl ht
      refine dv_list x l0 ls te h0 h2 hne (dt_z hz (by omega) (by omega) (by omega) (by rw [List.length_cons]; omega)) (by omega) hn fun y hy => ?_
      obtain ⟨l', t', hv⟩ := hk y hy
      exact ⟨t', ih y l' t' hv⟩
    · simp only [List.length_cons, List.length_append, List.length_nil] at hl ht
      refine dv_dict x c (c :: (ls ++ [125])) te h0 h2 hk (by simp only [List.length_cons, List.length_append, List.length_nil]; omega) (dt_dict c ls te (key_one hk) (by omega) (by omega) (dt_z hz (by omega) (by omega) (by omega) (by omega))) (by omega) hn fun y hy => ?_
      obtain ⟨k0, k1, rest, l1, t1, h3, hv0, hv1⟩ := he y hy
      exact ⟨k0, k1, rest, t1, h3, ih k0 _ _ hv0, ih k1 _ _ hv1⟩
theorem ap_own {W6 : World} (base : Nat) (v : Value) (i : Nat) (vs : List Value) (hO : W6.ownsRow base 20 1 v i vs) (hsz : base ≤ W6.heap.size) (hi : i ≤ 100000) (d : TypeId) (u : Value) :
    ∃ A1 c1 w7, (Builtin.append_ #[50, 50] 50 #[v, .slice (some ⟨W6.heap.size, 0, none⟩) 1 1]).run Tryd.prog (W6.alloc (.cells #[.iface d u] 20)) = .ok (.slice A1 (i + 1) c1) w7 ∧ w7.ownsRow base 20 1 (.slice A1 (i + 1) c1) (i + 1) (vs ++ [.iface d u]) ∧ Below base W6 w7 ∧ (∀ k, k < W6.heap.size → v.ownBlock ≠ some k → w7.heap[k]? = W6.heap[k]?) ∧ ((Value.slice A1 (i + 1) c1).ownBlock = v.ownBlock ∨ ∃ b, (Value.slice A1 (i + 1) c1).ownBlock = some b ∧ W6.heap.size ≤ b) := by
  obtain ⟨i0, hi0, hz0⟩ := Option.map_eq_some_iff.1 info20
  simp only [Prod.mk.injEq] at hz0
  obtain ⟨v1, w7, hr, hown, hg, _, hat⟩ := run_append_own_at (P := Tryd.prog) (W6.alloc (.cells #[.iface d u] 20)) base 50 50 20 i0 .nilIface 1 16 Tryd.underlying50 hi0 hz0.1 hz0.2.1 hz0.2.2 rfl (by omega) v i _ (hO.alloc _) ⟨W6.heap.size, 0, none⟩ 1 1 [.iface d u] rfl
    (World.news_of_block (cs := #[.iface d u]) (t := 20) (fr := (0, 0)) (heap_alloc_new W6 _)) (by intro x hx; rw [List.mem_singleton.1 hx]; rfl) (by unfold maxLen; omega) (by omega) (by simp; omega)
  obtain ⟨A1, c1, rfl⟩ := own_slice hown
  have hG := World.grownBy.trans (World.grownBy_alloc W6 (.cells #[.iface d u] 20) v.ownBlock) hg
  have hob : ∀ k, v.ownBlock = some k → base ≤ k := fun k hk => own_base hO k hk
  refine ⟨A1, c1, w7, hr, hown, ⟨hG.os, hG.tape, hG.output, hG.size, fun k hk => hG.block k (by omega) (fun h => by have := hob k h.symm; omega)⟩, fun k hk hne => hG.block k hk (fun e => hne e.symm), ?_⟩
  rcases hat with hat | hat
  · exact .inl hat
  · exact .inr ⟨_, hat, by simp⟩
set_option maxRecDepth 100000 in
set_option maxHeartbeats 16000000 in
theorem ds_calls (X : List S53) (ts : List (List UInt8)) (hts : ts.length = X.length) (hn : X.length ≤ 1000) (ih : ∀ (j : Nat) y, X[j]? = some y → ∃ t, ts[j]? = some t ∧ DV y t) (A : Option Addr) (c3 : Nat) (w : World) (hC : Kd.C k53 w A X.length X) :
    Calls Tryd.prog 26 #[.slice A X.length c3] w fun e w' => ∃ A' c' us, e = .returned (.slice A' X.length c') ∧ us.length = X.length ∧ Vals w' A' us ∧ (∀ (j : Nat) u t, us[j]? = some u → ts[j]? = some t → TyIs w' u t) ∧ Below w.heap.size w w' := by
  obtain ⟨n, hnn⟩ : ∃ n, X.length = n := ⟨_, rfl⟩
  have HC := Aside0.mk hC
  rw [hnn] at hn hts ⊢
  have IH := Aside0.mk ih
  have HNN := Aside0.mk hnn
  clear ih hC hnn
  go_enter Tryd.func26, Tryd.ntmps26
  go_wp2_with fail
  go_loopg [3, 8] n (fun kq v3 v8 wr => ∃ (i : Nat) (v : Value) (vs : List Value), v = v3 ∧ v8 = .int .i64 (i : Int) ∧ i ≤ n ∧ Aside0 (kq = n - i ∧ Below w.heap.size w wr ∧ wr.ownsRow w.heap.size 20 1 v i vs ∧ ∀ (j : Nat) u, vs[j]? = some u → ∃ t S, ts[j]? = some t ∧ TyS wr S u t ∧ ∀ k, S k → v.ownBlock ≠ some k))
  case atStart => exact ⟨0, .slice none 0 0, [], rfl, rfl, by omega, ⟨rfl, Below.refl _ _, World.ownsRow_nil _ _ _ _, fun j u h => by simp at h⟩⟩
  case round =>
    obtain ⟨i, v, vs, rfl, rfl, hi, HI⟩ := hrel
    have HI0 := Aside0.mk HI.out.1
    by_cases hlt : i < n
    · have hd : decide ((i : Int) < (n : Int)) = true := by simpa using hlt
      have hwi : IntKind.i64.wrap ((i : Int) + 1) = ((i + 1 : Nat) : Int) := by rw [IntKind.wrap_i64]; omega
      have hix : i < X.length := by rw [HNN.out]; exact hlt
      obtain ⟨ad, A3, c4, rfl, q0, q1, q2, q3, hl4, hC3⟩ := at_T53 HC.out (i : Int) (by omega) (by omega)
      have hrd : rd_T53 X (i : Int) = X[i] := by
        unfold rd_T53
        rw [Int.toNat_natCast, List.getD_eq_getElem?_getD, List.getElem?_eq_getElem hix]
        rfl
      obtain ⟨y, hy⟩ : ∃ y, X[i] = y := ⟨_, rfl⟩
      rw [hrd, hy] at q0 q1 q2 q3 hl4 hC3
      obtain ⟨t, htj, hDV⟩ := IH.out i y (by rw [List.getElem?_eq_getElem hix, hy])
      have HDV := Aside0.mk hDV
      have HTJ := Aside0.mk htj
      have HC3 := Aside0.mk hC3
      replace q0 := pw_cell_below HI.out.2.1 q0
      replace q1 := pw_cell_below HI.out.2.1 q1
      replace q2 := pw_cell_below HI.out.2.1 q2
      replace q3 := pw_cell_below HI.out.2.1 q3
      clear hrd hDV hC3 hy hix htj
      simp only [Int.toNat_natCast] at q0 q1 q2 q3
      go_wp2_with fail
      have hba := below_alloc (Below.refl wr.heap.size wr) (.cells #[.int .u8 y.f0, .int .u64 y.f1, .string y.f2, .slice A3 y.f3.length c4] 53)
      have HO5 := Aside0.mk (HI.out.2.2.1.alloc (.cells #[.int .u8 y.f0, .int .u64 y.f1, .string y.f2, .slice A3 y.f3.length c4] 53))
      have HB5 := Aside0.mk (below_step HI.out.2.1 hba)
      have HBW := Aside0.mk hba
      have HTY := Aside0.mk HI.out.2.2.2
      generalize wr.alloc (.cells #[.int .u8 y.f0, .int .u64 y.f1, .string y.f2, .slice A3 y.f3.length c4] 53) = W5 at *
      refine (HDV.out A3 c4 _ (Kd.C_below HC3.out HB5.out)).mono ?_
      rintro e1 w6 ⟨d, u, Sx, rfl, hTy, hSx, hb, _⟩
      have hB6 := below_step HB5.out hb
      obtain ⟨A1, c1, w7, hr, hown, hg7, hk7, hat7⟩ := ap_own w.heap.size v i vs (pw_own_below HO5.out hb) hB6.size (by omega) d u
      have HN := Aside0.mk (And.intro hTy (And.intro hSx (And.intro hb (And.intro hk7 (And.intro hat7 hg7.size)))))
      have HO7 := Aside0.mk hown
      have HB7 := Aside0.mk (hB6.trans hg7)
      clear hTy hSx hb hk7 hat7 hown hg7 hB6 hba
      go_wp2_with fail
      go_roundg (n - (i + 1))
      case measure => have := HI0.out; omega
      case rel =>
        refine ⟨i + 1, _, vs ++ [.iface d u], rfl, by first | rfl | simp, hlt, ⟨rfl, HB7.out, HO7.out, ?_⟩⟩
        obtain ⟨hTy, hSx, hb, hk7, hat7, hs7⟩ := HN.out
        have hvl : vs.length = i := by simpa using HO5.out.1
        have mv : ∀ (S : Nat → Prop) (q : Value) (t : List UInt8), TyS w6 S q t → (∀ k, S k → v.ownBlock ≠ some k) → TyS w7 S q t ∧ ∀ k, S k → (Value.slice A1 (i + 1) c1).ownBlock ≠ some k := by
          intro S q t h hS
          refine ⟨h.move hs7 fun k hk => hk7 k (h.1 k hk) (hS k hk), fun k hk e => ?_⟩
          rcases hat7 with hat | ⟨b, hb2, hle⟩
          · exact hS k hk (hat ▸ e)
          · rw [hb2] at e
            have := h.1 k hk
            injection e with e
            omega
        intro j q hq
        by_cases hj : j < vs.length
        · rw [List.getElem?_append_left hj] at hq
          obtain ⟨t2, S, h1, h2, h3⟩ := HTY.out j q hq
          have h4 := mv S q t2 ((h2.up HBW.out).up hb) h3
          exact ⟨t2, S, h1, h4.1, h4.2⟩
        · have hj2 : j = vs.length := by
            have := (List.getElem?_eq_some_iff.1 hq).1
            simp at this
            omega
          subst hj2
          rw [List.getElem?_append_right (Nat.le_refl _)] at hq
          obtain rfl : q = .iface d u := by simpa using hq.symm
          have h4 := mv Sx (.iface d u) t hTy fun k hk e => by have h5 := own_lt HO5.out k e; have h6 := hSx k hk; omega
          exact ⟨t, Sx, by rw [hvl]; exact HTJ.out, h4.1, h4.2⟩
    · have hd : decide ((i : Int) < (n : Int)) = false := by simpa using hlt
      have hie : i = n := by omega
      subst hie
      obtain ⟨A9, c9, rfl⟩ := own_slice HI.out.2.2.1
      go_wp2_with fail
      go_ret
      refine ⟨A9, c9, vs, rfl, by simpa using HI.out.2.2.1.1, ?_, ?_, HI.out.2.1⟩
      · intro j v hv
        obtain ⟨g, e, _, hc⟩ := own_vals HI.out.2.2.1 j v hv
        exact ⟨_, e, by rwa [show (⟨g, 0, none⟩ : Addr).add j = ⟨g, j, none⟩ by unfold Addr.add; split <;> simp_all]⟩
      · intro j u t hu ht
        obtain ⟨t', S, h1, h2, _⟩ := HI.out.2.2.2 j u hu
        obtain rfl := Option.some.inj (h1.symm.trans ht)
        exact h2.is

end Go.Proofs.YtboioihppjhjcaaDoor.MFnSgOf

namespace Go.Proofs.YtboioihppjhjcaaDoor.MFnSgOf
open Go.RowKit Go.Proofs.YtboioihppjhjcaaDoorW.PrintWords Go.Proofs.YtboioihppjhjcaaDoorW.PrintLast Go.Proofs.YtboioihppjhjcaaDoorW.PrintMore
attribute [local go_sem] max2_int min2_int max_two min_two max_three min_three max_four min_four
set_option linter.unusedVariables false
set_option linter.unusedSimpArgs false

open Go.Proofs.YtboioihppjhjcaaDoor.Hlp Go.Proofs.YtboioihppjhjcaaDoor.SgT Go.Proofs.YtboioihppjhjcaaDoor.SgZ
theorem f24_idle (p q : Addr) (w : World) : CallsD Tryd.prog 24 #[.pointer (some p), .pointer (some q)] .returning w fun e u' w' => e = .returned (.tuple #[]) ∧ u' = .returning ∧ w' = w := by
  refine callsD_of_wpS Tryd.func24 rfl fun c₀ cs hu => ?_
  apply wpS_seq
  apply wpS_region
  simp [wpOpsS, go_sem, recoverD, hu, Tryd.ntmps24, Exit.thenS]
  refine wpS_cond (t := false) (by simp [Act.eval, Array.replicate]) ?_
  simp only [Bool.false_eq_true, if_false]
  refine wpS_of_wp (wp_skip ?_)
  cases c₀
  simp_all [bodyPostS, results, Tryd.results24]
theorem fld43 (a : ByteArray) (w : World) : (Instr.field 43 (.agg #[.string a]) 0).run Tryd.prog w = .ok (.string a) w := by kernel_rfl
attribute [local go_sem] fld43
theorem de_end {w w4 : World} {r : ByteArray} (hc0 : w4.cell? ⟨w.heap.size, 0, none⟩ = some (.string ⟨#[]⟩)) (hc1 : w4.cell? ⟨w.heap.size + 1, 0, none⟩ = some .nilIface) (hB : Below w.heap.size w w4) :
    ((w4.setCell ⟨w.heap.size, 0, none⟩ (.string r)).setCell ⟨w.heap.size + 1, 0, none⟩ .nilIface).cell? ⟨w.heap.size, 0, none⟩ = some (.string r) ∧ ((w4.setCell ⟨w.heap.size, 0, none⟩ (.string r)).setCell ⟨w.heap.size + 1, 0, none⟩ .nilIface).cell? ⟨w.heap.size + 1, 0, none⟩ = some .nilIface ∧ Below w.heap.size w ((w4.setCell ⟨w.heap.size, 0, none⟩ (.string r)).setCell ⟨w.heap.size + 1, 0, none⟩ .nilIface) := by
  refine ⟨?_, ?_, (hB.setCell (by show w.heap.size ≤ w.heap.size; omega) _).setCell (by show w.heap.size ≤ w.heap.size + 1; omega) _⟩
  · rw [World.cell?_setCell_other (h := by intro e; injection e with e; omega)]
    exact World.cell?_setCell_same _ _ _ hc0
  · exact World.cell?_setCell_same _ _ _ ((World.cell?_setCell_other _ _ _ _ (by intro e; injection e with e; omega)).trans hc1)
/-- Values, their signatures and their types' texts. -/
structure VTs (X : List S53) (zs : List (List UInt8 × List UInt8)) : Prop where
  len : zs.length = X.length
  few : X.length ≤ 1000
  vt : ∀ (j : Nat) y z, X[j]? = some y → zs[j]? = some z → ∃ n, VT n y z.1 z.2
  z : ∀ z ∈ zs, Z 32 32 32 z.1 z.2 ∧ z.1.length ≤ 255
  sum : (zs.map Prod.fst).flatten.length ≤ 100000
set_option maxRecDepth 100000 in
set_option maxHeartbeats 16000000 in
theorem dso_calls (X : List S53) (zs : List (List UInt8 × List UInt8)) (h : VTs X zs) (A : Option Addr) (c3 : Nat) (w : World) (hC : Kd.C k53 w A X.length X) :
    Calls Tryd.prog 15 #[.slice A X.length c3] w fun e w' => e = .returned (.tuple #[.string (Bs (zs.map Prod.fst).flatten), .nilIface]) ∧ Below w.heap.size w w' := by
  have hmf : ∀ (fn : Fn) (first cap : Array Value) (w : World), (Instr.makeFunc fn first cap).run Tryd.prog w = .ok (.func fn first cap) w := fun _ _ _ _ => rfl
  have hB2 := below_alloc (below_alloc (Below.refl w.heap.size w) (.cells #[.string ⟨#[]⟩] 9)) (.cells #[.nilIface] 36)
  have hds := ds_calls X (zs.map Prod.snd) (by rw [List.length_map]; exact h.len) h.few (fun j y hy => by
    have hj : j < zs.length := by rw [h.len]; exact (List.getElem?_eq_some_iff.1 hy).1
    obtain ⟨n, hv⟩ := h.vt j y zs[j] hy (List.getElem?_eq_getElem hj)
    exact ⟨zs[j].2, by rw [List.getElem?_map, List.getElem?_eq_getElem hj]; rfl, dv_all n y _ _ hv⟩) A c3 _ (Kd.C_below hC hB2)
  have l1 := heap_alloc_new (w.alloc (.cells #[.string ⟨#[]⟩] 9)) (.cells #[.nilIface] 36)
  have l0 := up_heap2 (below_alloc (Below.refl _ _) (.cells #[.nilIface] 36)) (heap_alloc_new w (.cells #[.string ⟨#[]⟩] 9))
  rw [World.size_alloc] at l1
  have H := Aside0.mk h
  have HDS := Aside0.mk hds
  have HB2 := Aside0.mk hB2
  have L0 := Aside0.mk (And.intro l0 l1)
  clear hds hC h hB2 l0 l1
  go_enter_defers Tryd.func15, Tryd.ntmps15
  go_wp2_with fail
  generalize (w.alloc (.cells #[.string ⟨#[]⟩] 9)).alloc (.cells #[.nilIface] 36) = W2 at *
  refine HDS.out.mono ?_
  rintro e1 W4 ⟨A', c', us, rfl, hus, hV, hT, hb⟩
  have HB4 := Aside0.mk (below_step HB2.out hb)
  have M0 := Aside0.mk (And.intro (up_heap2 hb L0.out.1) (up_heap2 hb L0.out.2))
  have hso := so_calls W4 A' X.length c' us zs hus H.out.len (by have := H.out.few; omega) H.out.sum hV (fun j v z hv hz => hT j v z.2 hv (by rw [List.getElem?_map, hz]; rfl)) H.out.z
  have HSO := Aside0.mk hso
  clear hb hV hT hso hus
  go_wp2_with fail
  refine HSO.out.mono ?_
  rintro e1 W5 ⟨rfl, hb⟩
  have m0 := up_heap2 hb M0.out.1
  have m1 := up_heap2 hb M0.out.2
  have hB5 := below_step HB4.out hb
  have c0 : W5.cell? ⟨w.heap.size, 0, none⟩ = some (.string ⟨#[]⟩) := (cell_of_row W5 w.heap.size 0 _ 9 (0, 0) m0).trans rfl
  have c1 : W5.cell? ⟨w.heap.size + 1, 0, none⟩ = some .nilIface := (cell_of_row W5 (w.heap.size + 1) 0 _ 36 (0, 0) m1).trans rfl
  have f0 := frozen_of_row W5 w.heap.size 0 _ 9 m0
  have f1 := frozen_of_row W5 (w.heap.size + 1) 0 _ 36 m1
  have D := de_end (r := Bs (zs.map Prod.fst).flatten) c0 c1 hB5
  have HD := Aside0.mk D
  clear hb m0 m1 hB5 D
  go_wp2_with fail
  obtain ⟨d6, d7, hbb⟩ := HD.out
  refine leaves_cons (f := 24) (args := #[.pointer (some ⟨w.heap.size, 0, none⟩), .pointer (some ⟨w.heap.size + 1, 0, none⟩)]) (by simp) (by simp [go_sem]) ?_
  refine (f24_idle _ _ _).mono ?_
  rintro e u' w'' ⟨rfl, rfl, hw⟩
  rw [← hw] at d6 d7 hbb
  clear hw
  simp [Leaves, settle, results, Tryd.results15, go_sem, d6, d7]
  exact hbb
set_option maxRecDepth 100000 in
set_option maxHeartbeats 16000000 in
theorem sg_calls (L : List S31) (X : List S53) (k : Nat) (hf : impl_valsIn.f k L = some X) (zs : List (List UInt8 × List UInt8)) (h : VTs X zs) (A : Option Addr) (c : Nat) (w : World) (hc : L.length ≤ c) (hC : Kd.C k31 w A L.length L) :
    Calls Tryd.prog 6 #[.slice A L.length c] w fun e w' => e = .returned (.tuple #[.string (Bs (zs.map Prod.fst).flatten), .bool true]) ∧ Below w.heap.size w w' := by
  have H := Aside0.mk h
  have HV := Aside0.mk (impl_valsIn.calls k A c L X w hC hc hf)
  clear h hC hf hc
  go_enter Tryd.func6, Tryd.ntmps6
  go_wp2_with fail
  refine HV.out.mono ?_
  rintro e1 w2 ⟨v0, rfl, hR, hb⟩
  obtain ⟨A', c', rfl, _, hC2⟩ := Kd.R_reads hR
  have HB := Aside0.mk hb
  have HC2 := Aside0.mk hC2
  clear hb hC2 hR
  go_wp2_with fail
  refine (dso_calls X zs H.out A' c' _ HC2.out).mono ?_
  rintro e1 w3 ⟨rfl, hb⟩
  have HB3 := Aside0.mk (below_step HB.out hb)
  clear hb
  go_wp2_with fail
  go_region
  all_goals
    go_wp2
    go_ret2
    exact ⟨rfl, by repeat (first | exact HB3.out | apply pw_below_drewN | apply below_drew1)⟩

end Go.Proofs.YtboioihppjhjcaaDoor.MFnSgOf

namespace Go.Proofs.YtboioihppjhjcaaDoor.MFnSgOf
open Go.RowKit Go.Proofs.YtboioihppjhjcaaDoorW.PrintWords Go.Proofs.YtboioihppjhjcaaDoorW.PrintLast Go.Proofs.YtboioihppjhjcaaDoorW.PrintMore
attribute [local go_sem] max2_int min2_int max_two min_two max_three min_three max_four min_four
set_option linter.unusedVariables false
set_option linter.unusedSimpArgs false

open Go.Proofs.YtboioihppjhjcaaDoor.Hlp Go.Proofs.YtboioihppjhjcaaDoor.SgT Go.Proofs.YtboioihppjhjcaaDoor.SgZ
attribute [-go_sem] Builtin.append_
mutual
/-- A value and all within it. -/
def nodes : S31 → List S31
  | ⟨a, b, s, l⟩ => ⟨a, b, s, l⟩ :: nodesL l
def nodesL : List S31 → List S31
  | [] => []
  | x :: r => nodes x ++ nodesL r
end
theorem nodes_eq (x : S31) : nodes x = x :: nodesL x.f3 := by cases x; simp [nodes]
theorem nodesL_app (a b : List S31) : nodesL (a ++ b) = nodesL a ++ nodesL b := by
  induction a with
  | nil => simp [nodesL]
  | cons x r ih => simp [nodesL, ih]
theorem nodesL_len (a : List S31) : a.length ≤ (nodesL a).length := by
  induction a with
  | nil => simp
  | cons x r ih => rw [nodesL, nodes_eq]; simp only [List.length_cons, List.length_append]; omega
/-- Rows of values as they were in w, in a row of the call's own. -/
def Todo (w W : World) (v : Value) (rows : List S31) : Prop := ∃ inner, W.ownsRow w.heap.size 31 4 v rows.length inner ∧ Reps (k31.K w) 4 rows inner
theorem info31 : (Tryd.prog.info? 31).map (fun i => (i.zero, i.size, i.bytes)) = some (some (.agg #[(.int .u8 0), (.int .u64 0), (.string ⟨#[]⟩), (.slice none 0 0)]), 4, 56) := by kernel_rfl
theorem run_ap_none {P : Program} {w : World} (base : Nat) (t ty e : TypeId) (i : TypeInfo) (size c : Nat) (ht : P.underlying t = some (.slice e)) (hi : P.info? e = some i)
    (v : Value) (n : Nat) (xs : List Value) (hown : w.ownsRow base e size v n xs) :
    (Builtin.append_ #[t, t] ty #[v, .slice none 0 c]).run P w = .ok v w := by
  rcases hown.2 with ⟨rfl, rfl⟩ | ⟨g, cap, cur, rfl, _, _, hnc, _⟩
  · simp [Builtin.append_, run_underlying ht, sizeOf, typeInfo, hi, Builtin.lenOf, Builtin.firstCells]
  · simp [Builtin.append_, run_underlying ht, sizeOf, typeInfo, hi, Builtin.lenOf, Builtin.firstCells, hnc, storeCells]
theorem ap_rows {w W : World} {v : Value} {rows : List S31} (hT : Todo w W v rows) (hb : Below w.heap.size w W) (A3 : Option Addr) (kids : List S31) (c3 : Nat) (hC : Kd.C k31 w A3 kids.length kids) (hl : rows.length + kids.length ≤ 1000) :
    ∃ A1 c1 w7, (Builtin.append_ #[22, 22] 22 #[v, .slice A3 kids.length c3]).run Tryd.prog W = .ok (.slice A1 (rows.length + kids.length) c1) w7 ∧ Todo w w7 (.slice A1 (rows.length + kids.length) c1) (rows ++ kids) ∧ Below w.heap.size w w7 := by
  obtain ⟨inner, hO, hR⟩ := hT
  obtain ⟨i0, hi, hzz⟩ := Option.map_eq_some_iff.1 info31
  simp only [Prod.mk.injEq] at hzz
  obtain ⟨hz0, hz1, hz2⟩ := hzz
  cases A3 with
  | none =>
    have hk : kids = [] := by
      cases kids with
      | nil => rfl
      | cons k r => obtain ⟨ad, e, _⟩ := hC.2.2 (by simp); cases e
    subst hk
    obtain ⟨A, c, rfl⟩ := own_slice hO
    exact ⟨A, c, W, run_ap_none _ 22 22 31 i0 4 c3 Tryd.underlying22 hi _ _ _ hO, by rw [List.append_nil]; exact ⟨inner, hO, hR⟩, hb⟩
  | some ad =>
    obtain ⟨ik, hRk, hck⟩ := ReadsRow.inner_ hC
    have h1 : ∀ u ∈ ik, u.oneCell' = true := Kd.reps_one hRk (by decide) (fun p c hp => k31.K_one hp)
    obtain ⟨v1, w7, hr, hown, hg, _⟩ := run_append_own (P := Tryd.prog) W w.heap.size 22 22 31 i0 _ 4 56 Tryd.underlying22 hi hz0 hz1 hz2 rfl (by omega) v rows.length inner hO ad kids.length c3 ik hRk.1
      (fun j u hj => pw_cell_below hb (hck j u hj)) h1 (by unfold maxLen; omega) (by omega) hb.size
    obtain ⟨A1, c1, rfl⟩ := own_slice hown
    exact ⟨A1, c1, w7, hr, ⟨inner ++ ik, by rw [List.length_append]; exact hown, Kd.reps_append hR hRk⟩, hb.trans (grown_below hg (fun q hq => own_base hO q hq) hb.size)⟩
/-- The last row, taken off. -/
theorem todo_pop {w W : World} {A : Option Addr} {c : Nat} {rest : List S31} {x : S31} (h : Todo w W (.slice A (rest.length + 1) c) (rest ++ [x])) : (∃ g A3 c3, A = some ⟨g, 0, none⟩ ∧ W.cell? ⟨g, rest.length * 4, none⟩ = some (.int .u8 x.f0) ∧ W.cell? ⟨g, rest.length * 4 + 1, none⟩ = some (.int .u64 x.f1) ∧ W.cell? ⟨g, rest.length * 4 + 2, none⟩ = some (.string x.f2) ∧ W.cell? ⟨g, rest.length * 4 + 3, none⟩ = some (.slice A3 x.f3.length c3) ∧ Kd.C k31 w A3 x.f3.length x.f3) ∧ Todo w W (.slice A rest.length c) rest := by
  obtain ⟨inner, hO, hR⟩ := h
  rw [List.length_append, List.length_singleton] at hO
  have hK := hR.2 rest.length x (by rw [List.getElem?_append_right (Nat.le_refl _)]; simp)
  obtain ⟨A3, c3, hcs, _, hC⟩ := k31_open hK
  refine ⟨?_, inner.take (rest.length * 4), own_take hO (by omega), ?_⟩
  · rcases hO.2 with ⟨e, h0⟩ | ⟨g, cap, cur, e, hg, r⟩
    · omega
    · injection e with e1 _ _
      have hcell : ∀ q u, [.int .u8 x.f0, .int .u64 x.f1, .string x.f2, .slice A3 x.f3.length c3][q]? = some u → W.cell? ⟨g, rest.length * 4 + q, none⟩ = some u := by
        intro q u hq
        rw [← hcs, List.getElem?_take] at hq
        split at hq
        · rw [List.getElem?_drop] at hq
          have hc := hO.cells (g := g) (by rw [e1]; rfl) _ u hq
          have ha : (⟨g, 0, none⟩ : Addr).add (rest.length * 4 + q) = ⟨g, rest.length * 4 + q, none⟩ := by unfold Addr.add; split <;> simp_all
          rwa [ha] at hc
        · cases hq
      exact ⟨g, A3, c3, e1, hcell 0 _ rfl, hcell 1 _ rfl, hcell 2 _ rfl, hcell 3 _ rfl, hC⟩
  · have h := Kd.reps_take hR (m := rest.length) (by simp)
    rwa [List.take_left] at h
set_option maxRecDepth 100000 in
set_option maxHeartbeats 16000000 in
theorem bd_calls (L : List S31) (mo : Nat) (hmo : mo ≤ 400) (hL : L.length ≤ 1000000000) (A : Option Addr) (c : Nat) (w : World) (hC : Kd.C k31 w A L.length L) :
    Calls Tryd.prog 11 #[.slice A L.length c, .int .i64 (mo : Int)] w fun e w' => ∃ b, e = .returned (.bool b) ∧ Below w.heap.size w w' ∧ (b = true → (nodesL L).length ≤ mo ∧ ∀ x ∈ nodesL L, x.f2.size ≤ 65536) := by
  by_cases hbig : mo < L.length
  · have hd : decide ((mo : Int) < (L.length : Int)) = true := by simpa using hbig
    go_enter Tryd.func11, Tryd.ntmps11
    go_wp2
    go_ret
    exact ⟨_, rfl, Below.refl _ _, fun h => by cases h⟩
  · have hd : decide ((mo : Int) < (L.length : Int)) = false := by simpa using hbig
    obtain ⟨n, hn⟩ : ∃ n, L.length = n := ⟨_, rfl⟩
    have HC := Aside0.mk hC
    have HN := Aside0.mk hn
    rw [hn] at hd hbig hL ⊢
    clear hC hn
    go_enter Tryd.func11, Tryd.ntmps11
    have ht0 : Todo w (w.alloc (.cells #[] 31)) (.slice (some ⟨w.heap.size, 0, none⟩) 0 0) [] := ⟨[], ⟨rfl, .inr ⟨w.heap.size, 0, #[], rfl, Nat.le_refl _, heap_alloc_new w _, Nat.le_refl _, by decide, rfl, rfl⟩⟩, Reps.none _ _⟩
    obtain ⟨A1, c1, w7, hr, ht7, hb7⟩ := ap_rows ht0 (below_alloc (Below.refl _ _) _) A L c HC.out (by have := HN.out; simp; omega)
    simp only [List.length_nil, Nat.zero_add, List.nil_append, HN.out] at hr ht7
    have HT7 := Aside0.mk ht7
    have HB7 := Aside0.mk hb7
    clear ht0 ht7 hb7
    go_wp2_with fail
    go_loopg [5, 6, 7] (nodesL L).length (fun kq v5 v6 v7 wr => ∃ (rows : List S31) (A2 : Option Addr) (c2 b nn : Nat), v5 = .slice A2 rows.length c2 ∧ v6 = .int .i64 (b : Int) ∧ v7 = .int .i64 (nn : Int) ∧ b ≤ 65536 ∧ nn ≤ mo ∧ rows.length ≤ nn ∧ Aside0 (kq = (nodesL rows).length ∧ Todo w wr (.slice A2 rows.length c2) rows ∧ Below w.heap.size w wr ∧ nn + (nodesL rows).length = (nodesL L).length + rows.length ∧ ∀ x ∈ nodesL L, x ∈ nodesL rows ∨ x.f2.size ≤ 65536))
    case atStart => exact ⟨L, A1, c1, 0, n, by rw [HN.out], rfl, rfl, by omega, by omega, by rw [HN.out]; omega, ⟨rfl, by rw [HN.out]; exact HT7.out, HB7.out, by rw [HN.out]; omega, fun x hx => .inl hx⟩⟩
    case round =>
      obtain ⟨rows, A2, c2, b, nn, rfl, rfl, rfl, hb, hnn, hrn, HI⟩ := hrel
      rcases List.eq_nil_or_concat rows with rfl | ⟨rest, x, rfl⟩
      · go_wp2_with fail
        go_ret
        refine ⟨_, rfl, HI.out.2.2.1, fun _ => ⟨?_, fun x hx => ?_⟩⟩
        · have h1 := HI.out.2.2.2.1
          simp [nodesL] at h1
          omega
        · rcases HI.out.2.2.2.2 x hx with h | h
          · simp [nodesL] at h
          · exact h
      · rw [List.concat_eq_append] at hrn HI ⊢
        obtain ⟨hk0, hT, hBw, hcnt, hmem⟩ := HI.out
        rw [List.length_append, List.length_singleton] at hT hrn hcnt ⊢
        obtain ⟨⟨g, A3, c3, rfl, p0, p1, p2, p3, hC3⟩, hT2⟩ := todo_pop hT
        have hcap : rest.length + 1 ≤ c2 := by
          obtain ⟨inner, hO, _⟩ := hT
          have := own_le hO
          simpa using this
        obtain ⟨m, hm⟩ : ∃ m, rest.length = m := ⟨_, rfl⟩
        obtain ⟨ln, hln⟩ : ∃ ln, m + 1 = ln := ⟨_, rfl⟩
        obtain ⟨kn, hkn⟩ : ∃ kn, x.f3.length = kn := ⟨_, rfl⟩
        rw [hkn] at p3
        simp only [hm] at p0 p1 p2 p3 hcap hrn hcnt hT2 ⊢
        simp only [hln] at hcap hrn hcnt ⊢
        have hw1 : IntKind.i64.wrap ((ln : Int) - 1) = (m : Int) := by rw [IntKind.wrap_i64]; omega
        have hl0 : decide ((0 : Int) < (ln : Int)) = true := by simp; omega
        have hm0 : ((0 : Int) ≤ (m : Int)) = True := eq_true (by omega)
        have hm1 : ((m : Int) < (ln : Int)) = True := eq_true (by omega)
        have hm2 : ((m : Int) ≤ (c2 : Int)) = True := eq_true (by omega)
        have hm3 : (m < ln) = True := eq_true (by omega)
        have hm4 : (m ≤ c2) = True := eq_true (by omega)
        have hn0 : nodesL (rest ++ [x]) = nodesL rest ++ (x :: nodesL x.f3) := by rw [nodesL_app]; simp [nodesL, nodes_eq]
        have hnk : x.f3.length ≤ (nodesL x.f3).length := nodesL_len x.f3
        have HX := Aside0.mk (And.intro hk0 (And.intro hcnt (And.intro hmem (And.intro hn0 (And.intro hkn (And.intro hm hln))))))
        have HT2 := Aside0.mk hT2
        have HBw := Aside0.mk hBw
        have HC3 := Aside0.mk hC3
        clear hk0 hcnt hmem hn0 hT hT2 hBw hC3 HI
        by_cases hS : x.f2.size ≤ 65536
        · have d1 : decide ((65536 : Int) < (x.f2.size : Int)) = false := by simp; omega
          by_cases hk : kn ≤ mo
          · have d2 : decide ((mo : Int) < (kn : Int)) = false := by simp; omega
            obtain ⟨b2, hb2⟩ : ∃ b2, b + x.f2.size = b2 := ⟨_, rfl⟩
            obtain ⟨n2, hn2⟩ : ∃ n2, nn + kn = n2 := ⟨_, rfl⟩
            have hw2 : IntKind.i64.wrap ((b : Int) + (x.f2.size : Int)) = (b2 : Int) := by rw [IntKind.wrap_i64]; omega
            have hw3 : IntKind.i64.wrap ((nn : Int) + (kn : Int)) = (n2 : Int) := by rw [IntKind.wrap_i64]; omega
            by_cases hB : b2 ≤ 65536
            · have d3 : decide ((65536 : Int) < (b2 : Int)) = false := by simp; omega
              by_cases hN : n2 ≤ mo
              · have d4 : decide ((mo : Int) < (n2 : Int)) = false := by simp; omega
                have hba := below_alloc (Below.refl wr.heap.size wr) (.cells #[.int .u8 x.f0, .int .u64 x.f1, .string x.f2, .slice A3 kn c3] 31)
                have ht4 : Todo w (wr.alloc (.cells #[.int .u8 x.f0, .int .u64 x.f1, .string x.f2, .slice A3 kn c3] 31)) (.slice (some ⟨g, 0, none⟩) rest.length c2) rest := by
                  obtain ⟨inner, hO, hR⟩ := HT2.out
                  rw [← HX.out.2.2.2.2.2.1] at hO
                  exact ⟨inner, hO.alloc _, hR⟩
                obtain ⟨A4, c4, w7, hr, ht7, hb7⟩ := ap_rows ht4 (below_step HBw.out hba) A3 x.f3 c3 HC3.out (by have h1 := HX.out.2.2.2.2; omega)
                rw [HX.out.2.2.2.2.1, HX.out.2.2.2.2.2.1] at hr ht7
                have HT7 := Aside0.mk ht7
                have HB7 := Aside0.mk hb7
                clear ht4 ht7 hb7 hba
                go_wp2_with fail
                obtain ⟨hk0, hcnt, hmem, hn0, hkn', hm', hln'⟩ := HX.out
                have hlen : (rest ++ x.f3).length = m + kn := by rw [List.length_append, hm', hkn']
                have hnn2 : (nodesL (rest ++ x.f3)).length = (nodesL rest).length + (nodesL x.f3).length := by rw [nodesL_app, List.length_append]
                have hnn3 : (nodesL (rest ++ [x])).length = (nodesL rest).length + (nodesL x.f3).length + 1 := by rw [hn0, List.length_append, List.length_cons]; omega
                go_roundg (nodesL (rest ++ x.f3)).length
                case measure => omega
                case rel =>
                  refine ⟨rest ++ x.f3, A4, c4, b2, n2, by rw [hlen], rfl, rfl, hB, hN, by omega, ⟨rfl, by rw [hlen]; exact HT7.out, HB7.out, by omega, fun z hz => ?_⟩⟩
                  rcases hmem z hz with h | h
                  · rw [hn0] at h
                    rcases List.mem_append.1 h with h | h
                    · exact .inl (by rw [nodesL_app]; exact List.mem_append_left _ h)
                    · rcases List.mem_cons.1 h with rfl | h
                      · exact .inr hS
                      · exact .inl (by rw [nodesL_app]; exact List.mem_append_right _ h)
                  · exact .inr h
              · have d4 : decide ((mo : Int) < (n2 : Int)) = true := by simp; omega
                have e4 : decide (mo < n2) = true := by simp; omega
                go_wp2_with fail
                go_ret
                exact ⟨_, rfl, below_alloc HBw.out _, fun h => by cases h⟩
            · have d3 : decide ((65536 : Int) < (b2 : Int)) = true := by simp; omega
              have e3 : decide (65536 < b2) = true := by simp; omega
              go_wp2_with fail
              go_ret
              exact ⟨_, rfl, below_alloc HBw.out _, fun h => by cases h⟩
          · have d2 : decide ((mo : Int) < (kn : Int)) = true := by simp; omega
            have e2 : decide (mo < kn) = true := by simp; omega
            go_wp2_with fail
            go_ret
            exact ⟨_, rfl, below_alloc HBw.out _, fun h => by cases h⟩
        · have d1 : decide ((65536 : Int) < (x.f2.size : Int)) = true := by simp; omega
          have e1 : decide (65536 < x.f2.size) = true := by simp; omega
          go_wp2_with fail
          go_ret
          exact ⟨_, rfl, below_alloc HBw.out _, fun h => by cases h⟩

end Go.Proofs.YtboioihppjhjcaaDoor.MFnSgOf

/-
  DERIVED: THE SHELF's CONTRACTS AT THIS DUMP, IN PLAIN WORDS (tools/lay-plain.mjs out of 'TrydShelf.lean', which tools/lay-shelf.mjs wrote): THE SAME DECLARATIONS UNDER THE SAME NAMES: 'import', 'namespace', 'open', 'def', 'theorem' AND NOTHING ELSE: no command of the shelf's: FOR A HAND-IN. Each laying: the table of numbers ('.._ren') and one theorem, a field a fact of the dump's own or the kernel's comparison; each contract: ONE APPLICATION.
-/
namespace Go.Proofs
open Go.Shelf
def Tryd.lays196_ren : Go.Shelf.Ren := ⟨fun | 196 => 44 | 259 => 64 | n => n, fun | 9 => 9 | 4 => 4 | 3 => 3 | 5 => 5 | 12 => 12 | 119 => 122 | 0 => 0 | 46 => 126 | 139 => 125 | 138 => 124 | 53 => 29 | n => n, fun | 3 => 1 | 4 => 2 | n => n⟩
theorem Tryd.lays196 : Go.Proofs.Lays.n196 Tryd.prog Tryd.lays196_ren := {
  mixed := by kernel_rfl
  f196 := Tryd.func44.trans (congrArg some (by kernel_rfl))
  f259 := Tryd.func64.trans (congrArg some (by kernel_rfl))
  t0 := Tryd.underlying0
  a0 := Tryd.isAgg0
  z0 := Tryd.sizeOf0
  v0 := Tryd.zeroValue0
  t3 := Tryd.underlying3
  a3 := Tryd.isAgg3
  z3 := Tryd.sizeOf3
  v3 := Tryd.zeroValue3
  t4 := Tryd.underlying4
  a4 := Tryd.isAgg4
  z4 := Tryd.sizeOf4
  v4 := Tryd.zeroValue4
  t5 := Tryd.underlying5
  a5 := Tryd.isAgg5
  z5 := Tryd.sizeOf5
  v5 := Tryd.zeroValue5
  t9 := Tryd.underlying9
  a9 := Tryd.isAgg9
  z9 := Tryd.sizeOf9
  v9 := Tryd.zeroValue9
  t12 := Tryd.underlying12
  a12 := Tryd.isAgg12
  z12 := Tryd.sizeOf12
  v12 := Tryd.zeroValue12
  t46 := Tryd.underlying126
  a46 := Tryd.isAgg126
  z46 := Tryd.sizeOf126
  v46 := Tryd.zeroValue126
  t53 := Tryd.underlying29
  a53 := Tryd.isAgg29
  z53 := Tryd.sizeOf29
  v53 := Tryd.zeroValue29
  t119 := Tryd.underlying122
  a119 := Tryd.isAgg122
  z119 := Tryd.sizeOf122
  t138 := Tryd.underlying124
  a138 := Tryd.isAgg124
  z138 := Tryd.sizeOf124
  v138 := Tryd.zeroValue124
  t139 := Tryd.underlying125
  a139 := Tryd.isAgg125
  z139 := Tryd.sizeOf125
  v139 := Tryd.zeroValue125
  g3 := by kernel_rfl
  g4 := by kernel_rfl }
end Go.Proofs

namespace Go.Proofs.YtboioihppjhjcaaDoor.MFnSgOf
open Go.RowKit Go.Proofs.YtboioihppjhjcaaDoorW.PrintWords Go.Proofs.YtboioihppjhjcaaDoorW.PrintLast Go.Proofs.YtboioihppjhjcaaDoorW.PrintMore
attribute [local go_sem] max2_int min2_int max_two min_two max_three min_three max_four min_four
set_option linter.unusedVariables false
set_option linter.unusedSimpArgs false

/-- utf8.ValidString, of texts that the machine can hold. -/
def utf8_ValidString.f (a0 : ByteArray) : Option Bool := if a0.size ≤ 9223372036854775807 then some (Lib.validD a0.data.toList) else none
theorem utf8_ValidString.calls (a0 : ByteArray) (r : Bool) (w : World) (hT : Lib.Utf8Tabs 1 2 w) (h : utf8_ValidString.f a0 = some r) :
    Calls Tryd.prog 44 #[.string a0] w fun e w' => e = .returned (.bool r) ∧ Below w.heap.size w w' := by
  unfold utf8_ValidString.f at h
  split at h
  case isTrue hs =>
    cases h
    exact Any.utf8_ValidString Tryd.lays196 a0 w hs hT
  case isFalse => cases h

end Go.Proofs.YtboioihppjhjcaaDoor.MFnSgOf
