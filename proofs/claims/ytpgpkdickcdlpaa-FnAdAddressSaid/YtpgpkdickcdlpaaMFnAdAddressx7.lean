-- Written by a program of this session (myprint.py, out of the translation). Not trusted: Lean checks it.
import Derived.Test.YtpgpkdickcdlpaaMFnAdAddressx0
import Derived.Test.YtpgpkdickcdlpaaMFnAdAddressx2
import Derived.Test.YtpgpkdickcdlpaaMFnAdAddressx5
import Derived.Test.YtpgpkdickcdlpaaMFnAdAddressx6
namespace Go.Proofs.Ytpgpkdickcdlpaa.MFnAdAddress
open Go.RowKit Go.Proofs.YtpgpkdickcdlpaaW.PrintWords Go.Proofs.YtpgpkdickcdlpaaW.PrintLast Go.Proofs.YtpgpkdickcdlpaaW.PrintMore
attribute [local go_sem] max2_int min2_int max_two min_two max_three min_three max_four min_four   -- for this text's walks alone
set_option linter.unusedVariables false
set_option linter.unusedSimpArgs false

/-! ### laws_FnAdAddress: function 5 -/
mutual
def laws_FnAdAddress.j0 : Nat → List ByteArray → List (List ByteArray) → List (List ByteArray) → Bool → Option (Bool)
 | 0, _, _, _, _ => none
 | k + 1, x0, x1, x2, x39 => if x39 = true then (some true) else (if (x0.length : Int) = 0 then (laws_FnAdAddress.j1 k x0 x1 x2 true) else (if (x0.length : Int) > 10 then (laws_FnAdAddress.j1 k x0 x1 x2 true) else (if (x1.length : Int) = (x0.length : Int) then (laws_FnAdAddress.j1 k x0 x1 x2 ((x2.length : Int) != (x0.length : Int))) else (laws_FnAdAddress.j1 k x0 x1 x2 true))))
def laws_FnAdAddress.j1 : Nat → List ByteArray → List (List ByteArray) → List (List ByteArray) → Bool → Option (Bool)
 | 0, _, _, _, _ => none
 | k + 1, x0, x1, x2, x61 => if x61 = true then (some true) else (laws_FnAdAddress.l0 k x0 x1 x2 (x0.length : Int) 0)
def laws_FnAdAddress.l0 : Nat → List ByteArray → List (List ByteArray) → List (List ByteArray) → Int → Int → Option (Bool)
 | 0, _, _, _, _, _ => none
 | k + 1, x0, x1, x2, x63, x64 => if x64 < x63 then (if 0 ≤ x64 then (if x64 < (x0.length : Int) then ((laws_adWord.f k (rdOf ByteArray.empty x0 x64)).bind fun t121 => (if t121 = true then (if x64 < (x1.length : Int) then (if ((rd_L1 x1 x64).length : Int) > 10 then (laws_FnAdAddress.j3 k x0 x1 x2 x64 x63 x64 true) else (if x64 < (x2.length : Int) then (laws_FnAdAddress.j3 k x0 x1 x2 x64 x63 x64 (((rd_L1 x1 x64).length : Int) != ((rd_L1 x2 x64).length : Int))) else (none))) else (none)) else (laws_FnAdAddress.j3 k x0 x1 x2 x64 x63 x64 true))) else (none)) else (none)) else (laws_FnAdAddress.l2 k x0 x1 x2 ([] : List ByteArray) (x0.length : Int) 0)
def laws_FnAdAddress.j3 : Nat → List ByteArray → List (List ByteArray) → List (List ByteArray) → Int → Int → Int → Bool → Option (Bool)
 | 0, _, _, _, _, _, _, _ => none
 | k + 1, x0, x1, x2, x7, x63, x64, x93 => if x93 = true then (some true) else (if 0 ≤ x7 then (if x7 < (x1.length : Int) then (laws_FnAdAddress.l1 k x0 x1 x2 x7 x63 x64 ((rd_L1 x1 x7).length : Int) 0) else (none)) else (none))
def laws_FnAdAddress.l1 : Nat → List ByteArray → List (List ByteArray) → List (List ByteArray) → Int → Int → Int → Int → Int → Option (Bool)
 | 0, _, _, _, _, _, _, _, _ => none
 | k + 1, x0, x1, x2, x7, x63, x64, x98, x99 => if x99 < x98 then (if 0 ≤ x7 then (if x7 < (x1.length : Int) then (if 0 ≤ x99 then (if x99 < ((rd_L1 x1 x7).length : Int) then ((laws_adWord.f k (rdOf ByteArray.empty (rd_L1 x1 x7) x99)).bind fun t128 => (if t128 = true then (if x7 < (x2.length : Int) then (if x99 < ((rd_L1 x2 x7).length : Int) then (if ((rdOf ByteArray.empty (rd_L1 x2 x7) x99).size : Int) > 300 then (some true) else (laws_FnAdAddress.l1 k x0 x1 x2 x7 x63 x64 x98 (wrap64 (x99 + 1)))) else (none)) else (none)) else (some true))) else (none)) else (none)) else (none)) else (none)) else (laws_FnAdAddress.l0 k x0 x1 x2 x63 (wrap64 (x64 + 1)))
def laws_FnAdAddress.l2 : Nat → List ByteArray → List (List ByteArray) → List (List ByteArray) → List ByteArray → Int → Int → Option (Bool)
 | 0, _, _, _, _, _, _ => none
 | k + 1, x0, x1, x2, x9, x125, x126 => if x126 < x125 then (if 0 ≤ x126 then (if x126 < (x1.length : Int) then (laws_FnAdAddress.l3 k x0 x1 x2 x9 x126 ([] : List ByteArray) x125 x126 ((rd_L1 x1 x126).length : Int) 0) else (none)) else (none)) else ((spec_Joined.f k x9 (⟨#[59]⟩ : ByteArray)).bind fun t145 => ((spec_Split.f k t145 59).bind fun t146 => (if (t146.length : Int) = (x0.length : Int) then (laws_FnAdAddress.l4 k x0 x1 x2 t146 (t146.length : Int) 0) else (some false))))
def laws_FnAdAddress.l3 : Nat → List ByteArray → List (List ByteArray) → List (List ByteArray) → List ByteArray → Int → List ByteArray → Int → Int → Int → Int → Option (Bool)
 | 0, _, _, _, _, _, _, _, _, _, _ => none
 | k + 1, x0, x1, x2, x9, x10, x11, x125, x126, x133, x134 => if x134 < x133 then (if 0 ≤ x10 then (if x10 < (x1.length : Int) then (if 0 ≤ x134 then (if x134 < ((rd_L1 x1 x10).length : Int) then (if (rdOf ByteArray.empty (rd_L1 x1 x10) x134).size + 1 ≤ 9223372036854775807 then (if x10 < (x2.length : Int) then (if x134 < ((rd_L1 x2 x10).length : Int) then ((impl_AdEscape.f k (rdOf ByteArray.empty (rd_L1 x2 x10) x134)).bind fun t136 => (if ((rdOf ByteArray.empty (rd_L1 x1 x10) x134) ++ (⟨#[61]⟩ : ByteArray)).size + t136.size ≤ 9223372036854775807 then (if x11.length < 8796093022208 then (laws_FnAdAddress.l3 k x0 x1 x2 x9 x10 (x11 ++ [((rdOf ByteArray.empty (rd_L1 x1 x10) x134) ++ (⟨#[61]⟩ : ByteArray)) ++ t136]) x125 x126 x133 (wrap64 (x134 + 1))) else (none)) else (none))) else (none)) else (none)) else (none)) else (none)) else (none)) else (none)) else (none)) else (if 0 ≤ x10 then (if x10 < (x0.length : Int) then (if (rdOf ByteArray.empty x0 x10).size + 1 ≤ 9223372036854775807 then ((spec_Joined.f k x11 (⟨#[44]⟩ : ByteArray)).bind fun t141 => (if ((rdOf ByteArray.empty x0 x10) ++ (⟨#[58]⟩ : ByteArray)).size + t141.size ≤ 9223372036854775807 then (if x9.length < 8796093022208 then (laws_FnAdAddress.l2 k x0 x1 x2 (x9 ++ [((rdOf ByteArray.empty x0 x10) ++ (⟨#[58]⟩ : ByteArray)) ++ t141]) x125 (wrap64 (x126 + 1))) else (none)) else (none))) else (none)) else (none)) else (none))
def laws_FnAdAddress.l4 : Nat → List ByteArray → List (List ByteArray) → List (List ByteArray) → List ByteArray → Int → Int → Option (Bool)
 | 0, _, _, _, _, _, _ => none
 | k + 1, x0, x1, x2, x178, x179, x180 => if x180 < x179 then (if 0 ≤ x180 then (if x180 < (x178.length : Int) then ((spec_Cut.f k (rdOf ByteArray.empty x178 x180) 58).bind fun bt151 => (if bt151.2.2 = true then (if x180 < (x0.length : Int) then (laws_FnAdAddress.j8 k x0 x1 x2 x180 bt151.2.1 x178 x179 x180 (bt151.1.toList != (rdOf ByteArray.empty x0 x180).toList)) else (none)) else (laws_FnAdAddress.j8 k x0 x1 x2 x180 bt151.2.1 x178 x179 x180 true))) else (none)) else (none)) else ((impl_AdEscape.f k (⟨#[61]⟩ : ByteArray)).bind fun t149 => (some (t149.toList == ([37, 51, 100] : List UInt8))))
def laws_FnAdAddress.j8 : Nat → List ByteArray → List (List ByteArray) → List (List ByteArray) → Int → ByteArray → List ByteArray → Int → Int → Bool → Option (Bool)
 | 0, _, _, _, _, _, _, _, _, _ => none
 | k + 1, x0, x1, x2, x14, x17, x178, x179, x180, x200 => if x200 = true then (some false) else (if x17.toList = ([] : List UInt8) then (laws_FnAdAddress.j9 k x0 x1 x2 x14 ([] : List ByteArray) x178 x179 x180) else ((spec_Split.f k x17 44).bind fun t155 => (laws_FnAdAddress.j9 k x0 x1 x2 x14 t155 x178 x179 x180)))
def laws_FnAdAddress.j9 : Nat → List ByteArray → List (List ByteArray) → List (List ByteArray) → Int → List ByteArray → List ByteArray → Int → Int → Option (Bool)
 | 0, _, _, _, _, _, _, _, _ => none
 | k + 1, x0, x1, x2, x14, x19, x178, x179, x180 => if 0 ≤ x14 then (if x14 < (x1.length : Int) then (if (x19.length : Int) = ((rd_L1 x1 x14).length : Int) then (laws_FnAdAddress.l5 k x0 x1 x2 x14 x178 x179 x180 x19 (x19.length : Int) 0) else (some false)) else (none)) else (none)
def laws_FnAdAddress.l5 : Nat → List ByteArray → List (List ByteArray) → List (List ByteArray) → Int → List ByteArray → Int → Int → List ByteArray → Int → Int → Option (Bool)
 | 0, _, _, _, _, _, _, _, _, _, _ => none
 | k + 1, x0, x1, x2, x14, x178, x179, x180, x213, x214, x215 => if x215 < x214 then (if 0 ≤ x215 then (if x215 < (x213.length : Int) then ((spec_Cut.f k (rdOf ByteArray.empty x213 x215) 61).bind fun bt160 => ((impl_AdUnescape.f k bt160.2.1).bind fun bt163 => (if bt160.2.2 = true then (if 0 ≤ x14 then (if x14 < (x1.length : Int) then (if x215 < ((rd_L1 x1 x14).length : Int) then (if bt160.1.toList = (rdOf ByteArray.empty (rd_L1 x1 x14) x215).toList then (if bt163.2 = true then (if x14 < (x2.length : Int) then (if x215 < ((rd_L1 x2 x14).length : Int) then (if bt163.1.toList = (rdOf ByteArray.empty (rd_L1 x2 x14) x215).toList then (laws_FnAdAddress.l5 k x0 x1 x2 x14 x178 x179 x180 x213 x214 (wrap64 (x215 + 1))) else (some false)) else (none)) else (none)) else (some false)) else (some false)) else (none)) else (none)) else (none)) else (some false)))) else (none)) else (none)) else (laws_FnAdAddress.l4 k x0 x1 x2 x178 x179 (wrap64 (x180 + 1)))
end
def laws_FnAdAddress.f (k : Nat) (l0 : List ByteArray) (l1 : List (List ByteArray)) (l2 : List (List ByteArray)) : Option (Bool) := (laws_zzFits5.f k l0).bind fun t117 => (if t117 = true then ((laws_zzFits6.f k l1).bind fun t118 => (if t118 = true then ((laws_zzFits6.f k l2).bind fun t119 => (laws_FnAdAddress.j0 k l0 l1 l2 (!t119))) else (laws_FnAdAddress.j0 k l0 l1 l2 true))) else (laws_FnAdAddress.j0 k l0 l1 l2 true))
theorem laws_FnAdAddress.mono_l : ∀ k, (∀ y0 y1 y2 y3, LeO (laws_FnAdAddress.j0 k y0 y1 y2 y3) (laws_FnAdAddress.j0 (k + 1) y0 y1 y2 y3)) ∧ (∀ y0 y1 y2 y3, LeO (laws_FnAdAddress.j1 k y0 y1 y2 y3) (laws_FnAdAddress.j1 (k + 1) y0 y1 y2 y3)) ∧ (∀ y0 y1 y2 y3 y4, LeO (laws_FnAdAddress.l0 k y0 y1 y2 y3 y4) (laws_FnAdAddress.l0 (k + 1) y0 y1 y2 y3 y4)) ∧ (∀ y0 y1 y2 y3 y4 y5 y6, LeO (laws_FnAdAddress.j3 k y0 y1 y2 y3 y4 y5 y6) (laws_FnAdAddress.j3 (k + 1) y0 y1 y2 y3 y4 y5 y6)) ∧ (∀ y0 y1 y2 y3 y4 y5 y6 y7, LeO (laws_FnAdAddress.l1 k y0 y1 y2 y3 y4 y5 y6 y7) (laws_FnAdAddress.l1 (k + 1) y0 y1 y2 y3 y4 y5 y6 y7)) ∧ (∀ y0 y1 y2 y3 y4 y5, LeO (laws_FnAdAddress.l2 k y0 y1 y2 y3 y4 y5) (laws_FnAdAddress.l2 (k + 1) y0 y1 y2 y3 y4 y5)) ∧ (∀ y0 y1 y2 y3 y4 y5 y6 y7 y8 y9, LeO (laws_FnAdAddress.l3 k y0 y1 y2 y3 y4 y5 y6 y7 y8 y9) (laws_FnAdAddress.l3 (k + 1) y0 y1 y2 y3 y4 y5 y6 y7 y8 y9)) ∧ (∀ y0 y1 y2 y3 y4 y5, LeO (laws_FnAdAddress.l4 k y0 y1 y2 y3 y4 y5) (laws_FnAdAddress.l4 (k + 1) y0 y1 y2 y3 y4 y5)) ∧ (∀ y0 y1 y2 y3 y4 y5 y6 y7 y8, LeO (laws_FnAdAddress.j8 k y0 y1 y2 y3 y4 y5 y6 y7 y8) (laws_FnAdAddress.j8 (k + 1) y0 y1 y2 y3 y4 y5 y6 y7 y8)) ∧ (∀ y0 y1 y2 y3 y4 y5 y6 y7, LeO (laws_FnAdAddress.j9 k y0 y1 y2 y3 y4 y5 y6 y7) (laws_FnAdAddress.j9 (k + 1) y0 y1 y2 y3 y4 y5 y6 y7)) ∧ (∀ y0 y1 y2 y3 y4 y5 y6 y7 y8 y9, LeO (laws_FnAdAddress.l5 k y0 y1 y2 y3 y4 y5 y6 y7 y8 y9) (laws_FnAdAddress.l5 (k + 1) y0 y1 y2 y3 y4 y5 y6 y7 y8 y9))
 | 0 => ⟨fun _ _ _ _ r h => by simp [laws_FnAdAddress.j0] at h, fun _ _ _ _ r h => by simp [laws_FnAdAddress.j1] at h, fun _ _ _ _ _ r h => by simp [laws_FnAdAddress.l0] at h, fun _ _ _ _ _ _ _ r h => by simp [laws_FnAdAddress.j3] at h, fun _ _ _ _ _ _ _ _ r h => by simp [laws_FnAdAddress.l1] at h, fun _ _ _ _ _ _ r h => by simp [laws_FnAdAddress.l2] at h, fun _ _ _ _ _ _ _ _ _ _ r h => by simp [laws_FnAdAddress.l3] at h, fun _ _ _ _ _ _ r h => by simp [laws_FnAdAddress.l4] at h, fun _ _ _ _ _ _ _ _ _ r h => by simp [laws_FnAdAddress.j8] at h, fun _ _ _ _ _ _ _ _ r h => by simp [laws_FnAdAddress.j9] at h, fun _ _ _ _ _ _ _ _ _ _ r h => by simp [laws_FnAdAddress.l5] at h⟩
 | k + 1 => by
  obtain ⟨ih0, ih1, ih2, ih3, ih4, ih5, ih6, ih7, ih8, ih9, ih10⟩ := laws_FnAdAddress.mono_l k
  refine ⟨?_, ?_, ?_, ?_, ?_, ?_, ?_, ?_, ?_, ?_, ?_⟩
  ·intro y0 y1 y2 y3
   unfold laws_FnAdAddress.j0
   repeat' first
   | (with_reducible exact ih0 _ _ _ _)
   | (with_reducible exact ih1 _ _ _ _)
   | (with_reducible exact ih2 _ _ _ _ _)
   | (with_reducible exact ih3 _ _ _ _ _ _ _)
   | (with_reducible exact ih4 _ _ _ _ _ _ _ _)
   | (with_reducible exact ih5 _ _ _ _ _ _)
   | (with_reducible exact ih6 _ _ _ _ _ _ _ _ _ _)
   | (with_reducible exact ih7 _ _ _ _ _ _)
   | (with_reducible exact ih8 _ _ _ _ _ _ _ _ _)
   | (with_reducible exact ih9 _ _ _ _ _ _ _ _)
   | (with_reducible exact ih10 _ _ _ _ _ _ _ _ _ _)
   | (with_reducible exact impl_AdEscape.mono _ _)
   | (with_reducible exact impl_AdUnescape.mono _ _)
   | (with_reducible exact laws_adWord.mono _ _)
   | (with_reducible exact laws_zzFits5.mono _ _)
   | (with_reducible exact laws_zzFits6.mono _ _)
   | (with_reducible exact spec_Cut.mono _ _ _)
   | (with_reducible exact spec_Joined.mono _ _ _)
   | (with_reducible exact spec_Split.mono _ _ _)
   | (with_reducible exact LeO.refl _)
   | (with_reducible exact LeO.none _)
   | (with_reducible refine LeO.ite ?_ ?_)
   | (with_reducible refine LeO.bind ?_ (fun _ => ?_))
   | exact ih0 _ _ _ _
   | exact ih1 _ _ _ _
   | exact ih2 _ _ _ _ _
   | exact ih3 _ _ _ _ _ _ _
   | exact ih4 _ _ _ _ _ _ _ _
   | exact ih5 _ _ _ _ _ _
   | exact ih6 _ _ _ _ _ _ _ _ _ _
   | exact ih7 _ _ _ _ _ _
   | exact ih8 _ _ _ _ _ _ _ _ _
   | exact ih9 _ _ _ _ _ _ _ _
   | exact ih10 _ _ _ _ _ _ _ _ _ _
   | exact impl_AdEscape.mono _ _
   | exact impl_AdUnescape.mono _ _
   | exact laws_adWord.mono _ _
   | exact laws_zzFits5.mono _ _
   | exact laws_zzFits6.mono _ _
   | exact spec_Cut.mono _ _ _
   | exact spec_Joined.mono _ _ _
   | exact spec_Split.mono _ _ _
   | exact LeO.none _
   | refine LeO.ite ?_ ?_
   | refine LeO.bind ?_ (fun _ => ?_)
  ·intro y0 y1 y2 y3
   unfold laws_FnAdAddress.j1
   repeat' first
   | (with_reducible exact ih0 _ _ _ _)
   | (with_reducible exact ih1 _ _ _ _)
   | (with_reducible exact ih2 _ _ _ _ _)
   | (with_reducible exact ih3 _ _ _ _ _ _ _)
   | (with_reducible exact ih4 _ _ _ _ _ _ _ _)
   | (with_reducible exact ih5 _ _ _ _ _ _)
   | (with_reducible exact ih6 _ _ _ _ _ _ _ _ _ _)
   | (with_reducible exact ih7 _ _ _ _ _ _)
   | (with_reducible exact ih8 _ _ _ _ _ _ _ _ _)
   | (with_reducible exact ih9 _ _ _ _ _ _ _ _)
   | (with_reducible exact ih10 _ _ _ _ _ _ _ _ _ _)
   | (with_reducible exact impl_AdEscape.mono _ _)
   | (with_reducible exact impl_AdUnescape.mono _ _)
   | (with_reducible exact laws_adWord.mono _ _)
   | (with_reducible exact laws_zzFits5.mono _ _)
   | (with_reducible exact laws_zzFits6.mono _ _)
   | (with_reducible exact spec_Cut.mono _ _ _)
   | (with_reducible exact spec_Joined.mono _ _ _)
   | (with_reducible exact spec_Split.mono _ _ _)
   | (with_reducible exact LeO.refl _)
   | (with_reducible exact LeO.none _)
   | (with_reducible refine LeO.ite ?_ ?_)
   | (with_reducible refine LeO.bind ?_ (fun _ => ?_))
   | exact ih0 _ _ _ _
   | exact ih1 _ _ _ _
   | exact ih2 _ _ _ _ _
   | exact ih3 _ _ _ _ _ _ _
   | exact ih4 _ _ _ _ _ _ _ _
   | exact ih5 _ _ _ _ _ _
   | exact ih6 _ _ _ _ _ _ _ _ _ _
   | exact ih7 _ _ _ _ _ _
   | exact ih8 _ _ _ _ _ _ _ _ _
   | exact ih9 _ _ _ _ _ _ _ _
   | exact ih10 _ _ _ _ _ _ _ _ _ _
   | exact impl_AdEscape.mono _ _
   | exact impl_AdUnescape.mono _ _
   | exact laws_adWord.mono _ _
   | exact laws_zzFits5.mono _ _
   | exact laws_zzFits6.mono _ _
   | exact spec_Cut.mono _ _ _
   | exact spec_Joined.mono _ _ _
   | exact spec_Split.mono _ _ _
   | exact LeO.none _
   | refine LeO.ite ?_ ?_
   | refine LeO.bind ?_ (fun _ => ?_)
  ·intro y0 y1 y2 y3 y4
   unfold laws_FnAdAddress.l0
   repeat' first
   | (with_reducible exact ih0 _ _ _ _)
   | (with_reducible exact ih1 _ _ _ _)
   | (with_reducible exact ih2 _ _ _ _ _)
   | (with_reducible exact ih3 _ _ _ _ _ _ _)
   | (with_reducible exact ih4 _ _ _ _ _ _ _ _)
   | (with_reducible exact ih5 _ _ _ _ _ _)
   | (with_reducible exact ih6 _ _ _ _ _ _ _ _ _ _)
   | (with_reducible exact ih7 _ _ _ _ _ _)
   | (with_reducible exact ih8 _ _ _ _ _ _ _ _ _)
   | (with_reducible exact ih9 _ _ _ _ _ _ _ _)
   | (with_reducible exact ih10 _ _ _ _ _ _ _ _ _ _)
   | (with_reducible exact impl_AdEscape.mono _ _)
   | (with_reducible exact impl_AdUnescape.mono _ _)
   | (with_reducible exact laws_adWord.mono _ _)
   | (with_reducible exact laws_zzFits5.mono _ _)
   | (with_reducible exact laws_zzFits6.mono _ _)
   | (with_reducible exact spec_Cut.mono _ _ _)
   | (with_reducible exact spec_Joined.mono _ _ _)
   | (with_reducible exact spec_Split.mono _ _ _)
   | (with_reducible exact LeO.refl _)
   | (with_reducible exact LeO.none _)
   | (with_reducible refine LeO.ite ?_ ?_)
   | (with_reducible refine LeO.bind ?_ (fun _ => ?_))
   | exact ih0 _ _ _ _
   | exact ih1 _ _ _ _
   | exact ih2 _ _ _ _ _
   | exact ih3 _ _ _ _ _ _ _
   | exact ih4 _ _ _ _ _ _ _ _
   | exact ih5 _ _ _ _ _ _
   | exact ih6 _ _ _ _ _ _ _ _ _ _
   | exact ih7 _ _ _ _ _ _
   | exact ih8 _ _ _ _ _ _ _ _ _
   | exact ih9 _ _ _ _ _ _ _ _
   | exact ih10 _ _ _ _ _ _ _ _ _ _
   | exact impl_AdEscape.mono _ _
   | exact impl_AdUnescape.mono _ _
   | exact laws_adWord.mono _ _
   | exact laws_zzFits5.mono _ _
   | exact laws_zzFits6.mono _ _
   | exact spec_Cut.mono _ _ _
   | exact spec_Joined.mono _ _ _
   | exact spec_Split.mono _ _ _
   | exact LeO.none _
   | refine LeO.ite ?_ ?_
   | refine LeO.bind ?_ (fun _ => ?_)
  ·intro y0 y1 y2 y3 y4 y5 y6
   unfold laws_FnAdAddress.j3
   repeat' first
   | (with_reducible exact ih0 _ _ _ _)
   | (with_reducible exact ih1 _ _ _ _)
   | (with_reducible exact ih2 _ _ _ _ _)
   | (with_reducible exact ih3 _ _ _ _ _ _ _)
   | (with_reducible exact ih4 _ _ _ _ _ _ _ _)
   | (with_reducible exact ih5 _ _ _ _ _ _)
   | (with_reducible exact ih6 _ _ _ _ _ _ _ _ _ _)
   | (with_reducible exact ih7 _ _ _ _ _ _)
   | (with_reducible exact ih8 _ _ _ _ _ _ _ _ _)
   | (with_reducible exact ih9 _ _ _ _ _ _ _ _)
   | (with_reducible exact ih10 _ _ _ _ _ _ _ _ _ _)
   | (with_reducible exact impl_AdEscape.mono _ _)
   | (with_reducible exact impl_AdUnescape.mono _ _)
   | (with_reducible exact laws_adWord.mono _ _)
   | (with_reducible exact laws_zzFits5.mono _ _)
   | (with_reducible exact laws_zzFits6.mono _ _)
   | (with_reducible exact spec_Cut.mono _ _ _)
   | (with_reducible exact spec_Joined.mono _ _ _)
   | (with_reducible exact spec_Split.mono _ _ _)
   | (with_reducible exact LeO.refl _)
   | (with_reducible exact LeO.none _)
   | (with_reducible refine LeO.ite ?_ ?_)
   | (with_reducible refine LeO.bind ?_ (fun _ => ?_))
   | exact ih0 _ _ _ _
   | exact ih1 _ _ _ _
   | exact ih2 _ _ _ _ _
   | exact ih3 _ _ _ _ _ _ _
   | exact ih4 _ _ _ _ _ _ _ _
   | exact ih5 _ _ _ _ _ _
   | exact ih6 _ _ _ _ _ _ _ _ _ _
   | exact ih7 _ _ _ _ _ _
   | exact ih8 _ _ _ _ _ _ _ _ _
   | exact ih9 _ _ _ _ _ _ _ _
   | exact ih10 _ _ _ _ _ _ _ _ _ _
   | exact impl_AdEscape.mono _ _
   | exact impl_AdUnescape.mono _ _
   | exact laws_adWord.mono _ _
   | exact laws_zzFits5.mono _ _
   | exact laws_zzFits6.mono _ _
   | exact spec_Cut.mono _ _ _
   | exact spec_Joined.mono _ _ _
   | exact spec_Split.mono _ _ _
   | exact LeO.none _
   | refine LeO.ite ?_ ?_
   | refine LeO.bind ?_ (fun _ => ?_)
  ·intro y0 y1 y2 y3 y4 y5 y6 y7
   unfold laws_FnAdAddress.l1
   repeat' first
   | (with_reducible exact ih0 _ _ _ _)
   | (with_reducible exact ih1 _ _ _ _)
   | (with_reducible exact ih2 _ _ _ _ _)
   | (with_reducible exact ih3 _ _ _ _ _ _ _)
   | (with_reducible exact ih4 _ _ _ _ _ _ _ _)
   | (with_reducible exact ih5 _ _ _ _ _ _)
   | (with_reducible exact ih6 _ _ _ _ _ _ _ _ _ _)
   | (with_reducible exact ih7 _ _ _ _ _ _)
   | (with_reducible exact ih8 _ _ _ _ _ _ _ _ _)
   | (with_reducible exact ih9 _ _ _ _ _ _ _ _)
   | (with_reducible exact ih10 _ _ _ _ _ _ _ _ _ _)
   | (with_reducible exact impl_AdEscape.mono _ _)
   | (with_reducible exact impl_AdUnescape.mono _ _)
   | (with_reducible exact laws_adWord.mono _ _)
   | (with_reducible exact laws_zzFits5.mono _ _)
   | (with_reducible exact laws_zzFits6.mono _ _)
   | (with_reducible exact spec_Cut.mono _ _ _)
   | (with_reducible exact spec_Joined.mono _ _ _)
   | (with_reducible exact spec_Split.mono _ _ _)
   | (with_reducible exact LeO.refl _)
   | (with_reducible exact LeO.none _)
   | (with_reducible refine LeO.ite ?_ ?_)
   | (with_reducible refine LeO.bind ?_ (fun _ => ?_))
   | exact ih0 _ _ _ _
   | exact ih1 _ _ _ _
   | exact ih2 _ _ _ _ _
   | exact ih3 _ _ _ _ _ _ _
   | exact ih4 _ _ _ _ _ _ _ _
   | exact ih5 _ _ _ _ _ _
   | exact ih6 _ _ _ _ _ _ _ _ _ _
   | exact ih7 _ _ _ _ _ _
   | exact ih8 _ _ _ _ _ _ _ _ _
   | exact ih9 _ _ _ _ _ _ _ _
   | exact ih10 _ _ _ _ _ _ _ _ _ _
   | exact impl_AdEscape.mono _ _
   | exact impl_AdUnescape.mono _ _
   | exact laws_adWord.mono _ _
   | exact laws_zzFits5.mono _ _
   | exact laws_zzFits6.mono _ _
   | exact spec_Cut.mono _ _ _
   | exact spec_Joined.mono _ _ _
   | exact spec_Split.mono _ _ _
   | exact LeO.none _
   | refine LeO.ite ?_ ?_
   | refine LeO.bind ?_ (fun _ => ?_)
  ·intro y0 y1 y2 y3 y4 y5
   unfold laws_FnAdAddress.l2
   repeat' first
   | (with_reducible exact ih0 _ _ _ _)
   | (with_reducible exact ih1 _ _ _ _)
   | (with_reducible exact ih2 _ _ _ _ _)
   | (with_reducible exact ih3 _ _ _ _ _ _ _)
   | (with_reducible exact ih4 _ _ _ _ _ _ _ _)
   | (with_reducible exact ih5 _ _ _ _ _ _)
   | (with_reducible exact ih6 _ _ _ _ _ _ _ _ _ _)
   | (with_reducible exact ih7 _ _ _ _ _ _)
   | (with_reducible exact ih8 _ _ _ _ _ _ _ _ _)
   | (with_reducible exact ih9 _ _ _ _ _ _ _ _)
   | (with_reducible exact ih10 _ _ _ _ _ _ _ _ _ _)
   | (with_reducible exact impl_AdEscape.mono _ _)
   | (with_reducible exact impl_AdUnescape.mono _ _)
   | (with_reducible exact laws_adWord.mono _ _)
   | (with_reducible exact laws_zzFits5.mono _ _)
   | (with_reducible exact laws_zzFits6.mono _ _)
   | (with_reducible exact spec_Cut.mono _ _ _)
   | (with_reducible exact spec_Joined.mono _ _ _)
   | (with_reducible exact spec_Split.mono _ _ _)
   | (with_reducible exact LeO.refl _)
   | (with_reducible exact LeO.none _)
   | (with_reducible refine LeO.ite ?_ ?_)
   | (with_reducible refine LeO.bind ?_ (fun _ => ?_))
   | exact ih0 _ _ _ _
   | exact ih1 _ _ _ _
   | exact ih2 _ _ _ _ _
   | exact ih3 _ _ _ _ _ _ _
   | exact ih4 _ _ _ _ _ _ _ _
   | exact ih5 _ _ _ _ _ _
   | exact ih6 _ _ _ _ _ _ _ _ _ _
   | exact ih7 _ _ _ _ _ _
   | exact ih8 _ _ _ _ _ _ _ _ _
   | exact ih9 _ _ _ _ _ _ _ _
   | exact ih10 _ _ _ _ _ _ _ _ _ _
   | exact impl_AdEscape.mono _ _
   | exact impl_AdUnescape.mono _ _
   | exact laws_adWord.mono _ _
   | exact laws_zzFits5.mono _ _
   | exact laws_zzFits6.mono _ _
   | exact spec_Cut.mono _ _ _
   | exact spec_Joined.mono _ _ _
   | exact spec_Split.mono _ _ _
   | exact LeO.none _
   | refine LeO.ite ?_ ?_
   | refine LeO.bind ?_ (fun _ => ?_)
  ·intro y0 y1 y2 y3 y4 y5 y6 y7 y8 y9
   unfold laws_FnAdAddress.l3
   repeat' first
   | (with_reducible exact ih0 _ _ _ _)
   | (with_reducible exact ih1 _ _ _ _)
   | (with_reducible exact ih2 _ _ _ _ _)
   | (with_reducible exact ih3 _ _ _ _ _ _ _)
   | (with_reducible exact ih4 _ _ _ _ _ _ _ _)
   | (with_reducible exact ih5 _ _ _ _ _ _)
   | (with_reducible exact ih6 _ _ _ _ _ _ _ _ _ _)
   | (with_reducible exact ih7 _ _ _ _ _ _)
   | (with_reducible exact ih8 _ _ _ _ _ _ _ _ _)
   | (with_reducible exact ih9 _ _ _ _ _ _ _ _)
   | (with_reducible exact ih10 _ _ _ _ _ _ _ _ _ _)
   | (with_reducible exact impl_AdEscape.mono _ _)
   | (with_reducible exact impl_AdUnescape.mono _ _)
   | (with_reducible exact laws_adWord.mono _ _)
   | (with_reducible exact laws_zzFits5.mono _ _)
   | (with_reducible exact laws_zzFits6.mono _ _)
   | (with_reducible exact spec_Cut.mono _ _ _)
   | (with_reducible exact spec_Joined.mono _ _ _)
   | (with_reducible exact spec_Split.mono _ _ _)
   | (with_reducible exact LeO.refl _)
   | (with_reducible exact LeO.none _)
   | (with_reducible refine LeO.ite ?_ ?_)
   | (with_reducible refine LeO.bind ?_ (fun _ => ?_))
   | exact ih0 _ _ _ _
   | exact ih1 _ _ _ _
   | exact ih2 _ _ _ _ _
   | exact ih3 _ _ _ _ _ _ _
   | exact ih4 _ _ _ _ _ _ _ _
   | exact ih5 _ _ _ _ _ _
   | exact ih6 _ _ _ _ _ _ _ _ _ _
   | exact ih7 _ _ _ _ _ _
   | exact ih8 _ _ _ _ _ _ _ _ _
   | exact ih9 _ _ _ _ _ _ _ _
   | exact ih10 _ _ _ _ _ _ _ _ _ _
   | exact impl_AdEscape.mono _ _
   | exact impl_AdUnescape.mono _ _
   | exact laws_adWord.mono _ _
   | exact laws_zzFits5.mono _ _
   | exact laws_zzFits6.mono _ _
   | exact spec_Cut.mono _ _ _
   | exact spec_Joined.mono _ _ _
   | exact spec_Split.mono _ _ _
   | exact LeO.none _
   | refine LeO.ite ?_ ?_
   | refine LeO.bind ?_ (fun _ => ?_)
  ·intro y0 y1 y2 y3 y4 y5
   unfold laws_FnAdAddress.l4
   repeat' first
   | (with_reducible exact ih0 _ _ _ _)
   | (with_reducible exact ih1 _ _ _ _)
   | (with_reducible exact ih2 _ _ _ _ _)
   | (with_reducible exact ih3 _ _ _ _ _ _ _)
   | (with_reducible exact ih4 _ _ _ _ _ _ _ _)
   | (with_reducible exact ih5 _ _ _ _ _ _)
   | (with_reducible exact ih6 _ _ _ _ _ _ _ _ _ _)
   | (with_reducible exact ih7 _ _ _ _ _ _)
   | (with_reducible exact ih8 _ _ _ _ _ _ _ _ _)
   | (with_reducible exact ih9 _ _ _ _ _ _ _ _)
   | (with_reducible exact ih10 _ _ _ _ _ _ _ _ _ _)
   | (with_reducible exact impl_AdEscape.mono _ _)
   | (with_reducible exact impl_AdUnescape.mono _ _)
   | (with_reducible exact laws_adWord.mono _ _)
   | (with_reducible exact laws_zzFits5.mono _ _)
   | (with_reducible exact laws_zzFits6.mono _ _)
   | (with_reducible exact spec_Cut.mono _ _ _)
   | (with_reducible exact spec_Joined.mono _ _ _)
   | (with_reducible exact spec_Split.mono _ _ _)
   | (with_reducible exact LeO.refl _)
   | (with_reducible exact LeO.none _)
   | (with_reducible refine LeO.ite ?_ ?_)
   | (with_reducible refine LeO.bind ?_ (fun _ => ?_))
   | exact ih0 _ _ _ _
   | exact ih1 _ _ _ _
   | exact ih2 _ _ _ _ _
   | exact ih3 _ _ _ _ _ _ _
   | exact ih4 _ _ _ _ _ _ _ _
   | exact ih5 _ _ _ _ _ _
   | exact ih6 _ _ _ _ _ _ _ _ _ _
   | exact ih7 _ _ _ _ _ _
   | exact ih8 _ _ _ _ _ _ _ _ _
   | exact ih9 _ _ _ _ _ _ _ _
   | exact ih10 _ _ _ _ _ _ _ _ _ _
   | exact impl_AdEscape.mono _ _
   | exact impl_AdUnescape.mono _ _
   | exact laws_adWord.mono _ _
   | exact laws_zzFits5.mono _ _
   | exact laws_zzFits6.mono _ _
   | exact spec_Cut.mono _ _ _
   | exact spec_Joined.mono _ _ _
   | exact spec_Split.mono _ _ _
   | exact LeO.none _
   | refine LeO.ite ?_ ?_
   | refine LeO.bind ?_ (fun _ => ?_)
  ·intro y0 y1 y2 y3 y4 y5 y6 y7 y8
   unfold laws_FnAdAddress.j8
   repeat' first
   | (with_reducible exact ih0 _ _ _ _)
   | (with_reducible exact ih1 _ _ _ _)
   | (with_reducible exact ih2 _ _ _ _ _)
   | (with_reducible exact ih3 _ _ _ _ _ _ _)
   | (with_reducible exact ih4 _ _ _ _ _ _ _ _)
   | (with_reducible exact ih5 _ _ _ _ _ _)
   | (with_reducible exact ih6 _ _ _ _ _ _ _ _ _ _)
   | (with_reducible exact ih7 _ _ _ _ _ _)
   | (with_reducible exact ih8 _ _ _ _ _ _ _ _ _)
   | (with_reducible exact ih9 _ _ _ _ _ _ _ _)
   | (with_reducible exact ih10 _ _ _ _ _ _ _ _ _ _)
   | (with_reducible exact impl_AdEscape.mono _ _)
   | (with_reducible exact impl_AdUnescape.mono _ _)
   | (with_reducible exact laws_adWord.mono _ _)
   | (with_reducible exact laws_zzFits5.mono _ _)
   | (with_reducible exact laws_zzFits6.mono _ _)
   | (with_reducible exact spec_Cut.mono _ _ _)
   | (with_reducible exact spec_Joined.mono _ _ _)
   | (with_reducible exact spec_Split.mono _ _ _)
   | (with_reducible exact LeO.refl _)
   | (with_reducible exact LeO.none _)
   | (with_reducible refine LeO.ite ?_ ?_)
   | (with_reducible refine LeO.bind ?_ (fun _ => ?_))
   | exact ih0 _ _ _ _
   | exact ih1 _ _ _ _
   | exact ih2 _ _ _ _ _
   | exact ih3 _ _ _ _ _ _ _
   | exact ih4 _ _ _ _ _ _ _ _
   | exact ih5 _ _ _ _ _ _
   | exact ih6 _ _ _ _ _ _ _ _ _ _
   | exact ih7 _ _ _ _ _ _
   | exact ih8 _ _ _ _ _ _ _ _ _
   | exact ih9 _ _ _ _ _ _ _ _
   | exact ih10 _ _ _ _ _ _ _ _ _ _
   | exact impl_AdEscape.mono _ _
   | exact impl_AdUnescape.mono _ _
   | exact laws_adWord.mono _ _
   | exact laws_zzFits5.mono _ _
   | exact laws_zzFits6.mono _ _
   | exact spec_Cut.mono _ _ _
   | exact spec_Joined.mono _ _ _
   | exact spec_Split.mono _ _ _
   | exact LeO.none _
   | refine LeO.ite ?_ ?_
   | refine LeO.bind ?_ (fun _ => ?_)
  ·intro y0 y1 y2 y3 y4 y5 y6 y7
   unfold laws_FnAdAddress.j9
   repeat' first
   | (with_reducible exact ih0 _ _ _ _)
   | (with_reducible exact ih1 _ _ _ _)
   | (with_reducible exact ih2 _ _ _ _ _)
   | (with_reducible exact ih3 _ _ _ _ _ _ _)
   | (with_reducible exact ih4 _ _ _ _ _ _ _ _)
   | (with_reducible exact ih5 _ _ _ _ _ _)
   | (with_reducible exact ih6 _ _ _ _ _ _ _ _ _ _)
   | (with_reducible exact ih7 _ _ _ _ _ _)
   | (with_reducible exact ih8 _ _ _ _ _ _ _ _ _)
   | (with_reducible exact ih9 _ _ _ _ _ _ _ _)
   | (with_reducible exact ih10 _ _ _ _ _ _ _ _ _ _)
   | (with_reducible exact impl_AdEscape.mono _ _)
   | (with_reducible exact impl_AdUnescape.mono _ _)
   | (with_reducible exact laws_adWord.mono _ _)
   | (with_reducible exact laws_zzFits5.mono _ _)
   | (with_reducible exact laws_zzFits6.mono _ _)
   | (with_reducible exact spec_Cut.mono _ _ _)
   | (with_reducible exact spec_Joined.mono _ _ _)
   | (with_reducible exact spec_Split.mono _ _ _)
   | (with_reducible exact LeO.refl _)
   | (with_reducible exact LeO.none _)
   | (with_reducible refine LeO.ite ?_ ?_)
   | (with_reducible refine LeO.bind ?_ (fun _ => ?_))
   | exact ih0 _ _ _ _
   | exact ih1 _ _ _ _
   | exact ih2 _ _ _ _ _
   | exact ih3 _ _ _ _ _ _ _
   | exact ih4 _ _ _ _ _ _ _ _
   | exact ih5 _ _ _ _ _ _
   | exact ih6 _ _ _ _ _ _ _ _ _ _
   | exact ih7 _ _ _ _ _ _
   | exact ih8 _ _ _ _ _ _ _ _ _
   | exact ih9 _ _ _ _ _ _ _ _
   | exact ih10 _ _ _ _ _ _ _ _ _ _
   | exact impl_AdEscape.mono _ _
   | exact impl_AdUnescape.mono _ _
   | exact laws_adWord.mono _ _
   | exact laws_zzFits5.mono _ _
   | exact laws_zzFits6.mono _ _
   | exact spec_Cut.mono _ _ _
   | exact spec_Joined.mono _ _ _
   | exact spec_Split.mono _ _ _
   | exact LeO.none _
   | refine LeO.ite ?_ ?_
   | refine LeO.bind ?_ (fun _ => ?_)
  ·intro y0 y1 y2 y3 y4 y5 y6 y7 y8 y9
   unfold laws_FnAdAddress.l5
   repeat' first
   | (with_reducible exact ih0 _ _ _ _)
   | (with_reducible exact ih1 _ _ _ _)
   | (with_reducible exact ih2 _ _ _ _ _)
   | (with_reducible exact ih3 _ _ _ _ _ _ _)
   | (with_reducible exact ih4 _ _ _ _ _ _ _ _)
   | (with_reducible exact ih5 _ _ _ _ _ _)
   | (with_reducible exact ih6 _ _ _ _ _ _ _ _ _ _)
   | (with_reducible exact ih7 _ _ _ _ _ _)
   | (with_reducible exact ih8 _ _ _ _ _ _ _ _ _)
   | (with_reducible exact ih9 _ _ _ _ _ _ _ _)
   | (with_reducible exact ih10 _ _ _ _ _ _ _ _ _ _)
   | (with_reducible exact impl_AdEscape.mono _ _)
   | (with_reducible exact impl_AdUnescape.mono _ _)
   | (with_reducible exact laws_adWord.mono _ _)
   | (with_reducible exact laws_zzFits5.mono _ _)
   | (with_reducible exact laws_zzFits6.mono _ _)
   | (with_reducible exact spec_Cut.mono _ _ _)
   | (with_reducible exact spec_Joined.mono _ _ _)
   | (with_reducible exact spec_Split.mono _ _ _)
   | (with_reducible exact LeO.refl _)
   | (with_reducible exact LeO.none _)
   | (with_reducible refine LeO.ite ?_ ?_)
   | (with_reducible refine LeO.bind ?_ (fun _ => ?_))
   | exact ih0 _ _ _ _
   | exact ih1 _ _ _ _
   | exact ih2 _ _ _ _ _
   | exact ih3 _ _ _ _ _ _ _
   | exact ih4 _ _ _ _ _ _ _ _
   | exact ih5 _ _ _ _ _ _
   | exact ih6 _ _ _ _ _ _ _ _ _ _
   | exact ih7 _ _ _ _ _ _
   | exact ih8 _ _ _ _ _ _ _ _ _
   | exact ih9 _ _ _ _ _ _ _ _
   | exact ih10 _ _ _ _ _ _ _ _ _ _
   | exact impl_AdEscape.mono _ _
   | exact impl_AdUnescape.mono _ _
   | exact laws_adWord.mono _ _
   | exact laws_zzFits5.mono _ _
   | exact laws_zzFits6.mono _ _
   | exact spec_Cut.mono _ _ _
   | exact spec_Joined.mono _ _ _
   | exact spec_Split.mono _ _ _
   | exact LeO.none _
   | refine LeO.ite ?_ ?_
   | refine LeO.bind ?_ (fun _ => ?_)
theorem laws_FnAdAddress.mono : ∀ a0 a1 a2 k, LeO (laws_FnAdAddress.f k a0 a1 a2) (laws_FnAdAddress.f (k + 1) a0 a1 a2) := by
 intro a0 a1 a2 k
 obtain ⟨ih0, ih1, ih2, ih3, ih4, ih5, ih6, ih7, ih8, ih9, ih10⟩ := laws_FnAdAddress.mono_l k
 unfold laws_FnAdAddress.f
 repeat' first
   | (with_reducible exact ih0 _ _ _ _)
   | (with_reducible exact ih1 _ _ _ _)
   | (with_reducible exact ih2 _ _ _ _ _)
   | (with_reducible exact ih3 _ _ _ _ _ _ _)
   | (with_reducible exact ih4 _ _ _ _ _ _ _ _)
   | (with_reducible exact ih5 _ _ _ _ _ _)
   | (with_reducible exact ih6 _ _ _ _ _ _ _ _ _ _)
   | (with_reducible exact ih7 _ _ _ _ _ _)
   | (with_reducible exact ih8 _ _ _ _ _ _ _ _ _)
   | (with_reducible exact ih9 _ _ _ _ _ _ _ _)
   | (with_reducible exact ih10 _ _ _ _ _ _ _ _ _ _)
   | (with_reducible exact impl_AdEscape.mono _ _)
   | (with_reducible exact impl_AdUnescape.mono _ _)
   | (with_reducible exact laws_adWord.mono _ _)
   | (with_reducible exact laws_zzFits5.mono _ _)
   | (with_reducible exact laws_zzFits6.mono _ _)
   | (with_reducible exact spec_Cut.mono _ _ _)
   | (with_reducible exact spec_Joined.mono _ _ _)
   | (with_reducible exact spec_Split.mono _ _ _)
   | (with_reducible exact LeO.refl _)
   | (with_reducible exact LeO.none _)
   | (with_reducible refine LeO.ite ?_ ?_)
   | (with_reducible refine LeO.bind ?_ (fun _ => ?_))
   | exact ih0 _ _ _ _
   | exact ih1 _ _ _ _
   | exact ih2 _ _ _ _ _
   | exact ih3 _ _ _ _ _ _ _
   | exact ih4 _ _ _ _ _ _ _ _
   | exact ih5 _ _ _ _ _ _
   | exact ih6 _ _ _ _ _ _ _ _ _ _
   | exact ih7 _ _ _ _ _ _
   | exact ih8 _ _ _ _ _ _ _ _ _
   | exact ih9 _ _ _ _ _ _ _ _
   | exact ih10 _ _ _ _ _ _ _ _ _ _
   | exact impl_AdEscape.mono _ _
   | exact impl_AdUnescape.mono _ _
   | exact laws_adWord.mono _ _
   | exact laws_zzFits5.mono _ _
   | exact laws_zzFits6.mono _ _
   | exact spec_Cut.mono _ _ _
   | exact spec_Joined.mono _ _ _
   | exact spec_Split.mono _ _ _
   | exact LeO.none _
   | refine LeO.ite ?_ ?_
   | refine LeO.bind ?_ (fun _ => ?_)
def laws_FnAdAddress.T8 : Bool × List (List Nat × List Nat) := (true, [([], []), ([], []), ([0, 1], [0, 1]), ([2], [2]), ([3], [3]), ([4], [4]), ([5, 4], [5]), ([6], [6]), ([6], [6]), ([7, 8, 6], [6, 7, 8]), ([9, 6], [6, 9]), ([10, 6], [6, 10]), ([11, 6], [6, 11]), ([6, 12], [6, 12]), ([13, 6], [13]), ([14], [14]), ([14], [14]), ([15, 16, 14], [14, 15, 16]), ([17, 14], [14, 17]), ([18, 14], [14, 18]), ([14], [14]), ([14], [14]), ([20, 21, 14], [14, 20, 21]), ([22, 14], [14, 22]), ([23, 14], [14, 23]), ([19, 24, 14], [14, 19, 24]), ([14, 25], [14, 25])])
def laws_FnAdAddress.B8 : List Nat := [0, 0, 3, 7, 15, 31, 63, 127, 127, 511, 1023, 2047, 4095, 8191, 16383, 32767, 32767, 131071, 262143, 524287, 32767, 32767, 3178495, 7372799, 15761407, 33554431, 67108863]
theorem laws_FnAdAddress.tab8 : rtab .any (opsOf Try.f5 8) = laws_FnAdAddress.T8 := by kernel_rfl
theorem laws_FnAdAddress.bits8 : waitsOk laws_FnAdAddress.T8.2 laws_FnAdAddress.B8 = true := by kernel_rfl
def laws_FnAdAddress.T25 : Bool × List (List Nat × List Nat) := (true, [([], []), ([], []), ([], []), ([1, 2], [1, 2]), ([3], [3]), ([], []), ([4, 5], [4, 5]), ([6], [6]), ([7], [7]), ([], []), ([], []), ([9, 10], [9, 10]), ([11], [11]), ([], []), ([12, 13], [12, 13]), ([14], [14]), ([15], [15]), ([8, 16], [8, 16]), ([17], [17]), ([0, 18, 16], [0, 18]), ([19, 19, 0, 1, 2, 3, 4, 5, 6, 7, 8, 9, 10, 11, 12, 13, 14, 15, 16, 17, 18, 19], [0, 19])])
def laws_FnAdAddress.B25 : List Nat := [0, 0, 0, 6, 14, 0, 62, 126, 254, 0, 0, 1536, 3584, 0, 15872, 32256, 65024, 131070, 262142, 524287, 1048575]
theorem laws_FnAdAddress.tab25 : rtab .any (opsOf Try.f5 25) = laws_FnAdAddress.T25 := by kernel_rfl
theorem laws_FnAdAddress.bits25 : waitsOk laws_FnAdAddress.T25.2 laws_FnAdAddress.B25 = true := by kernel_rfl
def laws_FnAdAddress.T27 : Bool × List (List Nat × List Nat) := (true, [([], []), ([], []), ([], []), ([1, 2], [1, 2]), ([3], [3]), ([4], [4]), ([], []), ([6], [6]), ([5, 7], [5, 7]), ([8], [8]), ([0, 9, 7], [0, 9]), ([10, 10, 0, 1, 2, 3, 4, 5, 6, 7, 8, 9, 10], [0, 10])])
def laws_FnAdAddress.B27 : List Nat := [0, 0, 0, 6, 14, 30, 0, 64, 254, 510, 1023, 2047]
theorem laws_FnAdAddress.tab27 : rtab .any (opsOf Try.f5 27) = laws_FnAdAddress.T27 := by kernel_rfl
theorem laws_FnAdAddress.bits27 : waitsOk laws_FnAdAddress.T27.2 laws_FnAdAddress.B27 = true := by kernel_rfl
set_option maxHeartbeats 8000000 in
set_option maxRecDepth 100000 in
theorem laws_FnAdAddress.calls (k : Nat) (A0 : Option Addr) (c0 : Nat) (l0 : List ByteArray) (A1 : Option Addr) (c1 : Nat) (l1 : List (List ByteArray)) (A2 : Option Addr) (c2 : Nat) (l2 : List (List ByteArray)) (r : Bool) (w : World) (hr0 : Kd.C Kd.string w A0 l0.length l0) (hc0 : l0.length ≤ c0) (hr1 : Kd.C (Kd.slice 9 Kd.string) w A1 l1.length l1) (hc1 : l1.length ≤ c1) (hr2 : Kd.C (Kd.slice 9 Kd.string) w A2 l2.length l2) (hc2 : l2.length ≤ c2) (h : laws_FnAdAddress.f k l0 l1 l2 = some r) :
  Calls Try.prog 5 #[.slice A0 l0.length c0, .slice A1 l1.length c1, .slice A2 l2.length c2] w fun e w' => e = .returned (.bool r) ∧ Below w.heap.size w w' := by
 have HR0 := Aside0.mk hr0
 have HC0 := Aside0.mk hc0
 clear hr0 hc0
 have HR1 := Aside0.mk hr1
 have HC1 := Aside0.mk hc1
 clear hr1 hc1
 have HR2 := Aside0.mk hr2
 have HC2 := Aside0.mk hc2
 clear hr2 hc2
 have HB := Aside0.mk (Below.refl w.heap.size w)
 have H : ((laws_zzFits5.f k l0).bind fun t117 => (if t117 = true then ((laws_zzFits6.f k l1).bind fun t118 => (if t118 = true then ((laws_zzFits6.f k l2).bind fun t119 => (laws_FnAdAddress.j0 k l0 l1 l2 (!t119))) else (laws_FnAdAddress.j0 k l0 l1 l2 true))) else (laws_FnAdAddress.j0 k l0 l1 l2 true))) = some r := h
 clear h
 have HC4 := Aside0.mk H
 clear H
 go_enter Try.func5, Try.ntmps5
 go_upto_region 1 with (fail)
 go_cut [39] (fun v39 wc => ∃ (kq : Nat) (x39_3 : Bool), v39 = .bool x39_3 ∧ Aside0 (laws_FnAdAddress.j0 kq l0 l1 l2 x39_3 = some r) ∧ Aside0 (kq ≤ k) ∧ Aside0 (Below w.heap.size w wc))
 case first =>
  have H := HC4.out
  clear HC4
  replace H := Option.bind_eq_some_iff.mp H
  obtain ⟨t117, A50, H⟩ := H
  replace H : (if t117 = true then ((laws_zzFits6.f k l1).bind fun t118 => (if t118 = true then ((laws_zzFits6.f k l2).bind fun t119 => (laws_FnAdAddress.j0 k l0 l1 l2 (!t119))) else (laws_FnAdAddress.j0 k l0 l1 l2 true))) else (laws_FnAdAddress.j0 k l0 l1 l2 true)) = some r := H
  have A5 := Aside0.mk A50
  clear A50
  by_cases c6 : t117 = true
  ·subst c6
   have H1 : ((laws_zzFits6.f k l1).bind fun t118 => (if t118 = true then ((laws_zzFits6.f k l2).bind fun t119 => (laws_FnAdAddress.j0 k l0 l1 l2 (!t119))) else (laws_FnAdAddress.j0 k l0 l1 l2 true))) = some r := by rw [if_pos rfl] at H; exact H
   clear H
   have H := H1
   clear H1
   replace H := Option.bind_eq_some_iff.mp H
   obtain ⟨t118, A70, H⟩ := H
   replace H : (if t118 = true then ((laws_zzFits6.f k l2).bind fun t119 => (laws_FnAdAddress.j0 k l0 l1 l2 (!t119))) else (laws_FnAdAddress.j0 k l0 l1 l2 true)) = some r := H
   have A7 := Aside0.mk A70
   clear A70
   by_cases c8 : t118 = true
   ·subst c8
    have H1 : ((laws_zzFits6.f k l2).bind fun t119 => (laws_FnAdAddress.j0 k l0 l1 l2 (!t119))) = some r := by rw [if_pos rfl] at H; exact H
    clear H
    have H := H1
    clear H1
    replace H := Option.bind_eq_some_iff.mp H
    obtain ⟨t119, A90, H⟩ := H
    replace H : (laws_FnAdAddress.j0 k l0 l1 l2 (!t119)) = some r := H
    have A9 := Aside0.mk A90
    clear A90
    have H' := Aside0.mk H
    clear H
    go_wp2_with (first | ((with_reducible refine gate_callee (f := 10) rfl ?_); refine goesL_ (some 28) rfl rfl Try.func10 (by kernel_rfl) rfl #[.slice A0 l0.length c0] rfl (by (try simp only [List.map_toArray, List.map_cons, List.map_nil]); first | done | rfl | (simp only [List.length_drop, List.length_take]; rfl)) ?_; (with_reducible refine (laws_zzFits5.calls k _ _ l0 true _ ?side1 ?side2 A5.out).mono ?_); (case side1 => repeat (first | exact (Kd.C_below HR0.out HB.out) | (with_reducible refine Kd.C_alloc ?_ _) | (with_reducible refine Kd.C_drewN ?_ _) | (with_reducible refine Kd.C_drew ?_))); (case side2 => exact HC0.out); rintro e w' ⟨rfl, ⟨nd, rfl⟩⟩; refine ⟨_, rfl, ?_⟩) | (go_at_call 11; (with_reducible refine (laws_zzFits6.calls k _ _ l1 true _ ?side1 ?side2 A7.out).mono ?_); (case side1 => repeat (first | exact (Kd.C_below HR1.out (by repeat (first | (with_reducible first | exact HB.out | apply below_alloc | apply pw_below_drewN | apply below_drew1) | exact HB.out))) | (with_reducible refine Kd.C_alloc ?_ _) | (with_reducible refine Kd.C_drewN ?_ _) | (with_reducible refine Kd.C_drew ?_))); (case side2 => exact HC1.out); rintro e w' ⟨rfl, ⟨nd, rfl⟩⟩) | (go_at_call 11; (with_reducible refine (laws_zzFits6.calls k _ _ l2 t119 _ ?side1 ?side2 A9.out).mono ?_); (case side1 => repeat (first | exact (Kd.C_below HR2.out (by repeat (first | (with_reducible first | exact HB.out | apply below_alloc | apply pw_below_drewN | apply below_drew1) | exact HB.out))) | (with_reducible refine Kd.C_alloc ?_ _) | (with_reducible refine Kd.C_drewN ?_ _) | (with_reducible refine Kd.C_drew ?_))); (case side2 => exact HC2.out); rintro e w' ⟨rfl, ⟨nd, rfl⟩⟩))
    go_meet
    case rel => exact ⟨_, (!t119), (by first | rfl | (simp; done) | (simp [*]; done)), H', ⟨by first | omega | exact Nat.le_refl _⟩, ⟨by repeat (first | (with_reducible first | exact HB.out | apply below_alloc | apply pw_below_drewN | apply below_drew1) | exact HB.out)⟩⟩
   ·replace c8 := Bool.eq_false_iff.mpr c8
    subst c8
    have H1 : (laws_FnAdAddress.j0 k l0 l1 l2 true) = some r := by rw [if_neg (show ¬ (false = true) by decide)] at H; exact H
    clear H
    have H := H1
    clear H1
    have H' := Aside0.mk H
    clear H
    go_wp2_with (first | ((with_reducible refine gate_callee (f := 10) rfl ?_); refine goesL_ (some 28) rfl rfl Try.func10 (by kernel_rfl) rfl #[.slice A0 l0.length c0] rfl (by (try simp only [List.map_toArray, List.map_cons, List.map_nil]); first | done | rfl | (simp only [List.length_drop, List.length_take]; rfl)) ?_; (with_reducible refine (laws_zzFits5.calls k _ _ l0 true _ ?side1 ?side2 A5.out).mono ?_); (case side1 => repeat (first | exact (Kd.C_below HR0.out HB.out) | (with_reducible refine Kd.C_alloc ?_ _) | (with_reducible refine Kd.C_drewN ?_ _) | (with_reducible refine Kd.C_drew ?_))); (case side2 => exact HC0.out); rintro e w' ⟨rfl, ⟨nd, rfl⟩⟩; refine ⟨_, rfl, ?_⟩) | (go_at_call 11; (with_reducible refine (laws_zzFits6.calls k _ _ l1 false _ ?side1 ?side2 A7.out).mono ?_); (case side1 => repeat (first | exact (Kd.C_below HR1.out (by repeat (first | (with_reducible first | exact HB.out | apply below_alloc | apply pw_below_drewN | apply below_drew1) | exact HB.out))) | (with_reducible refine Kd.C_alloc ?_ _) | (with_reducible refine Kd.C_drewN ?_ _) | (with_reducible refine Kd.C_drew ?_))); (case side2 => exact HC1.out); rintro e w' ⟨rfl, ⟨nd, rfl⟩⟩))
    go_meet
    case rel => exact ⟨_, (true), (by first | rfl | (simp; done) | (simp [*]; done)), H', ⟨by first | omega | exact Nat.le_refl _⟩, ⟨by repeat (first | (with_reducible first | exact HB.out | apply below_alloc | apply pw_below_drewN | apply below_drew1) | exact HB.out)⟩⟩
  ·replace c6 := Bool.eq_false_iff.mpr c6
   subst c6
   have H1 : (laws_FnAdAddress.j0 k l0 l1 l2 true) = some r := by rw [if_neg (show ¬ (false = true) by decide)] at H; exact H
   clear H
   have H := H1
   clear H1
   have H' := Aside0.mk H
   clear H
   go_wp2_with (first | ((with_reducible refine gate_callee (f := 10) rfl ?_); refine goesL_ (some 28) rfl rfl Try.func10 (by kernel_rfl) rfl #[.slice A0 l0.length c0] rfl (by (try simp only [List.map_toArray, List.map_cons, List.map_nil]); first | done | rfl | (simp only [List.length_drop, List.length_take]; rfl)) ?_; (with_reducible refine (laws_zzFits5.calls k _ _ l0 false _ ?side1 ?side2 A5.out).mono ?_); (case side1 => repeat (first | exact (Kd.C_below HR0.out HB.out) | (with_reducible refine Kd.C_alloc ?_ _) | (with_reducible refine Kd.C_drewN ?_ _) | (with_reducible refine Kd.C_drew ?_))); (case side2 => exact HC0.out); rintro e w' ⟨rfl, ⟨nd, rfl⟩⟩; refine ⟨_, rfl, ?_⟩))
   go_meet
   case rel => exact ⟨_, (true), (by first | rfl | (simp; done) | (simp [*]; done)), H', ⟨by first | omega | exact Nat.le_refl _⟩, ⟨by repeat (first | (with_reducible first | exact HB.out | apply below_alloc | apply pw_below_drewN | apply below_drew1) | exact HB.out)⟩⟩
 case rest => as_aux_lemma =>
  clear HC4
  try clear c1
  try clear c2
  try clear p2
  try clear c5
  try clear c6
  try clear c8
  obtain ⟨kq, x39_3, rfl, HA, HJ3, HB⟩ := hcut
  cases kq with
  | zero => exact absurd HA.out (by simp [laws_FnAdAddress.j0])
  | succ kj3 =>
   have H := HA.out
   clear HA
   simp only [laws_FnAdAddress.j0] at H
   by_cases c10 : x39_3 = true
   ·subst c10
    have H1 : (some true) = some r := by rw [if_pos rfl] at H; exact H
    clear H
    have H := H1
    clear H1
    obtain rfl := Option.some.inj H
    go_wp2
    go_ret
    exact ⟨by first | rfl | (simp [errW_none, errW_some] <;> rfl) | (simp [*, errW_none, errW_some] <;> rfl) | (simp (disch := omega) only [wrap64_id] <;> rfl), by repeat (first | (with_reducible first | exact HB.out | apply below_alloc | apply pw_below_drewN | apply below_drew1) | exact HB.out)⟩
   ·replace c10 := Bool.eq_false_iff.mpr c10
    subst c10
    have H1 : (if (l0.length : Int) = 0 then (laws_FnAdAddress.j1 kj3 l0 l1 l2 true) else (if (l0.length : Int) > 10 then (laws_FnAdAddress.j1 kj3 l0 l1 l2 true) else (if (l1.length : Int) = (l0.length : Int) then (laws_FnAdAddress.j1 kj3 l0 l1 l2 ((l2.length : Int) != (l0.length : Int))) else (laws_FnAdAddress.j1 kj3 l0 l1 l2 true)))) = some r := by rw [if_neg (show ¬ (false = true) by decide)] at H; exact H
    clear H
    have H := H1
    clear H1
    have HC11 := Aside0.mk H
    clear H
    go_upto_region 3 with (fail)
    go_cut [61] (fun v61 wc => ∃ (kq : Nat) (x61_10 : Bool), v61 = .bool x61_10 ∧ Aside0 (laws_FnAdAddress.j1 kq l0 l1 l2 x61_10 = some r) ∧ Aside0 (kq ≤ kj3) ∧ Aside0 (Below w.heap.size w wc))
    case first =>
     have H := HC11.out
     clear HC11
     by_cases c12 : (l0.length : Int) = 0
     ·rw [if_pos c12] at H
      have c12b0 : ((l0.length : Int) == 0) = true := beq_iff_eq.mpr c12
      have c12b1 : ((l0.length : Int) != 0) = false := bne_eq_false_iff_eq.mpr c12
      clear c12
      (first | rw [c12b0] | (simp only [i64_w, i32_w]; rw [c12b0]) | skip)
      have H' := Aside0.mk H
      clear H
      go_wp2
      go_meet
      case rel => exact ⟨_, (true), (by first | rfl | (simp; done) | (simp [*]; done)), H', ⟨by have := HJ3.out; first | omega | exact Nat.le_refl _⟩, ⟨by repeat (first | (with_reducible first | exact HB.out | apply below_alloc | apply pw_below_drewN | apply below_drew1) | exact HB.out)⟩⟩
     ·rw [if_neg c12] at H
      have c12b0 : ((l0.length : Int) == 0) = false := beq_eq_false_iff_ne.mpr c12
      have c12b1 : ((l0.length : Int) != 0) = true := bne_iff_ne.mpr c12
      have c12b2 : ¬ (l0 = []) := fun h_ => c12 (by rw [h_]; rfl)
      (first | rw [c12b0] | (simp only [i64_w, i32_w]; rw [c12b0]) | skip)
      by_cases c13 : (l0.length : Int) > 10
      ·rw [if_pos c13] at H
       have c13b0 : decide (10 < (l0.length : Int)) = true := decide_eq_true c13
       have c13b1 : decide (10 < l0.length) = true := decide_eq_true (by omega)
       clear c13
       have H' := Aside0.mk H
       clear H
       go_wp2
       go_meet
       case rel => exact ⟨_, (true), (by first | rfl | (simp; done) | (simp [*]; done)), H', ⟨by have := HJ3.out; first | omega | exact Nat.le_refl _⟩, ⟨by repeat (first | (with_reducible first | exact HB.out | apply below_alloc | apply pw_below_drewN | apply below_drew1) | exact HB.out)⟩⟩
      ·rw [if_neg c13] at H
       have c13b0 : decide (10 < (l0.length : Int)) = false := decide_eq_false c13
       have c13b1 : decide (10 < l0.length) = false := decide_eq_false (by omega)
       clear c13
       by_cases c14 : (l1.length : Int) = (l0.length : Int)
       ·rw [if_pos c14] at H
        have c14b0 : ((l1.length : Int) == (l0.length : Int)) = true := beq_iff_eq.mpr c14
        have c14b1 : ((l1.length : Int) != (l0.length : Int)) = false := bne_eq_false_iff_eq.mpr c14
        have c14b2 : (l1.length == l0.length) = true := by first | simpa using c14 | (simp at c14 ⊢; omega)
        clear c14
        have H' := Aside0.mk H
        clear H
        go_wp2
        go_meet
        case rel => exact ⟨_, (((l2.length : Int) != (l0.length : Int))), (by first | rfl | (simp; done) | (simp [*]; done)), H', ⟨by have := HJ3.out; first | omega | exact Nat.le_refl _⟩, ⟨by repeat (first | (with_reducible first | exact HB.out | apply below_alloc | apply pw_below_drewN | apply below_drew1) | exact HB.out)⟩⟩
       ·rw [if_neg c14] at H
        have c14b0 : ((l1.length : Int) == (l0.length : Int)) = false := beq_eq_false_iff_ne.mpr c14
        have c14b1 : ((l1.length : Int) != (l0.length : Int)) = true := bne_iff_ne.mpr c14
        have c14b2 : (l1.length == l0.length) = false := by first | simpa using c14 | (simp at c14 ⊢; omega)
        have H' := Aside0.mk H
        clear H
        go_wp2
        go_meet
        case rel => exact ⟨_, (true), (by first | rfl | (simp; done) | (simp [*]; done)), H', ⟨by have := HJ3.out; first | omega | exact Nat.le_refl _⟩, ⟨by repeat (first | (with_reducible first | exact HB.out | apply below_alloc | apply pw_below_drewN | apply below_drew1) | exact HB.out)⟩⟩
    case rest => as_aux_lemma =>
     clear HC11
     try clear c1
     try clear c2
     try clear p2
     try clear c5
     try clear c6
     try clear p6
     try clear c8
     try clear c10
     try clear c12
     try clear c12b0
     try clear c12b1
     try clear c12b2
     try clear c13
     try clear c13b0
     try clear c13b1
     try clear c14
     try clear c14b0
     try clear c14b1
     try clear c14b2
     try clear p2
     obtain ⟨kq, x61_10, rfl, HA, HJ10, HB⟩ := hcut
     cases kq with
     | zero => exact absurd HA.out (by simp [laws_FnAdAddress.j1])
     | succ kj10 =>
      have H := HA.out
      clear HA
      simp only [laws_FnAdAddress.j1] at H
      by_cases c15 : x61_10 = true
      ·subst c15
       have H1 : (some true) = some r := by rw [if_pos rfl] at H; exact H
       clear H
       have H := H1
       clear H1
       obtain rfl := Option.some.inj H
       go_wp2
       go_ret
       exact ⟨by first | rfl | (simp [errW_none, errW_some] <;> rfl) | (simp [*, errW_none, errW_some] <;> rfl) | (simp (disch := omega) only [wrap64_id] <;> rfl), by repeat (first | (with_reducible first | exact HB.out | apply below_alloc | apply pw_below_drewN | apply below_drew1) | exact HB.out)⟩
      ·replace c15 := Bool.eq_false_iff.mpr c15
       subst c15
       have H1 : (laws_FnAdAddress.l0 kj10 l0 l1 l2 (l0.length : Int) 0) = some r := by rw [if_neg (show ¬ (false = true) by decide)] at H; exact H
       clear H
       have H := H1
       clear H1
       have H' := Aside0.mk H
       clear H
       go_wp2
       go_loopg [64] kj10 (fun kq v64 w' => ∃ (x64_3 : Int), v64 = .int .i64 x64_3 ∧ Aside0 (laws_FnAdAddress.l0 kq l0 l1 l2 (l0.length : Int) x64_3 = some r) ∧ Aside0 (kq ≤ kj10) ∧ Aside0 (Below w.heap.size w w'))
       case atStart => exact ⟨(0), (by first | rfl | (simp; done) | (simp [*]; done)), H', ⟨Nat.le_refl _⟩, ⟨by repeat (first | (with_reducible first | exact HB.out | apply below_alloc | apply pw_below_drewN | apply below_drew1) | exact HB.out)⟩⟩
       case round => as_aux_lemma =>
        clear H'
        try clear c1
        try clear c2
        try clear p2
        try clear c5
        try clear c6
        try clear p6
        try clear c8
        try clear c10
        try clear c12
        try clear c12b0
        try clear c12b1
        try clear c12b2
        try clear c13
        try clear c13b0
        try clear c13b1
        try clear c14
        try clear c14b0
        try clear c14b1
        try clear c14b2
        try clear c15
        try clear p2
        try clear p6
        obtain ⟨x64_3, rfl, HA, HK3, HB⟩ := hrel
        cases gk with
        | zero => exact absurd HA.out (by simp [laws_FnAdAddress.l0])
        | succ k3 =>
         have H := HA.out
         clear HA
         simp only [laws_FnAdAddress.l0] at H
         by_cases c16 : x64_3 < (l0.length : Int)
         ·rw [if_pos c16] at H
          have c16b0 : decide (x64_3 < (l0.length : Int)) = true := decide_eq_true c16
          clear c16
          have HC17 := Aside0.mk H
          clear H
          go_upto_region 8 with (fail)
          go_cut [93] (fun v93 wc => ∃ (kq : Nat) (x93_16 : Bool), v93 = .bool x93_16 ∧ Aside0 (laws_FnAdAddress.j3 kq l0 l1 l2 x64_3 (l0.length : Int) x64_3 x93_16 = some r) ∧ Aside0 (kq ≤ k3) ∧ Aside0 (Below w.heap.size w wc))
          case first =>
           have H := HC17.out
           clear HC17
           by_cases c18 : 0 ≤ x64_3
           ·rw [if_pos c18] at H
            have c18b0 : decide (0 ≤ x64_3) = true := decide_eq_true c18
            clear c18
            (first | rw [c18b0] | (simp only [i64_w, i32_w]; rw [c18b0]) | skip)
            by_cases c19 : x64_3 < (l0.length : Int)
            ·rw [if_pos c19] at H
             have c19b0 : decide (x64_3 < (l0.length : Int)) = true := decide_eq_true c19
             clear c19
             replace H := Option.bind_eq_some_iff.mp H
             obtain ⟨t121, A200, H⟩ := H
             replace H : (if t121 = true then (if x64_3 < (l1.length : Int) then (if ((rd_L1 l1 x64_3).length : Int) > 10 then (laws_FnAdAddress.j3 k3 l0 l1 l2 x64_3 (l0.length : Int) x64_3 true) else (if x64_3 < (l2.length : Int) then (laws_FnAdAddress.j3 k3 l0 l1 l2 x64_3 (l0.length : Int) x64_3 (((rd_L1 l1 x64_3).length : Int) != ((rd_L1 l2 x64_3).length : Int))) else (none))) else (none)) else (laws_FnAdAddress.j3 k3 l0 l1 l2 x64_3 (l0.length : Int) x64_3 true)) = some r := H
             have A20 := Aside0.mk A200
             clear A200
             by_cases c21 : t121 = true
             ·subst c21
              have H1 : (if x64_3 < (l1.length : Int) then (if ((rd_L1 l1 x64_3).length : Int) > 10 then (laws_FnAdAddress.j3 k3 l0 l1 l2 x64_3 (l0.length : Int) x64_3 true) else (if x64_3 < (l2.length : Int) then (laws_FnAdAddress.j3 k3 l0 l1 l2 x64_3 (l0.length : Int) x64_3 (((rd_L1 l1 x64_3).length : Int) != ((rd_L1 l2 x64_3).length : Int))) else (none))) else (none)) = some r := by rw [if_pos rfl] at H; exact H
              clear H
              have H := H1
              clear H1
              by_cases c22 : x64_3 < (l1.length : Int)
              ·rw [if_pos c22] at H
               have c22b0 : decide (x64_3 < (l1.length : Int)) = true := decide_eq_true c22
               clear c22
               by_cases c23 : ((rd_L1 l1 x64_3).length : Int) > 10
               ·rw [if_pos c23] at H
                have c23b0 : decide (10 < ((rd_L1 l1 x64_3).length : Int)) = true := decide_eq_true c23
                have c23b1 : decide (10 < (rd_L1 l1 x64_3).length) = true := decide_eq_true (by omega)
                clear c23
                have H' := Aside0.mk H
                clear H
                try go_wp2
                have n0_ := Aside0.mk (below_drew1 HB.out)
                clear HB
                have HB := n0_
                clear n0_
                have p120 : 0 ≤ (x64_3 : Int) := of_decide_eq_true (by first | (with_reducible assumption) | assumption)
                have q120 : x64_3 < (l0.length : Int) := of_decide_eq_true (by first | (with_reducible assumption) | assumption)
                obtain ⟨ad120, e120, hx120_0⟩ := Kd.at_string HR0.out x64_3 p120 q120
                have hw120_0 := hx120_0
                cases e120
                replace hx120_0 := (HB.out.cell (World.block_lt_of_cell? w _ hx120_0)).trans hx120_0
                replace p120 := eq_true p120
                replace q120 := eq_true q120
                have p122 : 0 ≤ (x64_3 : Int) := of_decide_eq_true (by first | (with_reducible assumption) | assumption)
                have q122 : x64_3 < (l1.length : Int) := of_decide_eq_true (by first | (with_reducible assumption) | assumption)
                obtain ⟨ad122, A122_0, c122_0, e122, hx122_0, hl122_0, hi122_0⟩ := at_L1 HR1.out x64_3 p122 q122
                have hw122_0 := hx122_0
                cases e122
                replace hx122_0 := (HB.out.cell (World.block_lt_of_cell? w _ hx122_0)).trans hx122_0
                have HR122_0 := Aside0.mk hi122_0
                have HC122_0 := Aside0.mk hl122_0
                clear hi122_0 hl122_0
                replace p122 := eq_true p122
                replace q122 := eq_true q122
                refine start_ (n := 27) (S := fun w' => w'.cell? (ad120.add (x64_3).toNat) = some (.string (rdOf ByteArray.empty l0 x64_3)) ∧ w'.cell? (ad122.add (x64_3).toNat) = some (.slice A122_0 (rd_L1 l1 x64_3).length c122_0)) (ds := []) #[false, false, false, false, false, false, false, false, false, false, false, false, false, false, false, false, false, false, false, false, false, false, false, false, false, false, false] (by kernel_rfl) rfl rfl ⟨((HB.out.cell (World.block_lt_of_cell? w _ hw120_0)).trans hw120_0), ((HB.out.cell (World.block_lt_of_cell? w _ hw122_0)).trans hw122_0)⟩ (fun hHeld => ?_); refine with_tabW laws_FnAdAddress.tab8 laws_FnAdAddress.bits8 (fun HT_ HW_ => ?_)
                generalize wr.drew = w24 at HB HR122_0 hx120_0 hx122_0 hHeld ⊢
                refine pure_ (i := 0) (N := some 67) (v := ?_) (a' := ?_) #[true, false, false, false, false, false, false, false, false, false, false, false, false, false, false, false, false, false, false, false, false, false, false, false, false, false, false] rfl rfl (any_of HT_.out (by kernel_rfl)) (fun _ _ _ h => h) (Or.inl ⟨by rfl, ?_⟩) ?_ ?_
                rotate_left
                ·intro w'
                 go_simp
                 with_reducible rfl
                rotate_left
                ·simp only [Act.put, List.setIfInBounds_toArray, List.set_cons_zero, List.set_cons_succ, i64_w, i32_w]
                 rfl
                refine pure_ (i := 1) (N := some 68) (v := ?_) (a' := ?_) #[true, true, false, false, false, false, false, false, false, false, false, false, false, false, false, false, false, false, false, false, false, false, false, false, false, false, false] rfl rfl (any_of HT_.out (by kernel_rfl)) (fun _ _ _ h => h) (Or.inl ⟨by rfl, ?_⟩) ?_ ?_
                rotate_left
                ·intro w'
                 go_simp
                 with_reducible rfl
                rotate_left
                ·simp only [Act.put, List.setIfInBounds_toArray, List.set_cons_zero, List.set_cons_succ, i64_w, i32_w]
                 rfl
                refine pure_ (i := 2) (N := some 69) (v := ?_) (a' := ?_) #[true, true, true, false, false, false, false, false, false, false, false, false, false, false, false, false, false, false, false, false, false, false, false, false, false, false, false] rfl rfl (any_of HT_.out (by kernel_rfl)) (fun _ _ _ h => h) (Or.inl ⟨by rfl, ?_⟩) ?_ ?_
                rotate_left
                ·intro w'
                 go_simp
                 with_reducible rfl
                rotate_left
                ·simp only [Act.put, List.setIfInBounds_toArray, List.set_cons_zero, List.set_cons_succ, i64_w, i32_w]
                 rfl
                refine take_ (i := 3) (N := some 70) (v := ?_) (a' := ?_) #[true, true, true, true, false, false, false, false, false, false, false, false, false, false, false, false, false, false, false, false, false, false, false, false, false, false, false] rfl rfl (take_ofW HT_.out HW_.out (by kernel_rfl)) (fun _ _ _ h => h) (Or.inl ⟨by rfl, ?_⟩) hHeld ?_ ?_
                rotate_left
                ·rintro w' ⟨s0, s1⟩
                 go_simp
                 with_reducible rfl
                rotate_left
                ·simp only [Act.put, List.setIfInBounds_toArray, List.set_cons_zero, List.set_cons_succ, i64_w, i32_w]
                 rfl
                refine one_ (i := 4) (N := some 71) #[true, true, true, true, true, false, false, false, false, false, false, false, false, false, false, false, false, false, false, false, false, false, false, false, false, false, false] rfl rfl (one_of HT_.out (by kernel_rfl)) (by decide) (fun K hK => ?_)
                refine goes_ Try.func12 (by kernel_rfl) rfl #[.string (rdOf ByteArray.empty l0 x64_3)] (by rfl) rfl rfl (by (try simp only [List.map_toArray, List.map_cons, List.map_nil]); first | done | rfl | (simp only [List.length_drop, List.length_take]; rfl)) ?_
                with_reducible refine (laws_adWord.calls k3 (rdOf ByteArray.empty l0 x64_3) true _ A20.out).mono ?_
                rintro e w' ⟨rfl, ⟨nd, rfl⟩⟩
                refine ⟨_, rfl, ?_⟩
                refine hK.out _ _ ⟨((HB.out.cell (World.block_lt_of_cell? w _ hw120_0)).trans hw120_0), ((HB.out.cell (World.block_lt_of_cell? w _ hw122_0)).trans hw122_0)⟩ (fun hHeld => ?_)
                clear hK K
                refine norm_ (a' := ?_) ?_ ?_
                rotate_left
                ·show Act.put _ (some 71) _ = _
                 simp only [Act.put, List.setIfInBounds_toArray, List.set_cons_zero, List.set_cons_succ, i64_w, i32_w]
                 rfl
                refine pure_ (i := 5) (N := some 72) (v := ?_) (a' := ?_) #[true, true, true, true, true, true, false, false, false, false, false, false, false, false, false, false, false, false, false, false, false, false, false, false, false, false, false] rfl rfl (any_of HT_.out (by kernel_rfl)) (fun _ _ _ h => h) (Or.inl ⟨by rfl, ?_⟩) ?_ ?_
                rotate_left
                ·intro w'
                 go_simp
                 with_reducible rfl
                rotate_left
                ·simp only [Act.put, List.setIfInBounds_toArray, List.set_cons_zero, List.set_cons_succ, i64_w, i32_w]
                 rfl
                refine pure_ (i := 6) (N := some 73) (v := ?_) (a' := ?_) #[true, true, true, true, true, true, true, false, false, false, false, false, false, false, false, false, false, false, false, false, false, false, false, false, false, false, false] rfl rfl (any_of HT_.out (by kernel_rfl)) (fun _ _ _ h => h) (Or.inl ⟨by rfl, ?_⟩) ?_ ?_
                rotate_left
                ·intro w'
                 go_simp
                 with_reducible rfl
                rotate_left
                ·simp only [Act.put, List.setIfInBounds_toArray, List.set_cons_zero, List.set_cons_succ, i64_w, i32_w]
                 rfl
                refine pure_ (i := 7) (N := some 74) (v := ?_) (a' := ?_) #[true, true, true, true, true, true, true, true, false, false, false, false, false, false, false, false, false, false, false, false, false, false, false, false, false, false, false] rfl rfl (any_of HT_.out (by kernel_rfl)) (fun _ _ _ h => h) (Or.inl ⟨by rfl, ?_⟩) ?_ ?_
                rotate_left
                ·intro w'
                 go_simp
                 with_reducible rfl
                rotate_left
                ·simp only [Act.put, List.setIfInBounds_toArray, List.set_cons_zero, List.set_cons_succ, i64_w, i32_w]
                 rfl
                refine pure_ (i := 8) (N := some 75) (v := ?_) (a' := ?_) #[true, true, true, true, true, true, true, true, true, false, false, false, false, false, false, false, false, false, false, false, false, false, false, false, false, false, false] rfl rfl (any_of HT_.out (by kernel_rfl)) (fun _ _ _ h => h) (Or.inl ⟨by rfl, ?_⟩) ?_ ?_
                rotate_left
                ·intro w'
                 go_simp
                 with_reducible rfl
                rotate_left
                ·simp only [Act.put, List.setIfInBounds_toArray, List.set_cons_zero, List.set_cons_succ, i64_w, i32_w]
                 rfl
                refine pure_ (i := 9) (N := some 76) (v := ?_) (a' := ?_) #[true, true, true, true, true, true, true, true, true, true, false, false, false, false, false, false, false, false, false, false, false, false, false, false, false, false, false] rfl rfl (any_of HT_.out (by kernel_rfl)) (fun _ _ _ h => h) (Or.inl ⟨by rfl, ?_⟩) ?_ ?_
                rotate_left
                ·intro w'
                 go_simp
                 with_reducible rfl
                rotate_left
                ·simp only [Act.put, List.setIfInBounds_toArray, List.set_cons_zero, List.set_cons_succ, i64_w, i32_w]
                 rfl
                refine take_ (i := 10) (N := some 77) (v := ?_) (a' := ?_) #[true, true, true, true, true, true, true, true, true, true, true, false, false, false, false, false, false, false, false, false, false, false, false, false, false, false, false] rfl rfl (take_ofW HT_.out HW_.out (by kernel_rfl)) (fun _ _ _ h => h) (Or.inl ⟨by rfl, ?_⟩) hHeld ?_ ?_
                rotate_left
                ·rintro w' ⟨s0, s1⟩
                 go_simp
                 with_reducible rfl
                rotate_left
                ·simp only [Act.put, List.setIfInBounds_toArray, List.set_cons_zero, List.set_cons_succ, i64_w, i32_w]
                 rfl
                refine pure_ (i := 11) (N := some 78) (v := ?_) (a' := ?_) #[true, true, true, true, true, true, true, true, true, true, true, true, false, false, false, false, false, false, false, false, false, false, false, false, false, false, false] rfl rfl (any_of HT_.out (by kernel_rfl)) (fun _ _ _ h => h) (Or.inl ⟨by rfl, ?_⟩) ?_ ?_
                rotate_left
                ·intro w'
                 go_simp
                 with_reducible rfl
                rotate_left
                ·simp only [Act.put, List.setIfInBounds_toArray, List.set_cons_zero, List.set_cons_succ, i64_w, i32_w]
                 rfl
                refine pure_ (i := 12) (N := some 79) (v := ?_) (a' := ?_) #[true, true, true, true, true, true, true, true, true, true, true, true, true, false, false, false, false, false, false, false, false, false, false, false, false, false, false] rfl rfl (any_of HT_.out (by kernel_rfl)) (fun _ _ _ h => h) (Or.inl ⟨by rfl, ?_⟩) ?_ ?_
                rotate_left
                ·intro w'
                 go_simp
                 with_reducible rfl
                rotate_left
                ·simp only [Act.put, List.setIfInBounds_toArray, List.set_cons_zero, List.set_cons_succ, i64_w, i32_w]
                 rfl
                refine pure_ (i := 13) (N := some 80) (v := ?_) (a' := ?_) #[true, true, true, true, true, true, true, true, true, true, true, true, true, true, false, false, false, false, false, false, false, false, false, false, false, false, false] rfl rfl (any_of HT_.out (by kernel_rfl)) (fun _ _ _ h => h) (Or.inl ⟨by rfl, ?_⟩) ?_ ?_
                rotate_left
                ·intro w'
                 go_simp
                 with_reducible rfl
                rotate_left
                ·simp only [Act.put, List.setIfInBounds_toArray, List.set_cons_zero, List.set_cons_succ, i64_w, i32_w]
                 rfl
                refine pure_ (i := 14) (N := some 81) (v := ?_) (a' := ?_) #[true, true, true, true, true, true, true, true, true, true, true, true, true, true, true, false, false, false, false, false, false, false, false, false, false, false, false] rfl rfl (any_of HT_.out (by kernel_rfl)) (fun _ _ _ h => h) (Or.inl ⟨by rfl, ?_⟩) ?_ ?_
                rotate_left
                ·intro w'
                 go_simp
                 with_reducible rfl
                rotate_left
                ·simp only [Act.put, List.setIfInBounds_toArray, List.set_cons_zero, List.set_cons_succ, i64_w, i32_w]
                 rfl
                refine pure_ (i := 15) (N := some 82) (v := undef) (a' := ?_) #[true, true, true, true, true, true, true, true, true, true, true, true, true, true, true, true, false, false, false, false, false, false, false, false, false, false, false] rfl rfl (any_of HT_.out (by kernel_rfl)) (fun _ _ _ h => h) (Or.inr ⟨by rfl, rfl⟩) ?_ ?_
                rotate_left
                ·simp only [Act.put, List.setIfInBounds_toArray, List.set_cons_zero, List.set_cons_succ, i64_w, i32_w]
                 rfl
                refine pure_ (i := 16) (N := some 83) (v := undef) (a' := ?_) #[true, true, true, true, true, true, true, true, true, true, true, true, true, true, true, true, true, false, false, false, false, false, false, false, false, false, false] rfl rfl (any_of HT_.out (by kernel_rfl)) (fun _ _ _ h => h) (Or.inr ⟨by rfl, rfl⟩) ?_ ?_
                rotate_left
                ·simp only [Act.put, List.setIfInBounds_toArray, List.set_cons_zero, List.set_cons_succ, i64_w, i32_w]
                 rfl
                refine pure_ (i := 17) (N := some 84) (v := undef) (a' := ?_) #[true, true, true, true, true, true, true, true, true, true, true, true, true, true, true, true, true, true, false, false, false, false, false, false, false, false, false] rfl rfl (any_of HT_.out (by kernel_rfl)) (fun _ _ _ h => h) (Or.inr ⟨by rfl, rfl⟩) ?_ ?_
                rotate_left
                ·simp only [Act.put, List.setIfInBounds_toArray, List.set_cons_zero, List.set_cons_succ, i64_w, i32_w]
                 rfl
                refine pure_ (i := 18) (N := some 85) (v := undef) (a' := ?_) #[true, true, true, true, true, true, true, true, true, true, true, true, true, true, true, true, true, true, true, false, false, false, false, false, false, false, false] rfl rfl (any_of HT_.out (by kernel_rfl)) (fun _ _ _ h => h) (Or.inr ⟨by rfl, rfl⟩) ?_ ?_
                rotate_left
                ·simp only [Act.put, List.setIfInBounds_toArray, List.set_cons_zero, List.set_cons_succ, i64_w, i32_w]
                 rfl
                refine pure_ (i := 19) (N := some 86) (v := undef) (a' := ?_) #[true, true, true, true, true, true, true, true, true, true, true, true, true, true, true, true, true, true, true, true, false, false, false, false, false, false, false] rfl rfl (any_of HT_.out (by kernel_rfl)) (fun _ _ _ h => h) (Or.inr ⟨by rfl, rfl⟩) ?_ ?_
                rotate_left
                ·simp only [Act.put, List.setIfInBounds_toArray, List.set_cons_zero, List.set_cons_succ, i64_w, i32_w]
                 rfl
                refine pure_ (i := 20) (N := some 87) (v := undef) (a' := ?_) #[true, true, true, true, true, true, true, true, true, true, true, true, true, true, true, true, true, true, true, true, true, false, false, false, false, false, false] rfl rfl (any_of HT_.out (by kernel_rfl)) (fun _ _ _ h => h) (Or.inr ⟨by rfl, rfl⟩) ?_ ?_
                rotate_left
                ·simp only [Act.put, List.setIfInBounds_toArray, List.set_cons_zero, List.set_cons_succ, i64_w, i32_w]
                 rfl
                refine pure_ (i := 21) (N := some 88) (v := undef) (a' := ?_) #[true, true, true, true, true, true, true, true, true, true, true, true, true, true, true, true, true, true, true, true, true, true, false, false, false, false, false] rfl rfl (any_of HT_.out (by kernel_rfl)) (fun _ _ _ h => h) (Or.inr ⟨by rfl, rfl⟩) ?_ ?_
                rotate_left
                ·simp only [Act.put, List.setIfInBounds_toArray, List.set_cons_zero, List.set_cons_succ, i64_w, i32_w]
                 rfl
                refine pure_ (i := 22) (N := some 89) (v := undef) (a' := ?_) #[true, true, true, true, true, true, true, true, true, true, true, true, true, true, true, true, true, true, true, true, true, true, true, false, false, false, false] rfl rfl (any_of HT_.out (by kernel_rfl)) (fun _ _ _ h => h) (Or.inr ⟨by rfl, rfl⟩) ?_ ?_
                rotate_left
                ·simp only [Act.put, List.setIfInBounds_toArray, List.set_cons_zero, List.set_cons_succ, i64_w, i32_w]
                 rfl
                refine pure_ (i := 23) (N := some 90) (v := undef) (a' := ?_) #[true, true, true, true, true, true, true, true, true, true, true, true, true, true, true, true, true, true, true, true, true, true, true, true, false, false, false] rfl rfl (any_of HT_.out (by kernel_rfl)) (fun _ _ _ h => h) (Or.inr ⟨by rfl, rfl⟩) ?_ ?_
                rotate_left
                ·simp only [Act.put, List.setIfInBounds_toArray, List.set_cons_zero, List.set_cons_succ, i64_w, i32_w]
                 rfl
                refine pure_ (i := 24) (N := some 91) (v := undef) (a' := ?_) #[true, true, true, true, true, true, true, true, true, true, true, true, true, true, true, true, true, true, true, true, true, true, true, true, true, false, false] rfl rfl (any_of HT_.out (by kernel_rfl)) (fun _ _ _ h => h) (Or.inr ⟨by rfl, rfl⟩) ?_ ?_
                rotate_left
                ·simp only [Act.put, List.setIfInBounds_toArray, List.set_cons_zero, List.set_cons_succ, i64_w, i32_w]
                 rfl
                refine pure_ (i := 25) (N := some 92) (v := undef) (a' := ?_) #[true, true, true, true, true, true, true, true, true, true, true, true, true, true, true, true, true, true, true, true, true, true, true, true, true, true, false] rfl rfl (any_of HT_.out (by kernel_rfl)) (fun _ _ _ h => h) (Or.inr ⟨by rfl, rfl⟩) ?_ ?_
                rotate_left
                ·simp only [Act.put, List.setIfInBounds_toArray, List.set_cons_zero, List.set_cons_succ, i64_w, i32_w]
                 rfl
                refine pure_ (i := 26) (N := some 93) (v := ?_) (a' := ?_) #[true, true, true, true, true, true, true, true, true, true, true, true, true, true, true, true, true, true, true, true, true, true, true, true, true, true, true] rfl rfl (any_of HT_.out (by kernel_rfl)) (fun _ _ _ h => h) (Or.inl ⟨by rfl, ?_⟩) ?_ ?_
                rotate_left
                ·intro w'
                 go_simp
                 with_reducible rfl
                rotate_left
                ·simp only [Act.put, List.setIfInBounds_toArray, List.set_cons_zero, List.set_cons_succ, i64_w, i32_w]
                 rfl
                refine done_ (done_of HT_.out (by kernel_rfl)) ?_
                try go_wp2
                go_meet
                case rel => exact ⟨_, (true), (by first | rfl | (simp; done) | (simp [*]; done)), H', ⟨by have := HJ3.out; have := HJ10.out; have := HK3.out; first | omega | exact Nat.le_refl _⟩, ⟨by repeat (first | (with_reducible first | exact HB.out | apply below_alloc | apply pw_below_drewN | apply below_drew1) | exact HB.out)⟩⟩
               ·rw [if_neg c23] at H
                have c23b0 : decide (10 < ((rd_L1 l1 x64_3).length : Int)) = false := decide_eq_false c23
                have c23b1 : decide (10 < (rd_L1 l1 x64_3).length) = false := decide_eq_false (by omega)
                clear c23
                by_cases c25 : x64_3 < (l2.length : Int)
                ·rw [if_pos c25] at H
                 have c25b0 : decide (x64_3 < (l2.length : Int)) = true := decide_eq_true c25
                 clear c25
                 have H' := Aside0.mk H
                 clear H
                 try go_wp2
                 have n0_ := Aside0.mk (below_drew1 HB.out)
                 clear HB
                 have HB := n0_
                 clear n0_
                 have p120 : 0 ≤ (x64_3 : Int) := of_decide_eq_true (by first | (with_reducible assumption) | assumption)
                 have q120 : x64_3 < (l0.length : Int) := of_decide_eq_true (by first | (with_reducible assumption) | assumption)
                 obtain ⟨ad120, e120, hx120_0⟩ := Kd.at_string HR0.out x64_3 p120 q120
                 have hw120_0 := hx120_0
                 cases e120
                 replace hx120_0 := (HB.out.cell (World.block_lt_of_cell? w _ hx120_0)).trans hx120_0
                 replace p120 := eq_true p120
                 replace q120 := eq_true q120
                 have p122 : 0 ≤ (x64_3 : Int) := of_decide_eq_true (by first | (with_reducible assumption) | assumption)
                 have q122 : x64_3 < (l1.length : Int) := of_decide_eq_true (by first | (with_reducible assumption) | assumption)
                 obtain ⟨ad122, A122_0, c122_0, e122, hx122_0, hl122_0, hi122_0⟩ := at_L1 HR1.out x64_3 p122 q122
                 have hw122_0 := hx122_0
                 cases e122
                 replace hx122_0 := (HB.out.cell (World.block_lt_of_cell? w _ hx122_0)).trans hx122_0
                 have HR122_0 := Aside0.mk hi122_0
                 have HC122_0 := Aside0.mk hl122_0
                 clear hi122_0 hl122_0
                 replace p122 := eq_true p122
                 replace q122 := eq_true q122
                 have p123 : 0 ≤ (x64_3 : Int) := of_decide_eq_true (by first | (with_reducible assumption) | assumption)
                 have q123 : x64_3 < (l1.length : Int) := of_decide_eq_true (by first | (with_reducible assumption) | assumption)
                 obtain ⟨ad123, A123_0, c123_0, e123, hx123_0, hl123_0, hi123_0⟩ := at_L1 HR1.out x64_3 p123 q123
                 have hw123_0 := hx123_0
                 obtain rfl : ad122 = ad123 := (by injection e123)
                 replace hx123_0 := (HB.out.cell (World.block_lt_of_cell? w _ hx123_0)).trans hx123_0
                 have HR123_0 := Aside0.mk hi123_0
                 have HC123_0 := Aside0.mk hl123_0
                 clear hi123_0 hl123_0
                 replace p123 := eq_true p123
                 replace q123 := eq_true q123
                 have ea_ := Option.some.inj (hx122_0.symm.trans hx123_0)
                 injection ea_ with ea_ en_ ec_
                 subst ea_
                 subst ec_
                 clear en_
                 have p124 : 0 ≤ (x64_3 : Int) := of_decide_eq_true (by first | (with_reducible assumption) | assumption)
                 have q124 : x64_3 < (l2.length : Int) := of_decide_eq_true (by first | (with_reducible assumption) | assumption)
                 obtain ⟨ad124, A124_0, c124_0, e124, hx124_0, hl124_0, hi124_0⟩ := at_L1 HR2.out x64_3 p124 q124
                 have hw124_0 := hx124_0
                 cases e124
                 replace hx124_0 := (HB.out.cell (World.block_lt_of_cell? w _ hx124_0)).trans hx124_0
                 have HR124_0 := Aside0.mk hi124_0
                 have HC124_0 := Aside0.mk hl124_0
                 clear hi124_0 hl124_0
                 replace p124 := eq_true p124
                 replace q124 := eq_true q124
                 refine start_ (n := 27) (S := fun w' => w'.cell? (ad120.add (x64_3).toNat) = some (.string (rdOf ByteArray.empty l0 x64_3)) ∧ w'.cell? (ad122.add (x64_3).toNat) = some (.slice A122_0 (rd_L1 l1 x64_3).length c122_0) ∧ w'.cell? (ad122.add (x64_3).toNat) = some (.slice A122_0 (rd_L1 l1 x64_3).length c122_0) ∧ w'.cell? (ad124.add (x64_3).toNat) = some (.slice A124_0 (rd_L1 l2 x64_3).length c124_0)) (ds := []) #[false, false, false, false, false, false, false, false, false, false, false, false, false, false, false, false, false, false, false, false, false, false, false, false, false, false, false] (by kernel_rfl) rfl rfl ⟨((HB.out.cell (World.block_lt_of_cell? w _ hw120_0)).trans hw120_0), ((HB.out.cell (World.block_lt_of_cell? w _ hw122_0)).trans hw122_0), ((HB.out.cell (World.block_lt_of_cell? w _ hw123_0)).trans hw123_0), ((HB.out.cell (World.block_lt_of_cell? w _ hw124_0)).trans hw124_0)⟩ (fun hHeld => ?_); refine with_tabW laws_FnAdAddress.tab8 laws_FnAdAddress.bits8 (fun HT_ HW_ => ?_)
                 generalize wr.drew = w26 at HB HR122_0 HR123_0 HR124_0 hx120_0 hx122_0 hx123_0 hx124_0 hHeld ⊢
                 refine pure_ (i := 0) (N := some 67) (v := ?_) (a' := ?_) #[true, false, false, false, false, false, false, false, false, false, false, false, false, false, false, false, false, false, false, false, false, false, false, false, false, false, false] rfl rfl (any_of HT_.out (by kernel_rfl)) (fun _ _ _ h => h) (Or.inl ⟨by rfl, ?_⟩) ?_ ?_
                 rotate_left
                 ·intro w'
                  go_simp
                  with_reducible rfl
                 rotate_left
                 ·simp only [Act.put, List.setIfInBounds_toArray, List.set_cons_zero, List.set_cons_succ, i64_w, i32_w]
                  rfl
                 refine pure_ (i := 1) (N := some 68) (v := ?_) (a' := ?_) #[true, true, false, false, false, false, false, false, false, false, false, false, false, false, false, false, false, false, false, false, false, false, false, false, false, false, false] rfl rfl (any_of HT_.out (by kernel_rfl)) (fun _ _ _ h => h) (Or.inl ⟨by rfl, ?_⟩) ?_ ?_
                 rotate_left
                 ·intro w'
                  go_simp
                  with_reducible rfl
                 rotate_left
                 ·simp only [Act.put, List.setIfInBounds_toArray, List.set_cons_zero, List.set_cons_succ, i64_w, i32_w]
                  rfl
                 refine pure_ (i := 2) (N := some 69) (v := ?_) (a' := ?_) #[true, true, true, false, false, false, false, false, false, false, false, false, false, false, false, false, false, false, false, false, false, false, false, false, false, false, false] rfl rfl (any_of HT_.out (by kernel_rfl)) (fun _ _ _ h => h) (Or.inl ⟨by rfl, ?_⟩) ?_ ?_
                 rotate_left
                 ·intro w'
                  go_simp
                  with_reducible rfl
                 rotate_left
                 ·simp only [Act.put, List.setIfInBounds_toArray, List.set_cons_zero, List.set_cons_succ, i64_w, i32_w]
                  rfl
                 refine take_ (i := 3) (N := some 70) (v := ?_) (a' := ?_) #[true, true, true, true, false, false, false, false, false, false, false, false, false, false, false, false, false, false, false, false, false, false, false, false, false, false, false] rfl rfl (take_ofW HT_.out HW_.out (by kernel_rfl)) (fun _ _ _ h => h) (Or.inl ⟨by rfl, ?_⟩) hHeld ?_ ?_
                 rotate_left
                 ·rintro w' ⟨s0, s1, s2, s3⟩
                  go_simp
                  with_reducible rfl
                 rotate_left
                 ·simp only [Act.put, List.setIfInBounds_toArray, List.set_cons_zero, List.set_cons_succ, i64_w, i32_w]
                  rfl
                 refine one_ (i := 4) (N := some 71) #[true, true, true, true, true, false, false, false, false, false, false, false, false, false, false, false, false, false, false, false, false, false, false, false, false, false, false] rfl rfl (one_of HT_.out (by kernel_rfl)) (by decide) (fun K hK => ?_)
                 refine goes_ Try.func12 (by kernel_rfl) rfl #[.string (rdOf ByteArray.empty l0 x64_3)] (by rfl) rfl rfl (by (try simp only [List.map_toArray, List.map_cons, List.map_nil]); first | done | rfl | (simp only [List.length_drop, List.length_take]; rfl)) ?_
                 with_reducible refine (laws_adWord.calls k3 (rdOf ByteArray.empty l0 x64_3) true _ A20.out).mono ?_
                 rintro e w' ⟨rfl, ⟨nd, rfl⟩⟩
                 refine ⟨_, rfl, ?_⟩
                 refine hK.out _ _ ⟨((HB.out.cell (World.block_lt_of_cell? w _ hw120_0)).trans hw120_0), ((HB.out.cell (World.block_lt_of_cell? w _ hw122_0)).trans hw122_0), ((HB.out.cell (World.block_lt_of_cell? w _ hw123_0)).trans hw123_0), ((HB.out.cell (World.block_lt_of_cell? w _ hw124_0)).trans hw124_0)⟩ (fun hHeld => ?_)
                 clear hK K
                 refine norm_ (a' := ?_) ?_ ?_
                 rotate_left
                 ·show Act.put _ (some 71) _ = _
                  simp only [Act.put, List.setIfInBounds_toArray, List.set_cons_zero, List.set_cons_succ, i64_w, i32_w]
                  rfl
                 refine pure_ (i := 5) (N := some 72) (v := ?_) (a' := ?_) #[true, true, true, true, true, true, false, false, false, false, false, false, false, false, false, false, false, false, false, false, false, false, false, false, false, false, false] rfl rfl (any_of HT_.out (by kernel_rfl)) (fun _ _ _ h => h) (Or.inl ⟨by rfl, ?_⟩) ?_ ?_
                 rotate_left
                 ·intro w'
                  go_simp
                  with_reducible rfl
                 rotate_left
                 ·simp only [Act.put, List.setIfInBounds_toArray, List.set_cons_zero, List.set_cons_succ, i64_w, i32_w]
                  rfl
                 refine pure_ (i := 6) (N := some 73) (v := ?_) (a' := ?_) #[true, true, true, true, true, true, true, false, false, false, false, false, false, false, false, false, false, false, false, false, false, false, false, false, false, false, false] rfl rfl (any_of HT_.out (by kernel_rfl)) (fun _ _ _ h => h) (Or.inl ⟨by rfl, ?_⟩) ?_ ?_
                 rotate_left
                 ·intro w'
                  go_simp
                  with_reducible rfl
                 rotate_left
                 ·simp only [Act.put, List.setIfInBounds_toArray, List.set_cons_zero, List.set_cons_succ, i64_w, i32_w]
                  rfl
                 refine pure_ (i := 7) (N := some 74) (v := ?_) (a' := ?_) #[true, true, true, true, true, true, true, true, false, false, false, false, false, false, false, false, false, false, false, false, false, false, false, false, false, false, false] rfl rfl (any_of HT_.out (by kernel_rfl)) (fun _ _ _ h => h) (Or.inl ⟨by rfl, ?_⟩) ?_ ?_
                 rotate_left
                 ·intro w'
                  go_simp
                  with_reducible rfl
                 rotate_left
                 ·simp only [Act.put, List.setIfInBounds_toArray, List.set_cons_zero, List.set_cons_succ, i64_w, i32_w]
                  rfl
                 refine pure_ (i := 8) (N := some 75) (v := ?_) (a' := ?_) #[true, true, true, true, true, true, true, true, true, false, false, false, false, false, false, false, false, false, false, false, false, false, false, false, false, false, false] rfl rfl (any_of HT_.out (by kernel_rfl)) (fun _ _ _ h => h) (Or.inl ⟨by rfl, ?_⟩) ?_ ?_
                 rotate_left
                 ·intro w'
                  go_simp
                  with_reducible rfl
                 rotate_left
                 ·simp only [Act.put, List.setIfInBounds_toArray, List.set_cons_zero, List.set_cons_succ, i64_w, i32_w]
                  rfl
                 refine pure_ (i := 9) (N := some 76) (v := ?_) (a' := ?_) #[true, true, true, true, true, true, true, true, true, true, false, false, false, false, false, false, false, false, false, false, false, false, false, false, false, false, false] rfl rfl (any_of HT_.out (by kernel_rfl)) (fun _ _ _ h => h) (Or.inl ⟨by rfl, ?_⟩) ?_ ?_
                 rotate_left
                 ·intro w'
                  go_simp
                  with_reducible rfl
                 rotate_left
                 ·simp only [Act.put, List.setIfInBounds_toArray, List.set_cons_zero, List.set_cons_succ, i64_w, i32_w]
                  rfl
                 refine take_ (i := 10) (N := some 77) (v := ?_) (a' := ?_) #[true, true, true, true, true, true, true, true, true, true, true, false, false, false, false, false, false, false, false, false, false, false, false, false, false, false, false] rfl rfl (take_ofW HT_.out HW_.out (by kernel_rfl)) (fun _ _ _ h => h) (Or.inl ⟨by rfl, ?_⟩) hHeld ?_ ?_
                 rotate_left
                 ·rintro w' ⟨s0, s1, s2, s3⟩
                  go_simp
                  with_reducible rfl
                 rotate_left
                 ·simp only [Act.put, List.setIfInBounds_toArray, List.set_cons_zero, List.set_cons_succ, i64_w, i32_w]
                  rfl
                 refine pure_ (i := 11) (N := some 78) (v := ?_) (a' := ?_) #[true, true, true, true, true, true, true, true, true, true, true, true, false, false, false, false, false, false, false, false, false, false, false, false, false, false, false] rfl rfl (any_of HT_.out (by kernel_rfl)) (fun _ _ _ h => h) (Or.inl ⟨by rfl, ?_⟩) ?_ ?_
                 rotate_left
                 ·intro w'
                  go_simp
                  with_reducible rfl
                 rotate_left
                 ·simp only [Act.put, List.setIfInBounds_toArray, List.set_cons_zero, List.set_cons_succ, i64_w, i32_w]
                  rfl
                 refine pure_ (i := 12) (N := some 79) (v := ?_) (a' := ?_) #[true, true, true, true, true, true, true, true, true, true, true, true, true, false, false, false, false, false, false, false, false, false, false, false, false, false, false] rfl rfl (any_of HT_.out (by kernel_rfl)) (fun _ _ _ h => h) (Or.inl ⟨by rfl, ?_⟩) ?_ ?_
                 rotate_left
                 ·intro w'
                  go_simp
                  with_reducible rfl
                 rotate_left
                 ·simp only [Act.put, List.setIfInBounds_toArray, List.set_cons_zero, List.set_cons_succ, i64_w, i32_w]
                  rfl
                 refine pure_ (i := 13) (N := some 80) (v := ?_) (a' := ?_) #[true, true, true, true, true, true, true, true, true, true, true, true, true, true, false, false, false, false, false, false, false, false, false, false, false, false, false] rfl rfl (any_of HT_.out (by kernel_rfl)) (fun _ _ _ h => h) (Or.inl ⟨by rfl, ?_⟩) ?_ ?_
                 rotate_left
                 ·intro w'
                  go_simp
                  with_reducible rfl
                 rotate_left
                 ·simp only [Act.put, List.setIfInBounds_toArray, List.set_cons_zero, List.set_cons_succ, i64_w, i32_w]
                  rfl
                 refine pure_ (i := 14) (N := some 81) (v := ?_) (a' := ?_) #[true, true, true, true, true, true, true, true, true, true, true, true, true, true, true, false, false, false, false, false, false, false, false, false, false, false, false] rfl rfl (any_of HT_.out (by kernel_rfl)) (fun _ _ _ h => h) (Or.inl ⟨by rfl, ?_⟩) ?_ ?_
                 rotate_left
                 ·intro w'
                  go_simp
                  with_reducible rfl
                 rotate_left
                 ·simp only [Act.put, List.setIfInBounds_toArray, List.set_cons_zero, List.set_cons_succ, i64_w, i32_w]
                  rfl
                 refine pure_ (i := 15) (N := some 82) (v := ?_) (a' := ?_) #[true, true, true, true, true, true, true, true, true, true, true, true, true, true, true, true, false, false, false, false, false, false, false, false, false, false, false] rfl rfl (any_of HT_.out (by kernel_rfl)) (fun _ _ _ h => h) (Or.inl ⟨by rfl, ?_⟩) ?_ ?_
                 rotate_left
                 ·intro w'
                  go_simp
                  with_reducible rfl
                 rotate_left
                 ·simp only [Act.put, List.setIfInBounds_toArray, List.set_cons_zero, List.set_cons_succ, i64_w, i32_w]
                  rfl
                 refine pure_ (i := 16) (N := some 83) (v := ?_) (a' := ?_) #[true, true, true, true, true, true, true, true, true, true, true, true, true, true, true, true, true, false, false, false, false, false, false, false, false, false, false] rfl rfl (any_of HT_.out (by kernel_rfl)) (fun _ _ _ h => h) (Or.inl ⟨by rfl, ?_⟩) ?_ ?_
                 rotate_left
                 ·intro w'
                  go_simp
                  with_reducible rfl
                 rotate_left
                 ·simp only [Act.put, List.setIfInBounds_toArray, List.set_cons_zero, List.set_cons_succ, i64_w, i32_w]
                  rfl
                 refine pure_ (i := 17) (N := some 84) (v := ?_) (a' := ?_) #[true, true, true, true, true, true, true, true, true, true, true, true, true, true, true, true, true, true, false, false, false, false, false, false, false, false, false] rfl rfl (any_of HT_.out (by kernel_rfl)) (fun _ _ _ h => h) (Or.inl ⟨by rfl, ?_⟩) ?_ ?_
                 rotate_left
                 ·intro w'
                  go_simp
                  with_reducible rfl
                 rotate_left
                 ·simp only [Act.put, List.setIfInBounds_toArray, List.set_cons_zero, List.set_cons_succ, i64_w, i32_w]
                  rfl
                 refine pure_ (i := 20) (N := some 87) (v := ?_) (a' := ?_) #[true, true, true, true, true, true, true, true, true, true, true, true, true, true, true, true, true, true, false, false, true, false, false, false, false, false, false] rfl rfl (any_of HT_.out (by kernel_rfl)) (fun _ _ _ h => h) (Or.inl ⟨by rfl, ?_⟩) ?_ ?_
                 rotate_left
                 ·intro w'
                  go_simp
                  with_reducible rfl
                 rotate_left
                 ·simp only [Act.put, List.setIfInBounds_toArray, List.set_cons_zero, List.set_cons_succ, i64_w, i32_w]
                  rfl
                 refine pure_ (i := 21) (N := some 88) (v := ?_) (a' := ?_) #[true, true, true, true, true, true, true, true, true, true, true, true, true, true, true, true, true, true, false, false, true, true, false, false, false, false, false] rfl rfl (any_of HT_.out (by kernel_rfl)) (fun _ _ _ h => h) (Or.inl ⟨by rfl, ?_⟩) ?_ ?_
                 rotate_left
                 ·intro w'
                  go_simp
                  with_reducible rfl
                 rotate_left
                 ·simp only [Act.put, List.setIfInBounds_toArray, List.set_cons_zero, List.set_cons_succ, i64_w, i32_w]
                  rfl
                 refine pure_ (i := 22) (N := some 89) (v := ?_) (a' := ?_) #[true, true, true, true, true, true, true, true, true, true, true, true, true, true, true, true, true, true, false, false, true, true, true, false, false, false, false] rfl rfl (any_of HT_.out (by kernel_rfl)) (fun _ _ _ h => h) (Or.inl ⟨by rfl, ?_⟩) ?_ ?_
                 rotate_left
                 ·intro w'
                  go_simp
                  with_reducible rfl
                 rotate_left
                 ·simp only [Act.put, List.setIfInBounds_toArray, List.set_cons_zero, List.set_cons_succ, i64_w, i32_w]
                  rfl
                 refine take_ (i := 18) (N := some 85) (v := ?_) (a' := ?_) #[true, true, true, true, true, true, true, true, true, true, true, true, true, true, true, true, true, true, true, false, true, true, true, false, false, false, false] rfl rfl (take_ofW HT_.out HW_.out (by kernel_rfl)) (fun _ _ _ h => h) (Or.inl ⟨by rfl, ?_⟩) hHeld ?_ ?_
                 rotate_left
                 ·rintro w' ⟨s0, s1, s2, s3⟩
                  go_simp
                  with_reducible rfl
                 rotate_left
                 ·simp only [Act.put, List.setIfInBounds_toArray, List.set_cons_zero, List.set_cons_succ, i64_w, i32_w]
                  rfl
                 refine pure_ (i := 19) (N := some 86) (v := ?_) (a' := ?_) #[true, true, true, true, true, true, true, true, true, true, true, true, true, true, true, true, true, true, true, true, true, true, true, false, false, false, false] rfl rfl (any_of HT_.out (by kernel_rfl)) (fun _ _ _ h => h) (Or.inl ⟨by rfl, ?_⟩) ?_ ?_
                 rotate_left
                 ·intro w'
                  go_simp
                  with_reducible rfl
                 rotate_left
                 ·simp only [Act.put, List.setIfInBounds_toArray, List.set_cons_zero, List.set_cons_succ, i64_w, i32_w]
                  rfl
                 refine take_ (i := 23) (N := some 90) (v := ?_) (a' := ?_) #[true, true, true, true, true, true, true, true, true, true, true, true, true, true, true, true, true, true, true, true, true, true, true, true, false, false, false] rfl rfl (take_ofW HT_.out HW_.out (by kernel_rfl)) (fun _ _ _ h => h) (Or.inl ⟨by rfl, ?_⟩) hHeld ?_ ?_
                 rotate_left
                 ·rintro w' ⟨s0, s1, s2, s3⟩
                  go_simp
                  with_reducible rfl
                 rotate_left
                 ·simp only [Act.put, List.setIfInBounds_toArray, List.set_cons_zero, List.set_cons_succ, i64_w, i32_w]
                  rfl
                 refine pure_ (i := 24) (N := some 91) (v := ?_) (a' := ?_) #[true, true, true, true, true, true, true, true, true, true, true, true, true, true, true, true, true, true, true, true, true, true, true, true, true, false, false] rfl rfl (any_of HT_.out (by kernel_rfl)) (fun _ _ _ h => h) (Or.inl ⟨by rfl, ?_⟩) ?_ ?_
                 rotate_left
                 ·intro w'
                  go_simp
                  with_reducible rfl
                 rotate_left
                 ·simp only [Act.put, List.setIfInBounds_toArray, List.set_cons_zero, List.set_cons_succ, i64_w, i32_w]
                  rfl
                 refine pure_ (i := 25) (N := some 92) (v := ?_) (a' := ?_) #[true, true, true, true, true, true, true, true, true, true, true, true, true, true, true, true, true, true, true, true, true, true, true, true, true, true, false] rfl rfl (any_of HT_.out (by kernel_rfl)) (fun _ _ _ h => h) (Or.inl ⟨by rfl, ?_⟩) ?_ ?_
                 rotate_left
                 ·intro w'
                  go_simp
                  with_reducible rfl
                 rotate_left
                 ·simp only [Act.put, List.setIfInBounds_toArray, List.set_cons_zero, List.set_cons_succ, i64_w, i32_w]
                  rfl
                 refine pure_ (i := 26) (N := some 93) (v := ?_) (a' := ?_) #[true, true, true, true, true, true, true, true, true, true, true, true, true, true, true, true, true, true, true, true, true, true, true, true, true, true, true] rfl rfl (any_of HT_.out (by kernel_rfl)) (fun _ _ _ h => h) (Or.inl ⟨by rfl, ?_⟩) ?_ ?_
                 rotate_left
                 ·intro w'
                  go_simp
                  with_reducible rfl
                 rotate_left
                 ·simp only [Act.put, List.setIfInBounds_toArray, List.set_cons_zero, List.set_cons_succ, i64_w, i32_w]
                  rfl
                 refine done_ (done_of HT_.out (by kernel_rfl)) ?_
                 try go_wp2
                 go_meet
                 case rel => exact ⟨_, ((((rd_L1 l1 x64_3).length : Int) != ((rd_L1 l2 x64_3).length : Int))), (by first | rfl | (simp; done) | (simp [*]; done)), H', ⟨by have := HJ3.out; have := HJ10.out; have := HK3.out; first | omega | exact Nat.le_refl _⟩, ⟨by repeat (first | (with_reducible first | exact HB.out | apply below_alloc | apply pw_below_drewN | apply below_drew1) | exact HB.out)⟩⟩
                ·rw [if_neg c25] at H
                 exact absurd H (by simp)
              ·rw [if_neg c22] at H
               exact absurd H (by simp)
             ·replace c21 := Bool.eq_false_iff.mpr c21
              subst c21
              have H1 : (laws_FnAdAddress.j3 k3 l0 l1 l2 x64_3 (l0.length : Int) x64_3 true) = some r := by rw [if_neg (show ¬ (false = true) by decide)] at H; exact H
              clear H
              have H := H1
              clear H1
              have H' := Aside0.mk H
              clear H
              try go_wp2
              have n0_ := Aside0.mk (below_drew1 HB.out)
              clear HB
              have HB := n0_
              clear n0_
              have p120 : 0 ≤ (x64_3 : Int) := of_decide_eq_true (by first | (with_reducible assumption) | assumption)
              have q120 : x64_3 < (l0.length : Int) := of_decide_eq_true (by first | (with_reducible assumption) | assumption)
              obtain ⟨ad120, e120, hx120_0⟩ := Kd.at_string HR0.out x64_3 p120 q120
              have hw120_0 := hx120_0
              cases e120
              replace hx120_0 := (HB.out.cell (World.block_lt_of_cell? w _ hx120_0)).trans hx120_0
              replace p120 := eq_true p120
              replace q120 := eq_true q120
              refine start_ (n := 27) (S := fun w' => w'.cell? (ad120.add (x64_3).toNat) = some (.string (rdOf ByteArray.empty l0 x64_3))) (ds := []) #[false, false, false, false, false, false, false, false, false, false, false, false, false, false, false, false, false, false, false, false, false, false, false, false, false, false, false] (by kernel_rfl) rfl rfl (((HB.out.cell (World.block_lt_of_cell? w _ hw120_0)).trans hw120_0)) (fun hHeld => ?_); refine with_tabW laws_FnAdAddress.tab8 laws_FnAdAddress.bits8 (fun HT_ HW_ => ?_)
              generalize wr.drew = w27 at HB hx120_0 hHeld ⊢
              refine pure_ (i := 0) (N := some 67) (v := ?_) (a' := ?_) #[true, false, false, false, false, false, false, false, false, false, false, false, false, false, false, false, false, false, false, false, false, false, false, false, false, false, false] rfl rfl (any_of HT_.out (by kernel_rfl)) (fun _ _ _ h => h) (Or.inl ⟨by rfl, ?_⟩) ?_ ?_
              rotate_left
              ·intro w'
               go_simp
               with_reducible rfl
              rotate_left
              ·simp only [Act.put, List.setIfInBounds_toArray, List.set_cons_zero, List.set_cons_succ, i64_w, i32_w]
               rfl
              refine pure_ (i := 1) (N := some 68) (v := ?_) (a' := ?_) #[true, true, false, false, false, false, false, false, false, false, false, false, false, false, false, false, false, false, false, false, false, false, false, false, false, false, false] rfl rfl (any_of HT_.out (by kernel_rfl)) (fun _ _ _ h => h) (Or.inl ⟨by rfl, ?_⟩) ?_ ?_
              rotate_left
              ·intro w'
               go_simp
               with_reducible rfl
              rotate_left
              ·simp only [Act.put, List.setIfInBounds_toArray, List.set_cons_zero, List.set_cons_succ, i64_w, i32_w]
               rfl
              refine pure_ (i := 2) (N := some 69) (v := ?_) (a' := ?_) #[true, true, true, false, false, false, false, false, false, false, false, false, false, false, false, false, false, false, false, false, false, false, false, false, false, false, false] rfl rfl (any_of HT_.out (by kernel_rfl)) (fun _ _ _ h => h) (Or.inl ⟨by rfl, ?_⟩) ?_ ?_
              rotate_left
              ·intro w'
               go_simp
               with_reducible rfl
              rotate_left
              ·simp only [Act.put, List.setIfInBounds_toArray, List.set_cons_zero, List.set_cons_succ, i64_w, i32_w]
               rfl
              refine take_ (i := 3) (N := some 70) (v := ?_) (a' := ?_) #[true, true, true, true, false, false, false, false, false, false, false, false, false, false, false, false, false, false, false, false, false, false, false, false, false, false, false] rfl rfl (take_ofW HT_.out HW_.out (by kernel_rfl)) (fun _ _ _ h => h) (Or.inl ⟨by rfl, ?_⟩) hHeld ?_ ?_
              rotate_left
              ·intro w' s0
               go_simp
               with_reducible rfl
              rotate_left
              ·simp only [Act.put, List.setIfInBounds_toArray, List.set_cons_zero, List.set_cons_succ, i64_w, i32_w]
               rfl
              refine one_ (i := 4) (N := some 71) #[true, true, true, true, true, false, false, false, false, false, false, false, false, false, false, false, false, false, false, false, false, false, false, false, false, false, false] rfl rfl (one_of HT_.out (by kernel_rfl)) (by decide) (fun K hK => ?_)
              refine goes_ Try.func12 (by kernel_rfl) rfl #[.string (rdOf ByteArray.empty l0 x64_3)] (by rfl) rfl rfl (by (try simp only [List.map_toArray, List.map_cons, List.map_nil]); first | done | rfl | (simp only [List.length_drop, List.length_take]; rfl)) ?_
              with_reducible refine (laws_adWord.calls k3 (rdOf ByteArray.empty l0 x64_3) false _ A20.out).mono ?_
              rintro e w' ⟨rfl, ⟨nd, rfl⟩⟩
              refine ⟨_, rfl, ?_⟩
              refine hK.out _ _ (((HB.out.cell (World.block_lt_of_cell? w _ hw120_0)).trans hw120_0)) (fun hHeld => ?_)
              clear hK K
              refine norm_ (a' := ?_) ?_ ?_
              rotate_left
              ·show Act.put _ (some 71) _ = _
               simp only [Act.put, List.setIfInBounds_toArray, List.set_cons_zero, List.set_cons_succ, i64_w, i32_w]
               rfl
              refine pure_ (i := 5) (N := some 72) (v := ?_) (a' := ?_) #[true, true, true, true, true, true, false, false, false, false, false, false, false, false, false, false, false, false, false, false, false, false, false, false, false, false, false] rfl rfl (any_of HT_.out (by kernel_rfl)) (fun _ _ _ h => h) (Or.inl ⟨by rfl, ?_⟩) ?_ ?_
              rotate_left
              ·intro w'
               go_simp
               with_reducible rfl
              rotate_left
              ·simp only [Act.put, List.setIfInBounds_toArray, List.set_cons_zero, List.set_cons_succ, i64_w, i32_w]
               rfl
              refine pure_ (i := 6) (N := some 73) (v := ?_) (a' := ?_) #[true, true, true, true, true, true, true, false, false, false, false, false, false, false, false, false, false, false, false, false, false, false, false, false, false, false, false] rfl rfl (any_of HT_.out (by kernel_rfl)) (fun _ _ _ h => h) (Or.inl ⟨by rfl, ?_⟩) ?_ ?_
              rotate_left
              ·intro w'
               go_simp
               with_reducible rfl
              rotate_left
              ·simp only [Act.put, List.setIfInBounds_toArray, List.set_cons_zero, List.set_cons_succ, i64_w, i32_w]
               rfl
              refine pure_ (i := 7) (N := some 74) (v := undef) (a' := ?_) #[true, true, true, true, true, true, true, true, false, false, false, false, false, false, false, false, false, false, false, false, false, false, false, false, false, false, false] rfl rfl (any_of HT_.out (by kernel_rfl)) (fun _ _ _ h => h) (Or.inr ⟨by rfl, rfl⟩) ?_ ?_
              rotate_left
              ·simp only [Act.put, List.setIfInBounds_toArray, List.set_cons_zero, List.set_cons_succ, i64_w, i32_w]
               rfl
              refine pure_ (i := 8) (N := some 75) (v := undef) (a' := ?_) #[true, true, true, true, true, true, true, true, true, false, false, false, false, false, false, false, false, false, false, false, false, false, false, false, false, false, false] rfl rfl (any_of HT_.out (by kernel_rfl)) (fun _ _ _ h => h) (Or.inr ⟨by rfl, rfl⟩) ?_ ?_
              rotate_left
              ·simp only [Act.put, List.setIfInBounds_toArray, List.set_cons_zero, List.set_cons_succ, i64_w, i32_w]
               rfl
              refine pure_ (i := 9) (N := some 76) (v := undef) (a' := ?_) #[true, true, true, true, true, true, true, true, true, true, false, false, false, false, false, false, false, false, false, false, false, false, false, false, false, false, false] rfl rfl (any_of HT_.out (by kernel_rfl)) (fun _ _ _ h => h) (Or.inr ⟨by rfl, rfl⟩) ?_ ?_
              rotate_left
              ·simp only [Act.put, List.setIfInBounds_toArray, List.set_cons_zero, List.set_cons_succ, i64_w, i32_w]
               rfl
              refine pure_ (i := 10) (N := some 77) (v := undef) (a' := ?_) #[true, true, true, true, true, true, true, true, true, true, true, false, false, false, false, false, false, false, false, false, false, false, false, false, false, false, false] rfl rfl (any_of HT_.out (by kernel_rfl)) (fun _ _ _ h => h) (Or.inr ⟨by rfl, rfl⟩) ?_ ?_
              rotate_left
              ·simp only [Act.put, List.setIfInBounds_toArray, List.set_cons_zero, List.set_cons_succ, i64_w, i32_w]
               rfl
              refine pure_ (i := 11) (N := some 78) (v := undef) (a' := ?_) #[true, true, true, true, true, true, true, true, true, true, true, true, false, false, false, false, false, false, false, false, false, false, false, false, false, false, false] rfl rfl (any_of HT_.out (by kernel_rfl)) (fun _ _ _ h => h) (Or.inr ⟨by rfl, rfl⟩) ?_ ?_
              rotate_left
              ·simp only [Act.put, List.setIfInBounds_toArray, List.set_cons_zero, List.set_cons_succ, i64_w, i32_w]
               rfl
              refine pure_ (i := 12) (N := some 79) (v := undef) (a' := ?_) #[true, true, true, true, true, true, true, true, true, true, true, true, true, false, false, false, false, false, false, false, false, false, false, false, false, false, false] rfl rfl (any_of HT_.out (by kernel_rfl)) (fun _ _ _ h => h) (Or.inr ⟨by rfl, rfl⟩) ?_ ?_
              rotate_left
              ·simp only [Act.put, List.setIfInBounds_toArray, List.set_cons_zero, List.set_cons_succ, i64_w, i32_w]
               rfl
              refine pure_ (i := 13) (N := some 80) (v := ?_) (a' := ?_) #[true, true, true, true, true, true, true, true, true, true, true, true, true, true, false, false, false, false, false, false, false, false, false, false, false, false, false] rfl rfl (any_of HT_.out (by kernel_rfl)) (fun _ _ _ h => h) (Or.inl ⟨by rfl, ?_⟩) ?_ ?_
              rotate_left
              ·intro w'
               go_simp
               with_reducible rfl
              rotate_left
              ·simp only [Act.put, List.setIfInBounds_toArray, List.set_cons_zero, List.set_cons_succ, i64_w, i32_w]
               rfl
              refine pure_ (i := 14) (N := some 81) (v := ?_) (a' := ?_) #[true, true, true, true, true, true, true, true, true, true, true, true, true, true, true, false, false, false, false, false, false, false, false, false, false, false, false] rfl rfl (any_of HT_.out (by kernel_rfl)) (fun _ _ _ h => h) (Or.inl ⟨by rfl, ?_⟩) ?_ ?_
              rotate_left
              ·intro w'
               go_simp
               with_reducible rfl
              rotate_left
              ·simp only [Act.put, List.setIfInBounds_toArray, List.set_cons_zero, List.set_cons_succ, i64_w, i32_w]
               rfl
              refine pure_ (i := 15) (N := some 82) (v := undef) (a' := ?_) #[true, true, true, true, true, true, true, true, true, true, true, true, true, true, true, true, false, false, false, false, false, false, false, false, false, false, false] rfl rfl (any_of HT_.out (by kernel_rfl)) (fun _ _ _ h => h) (Or.inr ⟨by rfl, rfl⟩) ?_ ?_
              rotate_left
              ·simp only [Act.put, List.setIfInBounds_toArray, List.set_cons_zero, List.set_cons_succ, i64_w, i32_w]
               rfl
              refine pure_ (i := 16) (N := some 83) (v := undef) (a' := ?_) #[true, true, true, true, true, true, true, true, true, true, true, true, true, true, true, true, true, false, false, false, false, false, false, false, false, false, false] rfl rfl (any_of HT_.out (by kernel_rfl)) (fun _ _ _ h => h) (Or.inr ⟨by rfl, rfl⟩) ?_ ?_
              rotate_left
              ·simp only [Act.put, List.setIfInBounds_toArray, List.set_cons_zero, List.set_cons_succ, i64_w, i32_w]
               rfl
              refine pure_ (i := 17) (N := some 84) (v := undef) (a' := ?_) #[true, true, true, true, true, true, true, true, true, true, true, true, true, true, true, true, true, true, false, false, false, false, false, false, false, false, false] rfl rfl (any_of HT_.out (by kernel_rfl)) (fun _ _ _ h => h) (Or.inr ⟨by rfl, rfl⟩) ?_ ?_
              rotate_left
              ·simp only [Act.put, List.setIfInBounds_toArray, List.set_cons_zero, List.set_cons_succ, i64_w, i32_w]
               rfl
              refine pure_ (i := 18) (N := some 85) (v := undef) (a' := ?_) #[true, true, true, true, true, true, true, true, true, true, true, true, true, true, true, true, true, true, true, false, false, false, false, false, false, false, false] rfl rfl (any_of HT_.out (by kernel_rfl)) (fun _ _ _ h => h) (Or.inr ⟨by rfl, rfl⟩) ?_ ?_
              rotate_left
              ·simp only [Act.put, List.setIfInBounds_toArray, List.set_cons_zero, List.set_cons_succ, i64_w, i32_w]
               rfl
              refine pure_ (i := 19) (N := some 86) (v := undef) (a' := ?_) #[true, true, true, true, true, true, true, true, true, true, true, true, true, true, true, true, true, true, true, true, false, false, false, false, false, false, false] rfl rfl (any_of HT_.out (by kernel_rfl)) (fun _ _ _ h => h) (Or.inr ⟨by rfl, rfl⟩) ?_ ?_
              rotate_left
              ·simp only [Act.put, List.setIfInBounds_toArray, List.set_cons_zero, List.set_cons_succ, i64_w, i32_w]
               rfl
              refine pure_ (i := 20) (N := some 87) (v := undef) (a' := ?_) #[true, true, true, true, true, true, true, true, true, true, true, true, true, true, true, true, true, true, true, true, true, false, false, false, false, false, false] rfl rfl (any_of HT_.out (by kernel_rfl)) (fun _ _ _ h => h) (Or.inr ⟨by rfl, rfl⟩) ?_ ?_
              rotate_left
              ·simp only [Act.put, List.setIfInBounds_toArray, List.set_cons_zero, List.set_cons_succ, i64_w, i32_w]
               rfl
              refine pure_ (i := 21) (N := some 88) (v := undef) (a' := ?_) #[true, true, true, true, true, true, true, true, true, true, true, true, true, true, true, true, true, true, true, true, true, true, false, false, false, false, false] rfl rfl (any_of HT_.out (by kernel_rfl)) (fun _ _ _ h => h) (Or.inr ⟨by rfl, rfl⟩) ?_ ?_
              rotate_left
              ·simp only [Act.put, List.setIfInBounds_toArray, List.set_cons_zero, List.set_cons_succ, i64_w, i32_w]
               rfl
              refine pure_ (i := 22) (N := some 89) (v := undef) (a' := ?_) #[true, true, true, true, true, true, true, true, true, true, true, true, true, true, true, true, true, true, true, true, true, true, true, false, false, false, false] rfl rfl (any_of HT_.out (by kernel_rfl)) (fun _ _ _ h => h) (Or.inr ⟨by rfl, rfl⟩) ?_ ?_
              rotate_left
              ·simp only [Act.put, List.setIfInBounds_toArray, List.set_cons_zero, List.set_cons_succ, i64_w, i32_w]
               rfl
              refine pure_ (i := 23) (N := some 90) (v := undef) (a' := ?_) #[true, true, true, true, true, true, true, true, true, true, true, true, true, true, true, true, true, true, true, true, true, true, true, true, false, false, false] rfl rfl (any_of HT_.out (by kernel_rfl)) (fun _ _ _ h => h) (Or.inr ⟨by rfl, rfl⟩) ?_ ?_
              rotate_left
              ·simp only [Act.put, List.setIfInBounds_toArray, List.set_cons_zero, List.set_cons_succ, i64_w, i32_w]
               rfl
              refine pure_ (i := 24) (N := some 91) (v := undef) (a' := ?_) #[true, true, true, true, true, true, true, true, true, true, true, true, true, true, true, true, true, true, true, true, true, true, true, true, true, false, false] rfl rfl (any_of HT_.out (by kernel_rfl)) (fun _ _ _ h => h) (Or.inr ⟨by rfl, rfl⟩) ?_ ?_
              rotate_left
              ·simp only [Act.put, List.setIfInBounds_toArray, List.set_cons_zero, List.set_cons_succ, i64_w, i32_w]
               rfl
              refine pure_ (i := 25) (N := some 92) (v := undef) (a' := ?_) #[true, true, true, true, true, true, true, true, true, true, true, true, true, true, true, true, true, true, true, true, true, true, true, true, true, true, false] rfl rfl (any_of HT_.out (by kernel_rfl)) (fun _ _ _ h => h) (Or.inr ⟨by rfl, rfl⟩) ?_ ?_
              rotate_left
              ·simp only [Act.put, List.setIfInBounds_toArray, List.set_cons_zero, List.set_cons_succ, i64_w, i32_w]
               rfl
              refine pure_ (i := 26) (N := some 93) (v := ?_) (a' := ?_) #[true, true, true, true, true, true, true, true, true, true, true, true, true, true, true, true, true, true, true, true, true, true, true, true, true, true, true] rfl rfl (any_of HT_.out (by kernel_rfl)) (fun _ _ _ h => h) (Or.inl ⟨by rfl, ?_⟩) ?_ ?_
              rotate_left
              ·intro w'
               go_simp
               with_reducible rfl
              rotate_left
              ·simp only [Act.put, List.setIfInBounds_toArray, List.set_cons_zero, List.set_cons_succ, i64_w, i32_w]
               rfl
              refine done_ (done_of HT_.out (by kernel_rfl)) ?_
              try go_wp2
              go_meet
              case rel => exact ⟨_, (true), (by first | rfl | (simp; done) | (simp [*]; done)), H', ⟨by have := HJ3.out; have := HJ10.out; have := HK3.out; first | omega | exact Nat.le_refl _⟩, ⟨by repeat (first | (with_reducible first | exact HB.out | apply below_alloc | apply pw_below_drewN | apply below_drew1) | exact HB.out)⟩⟩
            ·rw [if_neg c19] at H
             exact absurd H (by simp)
           ·rw [if_neg c18] at H
            exact absurd H (by simp)
          case rest => as_aux_lemma =>
           clear HC17
           try clear c1
           try clear p1
           try clear q1
           try clear hx1
           try clear c2
           try clear p2
           try clear c12
           try clear p12
           try clear q12
           try clear hx12
           try clear c18
           try clear c19
           try clear c21
           try clear c22
           try clear c23
           try clear c23b0
           try clear c23b1
           try clear c25
           try clear c25b0
           try clear hx120_0
           try clear hx122_0
           try clear hx123_0
           try clear hx124_0
           try clear p120
           try clear p122
           try clear p123
           try clear p124
           try clear q120
           try clear q122
           try clear q123
           try clear q124
           obtain ⟨kq, x93_16, rfl, HA, HJ16, HB⟩ := hcut
           cases kq with
           | zero => exact absurd HA.out (by simp [laws_FnAdAddress.j3])
           | succ kj16 =>
            have H := HA.out
            clear HA
            simp only [laws_FnAdAddress.j3] at H
            by_cases c28 : x93_16 = true
            ·subst c28
             have H1 : (some true) = some r := by rw [if_pos rfl] at H; exact H
             clear H
             have H := H1
             clear H1
             obtain rfl := Option.some.inj H
             go_wp2
             go_ret
             exact ⟨by first | rfl | (simp [errW_none, errW_some] <;> rfl) | (simp [*, errW_none, errW_some] <;> rfl) | (simp (disch := omega) only [wrap64_id] <;> rfl), by repeat (first | (with_reducible first | exact HB.out | apply below_alloc | apply pw_below_drewN | apply below_drew1) | exact HB.out)⟩
            ·replace c28 := Bool.eq_false_iff.mpr c28
             subst c28
             have H1 : (if 0 ≤ x64_3 then (if x64_3 < (l1.length : Int) then (laws_FnAdAddress.l1 kj16 l0 l1 l2 x64_3 (l0.length : Int) x64_3 ((rd_L1 l1 x64_3).length : Int) 0) else (none)) else (none)) = some r := by rw [if_neg (show ¬ (false = true) by decide)] at H; exact H
             clear H
             have H := H1
             clear H1
             by_cases c29 : 0 ≤ x64_3
             ·rw [if_pos c29] at H
              have c29b0 : decide (0 ≤ x64_3) = true := decide_eq_true c29
              clear c29
              by_cases c30 : x64_3 < (l1.length : Int)
              ·rw [if_pos c30] at H
               have c30b0 : decide (x64_3 < (l1.length : Int)) = true := decide_eq_true c30
               clear c30
               have H' := Aside0.mk H
               clear H
               have p125 : 0 ≤ (x64_3 : Int) := of_decide_eq_true (by first | (with_reducible assumption) | assumption)
               have q125 : x64_3 < (l1.length : Int) := of_decide_eq_true (by first | (with_reducible assumption) | assumption)
               obtain ⟨ad125, A125_0, c125_0, e125, hx125_0, hl125_0, hi125_0⟩ := at_L1 HR1.out x64_3 p125 q125
               cases e125
               replace hx125_0 := (HB.out.cell (World.block_lt_of_cell? w _ hx125_0)).trans hx125_0
               have HR125_0 := Aside0.mk hi125_0
               have HC125_0 := Aside0.mk hl125_0
               clear hi125_0 hl125_0
               replace p125 := eq_true p125
               replace q125 := eq_true q125
               go_wp2
               go_loopg [99] kj16 (fun kq v99 w' => ∃ (x99_5 : Int), v99 = .int .i64 x99_5 ∧ Aside0 (laws_FnAdAddress.l1 kq l0 l1 l2 x64_3 (l0.length : Int) x64_3 ((rd_L1 l1 x64_3).length : Int) x99_5 = some r) ∧ Aside0 (kq ≤ kj16) ∧ Aside0 (Below w.heap.size w w'))
               case atStart => exact ⟨(0), (by first | rfl | (simp; done) | (simp [*]; done)), H', ⟨Nat.le_refl _⟩, ⟨by repeat (first | (with_reducible first | exact HB.out | apply below_alloc | apply pw_below_drewN | apply below_drew1) | exact HB.out)⟩⟩
               case round => as_aux_lemma =>
                clear H'
                try clear c1
                try clear p1
                try clear q1
                try clear hx1
                try clear c2
                try clear p2
                try clear c3
                try clear p6
                try clear c12
                try clear p12
                try clear q12
                try clear hx12
                try clear c18
                try clear c19
                try clear c21
                try clear c22
                try clear c23
                try clear c23b0
                try clear c23b1
                try clear c25
                try clear c25b0
                try clear c28
                try clear c29
                try clear c29b0
                try clear c30
                try clear c30b0
                try clear hx120_0
                try clear hx122_0
                try clear hx123_0
                try clear hx124_0
                try clear hx125_0
                try clear p1
                try clear p12
                try clear p120
                try clear p122
                try clear p123
                try clear p124
                try clear p125
                try clear p2
                try clear q1
                try clear q12
                try clear q120
                try clear q122
                try clear q123
                try clear q124
                try clear q125
                obtain ⟨x99_5, rfl, HA, HK5, HB⟩ := hrel
                cases gk with
                | zero => exact absurd HA.out (by simp [laws_FnAdAddress.l1])
                | succ k5 =>
                 have H := HA.out
                 clear HA
                 simp only [laws_FnAdAddress.l1] at H
                 by_cases c31 : x99_5 < ((rd_L1 l1 x64_3).length : Int)
                 ·rw [if_pos c31] at H
                  have c31b0 : decide (x99_5 < ((rd_L1 l1 x64_3).length : Int)) = true := decide_eq_true c31
                  clear c31
                  by_cases c32 : 0 ≤ x64_3
                  ·rw [if_pos c32] at H
                   have c32b0 : decide (0 ≤ x64_3) = true := decide_eq_true c32
                   clear c32
                   by_cases c33 : x64_3 < (l1.length : Int)
                   ·rw [if_pos c33] at H
                    have c33b0 : decide (x64_3 < (l1.length : Int)) = true := decide_eq_true c33
                    clear c33
                    by_cases c34 : 0 ≤ x99_5
                    ·rw [if_pos c34] at H
                     have c34b0 : decide (0 ≤ x99_5) = true := decide_eq_true c34
                     clear c34
                     by_cases c35 : x99_5 < ((rd_L1 l1 x64_3).length : Int)
                     ·rw [if_pos c35] at H
                      have c35b0 : decide (x99_5 < ((rd_L1 l1 x64_3).length : Int)) = true := decide_eq_true c35
                      clear c35
                      replace H := Option.bind_eq_some_iff.mp H
                      obtain ⟨t128, A360, H⟩ := H
                      replace H : (if t128 = true then (if x64_3 < (l2.length : Int) then (if x99_5 < ((rd_L1 l2 x64_3).length : Int) then (if ((rdOf ByteArray.empty (rd_L1 l2 x64_3) x99_5).size : Int) > 300 then (some true) else (laws_FnAdAddress.l1 k5 l0 l1 l2 x64_3 (l0.length : Int) x64_3 ((rd_L1 l1 x64_3).length : Int) (wrap64 (x99_5 + 1)))) else (none)) else (none)) else (some true)) = some r := H
                      have A36 := Aside0.mk A360
                      clear A360
                      by_cases c37 : t128 = true
                      ·subst c37
                       have H1 : (if x64_3 < (l2.length : Int) then (if x99_5 < ((rd_L1 l2 x64_3).length : Int) then (if ((rdOf ByteArray.empty (rd_L1 l2 x64_3) x99_5).size : Int) > 300 then (some true) else (laws_FnAdAddress.l1 k5 l0 l1 l2 x64_3 (l0.length : Int) x64_3 ((rd_L1 l1 x64_3).length : Int) (wrap64 (x99_5 + 1)))) else (none)) else (none)) = some r := by rw [if_pos rfl] at H; exact H
                       clear H
                       have H := H1
                       clear H1
                       by_cases c38 : x64_3 < (l2.length : Int)
                       ·rw [if_pos c38] at H
                        have c38b0 : decide (x64_3 < (l2.length : Int)) = true := decide_eq_true c38
                        clear c38
                        by_cases c39 : x99_5 < ((rd_L1 l2 x64_3).length : Int)
                        ·rw [if_pos c39] at H
                         have c39b0 : decide (x99_5 < ((rd_L1 l2 x64_3).length : Int)) = true := decide_eq_true c39
                         clear c39
                         by_cases c40 : ((rdOf ByteArray.empty (rd_L1 l2 x64_3) x99_5).size : Int) > 300
                         ·rw [if_pos c40] at H
                          have c40b0 : decide (300 < ((rdOf ByteArray.empty (rd_L1 l2 x64_3) x99_5).size : Int)) = true := decide_eq_true c40
                          have c40b1 : decide (300 < (rdOf ByteArray.empty (rd_L1 l2 x64_3) x99_5).size) = true := decide_eq_true (by omega)
                          clear c40
                          obtain rfl := Option.some.inj H
                          have p126 : 0 ≤ (x64_3 : Int) := of_decide_eq_true (by first | (with_reducible assumption) | assumption)
                          have q126 : x64_3 < (l1.length : Int) := of_decide_eq_true (by first | (with_reducible assumption) | assumption)
                          obtain ⟨ad126, A126_0, c126_0, e126, hx126_0, hl126_0, hi126_0⟩ := at_L1 HR1.out x64_3 p126 q126
                          obtain rfl : ad125 = ad126 := (by injection e126)
                          replace hx126_0 := (HB.out.cell (World.block_lt_of_cell? w _ hx126_0)).trans hx126_0
                          have HR126_0 := Aside0.mk hi126_0
                          have HC126_0 := Aside0.mk hl126_0
                          clear hi126_0 hl126_0
                          replace p126 := eq_true p126
                          replace q126 := eq_true q126
                          have p127 : 0 ≤ (x99_5 : Int) := of_decide_eq_true (by first | (with_reducible assumption) | assumption)
                          have q127 : x99_5 < ((rd_L1 l1 x64_3).length : Int) := of_decide_eq_true (by first | (with_reducible assumption) | assumption)
                          obtain ⟨ad127, e127, hx127_0⟩ := Kd.at_string HR126_0.out x99_5 p127 q127
                          cases e127
                          replace hx127_0 := (HB.out.cell (World.block_lt_of_cell? w _ hx127_0)).trans hx127_0
                          replace p127 := eq_true p127
                          replace q127 := eq_true q127
                          go_wp2_with (first | ((with_reducible refine gate_callee (f := 12) rfl ?_); refine goesL_ (some 109) rfl rfl Try.func12 (by kernel_rfl) rfl #[.string (rdOf ByteArray.empty (rd_L1 l1 x64_3) x99_5)] rfl (by (try simp only [List.map_toArray, List.map_cons, List.map_nil]); first | done | rfl | (simp only [List.length_drop, List.length_take]; rfl)) ?_; (with_reducible refine (laws_adWord.calls k5 (rdOf ByteArray.empty (rd_L1 l1 x64_3) x99_5) true _ A36.out).mono ?_); rintro e w' ⟨rfl, ⟨nd, rfl⟩⟩; refine ⟨_, rfl, ?_⟩; have p129 : 0 ≤ (x64_3 : Int) := of_decide_eq_true (by first | (with_reducible assumption) | assumption); have q129 : x64_3 < (l2.length : Int) := of_decide_eq_true (by first | (with_reducible assumption) | assumption); obtain ⟨ad129, A129_0, c129_0, e129, hx129_0, hl129_0, hi129_0⟩ := at_L1 HR2.out x64_3 p129 q129; cases e129; replace hx129_0 := (HB.out.cell (World.block_lt_of_cell? w _ hx129_0)).trans hx129_0; have HR129_0 := Aside0.mk hi129_0; have HC129_0 := Aside0.mk hl129_0; clear hi129_0 hl129_0; replace p129 := eq_true p129; replace q129 := eq_true q129; have p130 : 0 ≤ (x99_5 : Int) := of_decide_eq_true (by first | (with_reducible assumption) | assumption); have q130 : x99_5 < ((rd_L1 l2 x64_3).length : Int) := of_decide_eq_true (by first | (with_reducible assumption) | assumption); obtain ⟨ad130, e130, hx130_0⟩ := Kd.at_string HR129_0.out x99_5 p130 q130; cases e130; replace hx130_0 := (HB.out.cell (World.block_lt_of_cell? w _ hx130_0)).trans hx130_0; replace p130 := eq_true p130; replace q130 := eq_true q130))
                          go_ret
                          exact ⟨by first | rfl | (simp [errW_none, errW_some] <;> rfl) | (simp [*, errW_none, errW_some] <;> rfl) | (simp (disch := omega) only [wrap64_id] <;> rfl), by repeat (first | (with_reducible first | exact HB.out | apply below_alloc | apply pw_below_drewN | apply below_drew1) | exact HB.out)⟩
                         ·rw [if_neg c40] at H
                          have c40b0 : decide (300 < ((rdOf ByteArray.empty (rd_L1 l2 x64_3) x99_5).size : Int)) = false := decide_eq_false c40
                          have c40b1 : decide (300 < (rdOf ByteArray.empty (rd_L1 l2 x64_3) x99_5).size) = false := decide_eq_false (by omega)
                          clear c40
                          have H' := Aside0.mk H
                          clear H
                          have p126 : 0 ≤ (x64_3 : Int) := of_decide_eq_true (by first | (with_reducible assumption) | assumption)
                          have q126 : x64_3 < (l1.length : Int) := of_decide_eq_true (by first | (with_reducible assumption) | assumption)
                          obtain ⟨ad126, A126_0, c126_0, e126, hx126_0, hl126_0, hi126_0⟩ := at_L1 HR1.out x64_3 p126 q126
                          obtain rfl : ad125 = ad126 := (by injection e126)
                          replace hx126_0 := (HB.out.cell (World.block_lt_of_cell? w _ hx126_0)).trans hx126_0
                          have HR126_0 := Aside0.mk hi126_0
                          have HC126_0 := Aside0.mk hl126_0
                          clear hi126_0 hl126_0
                          replace p126 := eq_true p126
                          replace q126 := eq_true q126
                          have p127 : 0 ≤ (x99_5 : Int) := of_decide_eq_true (by first | (with_reducible assumption) | assumption)
                          have q127 : x99_5 < ((rd_L1 l1 x64_3).length : Int) := of_decide_eq_true (by first | (with_reducible assumption) | assumption)
                          obtain ⟨ad127, e127, hx127_0⟩ := Kd.at_string HR126_0.out x99_5 p127 q127
                          cases e127
                          replace hx127_0 := (HB.out.cell (World.block_lt_of_cell? w _ hx127_0)).trans hx127_0
                          replace p127 := eq_true p127
                          replace q127 := eq_true q127
                          go_wp2_with (first | ((with_reducible refine gate_callee (f := 12) rfl ?_); refine goesL_ (some 109) rfl rfl Try.func12 (by kernel_rfl) rfl #[.string (rdOf ByteArray.empty (rd_L1 l1 x64_3) x99_5)] rfl (by (try simp only [List.map_toArray, List.map_cons, List.map_nil]); first | done | rfl | (simp only [List.length_drop, List.length_take]; rfl)) ?_; (with_reducible refine (laws_adWord.calls k5 (rdOf ByteArray.empty (rd_L1 l1 x64_3) x99_5) true _ A36.out).mono ?_); rintro e w' ⟨rfl, ⟨nd, rfl⟩⟩; refine ⟨_, rfl, ?_⟩; have p129 : 0 ≤ (x64_3 : Int) := of_decide_eq_true (by first | (with_reducible assumption) | assumption); have q129 : x64_3 < (l2.length : Int) := of_decide_eq_true (by first | (with_reducible assumption) | assumption); obtain ⟨ad129, A129_0, c129_0, e129, hx129_0, hl129_0, hi129_0⟩ := at_L1 HR2.out x64_3 p129 q129; cases e129; replace hx129_0 := (HB.out.cell (World.block_lt_of_cell? w _ hx129_0)).trans hx129_0; have HR129_0 := Aside0.mk hi129_0; have HC129_0 := Aside0.mk hl129_0; clear hi129_0 hl129_0; replace p129 := eq_true p129; replace q129 := eq_true q129; have p130 : 0 ≤ (x99_5 : Int) := of_decide_eq_true (by first | (with_reducible assumption) | assumption); have q130 : x99_5 < ((rd_L1 l2 x64_3).length : Int) := of_decide_eq_true (by first | (with_reducible assumption) | assumption); obtain ⟨ad130, e130, hx130_0⟩ := Kd.at_string HR129_0.out x99_5 p130 q130; cases e130; replace hx130_0 := (HB.out.cell (World.block_lt_of_cell? w _ hx130_0)).trans hx130_0; replace p130 := eq_true p130; replace q130 := eq_true q130))
                          go_roundg k5
                          case measure => have := HJ3.out; have := HJ10.out; have := HK3.out; have := HJ16.out; have := HK5.out; omega
                          case rel => exact ⟨(wrap64 (x99_5 + 1)), (by first | rfl | (simp; done) | (simp [*]; done)), H', ⟨by have := HJ3.out; have := HJ10.out; have := HK3.out; have := HJ16.out; have := HK5.out; omega⟩, ⟨by repeat (first | (with_reducible first | exact HB.out | apply below_alloc | apply pw_below_drewN | apply below_drew1) | exact HB.out)⟩⟩
                        ·rw [if_neg c39] at H
                         exact absurd H (by simp)
                       ·rw [if_neg c38] at H
                        exact absurd H (by simp)
                      ·replace c37 := Bool.eq_false_iff.mpr c37
                       subst c37
                       have H1 : (some true) = some r := by rw [if_neg (show ¬ (false = true) by decide)] at H; exact H
                       clear H
                       have H := H1
                       clear H1
                       obtain rfl := Option.some.inj H
                       have p126 : 0 ≤ (x64_3 : Int) := of_decide_eq_true (by first | (with_reducible assumption) | assumption)
                       have q126 : x64_3 < (l1.length : Int) := of_decide_eq_true (by first | (with_reducible assumption) | assumption)
                       obtain ⟨ad126, A126_0, c126_0, e126, hx126_0, hl126_0, hi126_0⟩ := at_L1 HR1.out x64_3 p126 q126
                       obtain rfl : ad125 = ad126 := (by injection e126)
                       replace hx126_0 := (HB.out.cell (World.block_lt_of_cell? w _ hx126_0)).trans hx126_0
                       have HR126_0 := Aside0.mk hi126_0
                       have HC126_0 := Aside0.mk hl126_0
                       clear hi126_0 hl126_0
                       replace p126 := eq_true p126
                       replace q126 := eq_true q126
                       have p127 : 0 ≤ (x99_5 : Int) := of_decide_eq_true (by first | (with_reducible assumption) | assumption)
                       have q127 : x99_5 < ((rd_L1 l1 x64_3).length : Int) := of_decide_eq_true (by first | (with_reducible assumption) | assumption)
                       obtain ⟨ad127, e127, hx127_0⟩ := Kd.at_string HR126_0.out x99_5 p127 q127
                       cases e127
                       replace hx127_0 := (HB.out.cell (World.block_lt_of_cell? w _ hx127_0)).trans hx127_0
                       replace p127 := eq_true p127
                       replace q127 := eq_true q127
                       go_wp2_with (first | ((with_reducible refine gate_callee (f := 12) rfl ?_); refine goesL_ (some 109) rfl rfl Try.func12 (by kernel_rfl) rfl #[.string (rdOf ByteArray.empty (rd_L1 l1 x64_3) x99_5)] rfl (by (try simp only [List.map_toArray, List.map_cons, List.map_nil]); first | done | rfl | (simp only [List.length_drop, List.length_take]; rfl)) ?_; (with_reducible refine (laws_adWord.calls k5 (rdOf ByteArray.empty (rd_L1 l1 x64_3) x99_5) false _ A36.out).mono ?_); rintro e w' ⟨rfl, ⟨nd, rfl⟩⟩; refine ⟨_, rfl, ?_⟩))
                       go_ret
                       exact ⟨by first | rfl | (simp [errW_none, errW_some] <;> rfl) | (simp [*, errW_none, errW_some] <;> rfl) | (simp (disch := omega) only [wrap64_id] <;> rfl), by repeat (first | (with_reducible first | exact HB.out | apply below_alloc | apply pw_below_drewN | apply below_drew1) | exact HB.out)⟩
                     ·rw [if_neg c35] at H
                      exact absurd H (by simp)
                    ·rw [if_neg c34] at H
                     exact absurd H (by simp)
                   ·rw [if_neg c33] at H
                    exact absurd H (by simp)
                  ·rw [if_neg c32] at H
                   exact absurd H (by simp)
                 ·rw [if_neg c31] at H
                  have c31b0 : decide (x99_5 < ((rd_L1 l1 x64_3).length : Int)) = false := decide_eq_false c31
                  clear c31
                  have H' := Aside0.mk H
                  clear H
                  go_wp2
                  go_roundg k5
                  case measure => have := HJ3.out; have := HJ10.out; have := HK3.out; have := HJ16.out; have := HK5.out; omega
                  case rel => exact ⟨(wrap64 (x64_3 + 1)), (by first | rfl | (simp; done) | (simp [*]; done)), H', ⟨by have := HJ3.out; have := HJ10.out; have := HK3.out; have := HJ16.out; have := HK5.out; omega⟩, ⟨by repeat (first | (with_reducible first | exact HB.out | apply below_alloc | apply pw_below_drewN | apply below_drew1) | exact HB.out)⟩⟩
              ·rw [if_neg c30] at H
               exact absurd H (by simp)
             ·rw [if_neg c29] at H
              exact absurd H (by simp)
         ·rw [if_neg c16] at H
          have c16b0 : decide (x64_3 < (l0.length : Int)) = false := decide_eq_false c16
          clear c16
          have H' := Aside0.mk H
          clear H
          go_wp2
          go_loopg [9, 126] k3 (fun kq v9 v126 w' => ∃ (x9_4 : List ByteArray) (x126_4 : Int), v126 = .int .i64 x126_4 ∧ Aside0 (laws_FnAdAddress.l2 kq l0 l1 l2 x9_4 (l0.length : Int) x126_4 = some r) ∧ Aside0 (kq ≤ k3) ∧ Aside0 (Kd.R Kd.string 9 w' w.heap.size (fun _ => True) v9 x9_4) ∧ Aside0 (Below w.heap.size w w'))
          case atStart => exact ⟨(([] : List ByteArray)), (0), (by first | rfl | (simp; done) | (simp [*]; done)), H', ⟨Nat.le_refl _⟩, ⟨by first | exact Kd.R_nil _ _ _ _ _ | exact Kd.N_nil _ _ _ _ _ | exact Kd.V_nil _ _ _ _ _ | exact Kd.Q_nil _ _ _ _ _ | exact Kd.S_nil _ _ _ _ _⟩, ⟨by repeat (first | (with_reducible first | exact HB.out | apply below_alloc | apply pw_below_drewN | apply below_drew1) | exact HB.out)⟩⟩
          case round => as_aux_lemma =>
           clear H'
           try clear c1
           try clear p1
           try clear q1
           try clear hx1
           try clear c2
           try clear p2
           try clear c3
           try clear c4
           try clear p6
           try clear c12
           try clear p12
           try clear q12
           try clear hx12
           try clear p13
           try clear q13
           try clear hx13
           try clear c16
           try clear c16b0
           try clear c18
           try clear c19
           try clear c21
           try clear c22
           try clear c23
           try clear c23b0
           try clear c23b1
           try clear c25
           try clear c25b0
           try clear c28
           try clear c29
           try clear c29b0
           try clear c30
           try clear c30b0
           try clear c31
           try clear c31b0
           try clear c32
           try clear c32b0
           try clear c33
           try clear c33b0
           try clear c34
           try clear c34b0
           try clear c35
           try clear c35b0
           try clear c37
           try clear c38
           try clear c38b0
           try clear c39
           try clear c39b0
           try clear c40
           try clear c40b0
           try clear c40b1
           try clear hx120_0
           try clear hx122_0
           try clear hx123_0
           try clear hx124_0
           try clear hx125_0
           try clear hx126_0
           try clear hx127_0
           try clear hx129_0
           try clear hx130_0
           try clear p1
           try clear p12
           try clear p120
           try clear p122
           try clear p123
           try clear p124
           try clear p125
           try clear p126
           try clear p127
           try clear p129
           try clear p130
           try clear p2
           try clear p6
           try clear q1
           try clear q12
           try clear q120
           try clear q122
           try clear q123
           try clear q124
           try clear q125
           try clear q126
           try clear q127
           try clear q129
           try clear q130
           obtain ⟨x9_4, x126_4, rfl, HA, HK4, HO_9, HB⟩ := hrel
           cases gk with
           | zero => exact absurd HA.out (by simp [laws_FnAdAddress.l2])
           | succ k4 =>
            have H := HA.out
            clear HA
            simp only [laws_FnAdAddress.l2] at H
            by_cases c41 : x126_4 < (l0.length : Int)
            ·rw [if_pos c41] at H
             have c41b0 : decide (x126_4 < (l0.length : Int)) = true := decide_eq_true c41
             clear c41
             by_cases c42 : 0 ≤ x126_4
             ·rw [if_pos c42] at H
              have c42b0 : decide (0 ≤ x126_4) = true := decide_eq_true c42
              clear c42
              by_cases c43 : x126_4 < (l1.length : Int)
              ·rw [if_pos c43] at H
               have c43b0 : decide (x126_4 < (l1.length : Int)) = true := decide_eq_true c43
               clear c43
               have H' := Aside0.mk H
               clear H
               have p131 : 0 ≤ (x126_4 : Int) := of_decide_eq_true (by first | (with_reducible assumption) | assumption)
               have q131 : x126_4 < (l1.length : Int) := of_decide_eq_true (by first | (with_reducible assumption) | assumption)
               obtain ⟨ad131, A131_0, c131_0, e131, hx131_0, hl131_0, hi131_0⟩ := at_L1 HR1.out x126_4 p131 q131
               cases e131
               replace hx131_0 := (HB.out.cell (World.block_lt_of_cell? w _ hx131_0)).trans hx131_0
               have HR131_0 := Aside0.mk hi131_0
               have HC131_0 := Aside0.mk hl131_0
               clear hi131_0 hl131_0
               replace p131 := eq_true p131
               replace q131 := eq_true q131
               go_wp2
               go_loopg [11, 134] k4 (fun kq v11 v134 w' => ∃ (x11_5 : List ByteArray) (x134_5 : Int), v134 = .int .i64 x134_5 ∧ Aside0 (laws_FnAdAddress.l3 kq l0 l1 l2 x9_4 x126_4 x11_5 (l0.length : Int) x126_4 ((rd_L1 l1 x126_4).length : Int) x134_5 = some r) ∧ Aside0 (kq ≤ k4) ∧ Aside0 (Kd.R Kd.string 9 w' w.heap.size (fun k_ => some k_ ≠ (v11 : Value).ownBlock) u9 x9_4) ∧ Aside0 (Kd.R Kd.string 9 w' w.heap.size (fun k_ => some k_ ≠ (u9 : Value).ownBlock) v11 x11_5) ∧ Aside0 (Below w.heap.size w w'))
               case atStart => exact ⟨(([] : List ByteArray)), (0), (by first | rfl | (simp; done) | (simp [*]; done)), H', ⟨Nat.le_refl _⟩, ⟨by (with_reducible repeat (first | apply Kd.R_alloc | apply Kd.R_drewN | apply Kd.R_drew)); exact Kd.R_mono HO_9.out (fun _ hk => (by simp [Value.ownBlock]))⟩, ⟨by first | exact Kd.R_nil _ _ _ _ _ | exact Kd.N_nil _ _ _ _ _ | exact Kd.V_nil _ _ _ _ _ | exact Kd.Q_nil _ _ _ _ _ | exact Kd.S_nil _ _ _ _ _⟩, ⟨by repeat (first | (with_reducible first | exact HB.out | apply below_alloc | apply pw_below_drewN | apply below_drew1) | exact HB.out)⟩⟩
               case round => as_aux_lemma =>
                clear H'
                try clear c1
                try clear p1
                try clear q1
                try clear hx1
                try clear c2
                try clear p2
                try clear c3
                try clear c4
                try clear p6
                try clear c12
                try clear p12
                try clear q12
                try clear hx12
                try clear c13
                try clear p13
                try clear q13
                try clear hx13
                try clear c16
                try clear c16b0
                try clear c18
                try clear c19
                try clear c21
                try clear c22
                try clear c23
                try clear c23b0
                try clear c23b1
                try clear c25
                try clear c25b0
                try clear c28
                try clear c29
                try clear c29b0
                try clear c30
                try clear c30b0
                try clear c31
                try clear c31b0
                try clear c32
                try clear c32b0
                try clear c33
                try clear c33b0
                try clear c34
                try clear c34b0
                try clear c35
                try clear c35b0
                try clear c37
                try clear c38
                try clear c38b0
                try clear c39
                try clear c39b0
                try clear c40
                try clear c40b0
                try clear c40b1
                try clear c41
                try clear c41b0
                try clear c42
                try clear c42b0
                try clear c43
                try clear c43b0
                try clear hx120_0
                try clear hx122_0
                try clear hx123_0
                try clear hx124_0
                try clear hx125_0
                try clear hx126_0
                try clear hx127_0
                try clear hx129_0
                try clear hx130_0
                try clear hx131_0
                try clear p1
                try clear p12
                try clear p120
                try clear p122
                try clear p123
                try clear p124
                try clear p125
                try clear p126
                try clear p127
                try clear p129
                try clear p13
                try clear p130
                try clear p131
                try clear p2
                try clear p6
                try clear q1
                try clear q12
                try clear q120
                try clear q122
                try clear q123
                try clear q124
                try clear q125
                try clear q126
                try clear q127
                try clear q129
                try clear q13
                try clear q130
                try clear q131
                obtain ⟨x11_5, x134_5, rfl, HA, HK5, HO_9, HO_11, HB⟩ := hrel
                cases gk with
                | zero => exact absurd HA.out (by simp [laws_FnAdAddress.l3])
                | succ k5 =>
                 have H := HA.out
                 clear HA
                 simp only [laws_FnAdAddress.l3] at H
                 by_cases c44 : x134_5 < ((rd_L1 l1 x126_4).length : Int)
                 ·rw [if_pos c44] at H
                  have c44b0 : decide (x134_5 < ((rd_L1 l1 x126_4).length : Int)) = true := decide_eq_true c44
                  clear c44
                  by_cases c45 : 0 ≤ x126_4
                  ·rw [if_pos c45] at H
                   have c45b0 : decide (0 ≤ x126_4) = true := decide_eq_true c45
                   clear c45
                   by_cases c46 : x126_4 < (l1.length : Int)
                   ·rw [if_pos c46] at H
                    have c46b0 : decide (x126_4 < (l1.length : Int)) = true := decide_eq_true c46
                    clear c46
                    by_cases c47 : 0 ≤ x134_5
                    ·rw [if_pos c47] at H
                     have c47b0 : decide (0 ≤ x134_5) = true := decide_eq_true c47
                     clear c47
                     by_cases c48 : x134_5 < ((rd_L1 l1 x126_4).length : Int)
                     ·rw [if_pos c48] at H
                      have c48b0 : decide (x134_5 < ((rd_L1 l1 x126_4).length : Int)) = true := decide_eq_true c48
                      clear c48
                      by_cases c49 : (rdOf ByteArray.empty (rd_L1 l1 x126_4) x134_5).size + 1 ≤ 9223372036854775807
                      ·rw [if_pos c49] at H
                       have c49b0 := eq_true c49
                       have c49b1 : decide ((rdOf ByteArray.empty (rd_L1 l1 x126_4) x134_5).size + 1 ≤ 9223372036854775807) = true := decide_eq_true c49
                       try have c49b2 : (9223372036854775807 < (rdOf ByteArray.empty (rd_L1 l1 x126_4) x134_5).size + 1) = False := eq_false (Nat.not_lt.2 c49)
                       by_cases c50 : x126_4 < (l2.length : Int)
                       ·rw [if_pos c50] at H
                        have c50b0 : decide (x126_4 < (l2.length : Int)) = true := decide_eq_true c50
                        clear c50
                        by_cases c51 : x134_5 < ((rd_L1 l2 x126_4).length : Int)
                        ·rw [if_pos c51] at H
                         have c51b0 : decide (x134_5 < ((rd_L1 l2 x126_4).length : Int)) = true := decide_eq_true c51
                         clear c51
                         replace H := Option.bind_eq_some_iff.mp H
                         obtain ⟨t136, A520, H⟩ := H
                         replace H : (if ((rdOf ByteArray.empty (rd_L1 l1 x126_4) x134_5) ++ (⟨#[61]⟩ : ByteArray)).size + t136.size ≤ 9223372036854775807 then (if x11_5.length < 8796093022208 then (laws_FnAdAddress.l3 k5 l0 l1 l2 x9_4 x126_4 (x11_5 ++ [((rdOf ByteArray.empty (rd_L1 l1 x126_4) x134_5) ++ (⟨#[61]⟩ : ByteArray)) ++ t136]) (l0.length : Int) x126_4 ((rd_L1 l1 x126_4).length : Int) (wrap64 (x134_5 + 1))) else (none)) else (none)) = some r := H
                         have A52 := Aside0.mk A520
                         clear A520
                         by_cases c53 : ((rdOf ByteArray.empty (rd_L1 l1 x126_4) x134_5) ++ (⟨#[61]⟩ : ByteArray)).size + t136.size ≤ 9223372036854775807
                         ·rw [if_pos c53] at H
                          have c53b0 := eq_true c53
                          have c53b1 : decide (((rdOf ByteArray.empty (rd_L1 l1 x126_4) x134_5) ++ (⟨#[61]⟩ : ByteArray)).size + t136.size ≤ 9223372036854775807) = true := decide_eq_true c53
                          try have c53b2 : (9223372036854775807 < ((rdOf ByteArray.empty (rd_L1 l1 x126_4) x134_5) ++ (⟨#[61]⟩ : ByteArray)).size + t136.size) = False := eq_false (Nat.not_lt.2 c53)
                          (try have c53e : (rdOf ByteArray.empty (rd_L1 l1 x126_4) x134_5).size + 1 + t136.size ≤ 9223372036854775807 := by (have h_ := c53; simp only [ByteArray.size_append] at h_; exact h_))
                          (try have c53e0 := eq_true c53e)
                          (try have c53e1 : decide ((rdOf ByteArray.empty (rd_L1 l1 x126_4) x134_5).size + 1 + t136.size ≤ 9223372036854775807) = true := decide_eq_true c53e)
                          (try have c53e2 : (9223372036854775807 < (rdOf ByteArray.empty (rd_L1 l1 x126_4) x134_5).size + 1 + t136.size) = False := eq_false (Nat.not_lt.2 c53e))
                          by_cases c54 : x11_5.length < 8796093022208
                          ·rw [if_pos c54] at H
                           have LMc54 := Aside0.mk c54
                           clear c54
                           obtain ⟨y137, hy137⟩ : ∃ y_ : List ByteArray, y_ = (x11_5 ++ [((rdOf ByteArray.empty (rd_L1 l1 x126_4) x134_5) ++ (⟨#[61]⟩ : ByteArray)) ++ t136]) := ⟨_, rfl⟩
                           replace H : (laws_FnAdAddress.l3 k5 l0 l1 l2 x9_4 x126_4 y137 (l0.length : Int) x126_4 ((rd_L1 l1 x126_4).length : Int) (wrap64 (x134_5 + 1))) = some r := by first | (rw [hy137]; with_reducible exact H) | (have H2_ := (Option.bind_some _ _).symm.trans H; rw [hy137]; with_reducible exact H2_) | (have H2_ := (Option.bind_some _ _).symm.trans H; with_reducible exact H2_) | with_reducible exact H | (rw [hy137]; exact H) | exact H
                           have Ny137 := Aside0.mk hy137
                           clear hy137
                           have H' := Aside0.mk H
                           clear H
                           try go_wp2
                           have n0_ := Aside0.mk (Kd.R_drew HO_9.out)
                           have n1_ := Aside0.mk (Kd.R_drew HO_11.out)
                           have n2_ := Aside0.mk (below_drew1 HB.out)
                           clear HO_9
                           clear HO_11
                           clear HB
                           have HO_9 := n0_
                           have HO_11 := n1_
                           have HB := n2_
                           clear n0_ n1_ n2_
                           have p132 : 0 ≤ (x126_4 : Int) := of_decide_eq_true (by first | (with_reducible assumption) | assumption)
                           have q132 : x126_4 < (l1.length : Int) := of_decide_eq_true (by first | (with_reducible assumption) | assumption)
                           obtain ⟨ad132, A132_0, c132_0, e132, hx132_0, hl132_0, hi132_0⟩ := at_L1 HR1.out x126_4 p132 q132
                           have hw132_0 := hx132_0
                           obtain rfl : ad131 = ad132 := (by injection e132)
                           replace hx132_0 := (HB.out.cell (World.block_lt_of_cell? w _ hx132_0)).trans hx132_0
                           have HR132_0 := Aside0.mk hi132_0
                           have HC132_0 := Aside0.mk hl132_0
                           clear hi132_0 hl132_0
                           replace p132 := eq_true p132
                           replace q132 := eq_true q132
                           have p133 : 0 ≤ (x134_5 : Int) := of_decide_eq_true (by first | (with_reducible assumption) | assumption)
                           have q133 : x134_5 < ((rd_L1 l1 x126_4).length : Int) := of_decide_eq_true (by first | (with_reducible assumption) | assumption)
                           obtain ⟨ad133, e133, hx133_0⟩ := Kd.at_string HR132_0.out x134_5 p133 q133
                           have hw133_0 := hx133_0
                           cases e133
                           replace hx133_0 := (HB.out.cell (World.block_lt_of_cell? w _ hx133_0)).trans hx133_0
                           replace p133 := eq_true p133
                           replace q133 := eq_true q133
                           have p134 : 0 ≤ (x126_4 : Int) := of_decide_eq_true (by first | (with_reducible assumption) | assumption)
                           have q134 : x126_4 < (l2.length : Int) := of_decide_eq_true (by first | (with_reducible assumption) | assumption)
                           obtain ⟨ad134, A134_0, c134_0, e134, hx134_0, hl134_0, hi134_0⟩ := at_L1 HR2.out x126_4 p134 q134
                           have hw134_0 := hx134_0
                           cases e134
                           replace hx134_0 := (HB.out.cell (World.block_lt_of_cell? w _ hx134_0)).trans hx134_0
                           have HR134_0 := Aside0.mk hi134_0
                           have HC134_0 := Aside0.mk hl134_0
                           clear hi134_0 hl134_0
                           replace p134 := eq_true p134
                           replace q134 := eq_true q134
                           have p135 : 0 ≤ (x134_5 : Int) := of_decide_eq_true (by first | (with_reducible assumption) | assumption)
                           have q135 : x134_5 < ((rd_L1 l2 x126_4).length : Int) := of_decide_eq_true (by first | (with_reducible assumption) | assumption)
                           obtain ⟨ad135, e135, hx135_0⟩ := Kd.at_string HR134_0.out x134_5 p135 q135
                           have hw135_0 := hx135_0
                           cases e135
                           replace hx135_0 := (HB.out.cell (World.block_lt_of_cell? w _ hx135_0)).trans hx135_0
                           replace p135 := eq_true p135
                           replace q135 := eq_true q135
                           refine start_ (n := 21) (S := fun w' => w'.cell? (ad131.add (x126_4).toNat) = some (.slice (some ad133) (rd_L1 l1 x126_4).length c132_0) ∧ w'.cell? (ad133.add (x134_5).toNat) = some (.string (rdOf ByteArray.empty (rd_L1 l1 x126_4) x134_5)) ∧ w'.cell? (ad134.add (x126_4).toNat) = some (.slice (some ad135) (rd_L1 l2 x126_4).length c134_0) ∧ w'.cell? (ad135.add (x134_5).toNat) = some (.string (rdOf ByteArray.empty (rd_L1 l2 x126_4) x134_5))) (ds := []) #[false, false, false, false, false, false, false, false, false, false, false, false, false, false, false, false, false, false, false, false, false] (by kernel_rfl) rfl rfl ⟨((HB.out.cell (World.block_lt_of_cell? w _ hw132_0)).trans hw132_0), ((HB.out.cell (World.block_lt_of_cell? w _ hw133_0)).trans hw133_0), ((HB.out.cell (World.block_lt_of_cell? w _ hw134_0)).trans hw134_0), ((HB.out.cell (World.block_lt_of_cell? w _ hw135_0)).trans hw135_0)⟩ (fun hHeld => ?_); refine with_tabW laws_FnAdAddress.tab25 laws_FnAdAddress.bits25 (fun HT_ HW_ => ?_)
                           generalize wr.drew = w55 at HO_9 HO_11 HB HR132_0 HR134_0 hx132_0 hx133_0 hx134_0 hx135_0 hHeld ⊢
                           refine pure_ (i := 0) (N := some 137) (v := ?_) (a' := ?_) #[true, false, false, false, false, false, false, false, false, false, false, false, false, false, false, false, false, false, false, false, false] rfl rfl (any_of HT_.out (by kernel_rfl)) (fun _ _ _ h => h) (Or.inl ⟨by rfl, ?_⟩) ?_ ?_
                           rotate_left
                           ·intro w'
                            go_simp
                            with_reducible rfl
                           rotate_left
                           ·simp only [Act.put, List.setIfInBounds_toArray, List.set_cons_zero, List.set_cons_succ, i64_w, i32_w]
                            rfl
                           refine pure_ (i := 1) (N := some 138) (v := ?_) (a' := ?_) #[true, true, false, false, false, false, false, false, false, false, false, false, false, false, false, false, false, false, false, false, false] rfl rfl (any_of HT_.out (by kernel_rfl)) (fun _ _ _ h => h) (Or.inl ⟨by rfl, ?_⟩) ?_ ?_
                           rotate_left
                           ·intro w'
                            go_simp
                            with_reducible rfl
                           rotate_left
                           ·simp only [Act.put, List.setIfInBounds_toArray, List.set_cons_zero, List.set_cons_succ, i64_w, i32_w]
                            rfl
                           refine pure_ (i := 2) (N := some 139) (v := ?_) (a' := ?_) #[true, true, true, false, false, false, false, false, false, false, false, false, false, false, false, false, false, false, false, false, false] rfl rfl (any_of HT_.out (by kernel_rfl)) (fun _ _ _ h => h) (Or.inl ⟨by rfl, ?_⟩) ?_ ?_
                           rotate_left
                           ·intro w'
                            go_simp
                            with_reducible rfl
                           rotate_left
                           ·simp only [Act.put, List.setIfInBounds_toArray, List.set_cons_zero, List.set_cons_succ, i64_w, i32_w]
                            rfl
                           refine pure_ (i := 3) (N := some 140) (v := ?_) (a' := ?_) #[true, true, true, true, false, false, false, false, false, false, false, false, false, false, false, false, false, false, false, false, false] rfl rfl (any_of HT_.out (by kernel_rfl)) (fun _ _ _ h => h) (Or.inl ⟨by rfl, ?_⟩) ?_ ?_
                           rotate_left
                           ·intro w'
                            go_simp
                            with_reducible rfl
                           rotate_left
                           ·simp only [Act.put, List.setIfInBounds_toArray, List.set_cons_zero, List.set_cons_succ, i64_w, i32_w]
                            rfl
                           refine pure_ (i := 5) (N := some 142) (v := ?_) (a' := ?_) #[true, true, true, true, false, true, false, false, false, false, false, false, false, false, false, false, false, false, false, false, false] rfl rfl (any_of HT_.out (by kernel_rfl)) (fun _ _ _ h => h) (Or.inl ⟨by rfl, ?_⟩) ?_ ?_
                           rotate_left
                           ·intro w'
                            go_simp
                            with_reducible rfl
                           rotate_left
                           ·simp only [Act.put, List.setIfInBounds_toArray, List.set_cons_zero, List.set_cons_succ, i64_w, i32_w]
                            rfl
                           refine pure_ (i := 9) (N := some 146) (v := ?_) (a' := ?_) #[true, true, true, true, false, true, false, false, false, true, false, false, false, false, false, false, false, false, false, false, false] rfl rfl (any_of HT_.out (by kernel_rfl)) (fun _ _ _ h => h) (Or.inl ⟨by rfl, ?_⟩) ?_ ?_
                           rotate_left
                           ·intro w'
                            go_simp
                            with_reducible rfl
                           rotate_left
                           ·simp only [Act.put, List.setIfInBounds_toArray, List.set_cons_zero, List.set_cons_succ, i64_w, i32_w]
                            rfl
                           refine pure_ (i := 10) (N := some 147) (v := ?_) (a' := ?_) #[true, true, true, true, false, true, false, false, false, true, true, false, false, false, false, false, false, false, false, false, false] rfl rfl (any_of HT_.out (by kernel_rfl)) (fun _ _ _ h => h) (Or.inl ⟨by rfl, ?_⟩) ?_ ?_
                           rotate_left
                           ·intro w'
                            go_simp
                            with_reducible rfl
                           rotate_left
                           ·simp only [Act.put, List.setIfInBounds_toArray, List.set_cons_zero, List.set_cons_succ, i64_w, i32_w]
                            rfl
                           refine pure_ (i := 11) (N := some 148) (v := ?_) (a' := ?_) #[true, true, true, true, false, true, false, false, false, true, true, true, false, false, false, false, false, false, false, false, false] rfl rfl (any_of HT_.out (by kernel_rfl)) (fun _ _ _ h => h) (Or.inl ⟨by rfl, ?_⟩) ?_ ?_
                           rotate_left
                           ·intro w'
                            go_simp
                            with_reducible rfl
                           rotate_left
                           ·simp only [Act.put, List.setIfInBounds_toArray, List.set_cons_zero, List.set_cons_succ, i64_w, i32_w]
                            rfl
                           refine pure_ (i := 13) (N := some 150) (v := ?_) (a' := ?_) #[true, true, true, true, false, true, false, false, false, true, true, true, false, true, false, false, false, false, false, false, false] rfl rfl (any_of HT_.out (by kernel_rfl)) (fun _ _ _ h => h) (Or.inl ⟨by rfl, ?_⟩) ?_ ?_
                           rotate_left
                           ·intro w'
                            go_simp
                            with_reducible rfl
                           rotate_left
                           ·simp only [Act.put, List.setIfInBounds_toArray, List.set_cons_zero, List.set_cons_succ, i64_w, i32_w]
                            rfl
                           refine take_ (i := 4) (N := some 141) (v := ?_) (a' := ?_) #[true, true, true, true, true, true, false, false, false, true, true, true, false, true, false, false, false, false, false, false, false] rfl rfl (take_ofW HT_.out HW_.out (by kernel_rfl)) (fun _ _ _ h => h) (Or.inl ⟨by rfl, ?_⟩) hHeld ?_ ?_
                           rotate_left
                           ·rintro w' ⟨s0, s1, s2, s3⟩
                            go_simp
                            with_reducible rfl
                           rotate_left
                           ·simp only [Act.put, List.setIfInBounds_toArray, List.set_cons_zero, List.set_cons_succ, i64_w, i32_w]
                            rfl
                           refine pure_ (i := 6) (N := some 143) (v := ?_) (a' := ?_) #[true, true, true, true, true, true, true, false, false, true, true, true, false, true, false, false, false, false, false, false, false] rfl rfl (any_of HT_.out (by kernel_rfl)) (fun _ _ _ h => h) (Or.inl ⟨by rfl, ?_⟩) ?_ ?_
                           rotate_left
                           ·intro w'
                            go_simp
                            with_reducible rfl
                           rotate_left
                           ·simp only [Act.put, List.setIfInBounds_toArray, List.set_cons_zero, List.set_cons_succ, i64_w, i32_w]
                            rfl
                           refine take_ (i := 7) (N := some 144) (v := ?_) (a' := ?_) #[true, true, true, true, true, true, true, true, false, true, true, true, false, true, false, false, false, false, false, false, false] rfl rfl (take_ofW HT_.out HW_.out (by kernel_rfl)) (fun _ _ _ h => h) (Or.inl ⟨by rfl, ?_⟩) hHeld ?_ ?_
                           rotate_left
                           ·rintro w' ⟨s0, s1, s2, s3⟩
                            go_simp
                            with_reducible rfl
                           rotate_left
                           ·simp only [Act.put, List.setIfInBounds_toArray, List.set_cons_zero, List.set_cons_succ, i64_w, i32_w]
                            rfl
                           refine pure_ (i := 8) (N := some 145) (v := ?_) (a' := ?_) #[true, true, true, true, true, true, true, true, true, true, true, true, false, true, false, false, false, false, false, false, false] rfl rfl (any_of HT_.out (by kernel_rfl)) (fun _ _ _ h => h) (Or.inl ⟨by rfl, ?_⟩) ?_ ?_
                           rotate_left
                           ·intro w'
                            go_simp
                            with_reducible rfl
                           rotate_left
                           ·simp only [Act.put, List.setIfInBounds_toArray, List.set_cons_zero, List.set_cons_succ, i64_w, i32_w]
                            rfl
                           refine take_ (i := 12) (N := some 149) (v := ?_) (a' := ?_) #[true, true, true, true, true, true, true, true, true, true, true, true, true, true, false, false, false, false, false, false, false] rfl rfl (take_ofW HT_.out HW_.out (by kernel_rfl)) (fun _ _ _ h => h) (Or.inl ⟨by rfl, ?_⟩) hHeld ?_ ?_
                           rotate_left
                           ·rintro w' ⟨s0, s1, s2, s3⟩
                            go_simp
                            with_reducible rfl
                           rotate_left
                           ·simp only [Act.put, List.setIfInBounds_toArray, List.set_cons_zero, List.set_cons_succ, i64_w, i32_w]
                            rfl
                           refine pure_ (i := 14) (N := some 151) (v := ?_) (a' := ?_) #[true, true, true, true, true, true, true, true, true, true, true, true, true, true, true, false, false, false, false, false, false] rfl rfl (any_of HT_.out (by kernel_rfl)) (fun _ _ _ h => h) (Or.inl ⟨by rfl, ?_⟩) ?_ ?_
                           rotate_left
                           ·intro w'
                            go_simp
                            with_reducible rfl
                           rotate_left
                           ·simp only [Act.put, List.setIfInBounds_toArray, List.set_cons_zero, List.set_cons_succ, i64_w, i32_w]
                            rfl
                           refine take_ (i := 15) (N := some 152) (v := ?_) (a' := ?_) #[true, true, true, true, true, true, true, true, true, true, true, true, true, true, true, true, false, false, false, false, false] rfl rfl (take_ofW HT_.out HW_.out (by kernel_rfl)) (fun _ _ _ h => h) (Or.inl ⟨by rfl, ?_⟩) hHeld ?_ ?_
                           rotate_left
                           ·rintro w' ⟨s0, s1, s2, s3⟩
                            go_simp
                            with_reducible rfl
                           rotate_left
                           ·simp only [Act.put, List.setIfInBounds_toArray, List.set_cons_zero, List.set_cons_succ, i64_w, i32_w]
                            rfl
                           refine one_ (i := 16) (N := some 153) #[true, true, true, true, true, true, true, true, true, true, true, true, true, true, true, true, true, false, false, false, false] rfl rfl (one_of HT_.out (by kernel_rfl)) (by decide) (fun K hK => ?_)
                           refine goes_ Try.func8 (by kernel_rfl) rfl #[.string (rdOf ByteArray.empty (rd_L1 l2 x126_4) x134_5)] (by rfl) rfl rfl (by (try simp only [List.map_toArray, List.map_cons, List.map_nil]); first | done | rfl | (simp only [List.length_drop, List.length_take]; rfl)) ?_
                           with_reducible refine (impl_AdEscape.calls k5 (rdOf ByteArray.empty (rd_L1 l2 x126_4) x134_5) t136 _ A52.out).mono ?_
                           rintro e w56 ⟨rfl, hb⟩
                           refine ⟨_, rfl, ?_⟩
                           have n0_ := Aside0.mk (Kd.R_below (by (with_reducible repeat (first | apply Kd.R_alloc | apply Kd.R_drewN | apply Kd.R_drew)); exact HO_9.out) hb)
                           have n1_ := Aside0.mk (Kd.R_below (by (with_reducible repeat (first | apply Kd.R_alloc | apply Kd.R_drewN | apply Kd.R_drew)); exact HO_11.out) hb)
                           have n2_ := Aside0.mk (below_step (by repeat (first | (with_reducible first | exact HB.out | apply below_alloc | apply pw_below_drewN | apply below_drew1) | exact HB.out)) hb)
                           clear HO_9
                           clear HO_11
                           clear HB
                           have HO_9 := n0_
                           have HO_11 := n1_
                           have HB := n2_
                           clear n0_ n1_ n2_
                           (try clear hb)
                           (try clear hb2)
                           (try clear hk)
                           (try clear hi)
                           refine hK.out _ _ ⟨((HB.out.cell (World.block_lt_of_cell? w _ hw132_0)).trans hw132_0), ((HB.out.cell (World.block_lt_of_cell? w _ hw133_0)).trans hw133_0), ((HB.out.cell (World.block_lt_of_cell? w _ hw134_0)).trans hw134_0), ((HB.out.cell (World.block_lt_of_cell? w _ hw135_0)).trans hw135_0)⟩ (fun hHeld => ?_)
                           clear hK K
                           refine norm_ (a' := ?_) ?_ ?_
                           rotate_left
                           ·show Act.put _ (some 153) _ = _
                            simp only [Act.put, List.setIfInBounds_toArray, List.set_cons_zero, List.set_cons_succ, i64_w, i32_w]
                            rfl
                           refine pure_ (i := 17) (N := some 154) (v := ?_) (a' := ?_) #[true, true, true, true, true, true, true, true, true, true, true, true, true, true, true, true, true, true, false, false, false] rfl rfl (any_of HT_.out (by kernel_rfl)) (fun _ _ _ h => h) (Or.inl ⟨by rfl, ?_⟩) ?_ ?_
                           rotate_left
                           ·intro w'
                            go_simp
                            with_reducible rfl
                           rotate_left
                           ·simp only [Act.put, List.setIfInBounds_toArray, List.set_cons_zero, List.set_cons_succ, i64_w, i32_w]
                            rfl
                           refine one_ (i := 18) (N := some 155) #[true, true, true, true, true, true, true, true, true, true, true, true, true, true, true, true, true, true, true, false, false] rfl rfl (one_of HT_.out (by kernel_rfl)) (by decide) (fun K hK => ?_)
                           refine value_ (w1 := ?_) (v := ?_) (by rfl) rfl ?_ ?_
                           rotate_left 2
                           ·go_simp
                            constructor
                            ·rfl
                            ·rfl
                           refine hK.out _ _ ⟨(World.cell?_alloc_lt _ _ _ (World.block_lt_of_cell? _ _ (((HB.out.cell (World.block_lt_of_cell? w _ hw132_0)).trans hw132_0)))).trans (((HB.out.cell (World.block_lt_of_cell? w _ hw132_0)).trans hw132_0)), (World.cell?_alloc_lt _ _ _ (World.block_lt_of_cell? _ _ (((HB.out.cell (World.block_lt_of_cell? w _ hw133_0)).trans hw133_0)))).trans (((HB.out.cell (World.block_lt_of_cell? w _ hw133_0)).trans hw133_0)), (World.cell?_alloc_lt _ _ _ (World.block_lt_of_cell? _ _ (((HB.out.cell (World.block_lt_of_cell? w _ hw134_0)).trans hw134_0)))).trans (((HB.out.cell (World.block_lt_of_cell? w _ hw134_0)).trans hw134_0)), (World.cell?_alloc_lt _ _ _ (World.block_lt_of_cell? _ _ (((HB.out.cell (World.block_lt_of_cell? w _ hw135_0)).trans hw135_0)))).trans (((HB.out.cell (World.block_lt_of_cell? w _ hw135_0)).trans hw135_0))⟩ (fun hHeld => ?_)
                           clear hK K
                           refine norm_ (a' := ?_) ?_ ?_
                           rotate_left
                           ·show Act.put _ (some 155) _ = _
                            simp only [Act.put, List.setIfInBounds_toArray, List.set_cons_zero, List.set_cons_succ, i64_w, i32_w]
                            rfl
                           refine one_ (i := 19) (N := some 156) #[true, true, true, true, true, true, true, true, true, true, true, true, true, true, true, true, true, true, true, true, false] rfl rfl (one_of HT_.out (by kernel_rfl)) (by decide) (fun K hK => ?_)
                           refine Kd.R_append_step Kd.string (w0 := w) w.heap.size (by rfl) (.tmp 137) (.tmp 155) 27 9 (.string ⟨#[]⟩) 16 rfl Try.underlying27 info9 rfl (by decide) (by omega) u11 x11_5 (((rdOf ByteArray.empty (rd_L1 l1 x126_4) x134_5) ++ (⟨#[61]⟩ : ByteArray)) ++ t136) [.string (((rdOf ByteArray.empty (rd_L1 l1 x126_4) x134_5) ++ (⟨#[61]⟩ : ByteArray)) ++ t136)] (fun k_ => some k_ ≠ (u9 : Value).ownBlock) (fun _ => False) rfl rfl ?aP (fun _ hk => hk.elim) ?aF ?aO ?aB ?aS ?aL ?_
                           (case aP => exact rfl)
                           (case aB => exact (by repeat (first | (with_reducible first | exact HB.out | apply below_alloc | apply pw_below_drewN | apply below_drew1) | exact HB.out)))
                           (case aF => exact (fun k_ hk => Kd.fresh' (Kd.R_lt (by (with_reducible repeat (first | apply Kd.R_alloc | apply Kd.R_drewN | apply Kd.R_drew)); exact HO_9.out)) k_ hk))
                           (case aO => exact (by (with_reducible repeat (first | apply Kd.R_alloc | apply Kd.R_drewN | apply Kd.R_drew)); exact HO_11.out))
                           (case aS => exact (below_size (by repeat (first | (with_reducible first | exact HB.out | apply below_alloc | apply pw_below_drewN | apply below_drew1) | exact HB.out))))
                           (case aL => have := LMc54.out; omega)
                           intro v138 w57 ho hb hg hat
                           rw [← Ny137.out] at ho
                           have n0_ := Aside0.mk (Kd.R_after (ok := (fun _ => True)) (by (with_reducible repeat (first | apply Kd.R_alloc | apply Kd.R_drewN | apply Kd.R_drew)); exact Kd.R_mono HO_9.out (fun _ hk => ⟨trivial, hk⟩)) hg hat)
                           have n1_ := Aside0.mk (hb)
                           have n2_ := Aside0.mk (ho)
                           clear HO_9
                           clear HB
                           clear HO_11
                           have HO_9 := n0_
                           have HB := n1_
                           have HO139 := n2_
                           clear n0_ n1_ n2_
                           clear ho hb hg hat
                           refine hK.out _ _ ⟨((HB.out.cell (World.block_lt_of_cell? w _ hw132_0)).trans hw132_0), ((HB.out.cell (World.block_lt_of_cell? w _ hw133_0)).trans hw133_0), ((HB.out.cell (World.block_lt_of_cell? w _ hw134_0)).trans hw134_0), ((HB.out.cell (World.block_lt_of_cell? w _ hw135_0)).trans hw135_0)⟩ (fun hHeld => ?_)
                           clear hK K
                           refine norm_ (a' := ?_) ?_ ?_
                           rotate_left
                           ·show Act.put _ (some 156) _ = _
                            simp only [Act.put, List.setIfInBounds_toArray, List.set_cons_zero, List.set_cons_succ, i64_w, i32_w]
                            rfl
                           refine pure_ (i := 20) (N := some 11) (v := ?_) (a' := ?_) #[true, true, true, true, true, true, true, true, true, true, true, true, true, true, true, true, true, true, true, true, true] rfl rfl (any_of HT_.out (by kernel_rfl)) (fun _ _ _ h => h) (Or.inl ⟨by rfl, ?_⟩) ?_ ?_
                           rotate_left
                           ·intro w'
                            go_simp
                            with_reducible rfl
                           rotate_left
                           ·simp only [Act.put, List.setIfInBounds_toArray, List.set_cons_zero, List.set_cons_succ, i64_w, i32_w]
                            rfl
                           refine done_ (done_of HT_.out (by kernel_rfl)) ?_
                           try go_wp2
                           go_roundg k5
                           case measure => have := HJ3.out; have := HJ10.out; have := HK3.out; have := HK4.out; have := HK5.out; omega
                           case rel => exact ⟨(y137), (wrap64 (x134_5 + 1)), (by first | rfl | (simp; done) | (simp [*]; done)), H', ⟨by have := HJ3.out; have := HJ10.out; have := HK3.out; have := HK4.out; have := HK5.out; omega⟩, ⟨by (with_reducible repeat (first | apply Kd.R_alloc | apply Kd.R_drewN | apply Kd.R_drew)); exact Kd.R_mono HO_9.out (fun _ hk => hk.2)⟩, ⟨by (with_reducible repeat (first | apply Kd.R_alloc | apply Kd.R_drewN | apply Kd.R_drew)); exact HO139.out⟩, ⟨by repeat (first | (with_reducible first | exact HB.out | apply below_alloc | apply pw_below_drewN | apply below_drew1) | exact HB.out)⟩⟩
                          ·rw [if_neg c54] at H
                           exact absurd H (by simp)
                         ·rw [if_neg c53] at H
                          exact absurd H (by simp)
                        ·rw [if_neg c51] at H
                         exact absurd H (by simp)
                       ·rw [if_neg c50] at H
                        exact absurd H (by simp)
                      ·rw [if_neg c49] at H
                       exact absurd H (by simp)
                     ·rw [if_neg c48] at H
                      exact absurd H (by simp)
                    ·rw [if_neg c47] at H
                     exact absurd H (by simp)
                   ·rw [if_neg c46] at H
                    exact absurd H (by simp)
                  ·rw [if_neg c45] at H
                   exact absurd H (by simp)
                 ·rw [if_neg c44] at H
                  have c44b0 : decide (x134_5 < ((rd_L1 l1 x126_4).length : Int)) = false := decide_eq_false c44
                  clear c44
                  by_cases c58 : 0 ≤ x126_4
                  ·rw [if_pos c58] at H
                   have c58b0 : decide (0 ≤ x126_4) = true := decide_eq_true c58
                   clear c58
                   by_cases c59 : x126_4 < (l0.length : Int)
                   ·rw [if_pos c59] at H
                    have c59b0 : decide (x126_4 < (l0.length : Int)) = true := decide_eq_true c59
                    clear c59
                    by_cases c60 : (rdOf ByteArray.empty l0 x126_4).size + 1 ≤ 9223372036854775807
                    ·rw [if_pos c60] at H
                     have c60b0 := eq_true c60
                     have c60b1 : decide ((rdOf ByteArray.empty l0 x126_4).size + 1 ≤ 9223372036854775807) = true := decide_eq_true c60
                     try have c60b2 : (9223372036854775807 < (rdOf ByteArray.empty l0 x126_4).size + 1) = False := eq_false (Nat.not_lt.2 c60)
                     replace H := Option.bind_eq_some_iff.mp H
                     obtain ⟨t141, A610, H⟩ := H
                     replace H : (if ((rdOf ByteArray.empty l0 x126_4) ++ (⟨#[58]⟩ : ByteArray)).size + t141.size ≤ 9223372036854775807 then (if x9_4.length < 8796093022208 then (laws_FnAdAddress.l2 k5 l0 l1 l2 (x9_4 ++ [((rdOf ByteArray.empty l0 x126_4) ++ (⟨#[58]⟩ : ByteArray)) ++ t141]) (l0.length : Int) (wrap64 (x126_4 + 1))) else (none)) else (none)) = some r := H
                     have A61 := Aside0.mk A610
                     clear A610
                     by_cases c62 : ((rdOf ByteArray.empty l0 x126_4) ++ (⟨#[58]⟩ : ByteArray)).size + t141.size ≤ 9223372036854775807
                     ·rw [if_pos c62] at H
                      have c62b0 := eq_true c62
                      have c62b1 : decide (((rdOf ByteArray.empty l0 x126_4) ++ (⟨#[58]⟩ : ByteArray)).size + t141.size ≤ 9223372036854775807) = true := decide_eq_true c62
                      try have c62b2 : (9223372036854775807 < ((rdOf ByteArray.empty l0 x126_4) ++ (⟨#[58]⟩ : ByteArray)).size + t141.size) = False := eq_false (Nat.not_lt.2 c62)
                      (try have c62e : (rdOf ByteArray.empty l0 x126_4).size + 1 + t141.size ≤ 9223372036854775807 := by (have h_ := c62; simp only [ByteArray.size_append] at h_; exact h_))
                      (try have c62e0 := eq_true c62e)
                      (try have c62e1 : decide ((rdOf ByteArray.empty l0 x126_4).size + 1 + t141.size ≤ 9223372036854775807) = true := decide_eq_true c62e)
                      (try have c62e2 : (9223372036854775807 < (rdOf ByteArray.empty l0 x126_4).size + 1 + t141.size) = False := eq_false (Nat.not_lt.2 c62e))
                      by_cases c63 : x9_4.length < 8796093022208
                      ·rw [if_pos c63] at H
                       have LMc63 := Aside0.mk c63
                       clear c63
                       obtain ⟨y142, hy142⟩ : ∃ y_ : List ByteArray, y_ = (x9_4 ++ [((rdOf ByteArray.empty l0 x126_4) ++ (⟨#[58]⟩ : ByteArray)) ++ t141]) := ⟨_, rfl⟩
                       replace H : (laws_FnAdAddress.l2 k5 l0 l1 l2 y142 (l0.length : Int) (wrap64 (x126_4 + 1))) = some r := by first | (rw [hy142]; with_reducible exact H) | (have H2_ := (Option.bind_some _ _).symm.trans H; rw [hy142]; with_reducible exact H2_) | (have H2_ := (Option.bind_some _ _).symm.trans H; with_reducible exact H2_) | with_reducible exact H | (rw [hy142]; exact H) | exact H
                       have Ny142 := Aside0.mk hy142
                       clear hy142
                       have H' := Aside0.mk H
                       clear H
                       try go_wp2
                       have n0_ := Aside0.mk (Kd.R_drew HO_9.out)
                       have n1_ := Aside0.mk (Kd.R_drew HO_11.out)
                       have n2_ := Aside0.mk (below_drew1 HB.out)
                       clear HO_9
                       clear HO_11
                       clear HB
                       have HO_9 := n0_
                       have HO_11 := n1_
                       have HB := n2_
                       clear n0_ n1_ n2_
                       have p140 : 0 ≤ (x126_4 : Int) := of_decide_eq_true (by first | (with_reducible assumption) | assumption)
                       have q140 : x126_4 < (l0.length : Int) := of_decide_eq_true (by first | (with_reducible assumption) | assumption)
                       obtain ⟨ad140, e140, hx140_0⟩ := Kd.at_string HR0.out x126_4 p140 q140
                       have hw140_0 := hx140_0
                       cases e140
                       replace hx140_0 := (HB.out.cell (World.block_lt_of_cell? w _ hx140_0)).trans hx140_0
                       replace p140 := eq_true p140
                       replace q140 := eq_true q140
                       obtain ⟨Ao65, co65, eo65⟩ := Kd.R_slice HO_11.out
                       (first | subst eo65 | (injection eo65 with f1_ f2_ f3_; have f4_ := f1_.symm; have f5_ := f3_.symm; clear f1_ f2_ f3_; subst f4_; subst f5_))
                       refine start_ (n := 12) (S := fun w' => w'.cell? (ad140.add (x126_4).toNat) = some (.string (rdOf ByteArray.empty l0 x126_4))) (ds := []) #[false, false, false, false, false, false, false, false, false, false, false, false] (by kernel_rfl) rfl rfl (((HB.out.cell (World.block_lt_of_cell? w _ hw140_0)).trans hw140_0)) (fun hHeld => ?_); refine with_tabW laws_FnAdAddress.tab27 laws_FnAdAddress.bits27 (fun HT_ HW_ => ?_)
                       generalize wr.drew = w64 at HO_9 HO_11 HB hx140_0 hHeld ⊢
                       refine pure_ (i := 0) (N := some 158) (v := ?_) (a' := ?_) #[true, false, false, false, false, false, false, false, false, false, false, false] rfl rfl (any_of HT_.out (by kernel_rfl)) (fun _ _ _ h => h) (Or.inl ⟨by rfl, ?_⟩) ?_ ?_
                       rotate_left
                       ·intro w'
                        go_simp
                        with_reducible rfl
                       rotate_left
                       ·simp only [Act.put, List.setIfInBounds_toArray, List.set_cons_zero, List.set_cons_succ, i64_w, i32_w]
                        rfl
                       refine pure_ (i := 1) (N := some 159) (v := ?_) (a' := ?_) #[true, true, false, false, false, false, false, false, false, false, false, false] rfl rfl (any_of HT_.out (by kernel_rfl)) (fun _ _ _ h => h) (Or.inl ⟨by rfl, ?_⟩) ?_ ?_
                       rotate_left
                       ·intro w'
                        go_simp
                        with_reducible rfl
                       rotate_left
                       ·simp only [Act.put, List.setIfInBounds_toArray, List.set_cons_zero, List.set_cons_succ, i64_w, i32_w]
                        rfl
                       refine pure_ (i := 2) (N := some 160) (v := ?_) (a' := ?_) #[true, true, true, false, false, false, false, false, false, false, false, false] rfl rfl (any_of HT_.out (by kernel_rfl)) (fun _ _ _ h => h) (Or.inl ⟨by rfl, ?_⟩) ?_ ?_
                       rotate_left
                       ·intro w'
                        go_simp
                        with_reducible rfl
                       rotate_left
                       ·simp only [Act.put, List.setIfInBounds_toArray, List.set_cons_zero, List.set_cons_succ, i64_w, i32_w]
                        rfl
                       refine pure_ (i := 3) (N := some 161) (v := ?_) (a' := ?_) #[true, true, true, true, false, false, false, false, false, false, false, false] rfl rfl (any_of HT_.out (by kernel_rfl)) (fun _ _ _ h => h) (Or.inl ⟨by rfl, ?_⟩) ?_ ?_
                       rotate_left
                       ·intro w'
                        go_simp
                        with_reducible rfl
                       rotate_left
                       ·simp only [Act.put, List.setIfInBounds_toArray, List.set_cons_zero, List.set_cons_succ, i64_w, i32_w]
                        rfl
                       refine pure_ (i := 6) (N := some 164) (v := ?_) (a' := ?_) #[true, true, true, true, false, false, true, false, false, false, false, false] rfl rfl (any_of HT_.out (by kernel_rfl)) (fun _ _ _ h => h) (Or.inl ⟨by rfl, ?_⟩) ?_ ?_
                       rotate_left
                       ·intro w'
                        go_simp
                        with_reducible rfl
                       rotate_left
                       ·simp only [Act.put, List.setIfInBounds_toArray, List.set_cons_zero, List.set_cons_succ, i64_w, i32_w]
                        rfl
                       refine take_ (i := 4) (N := some 162) (v := ?_) (a' := ?_) #[true, true, true, true, true, false, true, false, false, false, false, false] rfl rfl (take_ofW HT_.out HW_.out (by kernel_rfl)) (fun _ _ _ h => h) (Or.inl ⟨by rfl, ?_⟩) hHeld ?_ ?_
                       rotate_left
                       ·intro w' s0
                        go_simp
                        with_reducible rfl
                       rotate_left
                       ·simp only [Act.put, List.setIfInBounds_toArray, List.set_cons_zero, List.set_cons_succ, i64_w, i32_w]
                        rfl
                       refine pure_ (i := 5) (N := some 163) (v := ?_) (a' := ?_) #[true, true, true, true, true, true, true, false, false, false, false, false] rfl rfl (any_of HT_.out (by kernel_rfl)) (fun _ _ _ h => h) (Or.inl ⟨by rfl, ?_⟩) ?_ ?_
                       rotate_left
                       ·intro w'
                        go_simp
                        with_reducible rfl
                       rotate_left
                       ·simp only [Act.put, List.setIfInBounds_toArray, List.set_cons_zero, List.set_cons_succ, i64_w, i32_w]
                        rfl
                       refine one_ (i := 7) (N := some 165) #[true, true, true, true, true, true, true, true, false, false, false, false] rfl rfl (one_of HT_.out (by kernel_rfl)) (by decide) (fun K hK => ?_)
                       refine goes_ Try.func13 (by kernel_rfl) rfl #[.slice Ao65 x11_5.length co65, .string (⟨#[44]⟩ : ByteArray)] (by rfl) rfl rfl (by (try simp only [List.map_toArray, List.map_cons, List.map_nil]); first | done | rfl | (simp only [List.length_drop, List.length_take]; rfl)) ?_
                       with_reducible refine (spec_Joined.calls k5 _ _ x11_5 (⟨#[44]⟩ : ByteArray) t141 _ ?side1 ?side2 A61.out).mono ?_
                       (case side1 => repeat (first | exact (Kd.R_reads' HO_11.out).2.2 | (with_reducible refine Kd.C_alloc ?_ _) | (with_reducible refine Kd.C_drewN ?_ _) | (with_reducible refine Kd.C_drew ?_)))
                       (case side2 => exact (Kd.R_reads' HO_11.out).2.1)
                       rintro e w' ⟨rfl, ⟨nd, rfl⟩⟩
                       refine ⟨_, rfl, ?_⟩
                       refine hK.out _ _ (((HB.out.cell (World.block_lt_of_cell? w _ hw140_0)).trans hw140_0)) (fun hHeld => ?_)
                       clear hK K
                       refine norm_ (a' := ?_) ?_ ?_
                       rotate_left
                       ·show Act.put _ (some 165) _ = _
                        simp only [Act.put, List.setIfInBounds_toArray, List.set_cons_zero, List.set_cons_succ, i64_w, i32_w]
                        rfl
                       refine pure_ (i := 8) (N := some 166) (v := ?_) (a' := ?_) #[true, true, true, true, true, true, true, true, true, false, false, false] rfl rfl (any_of HT_.out (by kernel_rfl)) (fun _ _ _ h => h) (Or.inl ⟨by rfl, ?_⟩) ?_ ?_
                       rotate_left
                       ·intro w'
                        go_simp
                        with_reducible rfl
                       rotate_left
                       ·simp only [Act.put, List.setIfInBounds_toArray, List.set_cons_zero, List.set_cons_succ, i64_w, i32_w]
                        rfl
                       refine one_ (i := 9) (N := some 167) #[true, true, true, true, true, true, true, true, true, true, false, false] rfl rfl (one_of HT_.out (by kernel_rfl)) (by decide) (fun K hK => ?_)
                       refine value_ (w1 := ?_) (v := ?_) (by rfl) rfl ?_ ?_
                       rotate_left 2
                       ·go_simp
                        constructor
                        ·rfl
                        ·rfl
                       refine hK.out _ _ ((World.cell?_alloc_lt _ _ _ (World.block_lt_of_cell? _ _ (((HB.out.cell (World.block_lt_of_cell? w _ hw140_0)).trans hw140_0)))).trans (((HB.out.cell (World.block_lt_of_cell? w _ hw140_0)).trans hw140_0))) (fun hHeld => ?_)
                       clear hK K
                       refine norm_ (a' := ?_) ?_ ?_
                       rotate_left
                       ·show Act.put _ (some 167) _ = _
                        simp only [Act.put, List.setIfInBounds_toArray, List.set_cons_zero, List.set_cons_succ, i64_w, i32_w]
                        rfl
                       refine one_ (i := 10) (N := some 168) #[true, true, true, true, true, true, true, true, true, true, true, false] rfl rfl (one_of HT_.out (by kernel_rfl)) (by decide) (fun K hK => ?_)
                       refine Kd.R_append_step Kd.string (w0 := w) w.heap.size (by rfl) (.tmp 158) (.tmp 167) 27 9 (.string ⟨#[]⟩) 16 rfl Try.underlying27 info9 rfl (by decide) (by omega) u9 x9_4 (((rdOf ByteArray.empty l0 x126_4) ++ (⟨#[58]⟩ : ByteArray)) ++ t141) [.string (((rdOf ByteArray.empty l0 x126_4) ++ (⟨#[58]⟩ : ByteArray)) ++ t141)] (fun k_ => some k_ ≠ (.slice Ao65 x11_5.length co65 : Value).ownBlock) (fun _ => False) rfl rfl ?aP (fun _ hk => hk.elim) ?aF ?aO ?aB ?aS ?aL ?_
                       (case aP => exact rfl)
                       (case aB => exact (by repeat (first | (with_reducible first | exact HB.out | apply below_alloc | apply pw_below_drewN | apply below_drew1) | exact HB.out)))
                       (case aF => exact (fun k_ hk => Kd.fresh' (Kd.R_lt (by (with_reducible repeat (first | apply Kd.R_alloc | apply Kd.R_drewN | apply Kd.R_drew)); exact HO_11.out)) k_ hk))
                       (case aO => exact (by (with_reducible repeat (first | apply Kd.R_alloc | apply Kd.R_drewN | apply Kd.R_drew)); exact HO_9.out))
                       (case aS => exact (below_size (by repeat (first | (with_reducible first | exact HB.out | apply below_alloc | apply pw_below_drewN | apply below_drew1) | exact HB.out))))
                       (case aL => have := LMc63.out; omega)
                       intro v143 w66 ho hb hg hat
                       rw [← Ny142.out] at ho
                       have n0_ := Aside0.mk (Kd.R_after (ok := (fun _ => True)) (by (with_reducible repeat (first | apply Kd.R_alloc | apply Kd.R_drewN | apply Kd.R_drew)); exact Kd.R_mono HO_11.out (fun _ hk => ⟨trivial, hk⟩)) hg hat)
                       have n1_ := Aside0.mk (hb)
                       have n2_ := Aside0.mk (ho)
                       clear HO_11
                       clear HB
                       clear HO_9
                       have HO_11 := n0_
                       have HB := n1_
                       have HO144 := n2_
                       clear n0_ n1_ n2_
                       clear ho hb hg hat
                       refine hK.out _ _ (((HB.out.cell (World.block_lt_of_cell? w _ hw140_0)).trans hw140_0)) (fun hHeld => ?_)
                       clear hK K
                       refine norm_ (a' := ?_) ?_ ?_
                       rotate_left
                       ·show Act.put _ (some 168) _ = _
                        simp only [Act.put, List.setIfInBounds_toArray, List.set_cons_zero, List.set_cons_succ, i64_w, i32_w]
                        rfl
                       refine pure_ (i := 11) (N := some 9) (v := ?_) (a' := ?_) #[true, true, true, true, true, true, true, true, true, true, true, true] rfl rfl (any_of HT_.out (by kernel_rfl)) (fun _ _ _ h => h) (Or.inl ⟨by rfl, ?_⟩) ?_ ?_
                       rotate_left
                       ·intro w'
                        go_simp
                        with_reducible rfl
                       rotate_left
                       ·simp only [Act.put, List.setIfInBounds_toArray, List.set_cons_zero, List.set_cons_succ, i64_w, i32_w]
                        rfl
                       refine done_ (done_of HT_.out (by kernel_rfl)) ?_
                       try go_wp2
                       go_roundg k5
                       case measure => have := HJ3.out; have := HJ10.out; have := HK3.out; have := HK4.out; have := HK5.out; omega
                       case rel => exact ⟨(y142), (wrap64 (x126_4 + 1)), (by first | rfl | (simp; done) | (simp [*]; done)), H', ⟨by have := HJ3.out; have := HJ10.out; have := HK3.out; have := HK4.out; have := HK5.out; omega⟩, ⟨by (with_reducible repeat (first | apply Kd.R_alloc | apply Kd.R_drewN | apply Kd.R_drew)); exact Kd.R_mono HO144.out (fun _ hk => trivial)⟩, ⟨by repeat (first | (with_reducible first | exact HB.out | apply below_alloc | apply pw_below_drewN | apply below_drew1) | exact HB.out)⟩⟩
                      ·rw [if_neg c63] at H
                       exact absurd H (by simp)
                     ·rw [if_neg c62] at H
                      exact absurd H (by simp)
                    ·rw [if_neg c60] at H
                     exact absurd H (by simp)
                   ·rw [if_neg c59] at H
                    exact absurd H (by simp)
                  ·rw [if_neg c58] at H
                   exact absurd H (by simp)
              ·rw [if_neg c43] at H
               exact absurd H (by simp)
             ·rw [if_neg c42] at H
              exact absurd H (by simp)
            ·rw [if_neg c41] at H
             have c41b0 : decide (x126_4 < (l0.length : Int)) = false := decide_eq_false c41
             clear c41
             replace H := Option.bind_eq_some_iff.mp H
             obtain ⟨t145, A670, H⟩ := H
             replace H : ((spec_Split.f k4 t145 59).bind fun t146 => (if (t146.length : Int) = (l0.length : Int) then (laws_FnAdAddress.l4 k4 l0 l1 l2 t146 (t146.length : Int) 0) else (some false))) = some r := H
             have A67 := Aside0.mk A670
             clear A670
             replace H := Option.bind_eq_some_iff.mp H
             obtain ⟨t146, A680, H⟩ := H
             replace H : (if (t146.length : Int) = (l0.length : Int) then (laws_FnAdAddress.l4 k4 l0 l1 l2 t146 (t146.length : Int) 0) else (some false)) = some r := H
             have A68 := Aside0.mk A680
             clear A680
             by_cases c69 : (t146.length : Int) = (l0.length : Int)
             ·rw [if_pos c69] at H
              have c69b0 : ((t146.length : Int) == (l0.length : Int)) = true := beq_iff_eq.mpr c69
              have c69b1 : ((t146.length : Int) != (l0.length : Int)) = false := bne_eq_false_iff_eq.mpr c69
              have c69b2 : (t146.length == l0.length) = true := by first | simpa using c69 | (simp at c69 ⊢; omega)
              clear c69
              have H' := Aside0.mk H
              clear H
              obtain ⟨Ao70, co70, eo70⟩ := Kd.R_slice HO_9.out
              subst eo70
              go_wp2_with (first | ((with_reducible refine gate_callee (f := 13) rfl ?_); refine goesL_ (some 171) rfl rfl Try.func13 (by kernel_rfl) rfl #[.slice Ao70 x9_4.length co70, .string (⟨#[59]⟩ : ByteArray)] rfl (by (try simp only [List.map_toArray, List.map_cons, List.map_nil]); first | done | rfl | (simp only [List.length_drop, List.length_take]; rfl)) ?_; (with_reducible refine (spec_Joined.calls k4 _ _ x9_4 (⟨#[59]⟩ : ByteArray) t145 _ ?side1 ?side2 A67.out).mono ?_); (case side1 => repeat (first | exact (Kd.R_reads' HO_9.out).2.2 | (with_reducible refine Kd.C_alloc ?_ _) | (with_reducible refine Kd.C_drewN ?_ _) | (with_reducible refine Kd.C_drew ?_))); (case side2 => exact (Kd.R_reads' HO_9.out).2.1); rintro e w' ⟨rfl, ⟨nd, rfl⟩⟩; refine ⟨_, rfl, ?_⟩) | ((with_reducible refine gate_callee (f := 14) rfl ?_); refine goesL_ (some 172) rfl rfl Try.func14 (by kernel_rfl) rfl #[.string t145, .int .u8 59] rfl (by (try simp only [List.map_toArray, List.map_cons, List.map_nil]); first | done | rfl | (simp only [List.length_drop, List.length_take]; rfl)) ?_; (with_reducible refine (spec_Split.calls k4 t145 59 t146 _ A68.out).mono ?_); rintro e w71 ⟨v147, rfl, ho0, hb⟩; refine ⟨_, rfl, ?_⟩; have n0_ := Aside0.mk (Kd.R_elder' (by (with_reducible repeat (first | apply Kd.R_alloc | apply Kd.R_drewN | apply Kd.R_drew)); exact HO_9.out) (Kd.R_base ho0) hb); have n1_ := Aside0.mk (Kd.R_lower (Kd.R_new' ho0 (Kd.R_lt (by (with_reducible repeat (first | apply Kd.R_alloc | apply Kd.R_drewN | apply Kd.R_drew)); exact HO_9.out))) (below_size (by repeat (first | (with_reducible first | exact HB.out | apply below_alloc | apply pw_below_drewN | apply below_drew1) | exact HB.out)))); have n2_ := Aside0.mk (below_step (by repeat (first | (with_reducible first | exact HB.out | apply below_alloc | apply pw_below_drewN | apply below_drew1) | exact HB.out)) hb); clear HO_9; clear HB; have HO_9 := n0_; have HO148 := n1_; have HB := n2_; clear n0_ n1_ n2_; (try clear hb); (try clear hb2); (try clear hk); (try clear hi); (try clear ho0); obtain ⟨Ao72, co72, eo72⟩ := Kd.R_slice HO148.out; subst eo72))
              go_loopg [180] k4 (fun kq v180 w' => ∃ (x180_5 : Int), v180 = .int .i64 x180_5 ∧ Aside0 (laws_FnAdAddress.l4 kq l0 l1 l2 t146 (t146.length : Int) x180_5 = some r) ∧ Aside0 (kq ≤ k4) ∧ Aside0 (Kd.R Kd.string 9 w' w.heap.size (fun _ => True) (.slice Ao72 t146.length co72) t146) ∧ Aside0 (Below w.heap.size w w'))
              case atStart => exact ⟨(0), (by first | rfl | (simp; done) | (simp [*]; done)), H', ⟨Nat.le_refl _⟩, ⟨by (with_reducible repeat (first | apply Kd.R_alloc | apply Kd.R_drewN | apply Kd.R_drew)); exact Kd.R_mono HO148.out (fun _ hk => trivial)⟩, ⟨by repeat (first | (with_reducible first | exact HB.out | apply below_alloc | apply pw_below_drewN | apply below_drew1) | exact HB.out)⟩⟩
              case round => as_aux_lemma =>
               clear H'
               try clear c1
               try clear p1
               try clear q1
               try clear hx1
               try clear p2
               try clear c4
               try clear c5
               try clear c6
               try clear p6
               try clear c8
               try clear q12
               try clear c13
               try clear p13
               try clear q13
               try clear hx13
               try clear c14
               try clear p14
               try clear q14
               try clear hx14
               try clear c41
               try clear c41b0
               try clear c42
               try clear c43
               try clear c44
               try clear c44b0
               try clear c45
               try clear c45b0
               try clear c46
               try clear c46b0
               try clear c47
               try clear c47b0
               try clear c48
               try clear c48b0
               try clear c49
               try clear c49b0
               try clear c49b1
               try clear c49b2
               try clear c50
               try clear c50b0
               try clear c51
               try clear c51b0
               try clear c53
               try clear c53b0
               try clear c53b1
               try clear c53b2
               try clear c54
               try clear c58
               try clear c58b0
               try clear c59
               try clear c59b0
               try clear c60
               try clear c60b0
               try clear c60b1
               try clear c60b2
               try clear c62
               try clear c62b0
               try clear c62b1
               try clear c62b2
               try clear c63
               try clear p64
               try clear c69
               try clear c69b0
               try clear c69b1
               try clear c69b2
               try clear hx132_0
               try clear hx133_0
               try clear hx134_0
               try clear hx135_0
               try clear hx140_0
               try clear p132
               try clear p133
               try clear p134
               try clear p135
               try clear p140
               try clear q12
               try clear q120
               try clear q122
               try clear q123
               try clear q124
               try clear q125
               try clear q126
               try clear q127
               try clear q129
               try clear q13
               try clear q130
               try clear q131
               try clear q132
               try clear q133
               try clear q134
               try clear q135
               try clear q140
               obtain ⟨x180_5, rfl, HA, HK5, HO_178, HB⟩ := hrel
               cases gk with
               | zero => exact absurd HA.out (by simp [laws_FnAdAddress.l4])
               | succ k5 =>
                have H := HA.out
                clear HA
                simp only [laws_FnAdAddress.l4] at H
                by_cases c73 : x180_5 < (t146.length : Int)
                ·rw [if_pos c73] at H
                 have c73b0 : decide (x180_5 < (t146.length : Int)) = true := decide_eq_true c73
                 clear c73
                 by_cases c74 : 0 ≤ x180_5
                 ·rw [if_pos c74] at H
                  have c74b0 : decide (0 ≤ x180_5) = true := decide_eq_true c74
                  clear c74
                  by_cases c75 : x180_5 < (t146.length : Int)
                  ·rw [if_pos c75] at H
                   have c75b0 : decide (x180_5 < (t146.length : Int)) = true := decide_eq_true c75
                   clear c75
                   replace H := Option.bind_eq_some_iff.mp H
                   obtain ⟨⟨t151, t152, t153⟩, A760, H⟩ := H
                   replace H : (if t153 = true then (if x180_5 < (l0.length : Int) then (laws_FnAdAddress.j8 k5 l0 l1 l2 x180_5 t152 t146 (t146.length : Int) x180_5 (t151.toList != (rdOf ByteArray.empty l0 x180_5).toList)) else (none)) else (laws_FnAdAddress.j8 k5 l0 l1 l2 x180_5 t152 t146 (t146.length : Int) x180_5 true)) = some r := H
                   have A76 := Aside0.mk A760
                   clear A760
                   have HC77 := Aside0.mk H
                   clear H
                   have p150 : 0 ≤ (x180_5 : Int) := of_decide_eq_true (by first | (with_reducible assumption) | assumption)
                   have q150 : x180_5 < (t146.length : Int) := of_decide_eq_true (by first | (with_reducible assumption) | assumption)
                   obtain ⟨ad150, e150, hx150_0⟩ := Kd.at_string (Kd.R_reads' HO_178.out).2.2 x180_5 p150 q150
                   cases e150
                   replace p150 := eq_true p150
                   replace q150 := eq_true q150
                   go_upto_region 36 with (first | ((with_reducible refine gate_callee (f := 15) rfl ?_); refine goesL_ (some 187) rfl rfl Try.func15 (by kernel_rfl) rfl #[.string (rdOf ByteArray.empty t146 x180_5), .int .u8 58] rfl (by (try simp only [List.map_toArray, List.map_cons, List.map_nil]); first | done | rfl | (simp only [List.length_drop, List.length_take]; rfl)) ?_; (with_reducible refine (spec_Cut.calls k5 (rdOf ByteArray.empty t146 x180_5) 58 t151 t152 t153 _ A76.out).mono ?_); rintro e w' ⟨rfl, ⟨nd, rfl⟩⟩; refine ⟨_, rfl, ?_⟩))
                   (try simp only [Act.put, List.setIfInBounds_toArray, List.set_cons_zero, List.set_cons_succ])
                   go_cut [200] (fun v200 wc => ∃ (kq : Nat) (x200_76 : Bool), v200 = .bool x200_76 ∧ Aside0 (laws_FnAdAddress.j8 kq l0 l1 l2 x180_5 t152 t146 (t146.length : Int) x180_5 x200_76 = some r) ∧ Aside0 (kq ≤ k5) ∧ Aside0 (Kd.R Kd.string 9 wc w.heap.size (fun _ => True) (.slice (some ad150) t146.length co72) t146) ∧ Aside0 (Below w.heap.size w wc))
                   case first =>
                    have H := HC77.out
                    clear HC77
                    by_cases c78 : t153 = true
                    ·subst c78
                     have H1 : (if x180_5 < (l0.length : Int) then (laws_FnAdAddress.j8 k5 l0 l1 l2 x180_5 t152 t146 (t146.length : Int) x180_5 (t151.toList != (rdOf ByteArray.empty l0 x180_5).toList)) else (none)) = some r := by rw [if_pos rfl] at H; exact H
                     clear H
                     have H := H1
                     clear H1
                     by_cases c79 : x180_5 < (l0.length : Int)
                     ·rw [if_pos c79] at H
                      have c79b0 : decide (x180_5 < (l0.length : Int)) = true := decide_eq_true c79
                      clear c79
                      (first | rw [c79b0] | (simp only [i64_w, i32_w]; rw [c79b0]) | skip)
                      have H' := Aside0.mk H
                      clear H
                      have p154 : 0 ≤ (x180_5 : Int) := of_decide_eq_true (by first | (with_reducible assumption) | assumption)
                      have q154 : x180_5 < (l0.length : Int) := of_decide_eq_true (by first | (with_reducible assumption) | assumption)
                      obtain ⟨ad154, e154, hx154_0⟩ := Kd.at_string HR0.out x180_5 p154 q154
                      cases e154
                      replace hx154_0 := (HB.out.cell (World.block_lt_of_cell? w _ hx154_0)).trans hx154_0
                      replace p154 := eq_true p154
                      replace q154 := eq_true q154
                      go_wp2
                      go_meet
                      case rel => exact ⟨_, ((t151.toList != (rdOf ByteArray.empty l0 x180_5).toList)), (by first | rfl | (simp; done) | (simp [*]; done)), H', ⟨by have := HJ3.out; have := HJ10.out; have := HK3.out; have := HK4.out; have := HK5.out; first | omega | exact Nat.le_refl _⟩, ⟨by (with_reducible repeat (first | apply Kd.R_alloc | apply Kd.R_drewN | apply Kd.R_drew)); exact HO_178.out⟩, ⟨by repeat (first | (with_reducible first | exact HB.out | apply below_alloc | apply pw_below_drewN | apply below_drew1) | exact HB.out)⟩⟩
                     ·rw [if_neg c79] at H
                      exact absurd H (by simp)
                    ·replace c78 := Bool.eq_false_iff.mpr c78
                     subst c78
                     have H1 : (laws_FnAdAddress.j8 k5 l0 l1 l2 x180_5 t152 t146 (t146.length : Int) x180_5 true) = some r := by rw [if_neg (show ¬ (false = true) by decide)] at H; exact H
                     clear H
                     have H := H1
                     clear H1
                     have H' := Aside0.mk H
                     clear H
                     go_wp2
                     go_meet
                     case rel => exact ⟨_, (true), (by first | rfl | (simp; done) | (simp [*]; done)), H', ⟨by have := HJ3.out; have := HJ10.out; have := HK3.out; have := HK4.out; have := HK5.out; first | omega | exact Nat.le_refl _⟩, ⟨by (with_reducible repeat (first | apply Kd.R_alloc | apply Kd.R_drewN | apply Kd.R_drew)); exact HO_178.out⟩, ⟨by repeat (first | (with_reducible first | exact HB.out | apply below_alloc | apply pw_below_drewN | apply below_drew1) | exact HB.out)⟩⟩
                   case rest => as_aux_lemma =>
                    clear HC77
                    try clear c1
                    try clear p1
                    try clear q1
                    try clear hx1
                    try clear p2
                    try clear c4
                    try clear c5
                    try clear c6
                    try clear p6
                    try clear c7
                    try clear c8
                    try clear q12
                    try clear c13
                    try clear p13
                    try clear q13
                    try clear hx13
                    try clear c14
                    try clear p14
                    try clear q14
                    try clear hx14
                    try clear c15
                    try clear p15
                    try clear q15
                    try clear hx15
                    try clear c41
                    try clear c41b0
                    try clear c42
                    try clear c43
                    try clear c44
                    try clear c44b0
                    try clear c45
                    try clear c45b0
                    try clear c46
                    try clear c46b0
                    try clear c47
                    try clear c47b0
                    try clear c48
                    try clear c48b0
                    try clear c49
                    try clear c49b0
                    try clear c49b1
                    try clear c49b2
                    try clear c50
                    try clear c50b0
                    try clear c51
                    try clear c51b0
                    try clear c53
                    try clear c53b0
                    try clear c53b1
                    try clear c53b2
                    try clear c54
                    try clear c58
                    try clear c58b0
                    try clear c59
                    try clear c59b0
                    try clear c60
                    try clear c60b0
                    try clear c60b1
                    try clear c60b2
                    try clear c62
                    try clear c62b0
                    try clear c62b1
                    try clear c62b2
                    try clear c63
                    try clear p64
                    try clear c69
                    try clear c69b0
                    try clear c69b1
                    try clear c69b2
                    try clear c73
                    try clear c73b0
                    try clear c74
                    try clear c74b0
                    try clear c75
                    try clear c75b0
                    try clear c78
                    try clear c79
                    try clear c79b0
                    try clear hx132_0
                    try clear hx133_0
                    try clear hx134_0
                    try clear hx135_0
                    try clear hx140_0
                    try clear hx150_0
                    try clear hx154_0
                    try clear p1
                    try clear p13
                    try clear p132
                    try clear p133
                    try clear p134
                    try clear p135
                    try clear p14
                    try clear p140
                    try clear p150
                    try clear p154
                    try clear p2
                    try clear p6
                    try clear p64
                    try clear q1
                    try clear q12
                    try clear q120
                    try clear q122
                    try clear q123
                    try clear q124
                    try clear q125
                    try clear q126
                    try clear q127
                    try clear q129
                    try clear q13
                    try clear q130
                    try clear q131
                    try clear q132
                    try clear q133
                    try clear q134
                    try clear q135
                    try clear q14
                    try clear q140
                    try clear q150
                    try clear q154
                    obtain ⟨kq, x200_76, rfl, HA, HJ76, HO_178, HB⟩ := hcut
                    cases kq with
                    | zero => exact absurd HA.out (by simp [laws_FnAdAddress.j8])
                    | succ kj76 =>
                     have H := HA.out
                     clear HA
                     simp only [laws_FnAdAddress.j8] at H
                     by_cases c80 : x200_76 = true
                     ·subst c80
                      have H1 : (some false) = some r := by rw [if_pos rfl] at H; exact H
                      clear H
                      have H := H1
                      clear H1
                      obtain rfl := Option.some.inj H
                      go_wp2
                      go_ret
                      exact ⟨by first | rfl | (simp [errW_none, errW_some] <;> rfl) | (simp [*, errW_none, errW_some] <;> rfl) | (simp (disch := omega) only [wrap64_id] <;> rfl), by repeat (first | (with_reducible first | exact HB.out | apply below_alloc | apply pw_below_drewN | apply below_drew1) | exact HB.out)⟩
                     ·replace c80 := Bool.eq_false_iff.mpr c80
                      subst c80
                      have H1 : (if t152.toList = ([] : List UInt8) then (laws_FnAdAddress.j9 kj76 l0 l1 l2 x180_5 ([] : List ByteArray) t146 (t146.length : Int) x180_5) else ((spec_Split.f kj76 t152 44).bind fun t155 => (laws_FnAdAddress.j9 kj76 l0 l1 l2 x180_5 t155 t146 (t146.length : Int) x180_5))) = some r := by rw [if_neg (show ¬ (false = true) by decide)] at H; exact H
                      clear H
                      have H := H1
                      clear H1
                      have HC81 := Aside0.mk H
                      clear H
                      go_upto_if 202 with (fail)
                      go_cut [19] (fun v19 wc => ∃ (kq : Nat) (x19_80 : List ByteArray), Aside0 (laws_FnAdAddress.j9 kq l0 l1 l2 x180_5 x19_80 t146 (t146.length : Int) x180_5 = some r) ∧ Aside0 (kq ≤ kj76) ∧ Aside0 (Kd.R Kd.string 9 wc w.heap.size (fun k_ => some k_ ≠ ((.slice (some ad150) t146.length co72) : Value).ownBlock) v19 x19_80) ∧ Aside0 (Kd.R Kd.string 9 wc w.heap.size (fun k_ => some k_ ≠ (v19 : Value).ownBlock) (.slice (some ad150) t146.length co72) t146) ∧ Aside0 (Below w.heap.size w wc))
                      case first =>
                       have H := HC81.out
                       clear HC81
                       by_cases c82 : t152.toList = ([] : List UInt8)
                       ·rw [if_pos c82] at H
                        have c82b0 : (t152.toList == ([] : List UInt8)) = true := beq_iff_eq.mpr c82
                        have c82b1 : (t152.toList != ([] : List UInt8)) = false := bne_eq_false_iff_eq.mpr c82
                        have c82b2 : t152.toList.isEmpty = true := by rw [beq_iff_eq.mp c82b0]; rfl
                        have c82b3 : (!t152.toList.isEmpty) = false := by rw [c82b2]; rfl
                        clear c82
                        (first | rw [c82b3] | rw [c82b0] | (simp only [i64_w, i32_w]; rw [c82b0]) | skip)
                        have H' := Aside0.mk H
                        clear H
                        go_wp2
                        go_meet
                        case rel => exact ⟨_, (([] : List ByteArray)), H', ⟨by have := HJ3.out; have := HJ10.out; have := HK3.out; have := HK4.out; have := HK5.out; have := HJ76.out; first | omega | exact Nat.le_refl _⟩, ⟨by first | exact Kd.R_nil _ _ _ _ _ | exact Kd.N_nil _ _ _ _ _ | exact Kd.V_nil _ _ _ _ _ | exact Kd.Q_nil _ _ _ _ _ | exact Kd.S_nil _ _ _ _ _⟩, ⟨by (with_reducible repeat (first | apply Kd.R_alloc | apply Kd.R_drewN | apply Kd.R_drew)); exact Kd.R_mono HO_178.out (fun _ hk => (by simp [Value.ownBlock]))⟩, ⟨by repeat (first | (with_reducible first | exact HB.out | apply below_alloc | apply pw_below_drewN | apply below_drew1) | exact HB.out)⟩⟩
                       ·rw [if_neg c82] at H
                        have c82b0 : (t152.toList == ([] : List UInt8)) = false := beq_eq_false_iff_ne.mpr c82
                        have c82b1 : (t152.toList != ([] : List UInt8)) = true := bne_iff_ne.mpr c82
                        have c82b2 : t152.toList.isEmpty = false := by (have h_ := beq_eq_false_iff_ne.mp c82b0; simpa using h_)
                        have c82b3 : (!t152.toList.isEmpty) = true := by rw [c82b2]; rfl
                        (first | rw [c82b3] | rw [c82b0] | (simp only [i64_w, i32_w]; rw [c82b0]) | skip)
                        replace H := Option.bind_eq_some_iff.mp H
                        obtain ⟨t155, A830, H⟩ := H
                        replace H : (laws_FnAdAddress.j9 kj76 l0 l1 l2 x180_5 t155 t146 (t146.length : Int) x180_5) = some r := H
                        have A83 := Aside0.mk A830
                        clear A830
                        have H' := Aside0.mk H
                        clear H
                        go_wp2_with (first | ((with_reducible refine gate_callee (f := 14) rfl ?_); refine goesL_ (some 204) rfl rfl Try.func14 (by kernel_rfl) rfl #[.string t152, .int .u8 44] rfl (by (try simp only [List.map_toArray, List.map_cons, List.map_nil]); first | done | rfl | (simp only [List.length_drop, List.length_take]; rfl)) ?_; (with_reducible refine (spec_Split.calls kj76 t152 44 t155 _ A83.out).mono ?_); rintro e w84 ⟨v156, rfl, ho0, hb⟩; refine ⟨_, rfl, ?_⟩; have n0_ := Aside0.mk (Kd.R_elder' (by (with_reducible repeat (first | apply Kd.R_alloc | apply Kd.R_drewN | apply Kd.R_drew)); exact HO_178.out) (Kd.R_base ho0) hb); have n1_ := Aside0.mk (Kd.R_lower (Kd.R_new' ho0 (Kd.R_lt (by (with_reducible repeat (first | apply Kd.R_alloc | apply Kd.R_drewN | apply Kd.R_drew)); exact HO_178.out))) (below_size (by repeat (first | (with_reducible first | exact HB.out | apply below_alloc | apply pw_below_drewN | apply below_drew1) | exact HB.out)))); have n2_ := Aside0.mk (below_step (by repeat (first | (with_reducible first | exact HB.out | apply below_alloc | apply pw_below_drewN | apply below_drew1) | exact HB.out)) hb); clear HO_178; clear HB; have HO_178 := n0_; have HO157 := n1_; have HB := n2_; clear n0_ n1_ n2_; (try clear hb); (try clear hb2); (try clear hk); (try clear hi); (try clear ho0)))
                        go_meet
                        case rel => exact ⟨_, (t155), H', ⟨by have := HJ3.out; have := HJ10.out; have := HK3.out; have := HK4.out; have := HK5.out; have := HJ76.out; first | omega | exact Nat.le_refl _⟩, ⟨by (with_reducible repeat (first | apply Kd.R_alloc | apply Kd.R_drewN | apply Kd.R_drew)); exact Kd.R_mono HO157.out (fun _ hk => hk.2)⟩, ⟨by (with_reducible repeat (first | apply Kd.R_alloc | apply Kd.R_drewN | apply Kd.R_drew)); exact Kd.R_mono HO_178.out (fun _ hk => hk.2)⟩, ⟨by repeat (first | (with_reducible first | exact HB.out | apply below_alloc | apply pw_below_drewN | apply below_drew1) | exact HB.out)⟩⟩
                      case rest => as_aux_lemma =>
                       clear HC81
                       try clear c1
                       try clear p1
                       try clear q1
                       try clear hx1
                       try clear p2
                       try clear c4
                       try clear c5
                       try clear c6
                       try clear p6
                       try clear c7
                       try clear c8
                       try clear q12
                       try clear c13
                       try clear p13
                       try clear q13
                       try clear hx13
                       try clear c14
                       try clear p14
                       try clear q14
                       try clear hx14
                       try clear c15
                       try clear p15
                       try clear q15
                       try clear hx15
                       try clear c41
                       try clear c41b0
                       try clear c42
                       try clear c43
                       try clear c44
                       try clear c44b0
                       try clear c45
                       try clear c45b0
                       try clear c46
                       try clear c46b0
                       try clear c47
                       try clear c47b0
                       try clear c48
                       try clear c48b0
                       try clear c49
                       try clear c49b0
                       try clear c49b1
                       try clear c49b2
                       try clear c50
                       try clear c50b0
                       try clear c51
                       try clear c51b0
                       try clear c53
                       try clear c53b0
                       try clear c53b1
                       try clear c53b2
                       try clear c54
                       try clear c58
                       try clear c58b0
                       try clear c59
                       try clear c59b0
                       try clear c60
                       try clear c60b0
                       try clear c60b1
                       try clear c60b2
                       try clear c62
                       try clear c62b0
                       try clear c62b1
                       try clear c62b2
                       try clear c63
                       try clear p64
                       try clear c69
                       try clear c69b0
                       try clear c69b1
                       try clear c69b2
                       try clear c73
                       try clear c73b0
                       try clear c74
                       try clear c74b0
                       try clear c75
                       try clear c75b0
                       try clear c78
                       try clear c79
                       try clear c79b0
                       try clear c80
                       try clear c82
                       try clear c82b0
                       try clear c82b1
                       try clear hx132_0
                       try clear hx133_0
                       try clear hx134_0
                       try clear hx135_0
                       try clear hx140_0
                       try clear hx150_0
                       try clear hx154_0
                       try clear p1
                       try clear p13
                       try clear p132
                       try clear p133
                       try clear p134
                       try clear p135
                       try clear p14
                       try clear p140
                       try clear p15
                       try clear p150
                       try clear p154
                       try clear p2
                       try clear p6
                       try clear p64
                       try clear q1
                       try clear q12
                       try clear q120
                       try clear q122
                       try clear q123
                       try clear q124
                       try clear q125
                       try clear q126
                       try clear q127
                       try clear q129
                       try clear q13
                       try clear q130
                       try clear q131
                       try clear q132
                       try clear q133
                       try clear q134
                       try clear q135
                       try clear q14
                       try clear q140
                       try clear q15
                       try clear q150
                       try clear q154
                       obtain ⟨kq, x19_80, HA, HJ80, HO_19, HO_178, HB⟩ := hcut
                       cases kq with
                       | zero => exact absurd HA.out (by simp [laws_FnAdAddress.j9])
                       | succ kj80 =>
                        have H := HA.out
                        clear HA
                        simp only [laws_FnAdAddress.j9] at H
                        by_cases c85 : 0 ≤ x180_5
                        ·rw [if_pos c85] at H
                         have c85b0 : decide (0 ≤ x180_5) = true := decide_eq_true c85
                         clear c85
                         by_cases c86 : x180_5 < (l1.length : Int)
                         ·rw [if_pos c86] at H
                          have c86b0 : decide (x180_5 < (l1.length : Int)) = true := decide_eq_true c86
                          clear c86
                          by_cases c87 : (x19_80.length : Int) = ((rd_L1 l1 x180_5).length : Int)
                          ·rw [if_pos c87] at H
                           have c87b0 : ((x19_80.length : Int) == ((rd_L1 l1 x180_5).length : Int)) = true := beq_iff_eq.mpr c87
                           have c87b1 : ((x19_80.length : Int) != ((rd_L1 l1 x180_5).length : Int)) = false := bne_eq_false_iff_eq.mpr c87
                           have c87b2 : (x19_80.length == (rd_L1 l1 x180_5).length) = true := by first | simpa using c87 | (simp at c87 ⊢; omega)
                           clear c87
                           have H' := Aside0.mk H
                           clear H
                           obtain ⟨Ao88, co88, eo88⟩ := Kd.R_slice HO_19.out
                           subst eo88
                           have p158 : 0 ≤ (x180_5 : Int) := of_decide_eq_true (by first | (with_reducible assumption) | assumption)
                           have q158 : x180_5 < (l1.length : Int) := of_decide_eq_true (by first | (with_reducible assumption) | assumption)
                           obtain ⟨ad158, A158_0, c158_0, e158, hx158_0, hl158_0, hi158_0⟩ := at_L1 HR1.out x180_5 p158 q158
                           cases e158
                           replace hx158_0 := (HB.out.cell (World.block_lt_of_cell? w _ hx158_0)).trans hx158_0
                           have HR158_0 := Aside0.mk hi158_0
                           have HC158_0 := Aside0.mk hl158_0
                           clear hi158_0 hl158_0
                           replace p158 := eq_true p158
                           replace q158 := eq_true q158
                           go_wp2
                           go_loopg [215] kj80 (fun kq v215 w' => ∃ (x215_8 : Int), v215 = .int .i64 x215_8 ∧ Aside0 (laws_FnAdAddress.l5 kq l0 l1 l2 x180_5 t146 (t146.length : Int) x180_5 x19_80 (x19_80.length : Int) x215_8 = some r) ∧ Aside0 (kq ≤ kj80) ∧ Aside0 (Kd.R Kd.string 9 w' w.heap.size (fun k_ => some k_ ≠ ((.slice Ao88 x19_80.length co88) : Value).ownBlock) (.slice (some ad150) t146.length co72) t146) ∧ Aside0 (Kd.R Kd.string 9 w' w.heap.size (fun k_ => some k_ ≠ ((.slice (some ad150) t146.length co72) : Value).ownBlock) (.slice Ao88 x19_80.length co88) x19_80) ∧ Aside0 (Below w.heap.size w w'))
                           case atStart => exact ⟨(0), (by first | rfl | (simp; done) | (simp [*]; done)), H', ⟨Nat.le_refl _⟩, ⟨by (with_reducible repeat (first | apply Kd.R_alloc | apply Kd.R_drewN | apply Kd.R_drew)); exact HO_178.out⟩, ⟨by (with_reducible repeat (first | apply Kd.R_alloc | apply Kd.R_drewN | apply Kd.R_drew)); exact HO_19.out⟩, ⟨by repeat (first | (with_reducible first | exact HB.out | apply below_alloc | apply pw_below_drewN | apply below_drew1) | exact HB.out)⟩⟩
                           case round => as_aux_lemma =>
                            clear H'
                            try clear c1
                            try clear p1
                            try clear q1
                            try clear hx1
                            try clear p2
                            try clear c4
                            try clear c5
                            try clear c6
                            try clear p6
                            try clear c7
                            try clear c8
                            try clear q12
                            try clear c13
                            try clear p13
                            try clear q13
                            try clear hx13
                            try clear c14
                            try clear p14
                            try clear q14
                            try clear hx14
                            try clear c15
                            try clear p15
                            try clear q15
                            try clear hx15
                            try clear c41
                            try clear c41b0
                            try clear c42
                            try clear c43
                            try clear c44
                            try clear c44b0
                            try clear c45
                            try clear c45b0
                            try clear c46
                            try clear c46b0
                            try clear c47
                            try clear c47b0
                            try clear c48
                            try clear c48b0
                            try clear c49
                            try clear c49b0
                            try clear c49b1
                            try clear c49b2
                            try clear c50
                            try clear c50b0
                            try clear c51
                            try clear c51b0
                            try clear c53
                            try clear c53b0
                            try clear c53b1
                            try clear c53b2
                            try clear c54
                            try clear c58
                            try clear c58b0
                            try clear c59
                            try clear c59b0
                            try clear c60
                            try clear c60b0
                            try clear c60b1
                            try clear c60b2
                            try clear c62
                            try clear c62b0
                            try clear c62b1
                            try clear c62b2
                            try clear c63
                            try clear p64
                            try clear c69
                            try clear c69b0
                            try clear c69b1
                            try clear c69b2
                            try clear c73
                            try clear c73b0
                            try clear c74
                            try clear c74b0
                            try clear c75
                            try clear c75b0
                            try clear c78
                            try clear c79
                            try clear c79b0
                            try clear c80
                            try clear c82
                            try clear c82b0
                            try clear c82b1
                            try clear c85
                            try clear c85b0
                            try clear c86
                            try clear c86b0
                            try clear c87
                            try clear c87b0
                            try clear c87b1
                            try clear c87b2
                            try clear hx132_0
                            try clear hx133_0
                            try clear hx134_0
                            try clear hx135_0
                            try clear hx140_0
                            try clear hx150_0
                            try clear hx154_0
                            try clear hx158_0
                            try clear p1
                            try clear p13
                            try clear p132
                            try clear p133
                            try clear p134
                            try clear p135
                            try clear p14
                            try clear p140
                            try clear p15
                            try clear p150
                            try clear p154
                            try clear p158
                            try clear p2
                            try clear p6
                            try clear p64
                            try clear q1
                            try clear q12
                            try clear q120
                            try clear q122
                            try clear q123
                            try clear q124
                            try clear q125
                            try clear q126
                            try clear q127
                            try clear q129
                            try clear q13
                            try clear q130
                            try clear q131
                            try clear q132
                            try clear q133
                            try clear q134
                            try clear q135
                            try clear q14
                            try clear q140
                            try clear q15
                            try clear q150
                            try clear q154
                            try clear q158
                            obtain ⟨x215_8, rfl, HA, HK8, HO_178, HO_213, HB⟩ := hrel
                            cases gk with
                            | zero => exact absurd HA.out (by simp [laws_FnAdAddress.l5])
                            | succ k8 =>
                             have H := HA.out
                             clear HA
                             simp only [laws_FnAdAddress.l5] at H
                             by_cases c89 : x215_8 < (x19_80.length : Int)
                             ·rw [if_pos c89] at H
                              have c89b0 : decide (x215_8 < (x19_80.length : Int)) = true := decide_eq_true c89
                              clear c89
                              by_cases c90 : 0 ≤ x215_8
                              ·rw [if_pos c90] at H
                               have c90b0 : decide (0 ≤ x215_8) = true := decide_eq_true c90
                               clear c90
                               by_cases c91 : x215_8 < (x19_80.length : Int)
                               ·rw [if_pos c91] at H
                                have c91b0 : decide (x215_8 < (x19_80.length : Int)) = true := decide_eq_true c91
                                clear c91
                                replace H := Option.bind_eq_some_iff.mp H
                                obtain ⟨⟨t160, t161, t162⟩, A920, H⟩ := H
                                replace H : ((impl_AdUnescape.f k8 t161).bind fun bt163 => (if t162 = true then (if 0 ≤ x180_5 then (if x180_5 < (l1.length : Int) then (if x215_8 < ((rd_L1 l1 x180_5).length : Int) then (if t160.toList = (rdOf ByteArray.empty (rd_L1 l1 x180_5) x215_8).toList then (if bt163.2 = true then (if x180_5 < (l2.length : Int) then (if x215_8 < ((rd_L1 l2 x180_5).length : Int) then (if bt163.1.toList = (rdOf ByteArray.empty (rd_L1 l2 x180_5) x215_8).toList then (laws_FnAdAddress.l5 k8 l0 l1 l2 x180_5 t146 (t146.length : Int) x180_5 x19_80 (x19_80.length : Int) (wrap64 (x215_8 + 1))) else (some false)) else (none)) else (none)) else (some false)) else (some false)) else (none)) else (none)) else (none)) else (some false))) = some r := H
                                have A92 := Aside0.mk A920
                                clear A920
                                replace H := Option.bind_eq_some_iff.mp H
                                obtain ⟨⟨t163, t164⟩, A930, H⟩ := H
                                replace H : (if t162 = true then (if 0 ≤ x180_5 then (if x180_5 < (l1.length : Int) then (if x215_8 < ((rd_L1 l1 x180_5).length : Int) then (if t160.toList = (rdOf ByteArray.empty (rd_L1 l1 x180_5) x215_8).toList then (if t164 = true then (if x180_5 < (l2.length : Int) then (if x215_8 < ((rd_L1 l2 x180_5).length : Int) then (if t163.toList = (rdOf ByteArray.empty (rd_L1 l2 x180_5) x215_8).toList then (laws_FnAdAddress.l5 k8 l0 l1 l2 x180_5 t146 (t146.length : Int) x180_5 x19_80 (x19_80.length : Int) (wrap64 (x215_8 + 1))) else (some false)) else (none)) else (none)) else (some false)) else (some false)) else (none)) else (none)) else (none)) else (some false)) = some r := H
                                have A93 := Aside0.mk A930
                                clear A930
                                by_cases c94 : t162 = true
                                ·subst c94
                                 have H1 : (if 0 ≤ x180_5 then (if x180_5 < (l1.length : Int) then (if x215_8 < ((rd_L1 l1 x180_5).length : Int) then (if t160.toList = (rdOf ByteArray.empty (rd_L1 l1 x180_5) x215_8).toList then (if t164 = true then (if x180_5 < (l2.length : Int) then (if x215_8 < ((rd_L1 l2 x180_5).length : Int) then (if t163.toList = (rdOf ByteArray.empty (rd_L1 l2 x180_5) x215_8).toList then (laws_FnAdAddress.l5 k8 l0 l1 l2 x180_5 t146 (t146.length : Int) x180_5 x19_80 (x19_80.length : Int) (wrap64 (x215_8 + 1))) else (some false)) else (none)) else (none)) else (some false)) else (some false)) else (none)) else (none)) else (none)) = some r := by rw [if_pos rfl] at H; exact H
                                 clear H
                                 have H := H1
                                 clear H1
                                 by_cases c95 : 0 ≤ x180_5
                                 ·rw [if_pos c95] at H
                                  have c95b0 : decide (0 ≤ x180_5) = true := decide_eq_true c95
                                  clear c95
                                  by_cases c96 : x180_5 < (l1.length : Int)
                                  ·rw [if_pos c96] at H
                                   have c96b0 : decide (x180_5 < (l1.length : Int)) = true := decide_eq_true c96
                                   clear c96
                                   by_cases c97 : x215_8 < ((rd_L1 l1 x180_5).length : Int)
                                   ·rw [if_pos c97] at H
                                    have c97b0 : decide (x215_8 < ((rd_L1 l1 x180_5).length : Int)) = true := decide_eq_true c97
                                    clear c97
                                    by_cases c98 : t160.toList = (rdOf ByteArray.empty (rd_L1 l1 x180_5) x215_8).toList
                                    ·rw [if_pos c98] at H
                                     have c98b0 : (t160.toList == (rdOf ByteArray.empty (rd_L1 l1 x180_5) x215_8).toList) = true := beq_iff_eq.mpr c98
                                     have c98b1 : (t160.toList != (rdOf ByteArray.empty (rd_L1 l1 x180_5) x215_8).toList) = false := bne_eq_false_iff_eq.mpr c98
                                     clear c98
                                     by_cases c99 : t164 = true
                                     ·subst c99
                                      have H1 : (if x180_5 < (l2.length : Int) then (if x215_8 < ((rd_L1 l2 x180_5).length : Int) then (if t163.toList = (rdOf ByteArray.empty (rd_L1 l2 x180_5) x215_8).toList then (laws_FnAdAddress.l5 k8 l0 l1 l2 x180_5 t146 (t146.length : Int) x180_5 x19_80 (x19_80.length : Int) (wrap64 (x215_8 + 1))) else (some false)) else (none)) else (none)) = some r := by rw [if_pos rfl] at H; exact H
                                      clear H
                                      have H := H1
                                      clear H1
                                      by_cases c100 : x180_5 < (l2.length : Int)
                                      ·rw [if_pos c100] at H
                                       have c100b0 : decide (x180_5 < (l2.length : Int)) = true := decide_eq_true c100
                                       clear c100
                                       by_cases c101 : x215_8 < ((rd_L1 l2 x180_5).length : Int)
                                       ·rw [if_pos c101] at H
                                        have c101b0 : decide (x215_8 < ((rd_L1 l2 x180_5).length : Int)) = true := decide_eq_true c101
                                        clear c101
                                        by_cases c102 : t163.toList = (rdOf ByteArray.empty (rd_L1 l2 x180_5) x215_8).toList
                                        ·rw [if_pos c102] at H
                                         have c102b0 : (t163.toList == (rdOf ByteArray.empty (rd_L1 l2 x180_5) x215_8).toList) = true := beq_iff_eq.mpr c102
                                         have c102b1 : (t163.toList != (rdOf ByteArray.empty (rd_L1 l2 x180_5) x215_8).toList) = false := bne_eq_false_iff_eq.mpr c102
                                         clear c102
                                         have H' := Aside0.mk H
                                         clear H
                                         have p159 : 0 ≤ (x215_8 : Int) := of_decide_eq_true (by first | (with_reducible assumption) | assumption)
                                         have q159 : x215_8 < (x19_80.length : Int) := of_decide_eq_true (by first | (with_reducible assumption) | assumption)
                                         obtain ⟨ad159, e159, hx159_0⟩ := Kd.at_string (Kd.R_reads' HO_213.out).2.2 x215_8 p159 q159
                                         cases e159
                                         replace p159 := eq_true p159
                                         replace q159 := eq_true q159
                                         go_wp2_with (first | ((with_reducible refine gate_callee (f := 15) rfl ?_); refine goesL_ (some 222) rfl rfl Try.func15 (by kernel_rfl) rfl #[.string (rdOf ByteArray.empty x19_80 x215_8), .int .u8 61] rfl (by (try simp only [List.map_toArray, List.map_cons, List.map_nil]); first | done | rfl | (simp only [List.length_drop, List.length_take]; rfl)) ?_; (with_reducible refine (spec_Cut.calls k8 (rdOf ByteArray.empty x19_80 x215_8) 61 t160 t161 true _ A92.out).mono ?_); rintro e w' ⟨rfl, ⟨nd, rfl⟩⟩; refine ⟨_, rfl, ?_⟩) | ((with_reducible refine gate_callee (f := 7) rfl ?_); refine goesL_ (some 228) rfl rfl Try.func7 (by kernel_rfl) rfl #[.string t161] rfl (by (try simp only [List.map_toArray, List.map_cons, List.map_nil]); first | done | rfl | (simp only [List.length_drop, List.length_take]; rfl)) ?_; (with_reducible refine (impl_AdUnescape.calls k8 t161 t163 true _ A93.out).mono ?_); rintro e w103 ⟨rfl, hb⟩; refine ⟨_, rfl, ?_⟩; have n0_ := Aside0.mk (Kd.R_below (by (with_reducible repeat (first | apply Kd.R_alloc | apply Kd.R_drewN | apply Kd.R_drew)); exact HO_178.out) hb); have n1_ := Aside0.mk (Kd.R_below (by (with_reducible repeat (first | apply Kd.R_alloc | apply Kd.R_drewN | apply Kd.R_drew)); exact HO_213.out) hb); have n2_ := Aside0.mk (below_step (by repeat (first | (with_reducible first | exact HB.out | apply below_alloc | apply pw_below_drewN | apply below_drew1) | exact HB.out)) hb); clear HO_178; clear HO_213; clear HB; have HO_178 := n0_; have HO_213 := n1_; have HB := n2_; clear n0_ n1_ n2_; (try clear hb); (try clear hb2); (try clear hk); (try clear hi); have p165 : 0 ≤ (x180_5 : Int) := of_decide_eq_true (by first | (with_reducible assumption) | assumption); have q165 : x180_5 < (l1.length : Int) := of_decide_eq_true (by first | (with_reducible assumption) | assumption); obtain ⟨ad165, A165_0, c165_0, e165, hx165_0, hl165_0, hi165_0⟩ := at_L1 HR1.out x180_5 p165 q165; obtain rfl : ad158 = ad165 := (by injection e165); replace hx165_0 := (HB.out.cell (World.block_lt_of_cell? w _ hx165_0)).trans hx165_0; have HR165_0 := Aside0.mk hi165_0; have HC165_0 := Aside0.mk hl165_0; clear hi165_0 hl165_0; replace p165 := eq_true p165; replace q165 := eq_true q165; have p166 : 0 ≤ (x215_8 : Int) := of_decide_eq_true (by first | (with_reducible assumption) | assumption); have q166 : x215_8 < ((rd_L1 l1 x180_5).length : Int) := of_decide_eq_true (by first | (with_reducible assumption) | assumption); obtain ⟨ad166, e166, hx166_0⟩ := Kd.at_string HR165_0.out x215_8 p166 q166; cases e166; replace hx166_0 := (HB.out.cell (World.block_lt_of_cell? w _ hx166_0)).trans hx166_0; replace p166 := eq_true p166; replace q166 := eq_true q166; have p167 : 0 ≤ (x180_5 : Int) := of_decide_eq_true (by first | (with_reducible assumption) | assumption); have q167 : x180_5 < (l2.length : Int) := of_decide_eq_true (by first | (with_reducible assumption) | assumption); obtain ⟨ad167, A167_0, c167_0, e167, hx167_0, hl167_0, hi167_0⟩ := at_L1 HR2.out x180_5 p167 q167; cases e167; replace hx167_0 := (HB.out.cell (World.block_lt_of_cell? w _ hx167_0)).trans hx167_0; have HR167_0 := Aside0.mk hi167_0; have HC167_0 := Aside0.mk hl167_0; clear hi167_0 hl167_0; replace p167 := eq_true p167; replace q167 := eq_true q167; have p168 : 0 ≤ (x215_8 : Int) := of_decide_eq_true (by first | (with_reducible assumption) | assumption); have q168 : x215_8 < ((rd_L1 l2 x180_5).length : Int) := of_decide_eq_true (by first | (with_reducible assumption) | assumption); obtain ⟨ad168, e168, hx168_0⟩ := Kd.at_string HR167_0.out x215_8 p168 q168; cases e168; replace hx168_0 := (HB.out.cell (World.block_lt_of_cell? w _ hx168_0)).trans hx168_0; replace p168 := eq_true p168; replace q168 := eq_true q168))
                                         go_roundg k8
                                         case measure => have := HJ3.out; have := HJ10.out; have := HK3.out; have := HK4.out; have := HK5.out; have := HJ76.out; have := HJ80.out; have := HK8.out; omega
                                         case rel => exact ⟨(wrap64 (x215_8 + 1)), (by first | rfl | (simp; done) | (simp [*]; done)), H', ⟨by have := HJ3.out; have := HJ10.out; have := HK3.out; have := HK4.out; have := HK5.out; have := HJ76.out; have := HJ80.out; have := HK8.out; omega⟩, ⟨by (with_reducible repeat (first | apply Kd.R_alloc | apply Kd.R_drewN | apply Kd.R_drew)); exact HO_178.out⟩, ⟨by (with_reducible repeat (first | apply Kd.R_alloc | apply Kd.R_drewN | apply Kd.R_drew)); exact HO_213.out⟩, ⟨by repeat (first | (with_reducible first | exact HB.out | apply below_alloc | apply pw_below_drewN | apply below_drew1) | exact HB.out)⟩⟩
                                        ·rw [if_neg c102] at H
                                         have c102b0 : (t163.toList == (rdOf ByteArray.empty (rd_L1 l2 x180_5) x215_8).toList) = false := beq_eq_false_iff_ne.mpr c102
                                         have c102b1 : (t163.toList != (rdOf ByteArray.empty (rd_L1 l2 x180_5) x215_8).toList) = true := bne_iff_ne.mpr c102
                                         obtain rfl := Option.some.inj H
                                         have p159 : 0 ≤ (x215_8 : Int) := of_decide_eq_true (by first | (with_reducible assumption) | assumption)
                                         have q159 : x215_8 < (x19_80.length : Int) := of_decide_eq_true (by first | (with_reducible assumption) | assumption)
                                         obtain ⟨ad159, e159, hx159_0⟩ := Kd.at_string (Kd.R_reads' HO_213.out).2.2 x215_8 p159 q159
                                         cases e159
                                         replace p159 := eq_true p159
                                         replace q159 := eq_true q159
                                         go_wp2_with (first | ((with_reducible refine gate_callee (f := 15) rfl ?_); refine goesL_ (some 222) rfl rfl Try.func15 (by kernel_rfl) rfl #[.string (rdOf ByteArray.empty x19_80 x215_8), .int .u8 61] rfl (by (try simp only [List.map_toArray, List.map_cons, List.map_nil]); first | done | rfl | (simp only [List.length_drop, List.length_take]; rfl)) ?_; (with_reducible refine (spec_Cut.calls k8 (rdOf ByteArray.empty x19_80 x215_8) 61 t160 t161 true _ A92.out).mono ?_); rintro e w' ⟨rfl, ⟨nd, rfl⟩⟩; refine ⟨_, rfl, ?_⟩) | ((with_reducible refine gate_callee (f := 7) rfl ?_); refine goesL_ (some 228) rfl rfl Try.func7 (by kernel_rfl) rfl #[.string t161] rfl (by (try simp only [List.map_toArray, List.map_cons, List.map_nil]); first | done | rfl | (simp only [List.length_drop, List.length_take]; rfl)) ?_; (with_reducible refine (impl_AdUnescape.calls k8 t161 t163 true _ A93.out).mono ?_); rintro e w104 ⟨rfl, hb⟩; refine ⟨_, rfl, ?_⟩; have n0_ := Aside0.mk (Kd.R_below (by (with_reducible repeat (first | apply Kd.R_alloc | apply Kd.R_drewN | apply Kd.R_drew)); exact HO_178.out) hb); have n1_ := Aside0.mk (Kd.R_below (by (with_reducible repeat (first | apply Kd.R_alloc | apply Kd.R_drewN | apply Kd.R_drew)); exact HO_213.out) hb); have n2_ := Aside0.mk (below_step (by repeat (first | (with_reducible first | exact HB.out | apply below_alloc | apply pw_below_drewN | apply below_drew1) | exact HB.out)) hb); clear HO_178; clear HO_213; clear HB; have HO_178 := n0_; have HO_213 := n1_; have HB := n2_; clear n0_ n1_ n2_; (try clear hb); (try clear hb2); (try clear hk); (try clear hi); have p165 : 0 ≤ (x180_5 : Int) := of_decide_eq_true (by first | (with_reducible assumption) | assumption); have q165 : x180_5 < (l1.length : Int) := of_decide_eq_true (by first | (with_reducible assumption) | assumption); obtain ⟨ad165, A165_0, c165_0, e165, hx165_0, hl165_0, hi165_0⟩ := at_L1 HR1.out x180_5 p165 q165; obtain rfl : ad158 = ad165 := (by injection e165); replace hx165_0 := (HB.out.cell (World.block_lt_of_cell? w _ hx165_0)).trans hx165_0; have HR165_0 := Aside0.mk hi165_0; have HC165_0 := Aside0.mk hl165_0; clear hi165_0 hl165_0; replace p165 := eq_true p165; replace q165 := eq_true q165; have p166 : 0 ≤ (x215_8 : Int) := of_decide_eq_true (by first | (with_reducible assumption) | assumption); have q166 : x215_8 < ((rd_L1 l1 x180_5).length : Int) := of_decide_eq_true (by first | (with_reducible assumption) | assumption); obtain ⟨ad166, e166, hx166_0⟩ := Kd.at_string HR165_0.out x215_8 p166 q166; cases e166; replace hx166_0 := (HB.out.cell (World.block_lt_of_cell? w _ hx166_0)).trans hx166_0; replace p166 := eq_true p166; replace q166 := eq_true q166; have p167 : 0 ≤ (x180_5 : Int) := of_decide_eq_true (by first | (with_reducible assumption) | assumption); have q167 : x180_5 < (l2.length : Int) := of_decide_eq_true (by first | (with_reducible assumption) | assumption); obtain ⟨ad167, A167_0, c167_0, e167, hx167_0, hl167_0, hi167_0⟩ := at_L1 HR2.out x180_5 p167 q167; cases e167; replace hx167_0 := (HB.out.cell (World.block_lt_of_cell? w _ hx167_0)).trans hx167_0; have HR167_0 := Aside0.mk hi167_0; have HC167_0 := Aside0.mk hl167_0; clear hi167_0 hl167_0; replace p167 := eq_true p167; replace q167 := eq_true q167; have p168 : 0 ≤ (x215_8 : Int) := of_decide_eq_true (by first | (with_reducible assumption) | assumption); have q168 : x215_8 < ((rd_L1 l2 x180_5).length : Int) := of_decide_eq_true (by first | (with_reducible assumption) | assumption); obtain ⟨ad168, e168, hx168_0⟩ := Kd.at_string HR167_0.out x215_8 p168 q168; cases e168; replace hx168_0 := (HB.out.cell (World.block_lt_of_cell? w _ hx168_0)).trans hx168_0; replace p168 := eq_true p168; replace q168 := eq_true q168))
                                         go_ret
                                         exact ⟨by first | rfl | (simp [errW_none, errW_some] <;> rfl) | (simp [*, errW_none, errW_some] <;> rfl) | (simp (disch := omega) only [wrap64_id] <;> rfl), by repeat (first | (with_reducible first | exact HB.out | apply below_alloc | apply pw_below_drewN | apply below_drew1) | exact HB.out)⟩
                                       ·rw [if_neg c101] at H
                                        exact absurd H (by simp)
                                      ·rw [if_neg c100] at H
                                       exact absurd H (by simp)
                                     ·replace c99 := Bool.eq_false_iff.mpr c99
                                      subst c99
                                      have H1 : (some false) = some r := by rw [if_neg (show ¬ (false = true) by decide)] at H; exact H
                                      clear H
                                      have H := H1
                                      clear H1
                                      obtain rfl := Option.some.inj H
                                      have p159 : 0 ≤ (x215_8 : Int) := of_decide_eq_true (by first | (with_reducible assumption) | assumption)
                                      have q159 : x215_8 < (x19_80.length : Int) := of_decide_eq_true (by first | (with_reducible assumption) | assumption)
                                      obtain ⟨ad159, e159, hx159_0⟩ := Kd.at_string (Kd.R_reads' HO_213.out).2.2 x215_8 p159 q159
                                      cases e159
                                      replace p159 := eq_true p159
                                      replace q159 := eq_true q159
                                      go_wp2_with (first | ((with_reducible refine gate_callee (f := 15) rfl ?_); refine goesL_ (some 222) rfl rfl Try.func15 (by kernel_rfl) rfl #[.string (rdOf ByteArray.empty x19_80 x215_8), .int .u8 61] rfl (by (try simp only [List.map_toArray, List.map_cons, List.map_nil]); first | done | rfl | (simp only [List.length_drop, List.length_take]; rfl)) ?_; (with_reducible refine (spec_Cut.calls k8 (rdOf ByteArray.empty x19_80 x215_8) 61 t160 t161 true _ A92.out).mono ?_); rintro e w' ⟨rfl, ⟨nd, rfl⟩⟩; refine ⟨_, rfl, ?_⟩) | ((with_reducible refine gate_callee (f := 7) rfl ?_); refine goesL_ (some 228) rfl rfl Try.func7 (by kernel_rfl) rfl #[.string t161] rfl (by (try simp only [List.map_toArray, List.map_cons, List.map_nil]); first | done | rfl | (simp only [List.length_drop, List.length_take]; rfl)) ?_; (with_reducible refine (impl_AdUnescape.calls k8 t161 t163 false _ A93.out).mono ?_); rintro e w105 ⟨rfl, hb⟩; refine ⟨_, rfl, ?_⟩; have n0_ := Aside0.mk (Kd.R_below (by (with_reducible repeat (first | apply Kd.R_alloc | apply Kd.R_drewN | apply Kd.R_drew)); exact HO_178.out) hb); have n1_ := Aside0.mk (Kd.R_below (by (with_reducible repeat (first | apply Kd.R_alloc | apply Kd.R_drewN | apply Kd.R_drew)); exact HO_213.out) hb); have n2_ := Aside0.mk (below_step (by repeat (first | (with_reducible first | exact HB.out | apply below_alloc | apply pw_below_drewN | apply below_drew1) | exact HB.out)) hb); clear HO_178; clear HO_213; clear HB; have HO_178 := n0_; have HO_213 := n1_; have HB := n2_; clear n0_ n1_ n2_; (try clear hb); (try clear hb2); (try clear hk); (try clear hi); have p165 : 0 ≤ (x180_5 : Int) := of_decide_eq_true (by first | (with_reducible assumption) | assumption); have q165 : x180_5 < (l1.length : Int) := of_decide_eq_true (by first | (with_reducible assumption) | assumption); obtain ⟨ad165, A165_0, c165_0, e165, hx165_0, hl165_0, hi165_0⟩ := at_L1 HR1.out x180_5 p165 q165; obtain rfl : ad158 = ad165 := (by injection e165); replace hx165_0 := (HB.out.cell (World.block_lt_of_cell? w _ hx165_0)).trans hx165_0; have HR165_0 := Aside0.mk hi165_0; have HC165_0 := Aside0.mk hl165_0; clear hi165_0 hl165_0; replace p165 := eq_true p165; replace q165 := eq_true q165; have p166 : 0 ≤ (x215_8 : Int) := of_decide_eq_true (by first | (with_reducible assumption) | assumption); have q166 : x215_8 < ((rd_L1 l1 x180_5).length : Int) := of_decide_eq_true (by first | (with_reducible assumption) | assumption); obtain ⟨ad166, e166, hx166_0⟩ := Kd.at_string HR165_0.out x215_8 p166 q166; cases e166; replace hx166_0 := (HB.out.cell (World.block_lt_of_cell? w _ hx166_0)).trans hx166_0; replace p166 := eq_true p166; replace q166 := eq_true q166))
                                      go_ret
                                      exact ⟨by first | rfl | (simp [errW_none, errW_some] <;> rfl) | (simp [*, errW_none, errW_some] <;> rfl) | (simp (disch := omega) only [wrap64_id] <;> rfl), by repeat (first | (with_reducible first | exact HB.out | apply below_alloc | apply pw_below_drewN | apply below_drew1) | exact HB.out)⟩
                                    ·rw [if_neg c98] at H
                                     have c98b0 : (t160.toList == (rdOf ByteArray.empty (rd_L1 l1 x180_5) x215_8).toList) = false := beq_eq_false_iff_ne.mpr c98
                                     have c98b1 : (t160.toList != (rdOf ByteArray.empty (rd_L1 l1 x180_5) x215_8).toList) = true := bne_iff_ne.mpr c98
                                     obtain rfl := Option.some.inj H
                                     have p159 : 0 ≤ (x215_8 : Int) := of_decide_eq_true (by first | (with_reducible assumption) | assumption)
                                     have q159 : x215_8 < (x19_80.length : Int) := of_decide_eq_true (by first | (with_reducible assumption) | assumption)
                                     obtain ⟨ad159, e159, hx159_0⟩ := Kd.at_string (Kd.R_reads' HO_213.out).2.2 x215_8 p159 q159
                                     cases e159
                                     replace p159 := eq_true p159
                                     replace q159 := eq_true q159
                                     go_wp2_with (first | ((with_reducible refine gate_callee (f := 15) rfl ?_); refine goesL_ (some 222) rfl rfl Try.func15 (by kernel_rfl) rfl #[.string (rdOf ByteArray.empty x19_80 x215_8), .int .u8 61] rfl (by (try simp only [List.map_toArray, List.map_cons, List.map_nil]); first | done | rfl | (simp only [List.length_drop, List.length_take]; rfl)) ?_; (with_reducible refine (spec_Cut.calls k8 (rdOf ByteArray.empty x19_80 x215_8) 61 t160 t161 true _ A92.out).mono ?_); rintro e w' ⟨rfl, ⟨nd, rfl⟩⟩; refine ⟨_, rfl, ?_⟩) | ((with_reducible refine gate_callee (f := 7) rfl ?_); refine goesL_ (some 228) rfl rfl Try.func7 (by kernel_rfl) rfl #[.string t161] rfl (by (try simp only [List.map_toArray, List.map_cons, List.map_nil]); first | done | rfl | (simp only [List.length_drop, List.length_take]; rfl)) ?_; (with_reducible refine (impl_AdUnescape.calls k8 t161 t163 t164 _ A93.out).mono ?_); rintro e w106 ⟨rfl, hb⟩; refine ⟨_, rfl, ?_⟩; have n0_ := Aside0.mk (Kd.R_below (by (with_reducible repeat (first | apply Kd.R_alloc | apply Kd.R_drewN | apply Kd.R_drew)); exact HO_178.out) hb); have n1_ := Aside0.mk (Kd.R_below (by (with_reducible repeat (first | apply Kd.R_alloc | apply Kd.R_drewN | apply Kd.R_drew)); exact HO_213.out) hb); have n2_ := Aside0.mk (below_step (by repeat (first | (with_reducible first | exact HB.out | apply below_alloc | apply pw_below_drewN | apply below_drew1) | exact HB.out)) hb); clear HO_178; clear HO_213; clear HB; have HO_178 := n0_; have HO_213 := n1_; have HB := n2_; clear n0_ n1_ n2_; (try clear hb); (try clear hb2); (try clear hk); (try clear hi); have p165 : 0 ≤ (x180_5 : Int) := of_decide_eq_true (by first | (with_reducible assumption) | assumption); have q165 : x180_5 < (l1.length : Int) := of_decide_eq_true (by first | (with_reducible assumption) | assumption); obtain ⟨ad165, A165_0, c165_0, e165, hx165_0, hl165_0, hi165_0⟩ := at_L1 HR1.out x180_5 p165 q165; obtain rfl : ad158 = ad165 := (by injection e165); replace hx165_0 := (HB.out.cell (World.block_lt_of_cell? w _ hx165_0)).trans hx165_0; have HR165_0 := Aside0.mk hi165_0; have HC165_0 := Aside0.mk hl165_0; clear hi165_0 hl165_0; replace p165 := eq_true p165; replace q165 := eq_true q165; have p166 : 0 ≤ (x215_8 : Int) := of_decide_eq_true (by first | (with_reducible assumption) | assumption); have q166 : x215_8 < ((rd_L1 l1 x180_5).length : Int) := of_decide_eq_true (by first | (with_reducible assumption) | assumption); obtain ⟨ad166, e166, hx166_0⟩ := Kd.at_string HR165_0.out x215_8 p166 q166; cases e166; replace hx166_0 := (HB.out.cell (World.block_lt_of_cell? w _ hx166_0)).trans hx166_0; replace p166 := eq_true p166; replace q166 := eq_true q166))
                                     go_ret
                                     exact ⟨by first | rfl | (simp [errW_none, errW_some] <;> rfl) | (simp [*, errW_none, errW_some] <;> rfl) | (simp (disch := omega) only [wrap64_id] <;> rfl), by repeat (first | (with_reducible first | exact HB.out | apply below_alloc | apply pw_below_drewN | apply below_drew1) | exact HB.out)⟩
                                   ·rw [if_neg c97] at H
                                    exact absurd H (by simp)
                                  ·rw [if_neg c96] at H
                                   exact absurd H (by simp)
                                 ·rw [if_neg c95] at H
                                  exact absurd H (by simp)
                                ·replace c94 := Bool.eq_false_iff.mpr c94
                                 subst c94
                                 have H1 : (some false) = some r := by rw [if_neg (show ¬ (false = true) by decide)] at H; exact H
                                 clear H
                                 have H := H1
                                 clear H1
                                 obtain rfl := Option.some.inj H
                                 have p159 : 0 ≤ (x215_8 : Int) := of_decide_eq_true (by first | (with_reducible assumption) | assumption)
                                 have q159 : x215_8 < (x19_80.length : Int) := of_decide_eq_true (by first | (with_reducible assumption) | assumption)
                                 obtain ⟨ad159, e159, hx159_0⟩ := Kd.at_string (Kd.R_reads' HO_213.out).2.2 x215_8 p159 q159
                                 cases e159
                                 replace p159 := eq_true p159
                                 replace q159 := eq_true q159
                                 go_wp2_with (first | ((with_reducible refine gate_callee (f := 15) rfl ?_); refine goesL_ (some 222) rfl rfl Try.func15 (by kernel_rfl) rfl #[.string (rdOf ByteArray.empty x19_80 x215_8), .int .u8 61] rfl (by (try simp only [List.map_toArray, List.map_cons, List.map_nil]); first | done | rfl | (simp only [List.length_drop, List.length_take]; rfl)) ?_; (with_reducible refine (spec_Cut.calls k8 (rdOf ByteArray.empty x19_80 x215_8) 61 t160 t161 false _ A92.out).mono ?_); rintro e w' ⟨rfl, ⟨nd, rfl⟩⟩; refine ⟨_, rfl, ?_⟩) | ((with_reducible refine gate_callee (f := 7) rfl ?_); refine goesL_ (some 228) rfl rfl Try.func7 (by kernel_rfl) rfl #[.string t161] rfl (by (try simp only [List.map_toArray, List.map_cons, List.map_nil]); first | done | rfl | (simp only [List.length_drop, List.length_take]; rfl)) ?_; (with_reducible refine (impl_AdUnescape.calls k8 t161 t163 t164 _ A93.out).mono ?_); rintro e w107 ⟨rfl, hb⟩; refine ⟨_, rfl, ?_⟩; have n0_ := Aside0.mk (Kd.R_below (by (with_reducible repeat (first | apply Kd.R_alloc | apply Kd.R_drewN | apply Kd.R_drew)); exact HO_178.out) hb); have n1_ := Aside0.mk (Kd.R_below (by (with_reducible repeat (first | apply Kd.R_alloc | apply Kd.R_drewN | apply Kd.R_drew)); exact HO_213.out) hb); have n2_ := Aside0.mk (below_step (by repeat (first | (with_reducible first | exact HB.out | apply below_alloc | apply pw_below_drewN | apply below_drew1) | exact HB.out)) hb); clear HO_178; clear HO_213; clear HB; have HO_178 := n0_; have HO_213 := n1_; have HB := n2_; clear n0_ n1_ n2_; (try clear hb); (try clear hb2); (try clear hk); (try clear hi)))
                                 go_ret
                                 exact ⟨by first | rfl | (simp [errW_none, errW_some] <;> rfl) | (simp [*, errW_none, errW_some] <;> rfl) | (simp (disch := omega) only [wrap64_id] <;> rfl), by repeat (first | (with_reducible first | exact HB.out | apply below_alloc | apply pw_below_drewN | apply below_drew1) | exact HB.out)⟩
                               ·rw [if_neg c91] at H
                                exact absurd H (by simp)
                              ·rw [if_neg c90] at H
                               exact absurd H (by simp)
                             ·rw [if_neg c89] at H
                              have c89b0 : decide (x215_8 < (x19_80.length : Int)) = false := decide_eq_false c89
                              clear c89
                              have H' := Aside0.mk H
                              clear H
                              go_wp2
                              go_roundg k8
                              case measure => have := HJ3.out; have := HJ10.out; have := HK3.out; have := HK4.out; have := HK5.out; have := HJ76.out; have := HJ80.out; have := HK8.out; omega
                              case rel => exact ⟨(wrap64 (x180_5 + 1)), (by first | rfl | (simp; done) | (simp [*]; done)), H', ⟨by have := HJ3.out; have := HJ10.out; have := HK3.out; have := HK4.out; have := HK5.out; have := HJ76.out; have := HJ80.out; have := HK8.out; omega⟩, ⟨by (with_reducible repeat (first | apply Kd.R_alloc | apply Kd.R_drewN | apply Kd.R_drew)); exact Kd.R_mono HO_178.out (fun _ hk => trivial)⟩, ⟨by repeat (first | (with_reducible first | exact HB.out | apply below_alloc | apply pw_below_drewN | apply below_drew1) | exact HB.out)⟩⟩
                          ·rw [if_neg c87] at H
                           have c87b0 : ((x19_80.length : Int) == ((rd_L1 l1 x180_5).length : Int)) = false := beq_eq_false_iff_ne.mpr c87
                           have c87b1 : ((x19_80.length : Int) != ((rd_L1 l1 x180_5).length : Int)) = true := bne_iff_ne.mpr c87
                           have c87b2 : (x19_80.length == (rd_L1 l1 x180_5).length) = false := by first | simpa using c87 | (simp at c87 ⊢; omega)
                           obtain rfl := Option.some.inj H
                           obtain ⟨Ao108, co108, eo108⟩ := Kd.R_slice HO_19.out
                           subst eo108
                           have p158 : 0 ≤ (x180_5 : Int) := of_decide_eq_true (by first | (with_reducible assumption) | assumption)
                           have q158 : x180_5 < (l1.length : Int) := of_decide_eq_true (by first | (with_reducible assumption) | assumption)
                           obtain ⟨ad158, A158_0, c158_0, e158, hx158_0, hl158_0, hi158_0⟩ := at_L1 HR1.out x180_5 p158 q158
                           cases e158
                           replace hx158_0 := (HB.out.cell (World.block_lt_of_cell? w _ hx158_0)).trans hx158_0
                           have HR158_0 := Aside0.mk hi158_0
                           have HC158_0 := Aside0.mk hl158_0
                           clear hi158_0 hl158_0
                           replace p158 := eq_true p158
                           replace q158 := eq_true q158
                           go_wp2
                           go_ret
                           exact ⟨by first | rfl | (simp [errW_none, errW_some] <;> rfl) | (simp [*, errW_none, errW_some] <;> rfl) | (simp (disch := omega) only [wrap64_id] <;> rfl), by repeat (first | (with_reducible first | exact HB.out | apply below_alloc | apply pw_below_drewN | apply below_drew1) | exact HB.out)⟩
                         ·rw [if_neg c86] at H
                          exact absurd H (by simp)
                        ·rw [if_neg c85] at H
                         exact absurd H (by simp)
                  ·rw [if_neg c75] at H
                   exact absurd H (by simp)
                 ·rw [if_neg c74] at H
                  exact absurd H (by simp)
                ·rw [if_neg c73] at H
                 have c73b0 : decide (x180_5 < (t146.length : Int)) = false := decide_eq_false c73
                 clear c73
                 replace H := Option.bind_eq_some_iff.mp H
                 obtain ⟨t149, A1090, H⟩ := H
                 replace H : (some (t149.toList == ([37, 51, 100] : List UInt8))) = some r := H
                 have A109 := Aside0.mk A1090
                 clear A1090
                 obtain rfl := Option.some.inj H
                 go_wp2_with (first | ((with_reducible refine gate_callee (f := 8) rfl ?_); refine goesL_ (some 261) rfl rfl Try.func8 (by kernel_rfl) rfl #[.string (⟨#[61]⟩ : ByteArray)] rfl (by (try simp only [List.map_toArray, List.map_cons, List.map_nil]); first | done | rfl | (simp only [List.length_drop, List.length_take]; rfl)) ?_; (with_reducible refine (impl_AdEscape.calls k5 (⟨#[61]⟩ : ByteArray) t149 _ A109.out).mono ?_); rintro e w110 ⟨rfl, hb⟩; refine ⟨_, rfl, ?_⟩; have n0_ := Aside0.mk (Kd.R_below (by (with_reducible repeat (first | apply Kd.R_alloc | apply Kd.R_drewN | apply Kd.R_drew)); exact HO_178.out) hb); have n1_ := Aside0.mk (below_step (by repeat (first | (with_reducible first | exact HB.out | apply below_alloc | apply pw_below_drewN | apply below_drew1) | exact HB.out)) hb); clear HO_178; clear HB; have HO_178 := n0_; have HB := n1_; clear n0_ n1_; (try clear hb); (try clear hb2); (try clear hk); (try clear hi)))
                 go_ret
                 exact ⟨by first | rfl | (simp [errW_none, errW_some] <;> rfl) | (simp [*, errW_none, errW_some] <;> rfl) | (simp (disch := omega) only [wrap64_id] <;> rfl), by repeat (first | (with_reducible first | exact HB.out | apply below_alloc | apply pw_below_drewN | apply below_drew1) | exact HB.out)⟩
             ·rw [if_neg c69] at H
              have c69b0 : ((t146.length : Int) == (l0.length : Int)) = false := beq_eq_false_iff_ne.mpr c69
              have c69b1 : ((t146.length : Int) != (l0.length : Int)) = true := bne_iff_ne.mpr c69
              have c69b2 : (t146.length == l0.length) = false := by first | simpa using c69 | (simp at c69 ⊢; omega)
              obtain rfl := Option.some.inj H
              obtain ⟨Ao111, co111, eo111⟩ := Kd.R_slice HO_9.out
              subst eo111
              go_wp2_with (first | ((with_reducible refine gate_callee (f := 13) rfl ?_); refine goesL_ (some 171) rfl rfl Try.func13 (by kernel_rfl) rfl #[.slice Ao111 x9_4.length co111, .string (⟨#[59]⟩ : ByteArray)] rfl (by (try simp only [List.map_toArray, List.map_cons, List.map_nil]); first | done | rfl | (simp only [List.length_drop, List.length_take]; rfl)) ?_; (with_reducible refine (spec_Joined.calls k4 _ _ x9_4 (⟨#[59]⟩ : ByteArray) t145 _ ?side1 ?side2 A67.out).mono ?_); (case side1 => repeat (first | exact (Kd.R_reads' HO_9.out).2.2 | (with_reducible refine Kd.C_alloc ?_ _) | (with_reducible refine Kd.C_drewN ?_ _) | (with_reducible refine Kd.C_drew ?_))); (case side2 => exact (Kd.R_reads' HO_9.out).2.1); rintro e w' ⟨rfl, ⟨nd, rfl⟩⟩; refine ⟨_, rfl, ?_⟩) | ((with_reducible refine gate_callee (f := 14) rfl ?_); refine goesL_ (some 172) rfl rfl Try.func14 (by kernel_rfl) rfl #[.string t145, .int .u8 59] rfl (by (try simp only [List.map_toArray, List.map_cons, List.map_nil]); first | done | rfl | (simp only [List.length_drop, List.length_take]; rfl)) ?_; (with_reducible refine (spec_Split.calls k4 t145 59 t146 _ A68.out).mono ?_); rintro e w112 ⟨v147, rfl, ho0, hb⟩; refine ⟨_, rfl, ?_⟩; have n0_ := Aside0.mk (Kd.R_elder' (by (with_reducible repeat (first | apply Kd.R_alloc | apply Kd.R_drewN | apply Kd.R_drew)); exact HO_9.out) (Kd.R_base ho0) hb); have n1_ := Aside0.mk (Kd.R_lower (Kd.R_new' ho0 (Kd.R_lt (by (with_reducible repeat (first | apply Kd.R_alloc | apply Kd.R_drewN | apply Kd.R_drew)); exact HO_9.out))) (below_size (by repeat (first | (with_reducible first | exact HB.out | apply below_alloc | apply pw_below_drewN | apply below_drew1) | exact HB.out)))); have n2_ := Aside0.mk (below_step (by repeat (first | (with_reducible first | exact HB.out | apply below_alloc | apply pw_below_drewN | apply below_drew1) | exact HB.out)) hb); clear HO_9; clear HB; have HO_9 := n0_; have HO148 := n1_; have HB := n2_; clear n0_ n1_ n2_; (try clear hb); (try clear hb2); (try clear hk); (try clear hi); (try clear ho0); obtain ⟨Ao113, co113, eo113⟩ := Kd.R_slice HO148.out; subst eo113))
              go_ret
              exact ⟨by first | rfl | (simp [errW_none, errW_some] <;> rfl) | (simp [*, errW_none, errW_some] <;> rfl) | (simp (disch := omega) only [wrap64_id] <;> rfl), by repeat (first | (with_reducible first | exact HB.out | apply below_alloc | apply pw_below_drewN | apply below_drew1) | exact HB.out)⟩

end Go.Proofs.Ytpgpkdickcdlpaa.MFnAdAddress
