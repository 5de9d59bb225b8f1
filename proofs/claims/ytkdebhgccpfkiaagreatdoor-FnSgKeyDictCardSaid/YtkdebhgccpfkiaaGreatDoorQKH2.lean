import Derived.Test.YtkdebhgccpfkiaaGreatDoorQKE1
import Derived.Test.YtkdebhgccpfkiaaGreatDoorQKH1
set_option maxRecDepth 100000
set_option maxHeartbeats 16000000
namespace Go.Proofs.YtkdebhgccpfkiaaGreatDoor.au
open Go.RowKit Go.Proofs.aa.az Go.Proofs.aa.aM Go.Proofs.aa.aU
attribute [local go_sem] ba bh
set_option linter.unusedVariables false
set_option linter.unusedSimpArgs false
def bm.l0 : Nat → ByteArray → Int → Option (Bool)
 | 0,_,_ => none
 | k + 1,x0,x3 => if x3 < (x0.size : Int) then (if 0 ≤ x3 then (if (bt x0 x3) = 0 then (some false) else (bm.l0 k x0 (wrap64 (x3 + 1)))) else (none)) else ((utf8_ValidString.f x0).bind fun t125 => (some t125))
def bm.f (k : Nat) (a0 : ByteArray) : Option (Bool) := bm.l0 k a0 0
theorem bm.calls (k : Nat) (a0 : ByteArray) (r : Bool) (w : World) (hT : Lib.Utf8Tabs 3 4 w) (h : bm.f k a0 = some r) :
  Calls Tryz.prog 23 #[.string a0] w fun e w' => e = .returned (.bool r) ∧ Below w.heap.size w w' := by
 have HB := U.mk (Below.refl w.heap.size w)
 have H : (bm.l0 k a0 0) = some r := h
 clear h
 have H' := U.mk H
 clear H
 go_enter Tryz.func23,Tryz.ntmps23
 go_wp2
 go_loopg [3] k (fun kq v3 w' => ∃ (bL : Int),v3 = .int .i64 bL ∧ U (bm.l0 kq a0 bL = some r) ∧ U (kq ≤ k) ∧ U (Below w.heap.size w w'))
 case atStart => exact ⟨(0),(by first | rfl | (simp; done) | (simp [*]; done)),H', ⟨Nat.le_refl _⟩,⟨by repeat (first | (with_reducible first | exact HB.out | apply ab | apply ai | apply ak) | exact HB.out)⟩⟩
 case round=>
  clear H'
  obtain ⟨bL,rfl,HA,fu,HB⟩ := hrel
  cases gk with
  | zero => exact absurd HA.out (by simp [bm.l0])
  | succ k1=>
   have H := HA.out
   clear HA
   simp only [bm.l0] at H
   by_cases c2 : bL < (a0.size : Int)
   ·rw [if_pos c2] at H
    have df : decide (bL < (a0.size : Int)) = true := decide_eq_true c2
    clear c2
    by_cases c3 : 0 ≤ bL
    ·rw [if_pos c3] at H
     have cI : decide (0 ≤ bL) = true := decide_eq_true c3
     clear c3
     by_cases c5 : (bt a0 bL) = 0
     ·rw [if_pos c5] at H
      have cW : ((bt a0 bL) == 0) = true := beq_iff_eq.mpr c5
      have dH : ((bt a0 bL) != 0) = false := bne_eq_false_iff_eq.mpr c5
      clear c5
      obtain rfl := Option.some.inj H
      have p4 : 0 ≤ (bL : Int) := of_decide_eq_true (by first | (with_reducible assumption) | assumption)
      have q4 : bL < (a0.size : Int) := of_decide_eq_true (by first | (with_reducible assumption) | assumption)
      have iY := bq a0 bL
      replace p4 := eq_true p4
      replace q4 := eq_true q4
      go_wp2
      go_ret
      exact ⟨by first | rfl | (simp [bc,bb] <;> rfl) | (simp [*,bc,bb] <;> rfl) | (simp (disch := omega) only [cA] <;> rfl),by repeat (first | (with_reducible first | exact HB.out | apply ab | apply ai | apply ak) | exact HB.out)⟩
     ·rw [if_neg c5] at H
      have cW : ((bt a0 bL) == 0) = false := beq_eq_false_iff_ne.mpr c5
      have dH : ((bt a0 bL) != 0) = true := bne_iff_ne.mpr c5
      have H' := U.mk H
      clear H
      have p4 : 0 ≤ (bL : Int) := of_decide_eq_true (by first | (with_reducible assumption) | assumption)
      have q4 : bL < (a0.size : Int) := of_decide_eq_true (by first | (with_reducible assumption) | assumption)
      have iY := bq a0 bL
      replace p4 := eq_true p4
      replace q4 := eq_true q4
      go_wp2
      go_roundg k1
      case measure => have := fu.out; omega
      case rel => exact ⟨(wrap64 (bL + 1)),(by first | rfl | (simp; done) | (simp [*]; done)),H', ⟨by have := fu.out; omega⟩,⟨by repeat (first | (with_reducible first | exact HB.out | apply ab | apply ai | apply ak) | exact HB.out)⟩⟩
    ·rw [if_neg c3] at H
     exact absurd H (by simp)
   ·rw [if_neg c2] at H
    have df : decide (bL < (a0.size : Int)) = false := decide_eq_false c2
    clear c2
    replace H := Option.bind_eq_some_iff.mp H
    obtain ⟨t125,PS,H⟩ := H
    replace H : (some t125) = some r := H
    have A6 := U.mk PS
    clear PS
    obtain rfl := Option.some.inj H
    go_wp2_with (first | ((with_reducible refine aW (f := 41) rfl ?_); refine bK (some 15) rfl rfl Tryz.func41 (by kernel_rfl) rfl #[.string a0] rfl (by (try simp only [List.map_toArray,List.map_cons,List.map_nil]); first | done | rfl | (simp only [List.length_drop,List.length_take]; rfl)) ?_; (with_reducible refine (utf8_ValidString.calls a0 t125 _ (Utf8Tabs_below hT HB.out) A6.out).mono ?_); rintro e w7 ⟨rfl,hb⟩; refine ⟨_,rfl,?_⟩; have bM := U.mk (aw (by repeat (first | (with_reducible first | exact HB.out | apply ab | apply ai | apply ak) | exact HB.out)) hb); clear HB; have HB := bM; clear bM; (try clear hb); (try clear hb2); (try clear hk); (try clear hi)))
    go_ret
    exact ⟨by first | rfl | (simp [bc,bb] <;> rfl) | (simp [*,bc,bb] <;> rfl) | (simp (disch := omega) only [cA] <;> rfl),by repeat (first | (with_reducible first | exact HB.out | apply ab | apply ai | apply ak) | exact HB.out)⟩
def gp.f (a0 : Int) : Option (Bool) := if (Go.bits .or .u8 a0 32) ≥ 97 then (if (Go.bits .or .u8 a0 32) ≤ 122 then (some true) else (if a0 ≥ 48 then (if a0 ≤ 57 then (some true) else (some (a0 == 95))) else (some (a0 == 95)))) else (if a0 ≥ 48 then (if a0 ≤ 57 then (some true) else (some (a0 == 95))) else (some (a0 == 95)))
theorem gp.calls (a0 : Int) (r : Bool) (w : World) (h : gp.f a0 = some r) :
  Calls Tryz.prog 42 #[.int .u8 a0] w fun e w' => e = .returned (.bool r) ∧ ah w w' := by
 have H : (if (Go.bits .or .u8 a0 32) ≥ 97 then (if (Go.bits .or .u8 a0 32) ≤ 122 then (some true) else (if a0 ≥ 48 then (if a0 ≤ 57 then (some true) else (some (a0 == 95))) else (some (a0 == 95)))) else (if a0 ≥ 48 then (if a0 ≤ 57 then (some true) else (some (a0 == 95))) else (some (a0 == 95)))) = some r := h
 clear h
 by_cases c2 : (Go.bits .or .u8 a0 32) ≥ 97
 ·rw [if_pos c2] at H
  have df : decide (97 ≤ (Go.bits .or .u8 a0 32)) = true := decide_eq_true c2
  clear c2
  by_cases c3 : (Go.bits .or .u8 a0 32) ≤ 122
  ·rw [if_pos c3] at H
   have cI : decide ((Go.bits .or .u8 a0 32) ≤ 122) = true := decide_eq_true c3
   clear c3
   obtain rfl := Option.some.inj H
   go_enter Tryz.func42,Tryz.ntmps42
   go_wp2
   go_ret
   exact ⟨by first | rfl | (simp; done) | (simp [*]; done),by repeat (first | exact ah.refl _ | apply ah.step)⟩
  ·rw [if_neg c3] at H
   have cI : decide ((Go.bits .or .u8 a0 32) ≤ 122) = false := decide_eq_false c3
   clear c3
   by_cases c4 : a0 ≥ 48
   ·rw [if_pos c4] at H
    have ei : decide (48 ≤ a0) = true := decide_eq_true c4
    clear c4
    by_cases c5 : a0 ≤ 57
    ·rw [if_pos c5] at H
     have cW : decide (a0 ≤ 57) = true := decide_eq_true c5
     clear c5
     obtain rfl := Option.some.inj H
     go_enter Tryz.func42,Tryz.ntmps42
     go_wp2
     go_ret
     exact ⟨by first | rfl | (simp; done) | (simp [*]; done),by repeat (first | exact ah.refl _ | apply ah.step)⟩
    ·rw [if_neg c5] at H
     have cW : decide (a0 ≤ 57) = false := decide_eq_false c5
     clear c5
     obtain rfl := Option.some.inj H
     go_enter Tryz.func42,Tryz.ntmps42
     go_wp2
     go_ret
     exact ⟨by first | rfl | (simp; done) | (simp [*]; done),by repeat (first | exact ah.refl _ | apply ah.step)⟩
   ·rw [if_neg c4] at H
    have ei : decide (48 ≤ a0) = false := decide_eq_false c4
    clear c4
    obtain rfl := Option.some.inj H
    go_enter Tryz.func42,Tryz.ntmps42
    go_wp2
    go_ret
    exact ⟨by first | rfl | (simp; done) | (simp [*]; done),by repeat (first | exact ah.refl _ | apply ah.step)⟩
 ·rw [if_neg c2] at H
  have df : decide (97 ≤ (Go.bits .or .u8 a0 32)) = false := decide_eq_false c2
  clear c2
  by_cases c6 : a0 ≥ 48
  ·rw [if_pos c6] at H
   have eg : decide (48 ≤ a0) = true := decide_eq_true c6
   clear c6
   by_cases c7 : a0 ≤ 57
   ·rw [if_pos c7] at H
    have dn : decide (a0 ≤ 57) = true := decide_eq_true c7
    clear c7
    obtain rfl := Option.some.inj H
    go_enter Tryz.func42,Tryz.ntmps42
    go_wp2
    go_ret
    exact ⟨by first | rfl | (simp; done) | (simp [*]; done),by repeat (first | exact ah.refl _ | apply ah.step)⟩
   ·rw [if_neg c7] at H
    have dn : decide (a0 ≤ 57) = false := decide_eq_false c7
    clear c7
    obtain rfl := Option.some.inj H
    go_enter Tryz.func42,Tryz.ntmps42
    go_wp2
    go_ret
    exact ⟨by first | rfl | (simp; done) | (simp [*]; done),by repeat (first | exact ah.refl _ | apply ah.step)⟩
  ·rw [if_neg c6] at H
   have eg : decide (48 ≤ a0) = false := decide_eq_false c6
   clear c6
   obtain rfl := Option.some.inj H
   go_enter Tryz.func42,Tryz.ntmps42
   go_wp2
   go_ret
   exact ⟨by first | rfl | (simp; done) | (simp [*]; done),by repeat (first | exact ah.refl _ | apply ah.step)⟩
mutual
def ax.j0 : Nat → ByteArray → Bool → Option (Bool)
 | 0,_,_ => none
 | k + 1,x0,x20 => if x20 = true then (some false) else (ax.l0 k x0 1)
def ax.l0 : Nat → ByteArray → Int → Option (Bool)
 | 0,_,_ => none
 | k + 1,x0,x3 => if x3 < (x0.size : Int) then (if 0 ≤ x3 then (if (bt x0 x3) = 47 then (if 0 ≤ (wrap64 (x3 - 1)) then (if (wrap64 (x3 - 1)) < (x0.size : Int) then (if (bt x0 (wrap64 (x3 - 1))) = 47 then (some false) else (ax.l0 k x0 (wrap64 (x3 + 1)))) else (none)) else (none)) else ((gp.f (bt x0 x3)).bind fun t126 => (if t126 = true then (ax.l0 k x0 (wrap64 (x3 + 1))) else (some false)))) else (none)) else (some true)
end
def ax.f (k : Nat) (a0 : ByteArray) : Option (Bool) := if a0.toList = ([47] : List UInt8) then (some true) else (if a0.toList = ([] : List UInt8) then (ax.j0 k a0 true) else (if 0 < (a0.size : Int) then (if (bt a0 0) = 47 then (if 0 ≤ (wrap64 ((a0.size : Int) - 1)) then (if (wrap64 ((a0.size : Int) - 1)) < (a0.size : Int) then (ax.j0 k a0 ((bt a0 (wrap64 ((a0.size : Int) - 1))) == 47)) else (none)) else (none)) else (ax.j0 k a0 true)) else (none)))
theorem ax.zB : ∀ k,(∀ y0 y1,dw (ax.j0 k y0 y1) (ax.j0 (k + 1) y0 y1)) ∧ (∀ y0 y1,dw (ax.l0 k y0 y1) (ax.l0 (k + 1) y0 y1))
 | 0 => ⟨fun _ _ r h => by simp [ax.j0] at h,fun _ _ r h => by simp [ax.l0] at h⟩
 | k + 1 => by
  obtain ⟨Bp,Bo⟩ := ax.zB k
  refine ⟨?_,?_⟩ <;> intros <;> (first | unfold ax.j0 | unfold ax.l0) <;> repeat' first
    | (with_reducible exact Bp _ _)
    | (with_reducible exact Bo _ _)
    | (with_reducible exact dw.refl _)
    | (with_reducible exact dw.none _)
    | (with_reducible refine dw.ite ?_ ?_)
    | (with_reducible refine dw.bind ?_ (fun _ => ?_))
    | exact Bp _ _
    | exact Bo _ _
    | exact dw.none _
    | refine dw.ite ?_ ?_
    | refine dw.bind ?_ (fun _ => ?_)
theorem ax.mono : ∀ a0 k,dw (ax.f k a0) (ax.f (k + 1) a0) := by
 intro a0 k
 obtain ⟨Bp,Bo⟩ := ax.zB k
 unfold ax.f
 repeat' first
   | (with_reducible exact Bp _ _)
   | (with_reducible exact Bo _ _)
   | (with_reducible exact dw.refl _)
   | (with_reducible exact dw.none _)
   | (with_reducible refine dw.ite ?_ ?_)
   | (with_reducible refine dw.bind ?_ (fun _ => ?_))
   | exact Bp _ _
   | exact Bo _ _
   | exact dw.none _
   | refine dw.ite ?_ ?_
   | refine dw.bind ?_ (fun _ => ?_)
theorem ax.calls (k : Nat) (a0 : ByteArray) (r : Bool) (w : World) (h : ax.f k a0 = some r) :
  Calls Tryz.prog 24 #[.string a0] w fun e w' => e = .returned (.bool r) ∧ ah w w' := by
 have H : (if a0.toList = ([47] : List UInt8) then (some true) else (if a0.toList = ([] : List UInt8) then (ax.j0 k a0 true) else (if 0 < (a0.size : Int) then (if (bt a0 0) = 47 then (if 0 ≤ (wrap64 ((a0.size : Int) - 1)) then (if (wrap64 ((a0.size : Int) - 1)) < (a0.size : Int) then (ax.j0 k a0 ((bt a0 (wrap64 ((a0.size : Int) - 1))) == 47)) else (none)) else (none)) else (ax.j0 k a0 true)) else (none)))) = some r := h
 clear h
 by_cases c2 : a0.toList = ([47] : List UInt8)
 ·rw [if_pos c2] at H
  have df : (a0.toList == ([47] : List UInt8)) = true := beq_iff_eq.mpr c2
  have eF : (a0.toList != ([47] : List UInt8)) = false := bne_eq_false_iff_eq.mpr c2
  clear c2
  obtain rfl := Option.some.inj H
  go_enter Tryz.func24,Tryz.ntmps24
  go_wp2
  go_ret
  exact ⟨by first | rfl | (simp; done) | (simp [*]; done),by repeat (first | exact ah.refl _ | apply ah.step)⟩
 ·rw [if_neg c2] at H
  have df : (a0.toList == ([47] : List UInt8)) = false := beq_eq_false_iff_ne.mpr c2
  have eF : (a0.toList != ([47] : List UInt8)) = true := bne_iff_ne.mpr c2
  have lb := U.mk H
  clear H
  go_enter Tryz.func24,Tryz.ntmps24
  go_upto_region 3 with (fail)
  go_cut [20] (fun v20 wc => ∃ (kq : Nat) (G9 : Bool),v20 = .bool G9 ∧ U (ax.j0 kq a0 G9 = some r) ∧ U (kq ≤ k) ∧ ah w wc)
  case first=>
   have H := lb.out
   clear lb
   by_cases c4 : a0.toList = ([] : List UInt8)
   ·rw [if_pos c4] at H
    have ei : (a0.toList == ([] : List UInt8)) = true := beq_iff_eq.mpr c4
    have gl : (a0.toList != ([] : List UInt8)) = false := bne_eq_false_iff_eq.mpr c4
    clear c4
    (first | rw [ei] | (simp only [cL,dr]; rw [ei]) | skip)
    have H' := U.mk H
    clear H
    go_wp2
    go_meet
    case rel => exact ⟨_,(true),(by first | rfl | (simp; done) | (simp [*]; done)),H', ⟨by first | omega | exact Nat.le_refl _⟩,by repeat (first | exact ah.refl _ | apply ah.step)⟩
   ·rw [if_neg c4] at H
    have ei : (a0.toList == ([] : List UInt8)) = false := beq_eq_false_iff_ne.mpr c4
    have gl : (a0.toList != ([] : List UInt8)) = true := bne_iff_ne.mpr c4
    (first | rw [ei] | (simp only [cL,dr]; rw [ei]) | skip)
    by_cases c5 : 0 < (a0.size : Int)
    ·rw [if_pos c5] at H
     have cW : decide (0 < (a0.size : Int)) = true := decide_eq_true c5
     have dH : decide (0 < a0.size) = true := decide_eq_true (by omega)
     clear c5
     by_cases c7 : (bt a0 0) = 47
     ·rw [if_pos c7] at H
      have dn : ((bt a0 0) == 47) = true := beq_iff_eq.mpr c7
      have eZ : ((bt a0 0) != 47) = false := bne_eq_false_iff_eq.mpr c7
      clear c7
      obtain ⟨AB,L6⟩ : ∃ j_ : Int,(wrap64 ((a0.size : Int) - 1)) = j_ := ⟨_,rfl⟩
      replace H : (if 0 ≤ (AB) then (if (AB) < (a0.size : Int) then (ax.j0 k a0 ((bt a0 (AB)) == 47)) else (none)) else (none)) = some r := by first | (rw [L6] at H; exact H) | (simp only [L6] at H ⊢; exact H)
      have ahm : (IntKind.i64.wrap ((a0.size : Int) - 1)) = AB := (cL _).trans L6
      by_cases c9 : 0 ≤ (AB)
      ·rw [if_pos c9] at H
       have eC : decide (0 ≤ (AB)) = true := decide_eq_true c9
       clear c9
       by_cases cC : (AB) < (a0.size : Int)
       ·rw [if_pos cC] at H
        have fa : decide ((AB) < (a0.size : Int)) = true := decide_eq_true cC
        clear cC
        have H' := U.mk H
        clear H
        have p6 : 0 ≤ (0 : Int) := (by omega)
        have q6 : 0 < a0.size := (by have : (0 : Int) < (a0.size : Int) := of_decide_eq_true (by first | (with_reducible assumption) | assumption); omega)
        have Od : ∀ h : 0 < a0.size,((a0[0]'h).toNat : Int) = bt a0 0 := bq a0 0
        clear p6
        have Yr : (0 < (a0.size : Int)) = True := eq_true (of_decide_eq_true (by first | (with_reducible assumption) | assumption))
        replace q6 := eq_true q6
        have Ir : 0 ≤ ((AB) : Int) := of_decide_eq_true (by first | (with_reducible assumption) | assumption)
        have D5 : (AB) < (a0.size : Int) := of_decide_eq_true (by first | (with_reducible assumption) | assumption)
        have QV := bq a0 (AB)
        replace Ir := eq_true Ir
        replace D5 := eq_true D5
        go_wp2
        go_meet
        case rel => exact ⟨_,(((bt a0 (AB)) == 47)),(by first | rfl | (simp; done) | (simp only [← L6] <;> (first | rfl | simp)) | (simp [*]; done)),H', ⟨by first | omega | exact Nat.le_refl _⟩,by repeat (first | exact ah.refl _ | apply ah.step)⟩
       ·rw [if_neg cC] at H
        exact absurd H (by simp)
      ·rw [if_neg c9] at H
       exact absurd H (by simp)
     ·rw [if_neg c7] at H
      have dn : ((bt a0 0) == 47) = false := beq_eq_false_iff_ne.mpr c7
      have eZ : ((bt a0 0) != 47) = true := bne_iff_ne.mpr c7
      have H' := U.mk H
      clear H
      have p6 : 0 ≤ (0 : Int) := (by omega)
      have q6 : 0 < a0.size := (by have : (0 : Int) < (a0.size : Int) := of_decide_eq_true (by first | (with_reducible assumption) | assumption); omega)
      have Od : ∀ h : 0 < a0.size,((a0[0]'h).toNat : Int) = bt a0 0 := bq a0 0
      clear p6
      have Yr : (0 < (a0.size : Int)) = True := eq_true (of_decide_eq_true (by first | (with_reducible assumption) | assumption))
      replace q6 := eq_true q6
      go_wp2
      go_meet
      case rel => exact ⟨_,(true),(by first | rfl | (simp; done) | (simp [*]; done)),H', ⟨by first | omega | exact Nat.le_refl _⟩,by repeat (first | exact ah.refl _ | apply ah.step)⟩
    ·rw [if_neg c5] at H
     exact absurd H (by simp)
  case rest=>
   clear lb
   try clear c1
   try clear p1
   try clear q1
   try clear jy
   try clear c2
   try clear df
   try clear eF
   try clear p2
   try clear c3
   try clear c4
   try clear ei
   try clear gl
   try clear c5
   try clear cW
   try clear dH
   try clear p6
   try clear q6
   try clear Od
   try clear Yr
   try clear c7
   try clear dn
   try clear eZ
   try clear c9
   try clear eC
   try clear cC
   try clear fa
   try clear Ir
   try clear D5
   try clear QV
   try clear Ir
   try clear p6
   try clear D5
   try clear q6
   obtain ⟨kq,G9,rfl,HA,Un,⟨mc2,rfl⟩⟩ := hcut
   cases kq with
   | zero => exact absurd HA.out (by simp [ax.j0])
   | succ YG=>
    have H := HA.out
    clear HA
    simp only [ax.j0] at H
    by_cases bP : G9 = true
    ·subst bP
     have H1 : (some false) = some r := by rw [if_pos rfl] at H; exact H
     clear H
     have H := H1
     clear H1
     obtain rfl := Option.some.inj H
     go_wp2
     go_ret
     exact ⟨by first | rfl | (simp; done) | (simp [*]; done),by repeat (first | exact ah.refl _ | apply ah.step)⟩
    ·replace bP := Bool.eq_false_iff.mpr bP
     subst bP
     have H1 : (ax.l0 YG a0 1) = some r := by rw [if_neg (show ¬ (false = true) by decide)] at H; exact H
     clear H
     have H := H1
     clear H1
     have H' := U.mk H
     clear H
     go_wp2
     go_loopg [3] YG (fun kq v3 w' => ∃ (cE : Int),v3 = .int .i64 cE ∧ U (ax.l0 kq a0 cE = some r) ∧ U (kq ≤ YG) ∧ ah w w')
     case atStart => exact ⟨(1),(by first | rfl | (simp; done) | (simp [*]; done)),H', ⟨Nat.le_refl _⟩,by repeat (first | exact ah.refl _ | apply ah.step)⟩
     case round=>
      clear H'
      try clear c1
      try clear p1
      try clear q1
      try clear jy
      try clear c2
      try clear df
      try clear eF
      try clear p2
      try clear c3
      try clear c4
      try clear ei
      try clear gl
      try clear c5
      try clear cW
      try clear dH
      try clear p6
      try clear q6
      try clear Od
      try clear Yr
      try clear c7
      try clear dn
      try clear eZ
      try clear c9
      try clear eC
      try clear cC
      try clear fa
      try clear Ir
      try clear D5
      try clear QV
      try clear bP
      try clear p1
      try clear Ir
      try clear p2
      try clear p6
      try clear q1
      try clear D5
      try clear q6
      obtain ⟨cE,rfl,HA,E9,⟨m2,rfl⟩⟩ := hrel
      cases gk with
      | zero => exact absurd HA.out (by simp [ax.l0])
      | succ k2=>
       have H := HA.out
       clear HA
       simp only [ax.l0] at H
       by_cases bV : cE < (a0.size : Int)
       ·rw [if_pos bV] at H
        have dP : decide (cE < (a0.size : Int)) = true := decide_eq_true bV
        clear bV
        by_cases cS : 0 ≤ cE
        ·rw [if_pos cS] at H
         have iO : decide (0 ≤ cE) = true := decide_eq_true cS
         clear cS
         by_cases eM : (bt a0 cE) = 47
         ·rw [if_pos eM] at H
          have ka : ((bt a0 cE) == 47) = true := beq_iff_eq.mpr eM
          have xK : ((bt a0 cE) != 47) = false := bne_eq_false_iff_eq.mpr eM
          clear eM
          obtain ⟨ia,Hj⟩ : ∃ j_ : Int,(wrap64 (cE - 1)) = j_ := ⟨_,rfl⟩
          replace H : (if 0 ≤ (ia) then (if (ia) < (a0.size : Int) then (if (bt a0 (ia)) = 47 then (some false) else (ax.l0 k2 a0 (wrap64 (cE + 1)))) else (none)) else (none)) = some r := by first | (rw [Hj] at H; exact H) | (simp only [Hj] at H ⊢; exact H)
          have agE : (IntKind.i64.wrap (cE - 1)) = ia := (cL _).trans Hj
          by_cases iw : 0 ≤ (ia)
          ·rw [if_pos iw] at H
           have kG : decide (0 ≤ (ia)) = true := decide_eq_true iw
           clear iw
           by_cases fN : (ia) < (a0.size : Int)
           ·rw [if_pos fN] at H
            have kF : decide ((ia) < (a0.size : Int)) = true := decide_eq_true fN
            clear fN
            by_cases fe : (bt a0 (ia)) = 47
            ·rw [if_pos fe] at H
             have j' : ((bt a0 (ia)) == 47) = true := beq_iff_eq.mpr fe
             have j9 : ((bt a0 (ia)) != 47) = false := bne_eq_false_iff_eq.mpr fe
             clear fe
             obtain rfl := Option.some.inj H
             have iV : 0 ≤ (cE : Int) := of_decide_eq_true (by first | (with_reducible assumption) | assumption)
             have iF : cE < (a0.size : Int) := of_decide_eq_true (by first | (with_reducible assumption) | assumption)
             have vw := bq a0 cE
             replace iV := eq_true iV
             replace iF := eq_true iF
             have Nn : 0 ≤ (cE : Int) := of_decide_eq_true (by first | (with_reducible assumption) | assumption)
             have Nk : cE < (a0.size : Int) := of_decide_eq_true (by first | (with_reducible assumption) | assumption)
             have aeN := bq a0 cE
             replace Nn := eq_true Nn
             replace Nk := eq_true Nk
             have Nl : 0 ≤ ((ia) : Int) := of_decide_eq_true (by first | (with_reducible assumption) | assumption)
             have Nj : (ia) < (a0.size : Int) := of_decide_eq_true (by first | (with_reducible assumption) | assumption)
             have aeM := bq a0 (ia)
             replace Nl := eq_true Nl
             replace Nj := eq_true Nj
             go_wp2
             go_ret
             exact ⟨by first | rfl | (simp; done) | (simp only [← Hj] <;> (first | rfl | simp)) | (simp [*]; done),by repeat (first | exact ah.refl _ | apply ah.step)⟩
            ·rw [if_neg fe] at H
             have j' : ((bt a0 (ia)) == 47) = false := beq_eq_false_iff_ne.mpr fe
             have j9 : ((bt a0 (ia)) != 47) = true := bne_iff_ne.mpr fe
             have H' := U.mk H
             clear H
             have iV : 0 ≤ (cE : Int) := of_decide_eq_true (by first | (with_reducible assumption) | assumption)
             have iF : cE < (a0.size : Int) := of_decide_eq_true (by first | (with_reducible assumption) | assumption)
             have vw := bq a0 cE
             replace iV := eq_true iV
             replace iF := eq_true iF
             have Nn : 0 ≤ (cE : Int) := of_decide_eq_true (by first | (with_reducible assumption) | assumption)
             have Nk : cE < (a0.size : Int) := of_decide_eq_true (by first | (with_reducible assumption) | assumption)
             have aeN := bq a0 cE
             replace Nn := eq_true Nn
             replace Nk := eq_true Nk
             have Nl : 0 ≤ ((ia) : Int) := of_decide_eq_true (by first | (with_reducible assumption) | assumption)
             have Nj : (ia) < (a0.size : Int) := of_decide_eq_true (by first | (with_reducible assumption) | assumption)
             have aeM := bq a0 (ia)
             replace Nl := eq_true Nl
             replace Nj := eq_true Nj
             go_wp2
             go_roundg k2
             case measure => have := Un.out; have := E9.out; omega
             case rel => exact ⟨(wrap64 (cE + 1)),(by first | rfl | (simp; done) | (simp [*]; done)),H', ⟨by have := Un.out; have := E9.out; omega⟩,by repeat (first | exact ah.refl _ | apply ah.step)⟩
           ·rw [if_neg fN] at H
            exact absurd H (by simp)
          ·rw [if_neg iw] at H
           exact absurd H (by simp)
         ·rw [if_neg eM] at H
          have ka : ((bt a0 cE) == 47) = false := beq_eq_false_iff_ne.mpr eM
          have xK : ((bt a0 cE) != 47) = true := bne_iff_ne.mpr eM
          replace H := Option.bind_eq_some_iff.mp H
          obtain ⟨t126,ach,H⟩ := H
          replace H : (if t126 = true then (ax.l0 k2 a0 (wrap64 (cE + 1))) else (some false)) = some r := H
          have A24 := U.mk ach
          clear ach
          by_cases gV : t126 = true
          ·subst gV
           have H1 : (ax.l0 k2 a0 (wrap64 (cE + 1))) = some r := by rw [if_pos rfl] at H; exact H
           clear H
           have H := H1
           clear H1
           have H' := U.mk H
           clear H
           have iV : 0 ≤ (cE : Int) := of_decide_eq_true (by first | (with_reducible assumption) | assumption)
           have iF : cE < (a0.size : Int) := of_decide_eq_true (by first | (with_reducible assumption) | assumption)
           have vw := bq a0 cE
           replace iV := eq_true iV
           replace iF := eq_true iF
           have vp : 0 ≤ (cE : Int) := of_decide_eq_true (by first | (with_reducible assumption) | assumption)
           have lq : cE < (a0.size : Int) := of_decide_eq_true (by first | (with_reducible assumption) | assumption)
           have FI := bq a0 cE
           replace vp := eq_true vp
           replace lq := eq_true lq
           go_wp2_with (first | (go_at_call 42; (with_reducible refine (gp.calls (bt a0 cE) true _ A24.out).mono ?_); rintro e w' ⟨rfl,⟨nd,rfl⟩⟩; have p26 : 0 ≤ (cE : Int) := of_decide_eq_true (by first | (with_reducible assumption) | assumption); have q26 : cE < (a0.size : Int) := of_decide_eq_true (by first | (with_reducible assumption) | assumption); have ahV := bq a0 cE; replace p26 := eq_true p26; replace q26 := eq_true q26))
           go_roundg k2
           case measure => have := Un.out; have := E9.out; omega
           case rel => exact ⟨(wrap64 (cE + 1)),(by first | rfl | (simp; done) | (simp [*]; done)),H', ⟨by have := Un.out; have := E9.out; omega⟩,by repeat (first | exact ah.refl _ | apply ah.step)⟩
          ·replace gV := Bool.eq_false_iff.mpr gV
           subst gV
           have H1 : (some false) = some r := by rw [if_neg (show ¬ (false = true) by decide)] at H; exact H
           clear H
           have H := H1
           clear H1
           obtain rfl := Option.some.inj H
           have iV : 0 ≤ (cE : Int) := of_decide_eq_true (by first | (with_reducible assumption) | assumption)
           have iF : cE < (a0.size : Int) := of_decide_eq_true (by first | (with_reducible assumption) | assumption)
           have vw := bq a0 cE
           replace iV := eq_true iV
           replace iF := eq_true iF
           have vp : 0 ≤ (cE : Int) := of_decide_eq_true (by first | (with_reducible assumption) | assumption)
           have lq : cE < (a0.size : Int) := of_decide_eq_true (by first | (with_reducible assumption) | assumption)
           have FI := bq a0 cE
           replace vp := eq_true vp
           replace lq := eq_true lq
           go_wp2_with (first | (go_at_call 42; (with_reducible refine (gp.calls (bt a0 cE) false _ A24.out).mono ?_); rintro e w' ⟨rfl,⟨nd,rfl⟩⟩))
           go_ret
           exact ⟨by first | rfl | (simp; done) | (simp [*]; done),by repeat (first | exact ah.refl _ | apply ah.step)⟩
        ·rw [if_neg cS] at H
         exact absurd H (by simp)
       ·rw [if_neg bV] at H
        have dP : decide (cE < (a0.size : Int)) = false := decide_eq_false bV
        clear bV
        obtain rfl := Option.some.inj H
        go_wp2
        go_ret
        exact ⟨by first | rfl | (simp; done) | (simp [*]; done),by repeat (first | exact ah.refl _ | apply ah.step)⟩
def cP.j0 : Nat → ByteArray → Bool → Option (ByteArray × ByteArray × Bool)
 | 0,_,_ => none
 | k + 1,x0,eW => if eW = true then (if 1 + x0.size ≤ 9223372036854775807 then ((bn.f k ((⟨#[97]⟩ : ByteArray) ++ x0)).bind fun t127 => (if (wrap64 (t127 - 1)) ≤ 0 then (some ((⟨#[]⟩ : ByteArray),(⟨#[]⟩ : ByteArray),false)) else (if 0 ≤ (wrap64 (t127 - 1)) then (if (wrap64 (t127 - 1)) ≤ (x0.size : Int) then (some (x0.extract 0 ((wrap64 (t127 - 1)) : Int).toNat,x0.extract ((wrap64 (t127 - 1)) : Int).toNat x0.size,true)) else (none)) else (none)))) else (none)) else ((bn.f k x0).bind fun t128 => (if t128 ≤ 0 then (some ((⟨#[]⟩ : ByteArray),(⟨#[]⟩ : ByteArray),false)) else (if 0 ≤ t128 then (if t128 ≤ (x0.size : Int) then (some (x0.extract 0 (t128 : Int).toNat,x0.extract (t128 : Int).toNat x0.size,true)) else (none)) else (none))))
def cP.f (k : Nat) (a0 : ByteArray) : Option (ByteArray × ByteArray × Bool) := if (a0.size : Int) > 1 then (if 0 < (a0.size : Int) then (cP.j0 k a0 ((bt a0 0) == 123)) else (none)) else (cP.j0 k a0 false)
theorem cP.calls (k : Nat) (a0 : ByteArray) (r1 : ByteArray) (r2 : ByteArray) (r3 : Bool) (w : World) (h : cP.f k a0 = some (r1,r2,r3)) :
  Calls Tryz.prog 25 #[.string a0] w fun e w' => e = .returned (.tuple #[.string r1,.string r2,.bool r3]) ∧ ah w w' := by
 have H : (if (a0.size : Int) > 1 then (if 0 < (a0.size : Int) then (cP.j0 k a0 ((bt a0 0) == 123)) else (none)) else (cP.j0 k a0 false)) = some (r1,r2,r3) := h
 clear h
 have HC2 := U.mk H
 clear H
 go_enter Tryz.func25,Tryz.ntmps25
 go_upto_region 2 with (fail)
 repeat (go_quiet (fail); go_upto_region 2 with (fail))
 go_cut [13] (fun v13 wc => ∃ (kq : Nat) (Hb : Bool),v13 = .bool Hb ∧ U (cP.j0 kq a0 Hb = some (r1,r2,r3)) ∧ U (kq ≤ k) ∧ ah w wc)
 case first=>
  have H := HC2.out
  clear HC2
  by_cases c3 : (a0.size : Int) > 1
  ·rw [if_pos c3] at H
   have cI : decide (1 < (a0.size : Int)) = true := decide_eq_true c3
   have ej : decide (1 < a0.size) = true := decide_eq_true (by omega)
   clear c3
   (first | rw [cI] | (simp only [cL,dr]; rw [cI]) | skip)
   by_cases c4 : 0 < (a0.size : Int)
   ·rw [if_pos c4] at H
    have ei : decide (0 < (a0.size : Int)) = true := decide_eq_true c4
    have gl : decide (0 < a0.size) = true := decide_eq_true (by omega)
    clear c4
    have H' := U.mk H
    clear H
    have p5 : 0 ≤ (0 : Int) := (by omega)
    have q5 : 0 < a0.size := (by have : (0 : Int) < (a0.size : Int) := of_decide_eq_true (by first | (with_reducible assumption) | assumption); omega)
    have Y9 : ∀ h : 0 < a0.size,((a0[0]'h).toNat : Int) = bt a0 0 := bq a0 0
    clear p5
    have qi5 : (0 < (a0.size : Int)) = True := eq_true (of_decide_eq_true (by first | (with_reducible assumption) | assumption))
    replace q5 := eq_true q5
    go_wp2
    repeat (go_quiet (fail); try go_wp2)
    go_meet
    case rel => exact ⟨_,(((bt a0 0) == 123)),(by first | rfl | (simp; done) | (simp [*]; done)),H', ⟨by first | omega | exact Nat.le_refl _⟩,by repeat (first | exact ah.refl _ | apply ah.step)⟩
   ·rw [if_neg c4] at H
    exact absurd H (by simp)
  ·rw [if_neg c3] at H
   have cI : decide (1 < (a0.size : Int)) = false := decide_eq_false c3
   have ej : decide (1 < a0.size) = false := decide_eq_false (by omega)
   clear c3
   (first | rw [cI] | (simp only [cL,dr]; rw [cI]) | skip)
   have H' := U.mk H
   clear H
   go_wp2
   repeat (go_quiet (fail); try go_wp2)
   go_meet
   case rel => exact ⟨_,(false),(by first | rfl | (simp; done) | (simp [*]; done)),H', ⟨by first | omega | exact Nat.le_refl _⟩,by repeat (first | exact ah.refl _ | apply ah.step)⟩
 case rest=>
  clear HC2
  try clear p2
  try clear c3
  try clear cI
  try clear ej
  try clear c4
  try clear ei
  try clear gl
  try clear p5
  try clear q5
  try clear Y9
  try clear qi5
  try clear p5
  try clear q5
  obtain ⟨kq,Hb,rfl,HA,HJ1,⟨mc1,rfl⟩⟩ := hcut
  cases kq with
  | zero => exact absurd HA.out (by simp [cP.j0])
  | succ xu=>
   have H := HA.out
   clear HA
   simp only [cP.j0] at H
   by_cases c6 : Hb = true
   ·subst c6
    have H1 : (if 1 + a0.size ≤ 9223372036854775807 then ((bn.f xu ((⟨#[97]⟩ : ByteArray) ++ a0)).bind fun t127 => (if (wrap64 (t127 - 1)) ≤ 0 then (some ((⟨#[]⟩ : ByteArray),(⟨#[]⟩ : ByteArray),false)) else (if 0 ≤ (wrap64 (t127 - 1)) then (if (wrap64 (t127 - 1)) ≤ (a0.size : Int) then (some (a0.extract 0 ((wrap64 (t127 - 1)) : Int).toNat,a0.extract ((wrap64 (t127 - 1)) : Int).toNat a0.size,true)) else (none)) else (none)))) else (none)) = some (r1,r2,r3) := by rw [if_pos rfl] at H; exact H
    clear H
    have H := H1
    clear H1
    by_cases c7 : 1 + a0.size ≤ 9223372036854775807
    ·rw [if_pos c7] at H
     have dn := eq_true c7
     have eZ : decide (1 + a0.size ≤ 9223372036854775807) = true := decide_eq_true c7
     try have aij : (9223372036854775807 < 1 + a0.size) = False := eq_false (Nat.not_lt.2 c7)
     replace H := Option.bind_eq_some_iff.mp H
     obtain ⟨t127,PR,H⟩ := H
     replace H : (if (wrap64 (t127 - 1)) ≤ 0 then (some ((⟨#[]⟩ : ByteArray),(⟨#[]⟩ : ByteArray),false)) else (if 0 ≤ (wrap64 (t127 - 1)) then (if (wrap64 (t127 - 1)) ≤ (a0.size : Int) then (some (a0.extract 0 ((wrap64 (t127 - 1)) : Int).toNat,a0.extract ((wrap64 (t127 - 1)) : Int).toNat a0.size,true)) else (none)) else (none))) = some (r1,r2,r3) := H
     have A8 := U.mk PR
     clear PR
     by_cases c9 : (wrap64 (t127 - 1)) ≤ 0
     ·rw [if_pos c9] at H
      have eC : decide ((wrap64 (t127 - 1)) ≤ 0) = true := decide_eq_true c9
      clear c9
      simp only [Option.some.injEq,Prod.mk.injEq] at H
      obtain ⟨rfl,rfl,rfl⟩ := H
      go_wp2_with (first | (go_at_call 40; (with_reducible refine (bn.calls xu ((⟨#[97]⟩ : ByteArray) ++ a0) t127 _ A8.out).mono ?_); rintro e w' ⟨rfl,⟨nd,rfl⟩⟩; (try first | exact ⟨rfl,_,World.drewN_drewN _ _ _⟩ | exact ⟨rfl,_,Eq.trans (World.drewN_drewN _ _ _) (congrArg (World.drewN _) (Nat.add_assoc _ _ _))⟩)))
      repeat (go_quiet (first | (go_at_call 40; (with_reducible refine (bn.calls xu ((⟨#[97]⟩ : ByteArray) ++ a0) t127 _ A8.out).mono ?_); rintro e w' ⟨rfl,⟨nd,rfl⟩⟩; (try first | exact ⟨rfl,_,World.drewN_drewN _ _ _⟩ | exact ⟨rfl,_,Eq.trans (World.drewN_drewN _ _ _) (congrArg (World.drewN _) (Nat.add_assoc _ _ _))⟩))); try go_wp2_with (first | (go_at_call 40; (with_reducible refine (bn.calls xu ((⟨#[97]⟩ : ByteArray) ++ a0) t127 _ A8.out).mono ?_); rintro e w' ⟨rfl,⟨nd,rfl⟩⟩; (try first | exact ⟨rfl,_,World.drewN_drewN _ _ _⟩ | exact ⟨rfl,_,Eq.trans (World.drewN_drewN _ _ _) (congrArg (World.drewN _) (Nat.add_assoc _ _ _))⟩))))
      go_ret3
      exact ⟨by first | rfl | (simp; done) | (simp [*]; done),by repeat (first | exact ah.refl _ | apply ah.step)⟩
     ·rw [if_neg c9] at H
      have eC : decide ((wrap64 (t127 - 1)) ≤ 0) = false := decide_eq_false c9
      clear c9
      obtain ⟨vt,Cj⟩ : ∃ j_ : Int,(wrap64 (t127 - 1)) = j_ := ⟨_,rfl⟩
      replace H : (if 0 ≤ (vt) then (if (vt) ≤ (a0.size : Int) then (some (a0.extract 0 ((vt) : Int).toNat,a0.extract ((vt) : Int).toNat a0.size,true)) else (none)) else (none)) = some (r1,r2,r3) := by first | (rw [Cj] at H; exact H) | (simp only [Cj] at H ⊢; exact H)
      (try rw [Cj] at eC)
      (try rw [Cj] at A8)
      have agF : (IntKind.i64.wrap (t127 - 1)) = vt := (cL _).trans Cj
      by_cases bE : 0 ≤ (vt)
      ·rw [if_pos bE] at H
       have dJ := eq_true bE
       have eS : decide (0 ≤ (vt)) = true := decide_eq_true bE
       clear bE
       by_cases bP : (vt) ≤ (a0.size : Int)
       ·rw [if_pos bP] at H
        have fj := eq_true bP
        have jk : decide ((vt) ≤ (a0.size : Int)) = true := decide_eq_true bP
        clear bP
        have dP := eq_true (of_decide_eq_true (by first | (with_reducible assumption) | assumption) : 0 ≤ (vt))
        have iO := eq_true (of_decide_eq_true (by first | (with_reducible assumption) | assumption) : (vt) ≤ (a0.size : Int))
        simp only [Option.some.injEq,Prod.mk.injEq] at H
        obtain ⟨rfl,rfl,rfl⟩ := H
        go_wp2_with (first | (go_at_call 40; (with_reducible refine (bn.calls xu ((⟨#[97]⟩ : ByteArray) ++ a0) t127 _ A8.out).mono ?_); rintro e w' ⟨rfl,⟨nd,rfl⟩⟩; (try first | exact ⟨rfl,_,World.drewN_drewN _ _ _⟩ | exact ⟨rfl,_,Eq.trans (World.drewN_drewN _ _ _) (congrArg (World.drewN _) (Nat.add_assoc _ _ _))⟩)))
        repeat (go_quiet (first | (go_at_call 40; (with_reducible refine (bn.calls xu ((⟨#[97]⟩ : ByteArray) ++ a0) t127 _ A8.out).mono ?_); rintro e w' ⟨rfl,⟨nd,rfl⟩⟩; (try first | exact ⟨rfl,_,World.drewN_drewN _ _ _⟩ | exact ⟨rfl,_,Eq.trans (World.drewN_drewN _ _ _) (congrArg (World.drewN _) (Nat.add_assoc _ _ _))⟩))); try go_wp2_with (first | (go_at_call 40; (with_reducible refine (bn.calls xu ((⟨#[97]⟩ : ByteArray) ++ a0) t127 _ A8.out).mono ?_); rintro e w' ⟨rfl,⟨nd,rfl⟩⟩; (try first | exact ⟨rfl,_,World.drewN_drewN _ _ _⟩ | exact ⟨rfl,_,Eq.trans (World.drewN_drewN _ _ _) (congrArg (World.drewN _) (Nat.add_assoc _ _ _))⟩))))
        go_ret3
        exact ⟨by first | rfl | (simp; done) | (simp only [← Cj] <;> (first | rfl | simp)) | (simp [*]; done),by repeat (first | exact ah.refl _ | apply ah.step)⟩
       ·rw [if_neg bP] at H
        exact absurd H (by simp)
      ·rw [if_neg bE] at H
       exact absurd H (by simp)
    ·rw [if_neg c7] at H
     exact absurd H (by simp)
   ·replace c6 := Bool.eq_false_iff.mpr c6
    subst c6
    have H1 : ((bn.f xu a0).bind fun t128 => (if t128 ≤ 0 then (some ((⟨#[]⟩ : ByteArray),(⟨#[]⟩ : ByteArray),false)) else (if 0 ≤ t128 then (if t128 ≤ (a0.size : Int) then (some (a0.extract 0 (t128 : Int).toNat,a0.extract (t128 : Int).toNat a0.size,true)) else (none)) else (none)))) = some (r1,r2,r3) := by rw [if_neg (show ¬ (false = true) by decide)] at H; exact H
    clear H
    have H := H1
    clear H1
    replace H := Option.bind_eq_some_iff.mp H
    obtain ⟨t128,J6,H⟩ := H
    replace H : (if t128 ≤ 0 then (some ((⟨#[]⟩ : ByteArray),(⟨#[]⟩ : ByteArray),false)) else (if 0 ≤ t128 then (if t128 ≤ (a0.size : Int) then (some (a0.extract 0 (t128 : Int).toNat,a0.extract (t128 : Int).toNat a0.size,true)) else (none)) else (none))) = some (r1,r2,r3) := H
    have G2 := U.mk J6
    clear J6
    by_cases eM : t128 ≤ 0
    ·rw [if_pos eM] at H
     have ka : decide (t128 ≤ 0) = true := decide_eq_true eM
     clear eM
     simp only [Option.some.injEq,Prod.mk.injEq] at H
     obtain ⟨rfl,rfl,rfl⟩ := H
     go_wp2_with (first | (go_at_call 40; (with_reducible refine (bn.calls xu a0 t128 _ G2.out).mono ?_); rintro e w' ⟨rfl,⟨nd,rfl⟩⟩; (try first | exact ⟨rfl,_,World.drewN_drewN _ _ _⟩ | exact ⟨rfl,_,Eq.trans (World.drewN_drewN _ _ _) (congrArg (World.drewN _) (Nat.add_assoc _ _ _))⟩)))
     repeat (go_quiet (first | (go_at_call 40; (with_reducible refine (bn.calls xu a0 t128 _ G2.out).mono ?_); rintro e w' ⟨rfl,⟨nd,rfl⟩⟩; (try first | exact ⟨rfl,_,World.drewN_drewN _ _ _⟩ | exact ⟨rfl,_,Eq.trans (World.drewN_drewN _ _ _) (congrArg (World.drewN _) (Nat.add_assoc _ _ _))⟩))); try go_wp2_with (first | (go_at_call 40; (with_reducible refine (bn.calls xu a0 t128 _ G2.out).mono ?_); rintro e w' ⟨rfl,⟨nd,rfl⟩⟩; (try first | exact ⟨rfl,_,World.drewN_drewN _ _ _⟩ | exact ⟨rfl,_,Eq.trans (World.drewN_drewN _ _ _) (congrArg (World.drewN _) (Nat.add_assoc _ _ _))⟩))))
     go_ret3
     exact ⟨by first | rfl | (simp; done) | (simp [*]; done),by repeat (first | exact ah.refl _ | apply ah.step)⟩
    ·rw [if_neg eM] at H
     have ka : decide (t128 ≤ 0) = false := decide_eq_false eM
     clear eM
     by_cases fm : 0 ≤ t128
     ·rw [if_pos fm] at H
      have kH := eq_true fm
      have xJ : decide (0 ≤ t128) = true := decide_eq_true fm
      clear fm
      by_cases fk : t128 ≤ (a0.size : Int)
      ·rw [if_pos fk] at H
       have iN := eq_true fk
       have lJ : decide (t128 ≤ (a0.size : Int)) = true := decide_eq_true fk
       clear fk
       have kG := eq_true (of_decide_eq_true (by first | (with_reducible assumption) | assumption) : 0 ≤ t128)
       have kF := eq_true (of_decide_eq_true (by first | (with_reducible assumption) | assumption) : t128 ≤ (a0.size : Int))
       simp only [Option.some.injEq,Prod.mk.injEq] at H
       obtain ⟨rfl,rfl,rfl⟩ := H
       go_wp2_with (first | (go_at_call 40; (with_reducible refine (bn.calls xu a0 t128 _ G2.out).mono ?_); rintro e w' ⟨rfl,⟨nd,rfl⟩⟩; (try first | exact ⟨rfl,_,World.drewN_drewN _ _ _⟩ | exact ⟨rfl,_,Eq.trans (World.drewN_drewN _ _ _) (congrArg (World.drewN _) (Nat.add_assoc _ _ _))⟩)))
       repeat (go_quiet (first | (go_at_call 40; (with_reducible refine (bn.calls xu a0 t128 _ G2.out).mono ?_); rintro e w' ⟨rfl,⟨nd,rfl⟩⟩; (try first | exact ⟨rfl,_,World.drewN_drewN _ _ _⟩ | exact ⟨rfl,_,Eq.trans (World.drewN_drewN _ _ _) (congrArg (World.drewN _) (Nat.add_assoc _ _ _))⟩))); try go_wp2_with (first | (go_at_call 40; (with_reducible refine (bn.calls xu a0 t128 _ G2.out).mono ?_); rintro e w' ⟨rfl,⟨nd,rfl⟩⟩; (try first | exact ⟨rfl,_,World.drewN_drewN _ _ _⟩ | exact ⟨rfl,_,Eq.trans (World.drewN_drewN _ _ _) (congrArg (World.drewN _) (Nat.add_assoc _ _ _))⟩))))
       go_ret3
       exact ⟨by first | rfl | (simp; done) | (simp [*]; done),by repeat (first | exact ah.refl _ | apply ah.step)⟩
      ·rw [if_neg fk] at H
       exact absurd H (by simp)
     ·rw [if_neg fm] at H
      exact absurd H (by simp)


end Go.Proofs.YtkdebhgccpfkiaaGreatDoor.au
namespace Go.Proofs.YtkdebhgccpfkiaaGreatDoor.au
open Go.RowKit Go.Proofs.aa.az Go.Proofs.aa.aM Go.Proofs.aa.aU
attribute [local go_sem] ba bh
set_option linter.unusedVariables false
set_option linter.unusedSimpArgs false
open Go.Proofs.YtkdebhgccpfkiaaGreatDoor.fD Go.Proofs.YtkdebhgccpfkiaaGreatDoor.fO Go.Proofs.YtkdebhgccpfkiaaGreatDoor.gw
mutual
def sig : aT → ByteArray
 | ⟨a,_,s,l⟩ => if a = 97 then (⟨#[97]⟩ : ByteArray) ++ s else if a = 40 then strOfNums [a] ++ fy l ++ (⟨#[41]⟩ : ByteArray) else if a = 123 then strOfNums [a] ++ fy l ++ (⟨#[125]⟩ : ByteArray) else strOfNums [a]
def fy : List aT → ByteArray
 | [] => ⟨#[]⟩
 | x :: r => sig x ++ fy r
end
theorem vj (l : List Int) : (strOfNums l).size = l.length := by simp [strOfNums,ByteArray.size]
def Sh (L : List aT) : Prop := ∀ y ∈ aJ L,y.f2.size ≤ 65536
theorem Sh.cons {x : aT} {L : List aT} (h : Sh (x :: L)) : x.f2.size ≤ 65536 ∧ Sh x.f3 ∧ Sh L := by
 unfold Sh at h
 rw [aJ,nodes_eq] at h
 exact ⟨h x (by simp),fun y hy => h y (by simp [hy]),fun y hy => h y (by simp [hy])⟩
theorem gH (a b : ByteArray) : (a ++ b).size = a.size + b.size := ByteArray.size_append
theorem Db (x : aT) (L : List aT) : (aJ (x :: L)).length = 1 + (aJ x.f3).length + (aJ L).length := by
 rw [aJ,nodes_eq]; simp; omega
theorem Gc : ∀ n (L : List aT),(aJ L).length ≤ n → Sh L → (fy L).size ≤ 65540 * (aJ L).length := by
 intro n
 induction n with
 | zero=>
   intro L h _
   cases L with
   | nil => rw [fy]; exact Nat.zero_le _
   | cons x r => rw [Db] at h; omega
 | succ n ih=>
   intro L h hs
   cases L with
   | nil => rw [fy]; exact Nat.zero_le _
   | cons x r=>
     obtain ⟨h1,h2,h3⟩ := hs.cons
     rw [Db] at h ⊢
     have i1 := ih x.f3 (by omega) h2
     have i2 := ih r (by omega) h3
     obtain ⟨a,b,s,l⟩ := x
     simp only at h1 i1 i2 ⊢
     rw [fy,gH]
     have : (sig ⟨a,b,s,l⟩).size ≤ 65540 + 65540 * (aJ l).length := by
      rw [sig]
      split
      · rw [gH]; have : (⟨#[97]⟩ : ByteArray).size = 1 := rfl; omega
      · split
        · rw [gH,gH,vj]; have : (⟨#[41]⟩ : ByteArray).size = 1 := rfl; simp only [List.length_cons,List.length_nil]; omega
        · split
          · rw [gH,gH,vj]; have : (⟨#[125]⟩ : ByteArray).size = 1 := rfl; simp only [List.length_cons,List.length_nil]; omega
          · rw [vj]; simp only [List.length_cons,List.length_nil]; omega
     omega
theorem vm {x : aT} (h : Sh [x]) : (sig x).size ≤ 65540 * (nodes x).length := by
 have := Gc _ [x] (Nat.le_refl _) h
 rw [fy,gH] at this
 rw [aJ] at this
 simp only [fy,aJ,List.append_nil] at this
 omega
end Go.Proofs.YtkdebhgccpfkiaaGreatDoor.au
namespace Go.Proofs.YtkdebhgccpfkiaaGreatDoor.au
open Go.RowKit Go.Proofs.aa.az Go.Proofs.aa.aM Go.Proofs.aa.aU
attribute [local go_sem] ba bh
set_option linter.unusedVariables false
set_option linter.unusedSimpArgs false
open Go.Proofs.YtkdebhgccpfkiaaGreatDoor.fD Go.Proofs.YtkdebhgccpfkiaaGreatDoor.fO Go.Proofs.YtkdebhgccpfkiaaGreatDoor.gw Go.Proofs.YtkdebhgccpfkiaaGreatDoor.dI Go.Proofs.YtkdebhgccpfkiaaGreatDoor.fg
theorem OX {α : Type} {c : Prop} [Decidable c] {x y : Option α} (h1 : ∃ b,x = some b) (h2 : ∃ b,y = some b) : ∃ b,(if c then x else y) = some b := by split <;> assumption
theorem P1 (a : Int) : ∃ b,gp.f a = some b := by unfold gp.f; repeat' first | exact ⟨_,rfl⟩ | refine OX ?_ ?_
theorem Ke (a n : Int) : ∃ b,iS.f a n = some b := by unfold iS.f; repeat' first | exact ⟨_,rfl⟩ | refine OX ?_ ?_
theorem ad6 (s : ByteArray) (hs : s.size ≤ 100000) : ∀ d i : Nat,s.size - i = d → 1 ≤ i → ∃ r,Ev (fun k => ax.l0 k s (i : Int)) r := by
 intro d
 induction d with
 | zero=>
   intro i hd hi
   refine ⟨true,Ev.step (f := fun _ => some true) (fun k => ?_) (Ev.now _)⟩
   simp only [ax.l0]; rw [if_neg (by omega)]
 | succ d ih=>
   intro i hd hi
   obtain ⟨r,hr⟩ := ih (i + 1) (by omega) (by omega)
   have ew : wrap64 ((i : Int) + 1) = ((i + 1 : Nat) : Int) := fK (by omega) (by omega)
   have em : wrap64 ((i : Int) - 1) = ((i - 1 : Nat) : Int) := (fK (by omega) (by omega)).trans (by omega)
   obtain ⟨b,hb⟩ := P1 (bt s (i : Int))
   by_cases h : bt s (i : Int) = 47
   · by_cases h2 : bt s ((i - 1 : Nat) : Int) = 47
     · refine ⟨false,Ev.step (f := fun _ => some false) (fun k => ?_) (Ev.now _)⟩
       simp only [ax.l0,em]; rw [if_pos (by omega),if_pos (by omega),if_pos h,if_pos (by omega),if_pos (by omega),if_pos h2]
     · refine ⟨r,Ev.step (fun k => ?_) hr⟩
       simp only [ax.l0,em,ew]; rw [if_pos (by omega),if_pos (by omega),if_pos h,if_pos (by omega),if_pos (by omega),if_neg h2]
   · cases b with
     | true=>
       refine ⟨r,Ev.step (fun k => ?_) hr⟩
       simp only [ax.l0,ew,hb,Option.bind_some]; rw [if_pos (by omega),if_pos (by omega),if_neg h,if_pos trivial]
     | false=>
       refine ⟨false,Ev.step (f := fun _ => some false) (fun k => ?_) (Ev.now _)⟩
       simp only [ax.l0,hb,Option.bind_some]; rw [if_pos (by omega),if_pos (by omega),if_neg h,if_neg (by simp)]
theorem Xo (s : ByteArray) (hs : s.size ≤ 100000) : ∃ r,Ev (fun k => ax.f k s) r := by
 obtain ⟨r,hr⟩ := ad6 s hs _ 1 rfl (Nat.le_refl _)
 have jt : ∀ k,ax.j0 (k + 1) s true = some false := fun k => by simp only [ax.j0]; rw [if_pos trivial]
 have jf : ∀ k,ax.j0 (k + 1) s false = ax.l0 k s ((1 : Nat) : Int) := fun k => by simp only [ax.j0]; rw [if_neg (by simp)]; rfl
 have YX : Ev (fun k => ax.j0 k s true) false := Ev.step (f := fun _ => some false) jt (Ev.now _)
 have jf' : Ev (fun k => ax.j0 k s false) r := Ev.step jf hr
 unfold ax.f
 by_cases h1 : s.toList = ([47] : List UInt8)
 · exact ⟨true,aE h1 (fun _ => rfl) (Ev.now _)⟩
 · by_cases h2 : s.toList = ([] : List UInt8)
   · exact ⟨false,aV h1 (fun _ => rfl) (aE h2 (fun _ => rfl) YX)⟩
   · have hz : s.size ≠ 0 := fun q => h2 (by rw [ch]; exact List.eq_nil_of_length_eq_zero q)
     have em : wrap64 ((s.size : Int) - 1) = ((s.size - 1 : Nat) : Int) := (fK (by omega) (by omega)).trans (by omega)
     by_cases h3 : bt s 0 = 47
     · cases hc : (bt s (wrap64 ((s.size : Int) - 1)) == 47) with
       | true => exact ⟨false,aV h1 (fun _ => rfl) (aV h2 (fun _ => rfl) (aE (by omega) (fun _ => rfl) (aE h3 (fun _ => rfl) (aE (by rw [em]; omega) (fun _ => rfl) (aE (by rw [em]; omega) (fun _ => rfl) YX)))))⟩
       | false => exact ⟨r,aV h1 (fun _ => rfl) (aV h2 (fun _ => rfl) (aE (by omega) (fun _ => rfl) (aE h3 (fun _ => rfl) (aE (by rw [em]; omega) (fun _ => rfl) (aE (by rw [em]; omega) (fun _ => rfl) jf')))))⟩
     · exact ⟨false,aV h1 (fun _ => rfl) (aV h2 (fun _ => rfl) (aE (by omega) (fun _ => rfl) (aV h3 (fun _ => rfl) YX)))⟩
theorem ad5 (s : ByteArray) (hs : s.size ≤ 100000) : ∀ d i : Nat,s.size - i = d → ∃ r,Ev (fun k => bm.l0 k s (i : Int)) r := by
 intro d
 induction d with
 | zero=>
   intro i hd
   refine ⟨Lib.validD s.data.toList,Ev.step (f := fun _ => some (Lib.validD s.data.toList)) (fun k => ?_) (Ev.now _)⟩
   simp only [bm.l0,utf8_ValidString.f]; rw [if_neg (by omega),if_pos (by omega)]; rfl
 | succ d ih=>
   intro i hd
   obtain ⟨r,hr⟩ := ih (i + 1) (by omega)
   have ew : wrap64 ((i : Int) + 1) = ((i + 1 : Nat) : Int) := fK (by omega) (by omega)
   by_cases h : bt s (i : Int) = 0
   · refine ⟨false,Ev.step (f := fun _ => some false) (fun k => ?_) (Ev.now _)⟩
     simp only [bm.l0]; rw [if_pos (by omega),if_pos (by omega),if_pos h]
   · refine ⟨r,Ev.step (fun k => ?_) hr⟩
     simp only [bm.l0,ew]; rw [if_pos (by omega),if_pos (by omega),if_neg h]
theorem QJ (a n : Int) (w : World) : Calls Tryz.prog 22 #[.int .u8 a,.int .u64 n] w fun e w' => ∃ b : Bool,e = .returned (.bool b) ∧ ah w w' := by
 obtain ⟨b,hb⟩ := Ke a n
 exact (iS.calls a n b w hb).mono fun e w' ⟨h1,h2⟩ => ⟨b,h1,h2⟩
theorem P5 (s : ByteArray) (w : World) (hs : s.size ≤ 1000000000) :
 Calls Tryz.prog 14 #[.string s] w fun e w' => ∃ b : Bool,e = .returned (.bool b) ∧ (b = true → s.size ≤ 255 ∧ ∃ xs : List (List UInt8),(∀ x ∈ xs,T 32 32 32 x) ∧ bl s = xs.flatten) ∧ Below w.heap.size w w' := by
 obtain ⟨L,b,hL,h⟩ := types s hs
 obtain ⟨k,hk⟩ := (Ev.bind hL (f := fun _ x => some x.2) (Ev.now b)).rounds
 refine (zS.calls k s b w hk).mono fun e w' ⟨h1,h2⟩ => ⟨b,h1,fun hb => ?_,h2⟩
 rcases h with ⟨_,h3,h4,h5⟩ | ⟨h3,_⟩
 · exact ⟨h3,_,h4,h5⟩
 · rw [hb] at h3; cases h3
theorem Lp (s : ByteArray) (hs : s.size ≤ 1000000000) : ∃ n : Nat,Ev (fun k => bn.f k s) (n : Int) ∧ Mt s 32 32 32 n := by
 obtain ⟨n,hn,h⟩ := complete s.size s (Nat.le_refl _) hs 32 32 32 (by omega) (by omega) (by omega) (by omega) (by omega) (by omega)
 exact ⟨n,Ev.bind hn (Ev.now _),h⟩
theorem adp (s : ByteArray) : bl ((⟨#[97]⟩ : ByteArray) ++ s) = 97 :: bl s := by rw [dg]; rfl
theorem ac4 (s : ByteArray) (hs : s.size ≤ 100000) : ∃ (r1 r2 : ByteArray) (r3 : Bool),Ev (fun k => cP.f k s) (r1,r2,r3) ∧ (r3 = true → r2.size = 0 → T 33 32 33 (97 :: bl s)) := by
 have jt : ∃ (r1 r2 : ByteArray) (r3 : Bool),Ev (fun k => cP.j0 k s true) (r1,r2,r3) ∧ (r3 = true → r2.size = 0 → T 33 32 33 (97 :: bl s)) := by
  have z1 : ((⟨#[97]⟩ : ByteArray) ++ s).size = 1 + s.size := by rw [gH]; rfl
  obtain ⟨n,hn,h1,h2⟩ := Lp ((⟨#[97]⟩ : ByteArray) ++ s) (by omega)
  have nle : n ≤ 1 + s.size := by
   by_cases h : 0 < n
   · exact z1 ▸ (h2 h).1
   · omega
  have ew : wrap64 ((n : Int) - 1) = (n : Int) - 1 := fK (by omega) (by omega)
  have st : ∀ k,cP.j0 (k + 1) s true = (bn.f k ((⟨#[97]⟩ : ByteArray) ++ s)).bind fun t127 => (if (wrap64 (t127 - 1)) ≤ 0 then (some ((⟨#[]⟩ : ByteArray),(⟨#[]⟩ : ByteArray),false)) else (if 0 ≤ (wrap64 (t127 - 1)) then (if (wrap64 (t127 - 1)) ≤ (s.size : Int) then (some (s.extract 0 ((wrap64 (t127 - 1)) : Int).toNat,s.extract ((wrap64 (t127 - 1)) : Int).toNat s.size,true)) else (none)) else (none))) := by
   intro k; simp only [cP.j0]; rw [if_pos trivial,if_pos (by omega)]
  by_cases h0 : (n : Int) - 1 ≤ 0
  · exact ⟨_,_,_,Ev.step st (Ev.bind hn (aE (by rw [ew]; exact h0) (fun _ => rfl) (Ev.now _))),fun h => by cases h⟩
  · refine ⟨_,_,_,Ev.step st (Ev.bind hn (aV (by rw [ew]; exact h0) (fun _ => rfl) (aE (by rw [ew]; omega) (fun _ => rfl) (aE (by rw [ew]; omega) (fun _ => rfl) (Ev.now _))))),fun _ h => ?_⟩
    rw [ew,dI.size_drop] at h
    have t := (h2 (by omega)).2
    rw [adp,List.take_of_length_le (by rw [List.length_cons,bF]; omega)] at t
    exact t.more (by omega) (by omega) (by omega)
 have jf : ∃ (r1 r2 : ByteArray) (r3 : Bool),Ev (fun k => cP.j0 k s false) (r1,r2,r3) ∧ (r3 = true → r2.size = 0 → T 33 32 33 (97 :: bl s)) := by
  obtain ⟨n,hn,h1,h2⟩ := Lp s (by omega)
  have nle : n ≤ s.size := by
   by_cases h : 0 < n
   · exact (h2 h).1
   · omega
  have st : ∀ k,cP.j0 (k + 1) s false = (bn.f k s).bind fun t128 => (if t128 ≤ 0 then (some ((⟨#[]⟩ : ByteArray),(⟨#[]⟩ : ByteArray),false)) else (if 0 ≤ t128 then (if t128 ≤ (s.size : Int) then (some (s.extract 0 (t128 : Int).toNat,s.extract (t128 : Int).toNat s.size,true)) else (none)) else (none))) := by
   intro k; simp only [cP.j0]; rw [if_neg (by simp)]
  by_cases h0 : (n : Int) ≤ 0
  · exact ⟨_,_,_,Ev.step st (Ev.bind hn (aE h0 (fun _ => rfl) (Ev.now _))),fun h => by cases h⟩
  · refine ⟨_,_,_,Ev.step st (Ev.bind hn (aV h0 (fun _ => rfl) (aE (by omega) (fun _ => rfl) (aE (by omega) (fun _ => rfl) (Ev.now _))))),fun _ h => ?_⟩
    rw [dI.size_drop] at h
    have t := (h2 (by omega)).2
    rw [List.take_of_length_le (by rw [bF]; omega)] at t
    exact T.arr (by omega) (by omega) (by omega) (t.more (by omega) (by omega) (by omega))
 by_cases h1 : (s.size : Int) > 1
 · cases hb : (bt s 0 == 123) with
   | true=>
     obtain ⟨r1,r2,r3,h,h'⟩ := jt
     exact ⟨r1,r2,r3,aE h1 (fun _ => rfl) (aE (by omega) (fun _ => rfl) (by rw [hb]; exact h)),h'⟩
   | false=>
     obtain ⟨r1,r2,r3,h,h'⟩ := jf
     exact ⟨r1,r2,r3,aE h1 (fun _ => rfl) (aE (by omega) (fun _ => rfl) (by rw [hb]; exact h)),h'⟩
 · obtain ⟨r1,r2,r3,h,h'⟩ := jf
   exact ⟨r1,r2,r3,aV h1 (fun _ => rfl) h,h'⟩
theorem Rd (s : ByteArray) (w : World) (hs : s.size ≤ 100000) :
 Calls Tryz.prog 25 #[.string s] w fun e w' => ∃ (r1 r2 : ByteArray) (r3 : Bool),e = .returned (.tuple #[.string r1,.string r2,.bool r3]) ∧ (r3 = true → r2.size = 0 → T 33 32 33 (97 :: bl s)) ∧ ah w w' := by
 obtain ⟨r1,r2,r3,hr,h⟩ := ac4 s hs
 obtain ⟨k,hk⟩ := hr.rounds
 exact (cP.calls k s r1 r2 r3 w hk).mono fun e w' ⟨h1,h2⟩ => ⟨r1,r2,r3,h1,h,h2⟩
theorem Rq (a : Int) (w : World) : Calls Tryz.prog 7 #[.int .u8 a] w fun e w' => ∃ b : Bool,e = .returned (.bool b) ∧ (b = true → ∃ c : UInt8,a = c.toNat ∧ dy c = true) ∧ ah w w' := by
 have h : ∃ b,dC.f a = some b ∧ (b = true → ∃ c : UInt8,a = c.toNat ∧ dy c = true) := by
  by_cases h : 0 ≤ a ∧ a < 256
  · obtain ⟨n,rfl⟩ : ∃ n : Nat,a = n := ⟨a.toNat,by omega⟩
    have := F2 (UInt8.ofNat n)
    have e : (UInt8.ofNat n).toNat = n := by simp; omega
    rw [e] at this
    exact ⟨_,this,fun hb => ⟨UInt8.ofNat n,by rw [e],hb⟩⟩
  · refine ⟨false,?_,fun h => by cases h⟩
    unfold dC.f
    iterate 13 rw [if_neg (by omega)]
 obtain ⟨b,hb,h⟩ := h
 exact (dC.calls a b w hb).mono fun e w' ⟨h1,h2⟩ => ⟨b,h1,h,h2⟩
def CS (l : List UInt8) : Prop := l.length ≤ 255 ∧ ∃ xs : List (List UInt8),(∀ x ∈ xs,T 32 32 32 x) ∧ l = xs.flatten
def TD : Nat → aT → Prop
 | 0,_ => False
 | n + 1,x=>
   (∃ c : UInt8,dy c = true ∧ x.f0 = (c.toNat : Int) ∧ (x.f0 = 115 → ∃ k,bm.f k x.f2 = some true) ∧ (x.f0 = 111 → ∃ k,ax.f k x.f2 = some true) ∧ x.f3 = []) ∨
   (x.f0 = 118 ∧ ∃ y,x.f3 = [y] ∧ y.f0 ≠ 123 ∧ CS (bl (sig y)) ∧ TD n y) ∨
   ((x.f0 = 40 ∨ x.f0 = 123 ∧ ∃ k v,x.f3 = [k,v] ∧ ∃ c : UInt8,dy c = true ∧ k.f0 = (c.toNat : Int)) ∧ x.f3 ≠ [] ∧ ∀ y ∈ x.f3,y.f0 ≠ 123 ∧ TD n y) ∨
   (x.f0 = 97 ∧ T 33 32 33 (97 :: bl x.f2) ∧ ∀ y ∈ x.f3,sig y = x.f2 ∧ TD n y)
theorem aeI {α : Type} (l : List α) (h : l.length = 2) : ∃ a b,l = [a,b] := by
 match l,h with
 | [a,b],_ => exact ⟨a,b,rfl⟩
theorem Kv {L0 : List aT} {i : Nat} (hlt : i < L0.length) : aA L0 (i : Int) = L0[i] := by unfold aA; rw [Int.toNat_natCast,List.getD_eq_getElem?_getD,List.getElem?_eq_getElem hlt]; rfl
theorem ab4 {x y r q : List UInt8} (hx : T 900 900 900 x) (hy : T 900 900 900 y) (hl : (x ++ r).length ≤ 1000000000) (e : x ++ r = y ++ q) : x = y := by
 let s : ByteArray := ⟨(x ++ r).toArray⟩
 have hb : bl s = x ++ r := by simp [s,bl]
 have hs : s.size ≤ 1000000000 := by rw [← bF,hb]; exact hl
 obtain ⟨n,_,h1,_⟩ := complete s.size s (Nat.le_refl _) hs 900 900 900 (by omega) (by omega) (by omega) (by omega) (by omega) (by omega)
 have e1 := h1 x r hx hb
 have e2 := h1 y q hy (by rw [hb,e])
 have h3 := congrArg (List.take x.length) e
 rw [List.take_left,show x.length = y.length by omega,List.take_left] at h3
 exact h3
theorem CU : ∀ (xs ys : List (List UInt8)),(∀ x ∈ xs,T 900 900 900 x) → (∀ y ∈ ys,T 900 900 900 y) → xs.flatten.length ≤ 1000000000 → xs.flatten = ys.flatten → xs = ys
 | [],[],_,_,_,_ => rfl
 | [],y :: ys,_,hy,_,e => by
   have := (hy y List.mem_cons_self).len
   have h2 := congrArg List.length e
   simp only [List.flatten_nil,List.flatten_cons,List.length_nil,List.length_append] at h2; omega
 | x :: xs,[],hx,_,_,e => by
   have := (hx x List.mem_cons_self).len
   have h2 := congrArg List.length e
   simp only [List.flatten_nil,List.flatten_cons,List.length_nil,List.length_append] at h2; omega
 | x :: xs,y :: ys,hx,hy,hl,e => by
   simp only [List.flatten_cons] at e hl
   have e3 := ab4 (hx x List.mem_cons_self) (hy y List.mem_cons_self) hl e
   subst e3
   have e4 := List.append_cancel_left e
   rw [CU xs ys (fun z hz => hx z (List.mem_cons_of_mem _ hz)) (fun z hz => hy z (List.mem_cons_of_mem _ hz)) (by simp only [List.length_append] at hl; omega) e4]
theorem JP (c : UInt8) : bl (strOfNums [(c.toNat : Int)]) = [c] := by simp [strOfNums,bl]
theorem F1 : ∀ l : List aT,bl (fy l) = (l.map fun y => bl (sig y)).flatten
 | [] => by rw [fy]; rfl
 | x :: r => by rw [fy,dg,F1 r]; simp
theorem eN {x : aT} {c : UInt8} (hc : cj c = true) (h : x.f0 = (c.toNat : Int)) : bl (sig x) = [c] := by
 obtain ⟨a,b,s,l⟩ := x
 simp only at h
 subst h
 obtain ⟨_,h1,h2,_,h3,_⟩ := eQ c hc
 have g1 : ¬ (c.toNat : Int) = 97 := fun q => h1 ((dN 97).mp q)
 have g2 : ¬ (c.toNat : Int) = 40 := fun q => h2 ((dN 40).mp q)
 have g3 : ¬ (c.toNat : Int) = 123 := fun q => h3 ((dN 123).mp q)
 rw [sig,if_neg g1,if_neg g2,if_neg g3]
 exact JP c
theorem lM {x : aT} (h : x.f0 = 97) : bl (sig x) = 97 :: bl x.f2 := by
 obtain ⟨a,b,s,l⟩ := x
 simp only at h
 rw [sig,if_pos h,dg]; rfl
theorem zt {x : aT} (h : x.f0 = 40) : bl (sig x) = 40 :: ((x.f3.map fun y => bl (sig y)).flatten ++ [41]) := by
 obtain ⟨a,b,s,l⟩ := x
 simp only at h
 subst h
 rw [sig,if_neg (by omega),if_pos rfl,dg,dg,F1]
 rw [show bl (strOfNums [40]) = [40] from JP 40]; rfl
theorem Fu {x : aT} (h : x.f0 = 123) : bl (sig x) = 123 :: ((x.f3.map fun y => bl (sig y)).flatten ++ [125]) := by
 obtain ⟨a,b,s,l⟩ := x
 simp only at h
 subst h
 rw [sig,if_neg (by omega),if_neg (by omega),if_pos rfl,dg,dg,F1]
 rw [show bl (strOfNums [123]) = [123] from JP 123]; rfl
theorem LM : ∀ (n : Nat) (x : aT),TD n x → x.f0 ≠ 123 → T 33 (32 + (n : Int)) 33 (bl (sig x))
 | 0,_,h,_ => h.elim
 | n + 1,x,h,cd => by
   rcases h with ⟨c,hc,h0,_⟩ | ⟨h0,_⟩ | ⟨h0,hne,hk⟩ | ⟨h0,ht,_⟩
   · have ho : cj c = true := by simp [cj,hc]
     rw [eN ho h0]; exact T.one (by omega) (by omega) (by omega) ho
   · rw [eN (c := 118) (by decide) h0]; exact T.one (by omega) (by omega) (by omega) (by decide)
   · have iv : x.f0 = 40 := by
      rcases h0 with h | ⟨h,_⟩
      · exact h
      · exact absurd h cd
     rw [zt iv]
     refine T.str (by omega) (by omega) (by omega) (by simpa using hne) fun y hy => ?_
     obtain ⟨z,hz,rfl⟩ := List.mem_map.mp hy
     have := LM n z (hk z hz).2 (hk z hz).1
     rw [show (32 + ((n + 1 : Nat) : Int) - 1) = 32 + (n : Int) by omega]
     exact this
   · rw [lM h0]
     exact ht.more (by omega) (by omega) (by omega)
end Go.Proofs.YtkdebhgccpfkiaaGreatDoor.au
namespace Go.Proofs.YtkdebhgccpfkiaaGreatDoor.au
open Go.RowKit Go.Proofs.aa.az Go.Proofs.aa.aM Go.Proofs.aa.aU
attribute [local go_sem] ba bh
set_option linter.unusedVariables false
set_option linter.unusedSimpArgs false
open Go.Proofs.YtkdebhgccpfkiaaGreatDoor.fD Go.Proofs.YtkdebhgccpfkiaaGreatDoor.fO Go.Proofs.YtkdebhgccpfkiaaGreatDoor.gw Go.Proofs.YtkdebhgccpfkiaaGreatDoor.dI Go.Proofs.YtkdebhgccpfkiaaGreatDoor.fg
theorem SZ {n : Nat} {x : aT} (h : TD n x) (cd : x.f0 ≠ 123) (hn : n ≤ 800) (hv : CS (bl (sig x))) : T 32 32 32 (bl (sig x)) := by
 obtain ⟨hl,xs,hx,e⟩ := hv
 have t := LM n x h cd
 have e2 : xs = [bl (sig x)] := CU xs [bl (sig x)] (fun y hy => (hx y hy).more (by omega) (by omega) (by omega)) (fun y hy => by
  rw [List.mem_singleton.mp hy]
  exact t.more (by omega) (by omega) (by omega)) (by rw [← e]; omega) (by rw [← e]; simp)
 exact hx _ (by rw [e2]; simp)
mutual
def gT : aT → cY
 | ⟨a,b,s,l⟩ => ⟨a,b,s,iz l⟩
def iz : List aT → List cY
 | [] => []
 | x :: r => gT x :: iz r
end
theorem Ic : ∀ l : List aT,iz l = l.map gT
 | [] => by rw [iz]; rfl
 | x :: r => by rw [iz,Ic r]; rfl
theorem AV (x : aT) : (gT x).f0 = x.f0 := by cases x; rw [gT]
theorem vi (x : aT) : (gT x).f2 = x.f2 := by cases x; rw [gT]
theorem jv (x : aT) : (gT x).f3 = x.f3.map gT := by cases x; rw [gT,Ic]
def KY : Nat → aT → Prop
 | 0,_ => False
 | n + 1,x => (x.f0 = 97 → NK (97 :: bl x.f2)) ∧ ∀ y ∈ x.f3,KY n y
end Go.Proofs.YtkdebhgccpfkiaaGreatDoor.au
namespace Go.Proofs.YtkdebhgccpfkiaaGreatDoor.au
open Go.RowKit Go.Proofs.aa.az Go.Proofs.aa.aM Go.Proofs.aa.aU
attribute [local go_sem] ba bh
set_option linter.unusedVariables false
set_option linter.unusedSimpArgs false
open Go.Proofs.YtkdebhgccpfkiaaGreatDoor.fD Go.Proofs.YtkdebhgccpfkiaaGreatDoor.fO Go.Proofs.YtkdebhgccpfkiaaGreatDoor.gw Go.Proofs.YtkdebhgccpfkiaaGreatDoor.dI Go.Proofs.YtkdebhgccpfkiaaGreatDoor.fg
theorem IU {n : Nat} {l : List aT} {y : aT} (hy : y ∈ l) (hn : (aJ l).length ≤ n) (hs : Sh l) : (nodes y).length ≤ n ∧ Sh [y] := by
 obtain ⟨p,q,rfl⟩ := List.append_of_mem hy
 rw [ee,aJ] at hn
 simp only [List.length_append] at hn
 refine ⟨by omega,fun z hz => ?_⟩
 rw [aJ,aJ,List.append_nil] at hz
 exact hs z (by rw [ee,aJ]; simp [hz])
theorem jM {n : Nat} {l : List aT} {y : aT} (hy : y ∈ l) (hn : (aJ l).length ≤ n) : (nodes y).length ≤ n := by
 obtain ⟨p,q,rfl⟩ := List.append_of_mem hy
 rw [ee,aJ] at hn
 simp only [List.length_append] at hn
 omega
def DP : Nat → aT → Prop
 | 0,_ => False
 | n + 1,x => (x.f0 = 97 ∨ x.f0 = 40 ∨ x.f0 = 123 ∨ x.f0 = 118) → ∀ y ∈ x.f3,DP n y
theorem DP.succ : ∀ {n : Nat} {x : aT},DP n x → DP (n + 1) x
 | 0,_,h => h.elim
 | n + 1,x,h => fun hc y hy => DP.succ (h hc y hy)
def ND (l : List UInt8) : Prop := ∀ p q,l ≠ p ++ 123 :: 100 :: q
theorem acP (s : ByteArray) (h : ∀ j : Nat,j + 1 < s.size → bt s (j : Int) = 123 → bt s ((j + 1 : Nat) : Int) ≠ 98 ∧ bt s ((j + 1 : Nat) : Int) ≠ 103 ∧ bt s ((j + 1 : Nat) : Int) ≠ 100) : NK (97 :: bl s) ∧ ND (bl s) := by
 have YV : ∀ (c : UInt8) (p q : List UInt8),bl s = p ++ 123 :: c :: q → ∃ j : Nat,j + 1 < s.size ∧ bt s (j : Int) = 123 ∧ bt s ((j + 1 : Nat) : Int) = (c.toNat : Int) := by
  intro c p q e2
  refine ⟨p.length,?_,?_,?_⟩
  · rw [← bF,e2]; simp only [List.length_append,List.length_cons]; omega
  · exact gn (c := 123) (r := c :: q) (by rw [e2]; simp)
  · exact gn (c := c) (r := q) (by rw [e2]; simp)
 have key : ∀ (c : UInt8) (p q : List UInt8),97 :: bl s = p ++ 123 :: c :: q → ∃ j : Nat,j + 1 < s.size ∧ bt s (j : Int) = 123 ∧ bt s ((j + 1 : Nat) : Int) = (c.toNat : Int) := by
  intro c p q e
  cases p with
  | nil => exact absurd (List.cons.inj e).1 (by decide)
  | cons d p => exact YV c p q (List.cons.inj e).2
 refine ⟨fun p q => ⟨fun e => ?_,fun e => ?_⟩,fun p q e => ?_⟩
 · obtain ⟨j,h1,h2,h3⟩ := key 98 p q e
   exact (h j h1 h2).1 h3
 · obtain ⟨j,h1,h2,h3⟩ := key 103 p q e
   exact (h j h1 h2).2.1 h3
 · obtain ⟨j,h1,h2,h3⟩ := YV 100 p q e
   exact (h j h1 h2).2.2 h3
def KQ : Nat → aT → Prop
 | 0,_ => False
 | n + 1,x => (x.f0 = 97 → NK (97 :: bl x.f2) ∧ ND (bl x.f2)) ∧ ∀ y ∈ x.f3,KQ n y
theorem Yc (x : aT) : (gT x).f1 = x.f1 := by cases x; rw [gT]
theorem MT (x : aT) : (⟨x.f0,x.f1,x.f2,iz x.f3⟩ : cY) = gT x := by cases x; rw [gT]
theorem acy (a b : Int) (s : ByteArray) (L0 : List aT) (hx : ∀ x ∈ L0,Ev (fun k => bj.f k x.f0 x.f1 x.f2 x.f3) (x.f0,x.f1,x.f2,iz x.f3)) (hz : L0.length ≤ 1000) : ∀ (d i : Nat) (acc : List cY),L0.length - i = d → i ≤ L0.length → acc.length = i →
 Ev (fun k => bj.l0 k L0 (L0.length : Int) (i : Int) a b s acc) (a,b,s,acc ++ iz (L0.drop i)) := by
 intro d
 induction d with
 | zero=>
   intro i acc hd hi ha
   rw [List.drop_eq_nil_of_le (by omega),iz,List.append_nil]
   refine Ev.step (f := fun _ => some (a,b,s,acc)) (fun k => ?_) (Ev.now _)
   simp only [bj.l0]
   rw [if_neg (by omega)]
 | succ d ih=>
   intro i acc hd hi ha
   have hlt : i < L0.length := by omega
   have e : L0.drop i = L0[i] :: L0.drop (i + 1) := List.drop_eq_getElem_cons hlt
   rw [e,iz]
   have h1 := hx _ (List.getElem_mem hlt)
   have h2 := ih (i + 1) (acc ++ [gT L0[i]]) (by omega) (by omega) (by rw [List.length_append]; simp [ha])
   rw [List.append_assoc] at h2
   have ew : wrap64 ((i : Int) + 1) = ((i + 1 : Nat) : Int) := fK (by omega) (by omega)
   have st : ∀ k,bj.l0 (k + 1) L0 (L0.length : Int) (i : Int) a b s acc = (bj.f k L0[i].f0 L0[i].f1 L0[i].f2 L0[i].f3).bind fun Ht => (if acc.length < 2513169434916 then (bj.l0 k L0 (L0.length : Int) ((i + 1 : Nat) : Int) a b s (acc ++ [(⟨Ht.1,Ht.2.1,Ht.2.2.1,Ht.2.2.2⟩ : cY)])) else (none)) := by
    intro k
    simp only [bj.l0,Kv hlt,ew]
    rw [if_pos (by omega),if_pos (by omega),if_pos (by omega)]
   exact Ev.step st (Ev.bind h1 (aE (by omega) (fun _ => rfl) (by simp only [MT]; exact h2)))
theorem acz : ∀ n (x : aT),(nodes x).length ≤ n → (nodes x).length ≤ 1000 → Ev (fun k => bj.f k x.f0 x.f1 x.f2 x.f3) (x.f0,x.f1,x.f2,iz x.f3) := by
 intro n
 induction n with
 | zero => intro x h; rw [nodes_eq] at h; simp at h
 | succ n ih=>
   intro x h hm
   rw [nodes_eq] at h hm
   simp only [List.length_cons] at h hm
   have hl := eH x.f3
   have kid : ∀ y ∈ x.f3,(nodes y).length ≤ (aJ x.f3).length := fun y hy => by
    obtain ⟨p,q,e⟩ := List.append_of_mem hy
    rw [e,ee,aJ]; simp only [List.length_append]; omega
   have := acy x.f0 x.f1 x.f2 x.f3 (fun y hy => ih y (by have := kid y hy; omega) (by have := kid y hy; omega)) (by omega) _ 0 [] rfl (Nat.zero_le _) rfl
   rw [List.drop_zero,List.nil_append] at this
   exact Ev.step (fun k => by simp only [bj.f]; rfl) this
theorem acu (L0 : List aT) (hn : (aJ L0).length ≤ 1000) : ∀ (d i : Nat) (acc : List cY),L0.length - i = d → i ≤ L0.length → acc.length = i →
 Ev (fun k => cw.l0 k acc L0 (L0.length : Int) (i : Int)) (acc ++ iz (L0.drop i)) := by
 have hl := eH L0
 intro d
 induction d with
 | zero=>
   intro i acc hd hi ha
   rw [List.drop_eq_nil_of_le (by omega),iz,List.append_nil]
   refine Ev.step (f := fun _ => some acc) (fun k => ?_) (Ev.now _)
   simp only [cw.l0]
   rw [if_neg (by omega)]
 | succ d ih=>
   intro i acc hd hi ha
   have hlt : i < L0.length := by omega
   have e : L0.drop i = L0[i] :: L0.drop (i + 1) := List.drop_eq_getElem_cons hlt
   rw [e,iz]
   have hk : (nodes L0[i]).length ≤ 1000 := by
    obtain ⟨p,q,e2⟩ := List.append_of_mem (List.getElem_mem hlt)
    have e3 := congrArg (fun l => (aJ l).length) e2
    simp only [ee,aJ,List.length_append] at e3
    omega
   have h1 := acz _ L0[i] (Nat.le_refl _) hk
   have h2 := ih (i + 1) (acc ++ [gT L0[i]]) (by omega) (by omega) (by rw [List.length_append]; simp [ha])
   rw [List.append_assoc] at h2
   have ew : wrap64 ((i : Int) + 1) = ((i + 1 : Nat) : Int) := fK (by omega) (by omega)
   have st : ∀ k,cw.l0 (k + 1) acc L0 (L0.length : Int) (i : Int) = (bj.f k L0[i].f0 L0[i].f1 L0[i].f2 L0[i].f3).bind fun Hs => (if acc.length < 2513169434916 then (cw.l0 k (acc ++ [(⟨Hs.1,Hs.2.1,Hs.2.2.1,Hs.2.2.2⟩ : cY)]) L0 (L0.length : Int) ((i + 1 : Nat) : Int)) else (none)) := by
    intro k
    simp only [cw.l0,Kv hlt,ew]
    rw [if_pos (by omega),if_pos (by omega),if_pos (by omega)]
   exact Ev.step st (Ev.bind h1 (aE (by omega) (fun _ => rfl) (by simp only [MT]; exact h2)))
theorem acv (L : List aT) (hn : (aJ L).length ≤ 1000) : Ev (fun k => cw.f k L) (iz L) := by
 have := acu L hn _ 0 [] rfl (Nat.zero_le _) rfl
 rw [List.drop_zero,List.nil_append] at this
 exact this
theorem zV {y : aT} : ∀ {l : List aT},y ∈ aJ l → ∃ z ∈ l,y ∈ nodes z
 | [],h => by rw [aJ] at h; cases h
 | x :: r,h => by
   rw [aJ] at h
   rcases List.mem_append.mp h with h | h
   · exact ⟨x,by simp,h⟩
   · obtain ⟨z,h1,h2⟩ := zV h
     exact ⟨z,by simp [h1],h2⟩
theorem Qt : ∀ n (x : aT),(nodes x).length ≤ n → ∀ y ∈ nodes x,(nodes y).length ≤ (nodes x).length := by
 intro n
 induction n with
 | zero => intro x h; rw [nodes_eq] at h; simp at h
 | succ n ih=>
   intro x h y hy
   have e := nodes_eq x
   rw [e] at hy
   rcases List.mem_cons.mp hy with rfl | hy
   · exact Nat.le_refl _
   · obtain ⟨z,h1,h2⟩ := zV hy
     have h3 : (nodes z).length ≤ (aJ x.f3).length := by
      obtain ⟨p,q,e⟩ := List.append_of_mem h1
      rw [e,ee,aJ]; simp only [List.length_append]; omega
     rw [e] at h ⊢
     simp only [List.length_cons] at h ⊢
     have := ih z (by omega) y h2
     omega
theorem UK {x : aT} (h : (nodes x).length ≤ 300) : ∀ y ∈ nodes x,y.f3.length ≤ 1000 := fun y hy => by
 have h1 := Qt _ x (Nat.le_refl _) y hy
 rw [nodes_eq y] at h1
 have := eH y.f3
 simp only [List.length_cons] at h1
 omega
end Go.Proofs.YtkdebhgccpfkiaaGreatDoor.au
